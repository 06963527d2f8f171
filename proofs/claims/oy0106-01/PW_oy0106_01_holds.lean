import PyProof.Rows.All
import Wide.All
import OpenK.AllK
import Wide.FinOn
import PySem.Challenge.RW_oy0106_01
open PySem PySem.W PyProof.Rows
set_option Elab.async false
set_option maxRecDepth 100000
set_option compiler.extract_closed false
namespace Mine
noncomputable def vw : Program := PySem.W.view PySem.Challenge.pw_oy0106_01 [0, 2, 3, 4, 5, 7, 8, 10, 11, 12, 13, 14, 15, 22, 24, 25, 26, 27, 28, 29, 30, 31]
noncomputable def lo : List Str := ["bytes_types", "a2b_base64", "b2a_base64", "b64encode", "b64decode"]
/-- a tree of objects from a list -/
noncomputable def treed : Nat → BT → List Obj → BT
  | _, t, [] => t
  | n, t, o :: l => treed (n + 1) (t.ins n o) l
/-- the top's run over a tree of objects -/
noncomputable def topRunT (tb : String → Option Builtin) (p : Program) (w : World) (n₀ : Nat) (ann : Option Value) : Nat → SharedT → Thread → Option SharedT
  | 0, _, _ => none
  | n + 1, s, t => match through t with
    | true => some s
    | false => match stepOk n₀ ann t with
      | false => none
      | true => match stepT (denote tb) p w s t with
        | some (s', t') => topRunT tb p w n₀ ann n s' t'
        | none => none
theorem topRun_of {tb : String → Option Builtin} {p : Program} {w : World} {n₀ : Nat} {ann : Option Value} : ∀ {n : Nat} {s s' : SharedT} {t : Thread}, topRunT tb p w n₀ ann n s t = some s' → topRun tb p w n₀ ann n s.abs t = some s'.abs
  | 0, _, _, _, h => by cases h
  | n + 1, s, s', t, h => by
    unfold topRunT at h
    unfold topRun
    cases he : through t with
    | true => rw [he] at h; cases h; rfl
    | false =>
      rw [he] at h
      cases hk : stepOk n₀ ann t with
      | false => rw [hk] at h; cases h
      | true =>
        rw [hk] at h
        cases hs : stepT (denote tb) p w s t with
        | none => rw [hs] at h; cases h
        | some r => obtain ⟨s₂, t₂⟩ := r; rw [hs] at h; rw [stepT_spec hs]; exact topRun_of h
theorem left_tree {p q : Program} {loose : List Str} {Xt : Shared → Bool} {α : Type} {Yf : Shared → α} {Ya : World → α} {N : Nat} {g0 : Bool} {H₀ : Params → Heap} {gs₀ : Array GenState} {d₀ : Drawn} {k₀ : Nat}
    (o : ∀ w : World, (fencedOpening treeTable p w N).map (fun s => (s.heap, s.gens, s.drawn, s.toks)) = some (H₀ w.params, gs₀, d₀, k₀))
    (z : ∀ P : Params, ((H₀ P).isNs mainGlobals && gs₀.size == 0) = true)
    (t : ∀ P : Params, absHeap (treed 0 .nil (H₀ P).objs.toList) (H₀ P).objs.size (H₀ P).life = H₀ P)
    (h : ∀ (w : World) (os : OsState), (topRunT treeTable p w (H₀ w.params).objs.size ((H₀ w.params).nsMap mainGlobals "__annotations__") N ⟨treed 0 .nil (H₀ w.params).objs.toList, (H₀ w.params).objs.size, (H₀ w.params).life, gs₀, d₀, k₀, os⟩ (topStub p)).map
        (fun s => (staticsOk (importedModules p.main.body) (H₀ w.params) s.abs.heap && namesBound p s.abs.heap && gensDone s.abs && laidKept (H₀ w.params) s.abs.heap, openSeen q loose (importedModules p.main.body) Xt g0 s.abs, Yf s.abs)) = some (true, openGood q loose, Ya w)) :
    LeftO p q loose Xt Yf Ya N g0 := fun w => by
  obtain ⟨⟨hp, gs, d, k, os⟩, e, e'⟩ := Option.map_eq_some_iff.mp (o w)
  obtain ⟨rfl, rfl, rfl, rfl⟩ : hp = H₀ w.params ∧ gs = gs₀ ∧ d = d₀ ∧ k = k₀ := by simpa using e'
  obtain ⟨s, r, c⟩ := Option.map_eq_some_iff.mp (h w os)
  obtain ⟨c1, c2, c3⟩ : _ ∧ _ ∧ _ := by simpa only [Prod.mk.injEq] using c
  have r' := topRun_of r
  unfold SharedT.abs at r'
  dsimp only at r'
  rw [t] at r'
  have f : topFrom treeTable p w N ⟨H₀ w.params, gs, d, k, os⟩ = some s.abs := by
    unfold topFrom
    dsimp only
    rw [z w.params]
    dsimp only
    rw [r']
    show (match _ with | true => _ | false => _) = _
    unfold SharedT.abs at c1
    dsimp only at c1
    rw [c1]
    rfl
  unfold openEnds
  rw [e]
  show (topFrom treeTable p w N ⟨H₀ w.params, gs, d, k, os⟩).map _ = _
  rw [f]
  exact congrArg some (Prod.ext c2 c3)
theorem law_said : OpenLaw.wellSaid PySem.Challenge.rw_oy0106_01 = true := by
  unfold OpenLaw.wellSaid OpenRow.wellSaid OpenRow.partSaid looksOpen
  repeat' with_reducible refine look_both ?_ ?_
  all_goals decide +kernel
theorem top_open : opening PySem.Challenge.pw_oy0106_01 = plainProg PySem.Challenge.pw_oy0106_01.main.scope.names := by kernel_rfl
theorem top_tree (P : Params) : absHeap (treed 0 .nil (boot_heap P).objs.toList) (boot_heap P).objs.size (boot_heap P).life = boot_heap P := by kernel_rfl
theorem top_ns (P : Params) : ((boot_heap P).isNs mainGlobals && (Array.mk [] : Array GenState).size == 0) = true := by kernel_rfl
end Mine
section
local macro_rules | `(tactic| o_law) => `(tactic| refine holds_law Mine.law_said fun said => ?_)
local macro_rules | `(tactic| o_head $H) => `(tactic| (refine holds_open (q := Mine.vw) (loose := Mine.lo) (Xt := fun s => xlAt Mine.vw [] s && recOk (RowW.records PySem.Challenge.rw_oy0106_01.row.toRowW) s) (XP := XL Mine.vw []) (Yf := Hook.obs $H) (Ya := Hook.val $H) (YP := Hook.says $H) (N := 2682) ?hl (Hook.of $H) (Hook.keeps $H) (fun s e => xl_of s (Bool.and_eq_true_iff.mp e).1) XL.keeps (by rfl) (by rfl) (by rfl) (fun s e => recFacts_of (Bool.and_eq_true_iff.mp e).2) (by rfl) (by assumption) (by decide +kernel) ⟨rfl, rfl, rfl, rfl, rfl, by decide +kernel⟩ ?hw ?hc; (case hl => exact Mine.left_tree (boot_open Mine.top_open (by decide) (fun s => rfl)) Mine.top_ns Mine.top_tree fun w os => by kernel_rfl)))
set_option maxHeartbeats 0 in
open_top hd for PySem.Challenge.rw_oy0106_01
end
section
set_option hygiene false
namespace Mine
theorem om1 {x m b : Nat} (h : x < m) (d : m ≤ b) : x < b := Nat.lt_of_lt_of_le h d
theorem om2 {x m b : Nat} (h : x ≤ m) (d : m < b) : x < b := Nat.lt_of_le_of_lt h d
theorem om3 {x m b : Nat} (h : x ≤ m) (d : m ≤ b) : x ≤ b := Nat.le_trans h d
theorem om4 {x m b : Nat} (h : x < m) (d : m ≤ b) : x ≤ b := Nat.le_trans (Nat.le_of_lt h) d
theorem om5 {x y a k b : Nat} (h : x = y + a) (hy : y < k) (d : k + a ≤ b) : x < b := by rw [h]; exact Nat.lt_of_lt_of_le (Nat.add_lt_add_right hy a) d
theorem om6 {x y a k b : Nat} (h : x ≤ y + a) (hy : y < k) (d : k + a ≤ b) : x < b := Nat.lt_of_le_of_lt h (Nat.lt_of_lt_of_le (Nat.add_lt_add_right hy a) d)
theorem om7 {n k : Nat} {b : Int} (h : n < k) (d : (k : Int) ≤ b) : (n : Int) < b := Int.lt_of_lt_of_le (Int.ofNat_lt.mpr h) d
theorem om8 {n k : Nat} {b : Int} (h : n ≤ k) (d : (k : Int) < b) : (n : Int) < b := Int.lt_of_le_of_lt (Int.ofNat_le.mpr h) d
theorem om9 {x k : Int} {b : Nat} (h : 0 ≤ x ∧ x < k) (d : k ≤ (b : Int)) : x.natAbs < b := Int.ofNat_lt.mp (by rw [Int.natAbs_of_nonneg h.1]; exact Int.lt_of_lt_of_le h.2 d)
theorem oma {x y k b : Nat} (h : x + y ≤ k) (d : k ≤ b) : x ≤ b := Nat.le_trans (Nat.le_trans (Nat.le_add_right x y) h) d
theorem omb {x y k b : Nat} (h : x + y ≤ k) (d : k ≤ b) : y ≤ b := Nat.le_trans (Nat.le_trans (Nat.le_add_left y x) h) d
theorem omc {x y k b : Nat} (h : x + y ≤ k) (d : k < b) : x < b := Nat.lt_of_le_of_lt (Nat.le_trans (Nat.le_add_right x y) h) d
theorem omd {x y k b : Nat} (h : x + y ≤ k) (d : k < b) : y < b := Nat.lt_of_le_of_lt (Nat.le_trans (Nat.le_add_left y x) h) d
theorem ome {x k b : Int} (h : 0 ≤ x ∧ x < k) (d : k ≤ b) : x < b := Int.lt_of_lt_of_le h.2 d
theorem omf {x : Int} {n m : Nat} {b : Int} (h : 0 ≤ x ∧ x < (n : Int)) (q : n ≤ m) (d : (m : Int) ≤ b) : x < b := Int.lt_of_lt_of_le h.2 (Int.le_trans (Int.ofNat_le.mpr q) d)
end Mine
local macro_rules | `(tactic| omega) => `(tactic| with_reducible first
  | assumption | exact Nat.le_refl _ | exact Int.natCast_nonneg _ | exact And.left (by assumption) | exact And.right (by assumption) | exact Nat.le_of_lt (by assumption)
  | exact Mine.om5 (by assumption) (by assumption) (by decide) | exact Mine.om6 (by assumption) (by assumption) (by decide)
  | exact Mine.om1 (by assumption) (by decide) | exact Mine.om2 (by assumption) (by decide) | exact Mine.om3 (by assumption) (by decide) | exact Mine.om4 (by assumption) (by decide)
  | exact Mine.om7 (by assumption) (by decide) | exact Mine.om8 (by assumption) (by decide) | exact Mine.om9 (by assumption) (by decide)
  | exact Mine.oma (by assumption) (by decide) | exact Mine.omb (by assumption) (by decide) | exact Mine.omc (by assumption) (by decide) | exact Mine.omd (by assumption) (by decide)
  | exact Mine.ome (by assumption) (by decide) | exact Mine.omf (by assumption) (by assumption) (by decide) | lia | fail)
section
open PySem PySem.Calls PyProof.Rows PySem.W
set_option maxRecDepth 100000
set_option linter.unusedVariables false
namespace Mine

inductive All2 {α β : Type} (R : α → β → Prop) : List α → List β → Prop
  | nil : All2 R [] []
  | cons {a b as bs} : R a b → All2 R as bs → All2 R (a :: as) (b :: bs)

namespace All2
variable {α β : Type} {R S : α → β → Prop}
theorem imp (h : ∀ a b, R a b → S a b) {as : List α} {bs : List β} (H : All2 R as bs) : All2 S as bs := by
  induction H with
  | nil => exact .nil
  | cons x _ ih => exact .cons (h _ _ x) ih
theorem length {as : List α} {bs : List β} (H : All2 R as bs) : as.length = bs.length := by
  induction H with
  | nil => rfl
  | cons _ _ ih => exact congrArg Nat.succ ih
theorem get {as : List α} {bs : List β} (H : All2 R as bs) : ∀ (i : Nat) (b : β), bs[i]? = some b → ∃ a, as[i]? = some a ∧ R a b := by
  induction H with
  | nil => intro i b h; cases h
  | cons x _ ih =>
    intro i b h
    cases i with
    | zero => cases h; exact ⟨_, rfl, x⟩
    | succ i => exact ih i b h
theorem app {as : List α} {bs : List β} {as' : List α} {bs' : List β} (H : All2 R as bs) (h : All2 R as' bs') : All2 R (as ++ as') (bs ++ bs') := by
  induction H with
  | nil => exact h
  | cons x _ ih => exact .cons x ih
theorem set {as : List α} {bs : List β} (H : All2 R as bs) : ∀ (i : Nat) (a : α) (b : β), R a b → All2 R (as.set i a) (bs.set i b) := by
  induction H with
  | nil => intro i a b _; exact .nil
  | cons x y ih =>
    intro i a b h
    cases i with
    | zero => exact .cons h y
    | succ i => exact .cons x (ih i a b h)
theorem take {as : List α} {bs : List β} (H : All2 R as bs) : ∀ (n : Nat), All2 R (as.take n) (bs.take n) := by
  induction H with
  | nil => intro n; cases n <;> exact .nil
  | cons x _ ih =>
    intro n
    cases n with
    | zero => exact .nil
    | succ n => exact .cons x (ih n)
theorem drop {as : List α} {bs : List β} (H : All2 R as bs) : ∀ (n : Nat), All2 R (as.drop n) (bs.drop n) := by
  induction H with
  | nil => intro n; cases n <;> exact .nil
  | cons x y ih =>
    intro n
    cases n with
    | zero => exact .cons x y
    | succ n => exact ih n
theorem rev {as : List α} {bs : List β} (H : All2 R as bs) : All2 R as.reverse bs.reverse := by
  induction H with
  | nil => exact .nil
  | cons x _ ih => rw [List.reverse_cons, List.reverse_cons]; exact ih.app (.cons x .nil)
end All2

/-- atoms: what a tuple holds -/
inductive At where
  | int (i : Int)
  | ref (a : Addr)
/-- values, their tokens forgotten -/
inductive V where
  | none
  | bool (b : Bool)
  | int (i : Int)
  | str (s : Str)
  | bytes (b : List UInt8)
  | ref (a : Addr)
  | tup (l : List At)
  | con (v : Value)

noncomputable def AR (v : Value) : At → Prop
  | .int i => ∃ t, v = .int i t
  | .ref a => v = .ref a
noncomputable def VR (z : Addr → Prop) (h : Heap) (v : Value) : V → Prop
  | .none => v = .none
  | .bool b => v = .bool b
  | .int i => ∃ t, v = .int i t
  | .str s => ∃ t, v = .str s t
  | .bytes b => ∃ t, v = .bytes b.toArray t
  | .ref a => v = .ref a
  | .con c => v = c
  | .tup l => ∃ a vs n, v = .ref a ∧ (¬ z a ∧ IsT h a (List.toArray vs) n) ∧ All2 AR vs l

noncomputable def Ext (z : Addr → Prop) (h h' : Heap) : Prop := ∀ a items n, ¬ z a → IsT h a items n → IsT h' a items n
theorem Ext.refl {z : Addr → Prop} (h : Heap) : Ext z h h := fun _ _ _ _ e => e
theorem Ext.trans {z : Addr → Prop} {h h' h'' : Heap} (x : Ext z h h') (y : Ext z h' h'') : Ext z h h'' := fun a i n q e => y a i n q (x a i n q e)
theorem Ext.push {z : Addr → Prop} {h : Heap} (o : Obj) : Ext z h (h.push o) := fun _ _ _ _ e => Heap.get?_push_of_some o e
theorem VR.ext {z : Addr → Prop} {h h' : Heap} (x : Ext z h h') {v : Value} : ∀ {V}, VR z h v V → VR z h' v V
  | .none, e => e | .bool _, e => e | .int _, e => e | .str _, e => e | .bytes _, e => e | .ref _, e => e | .con _, e => e
  | .tup _, ⟨a, vs, n, e1, e2, e3⟩ => ⟨a, vs, n, e1, ⟨e2.1, x a _ _ e2.1 e2.2⟩, e3⟩

inductive AObj where
  | list (l : List V)
  | ns (sc : Scope) (ρ : List (Str × Option V))
  | cell (v : Option V)
  | obj (o : Obj)
  | any (P : Heap → Obj → Prop)
noncomputable abbrev Led := List (Addr × AObj)

noncomputable def NsR (z : Addr → Prop) (h : Heap) (a : Addr) (sc : Scope) (ρ : List (Str × Option V)) : Prop :=
  ((ρ.map (·.1)).Nodup ∧ (sc.names.map (·.1)).Nodup) ∧ (∀ p ∈ ρ, sc.names.lookup p.1 = some .local) ∧
  ∃ m, h.Ns a m ∧ ∀ p ∈ ρ, ∀ V, p.2 = some V → ∃ v, m p.1 = some v ∧ VR z h v V
noncomputable def OR (z : Addr → Prop) (h : Heap) (a : Addr) : AObj → Prop
  | .list l => ∃ vs n, IsL h a (List.toArray vs) n ∧ All2 (VR z h) vs l
  | .ns sc ρ => NsR z h a sc ρ
  | .cell none => h.IsCell a none
  | .cell (some V) => ∃ v, h.IsCell a (some v) ∧ VR z h v V
  | .obj o => h.get? a = some o ∧ o.cls ≠ .type "tuple"
  | .any P => ∃ o, h.get? a = some o ∧ o.cls ≠ .type "tuple" ∧ ∀ h', Ext z h h' → P h' o

noncomputable abbrev KF (P : Params) : Frag := hd.heap_1 P
noncomputable def Kept (kp : Addr → Obj → Prop) (h : Heap) : Prop := ∀ b o, kp b o → h.get? b = some o
set_option genInjectivity false in
set_option genSizeOf false in
/-- what stands all the while -/
structure Cx where
  prog : Program
  w : World
  kp : Addr → Obj → Prop
  os : OsState
  mg : Str → Option Value
  mb : Str → Option Value
  inK : ∀ a o, (KF w.params).lookup a = some o → kp a o
  lim : ∀ h, Kept kp h → h.NoLimit
  g : ∀ h, Kept kp h → h.Ns mainGlobals mg
  b : ∀ h, Kept kp h → h.Ns builtinsNs mb
  gk : ∀ x r, nsIn (KF w.params) mainGlobals x = some r → mg x = r
  z : Addr → Prop
  bk : ∀ x : Str, x ≠ "__name__" → mb x = bootBuiltins x

structure Rep (c : Cx) (σ : Led) (s : Shared) : Prop where
  keep : ∀ b o, c.kp b o → s.heap.get? b = some o
  gens : s.gens = #[]
  os : s.os = c.os
  ob : ∀ p ∈ σ, OR c.z s.heap p.1 p.2
  zs : ∀ a, c.z a → (∃ o, s.heap.get? a = some o) ∧ ∀ p ∈ σ, p.1 ≠ a
  fr : ∀ p ∈ σ, ∀ o, ¬ c.kp p.1 o
  nd : (σ.map (·.1)).Nodup

/-- the entry at a, turned -/
inductive Upd (a : Addr) (o o' : AObj) : Led → Led → Prop
  | head {σ} : Upd a o o' ((a, o) :: σ) ((a, o') :: σ)
  | tail {p σ σ'} : Upd a o o' σ σ' → Upd a o o' (p :: σ) (p :: σ')
theorem Upd.mem {a o o'} {σ σ' : Led} (H : Upd a o o' σ σ') : (a, o) ∈ σ := by
  induction H with
  | head => exact .head _
  | tail _ ih => exact .tail _ ih
theorem Upd.keys {a o o'} {σ σ' : Led} (H : Upd a o o' σ σ') : σ'.map (·.1) = σ.map (·.1) := by
  induction H with
  | head => rfl
  | tail _ ih => rw [List.map_cons, List.map_cons, ih]
theorem Upd.mem' {a o o'} {σ σ' : Led} (H : Upd a o o' σ σ') : (σ.map (·.1)).Nodup → ∀ p ∈ σ', p = (a, o') ∨ (p ∈ σ ∧ p.1 ≠ a) := by
  induction H with
  | head =>
    intro nd p hp
    rcases List.mem_cons.mp hp with rfl | hp
    · exact .inl rfl
    · refine .inr ⟨.tail _ hp, fun e => ?_⟩
      rw [List.map_cons, List.nodup_cons] at nd
      exact nd.1 (e ▸ List.mem_map_of_mem (f := (·.1)) hp)
  | tail h ih =>
    intro nd p hp
    rw [List.map_cons, List.nodup_cons] at nd
    rcases List.mem_cons.mp hp with rfl | hp
    · refine .inr ⟨.head _, fun e => nd.1 ?_⟩
      rw [e]; exact List.mem_map_of_mem (f := (·.1)) h.mem
    · rcases ih nd.2 p hp with e | ⟨e1, e2⟩
      · exact .inl e
      · exact .inr ⟨.tail _ e1, e2⟩
theorem Upd.mem2 {a o o'} {σ σ' : Led} (H : Upd a o o' σ σ') : (a, o') ∈ σ' := by
  induction H with
  | head => exact .head _
  | tail _ ih => exact .tail _ ih
theorem OR.notTup {z : Addr → Prop} {h : Heap} {a : Addr} {ao : AObj} (H : OR z h a ao) {items : Array Value} {n : Nat} (e : IsT h a items n) : False := by
  cases ao with
  | list l => obtain ⟨vs, n', e1, _⟩ := H; have := e1.symm.trans e; injection this with this; injection this with this; revert this; decide
  | ns => obtain ⟨_, _, m, ⟨o, es, ep, e1, e2, _⟩, _⟩ := H; rw [show h.get? a = _ from e] at e1; cases e1; cases e2
  | cell v =>
    have : ∃ v', h.IsCell a v' := by cases v with | none => exact ⟨_, H⟩ | some V => obtain ⟨v, h1, _⟩ := H; exact ⟨_, h1⟩
    obtain ⟨v', o, e1, e2⟩ := this
    rw [show h.get? a = _ from e] at e1; cases e1; cases e2
  | obj o' => obtain ⟨e1, e2⟩ := H; rw [show h.get? a = _ from e] at e1; cases e1; exact e2 rfl
  | any P => obtain ⟨o', e1, e2, _⟩ := H; rw [show h.get? a = _ from e] at e1; cases e1; exact e2 rfl

/-- an entry stands when its own object and the tuples stand -/
theorem OR.same {z : Addr → Prop} {h h' : Heap} {a : Addr} {ao : AObj} (H : OR z h a ao) (e : h'.get? a = h.get? a) (x : Ext z h h') : OR z h' a ao := by
  cases ao with
  | list l => obtain ⟨vs, n, e1, e2⟩ := H; exact ⟨vs, n, e.trans e1, e2.imp fun _ _ => VR.ext x⟩
  | ns => obtain ⟨n1, n2, m, ⟨o, es, ep, e1, e2⟩, e3⟩ := H; exact ⟨n1, n2, m, ⟨o, es, ep, e.trans e1, e2⟩, fun p hp V hV => let ⟨v, q1, q2⟩ := e3 p hp V hV; ⟨v, q1, q2.ext x⟩⟩
  | cell v =>
    cases v with
    | none => obtain ⟨o, e1, e2⟩ := H; exact ⟨o, e.trans e1, e2⟩
    | some V => obtain ⟨v, ⟨o, e1, e2⟩, e3⟩ := H; exact ⟨v, ⟨o, e.trans e1, e2⟩, e3.ext x⟩
  | obj o' => obtain ⟨e1, e2⟩ := H; exact ⟨e.trans e1, e2⟩
  | any P => obtain ⟨o', e1, e2, e3⟩ := H; exact ⟨o', e.trans e1, e2, fun h' y => e3 h' (x.trans y)⟩
theorem OR.is {z : Addr → Prop} {h : Heap} {a : Addr} {ao : AObj} (H : OR z h a ao) : ∃ o, h.get? a = some o := by
  cases ao with
  | list l => obtain ⟨vs, n, e1, e2⟩ := H; exact ⟨_, e1⟩
  | ns => obtain ⟨n1, n2, m, ⟨o, es, ep, e1, e2⟩, e3⟩ := H; exact ⟨_, e1⟩
  | cell v =>
    cases v with
    | none => obtain ⟨o, e1, e2⟩ := H; exact ⟨_, e1⟩
    | some V => obtain ⟨v, ⟨o, e1, e2⟩, e3⟩ := H; exact ⟨_, e1⟩
  | obj o' => exact ⟨_, H.1⟩
  | any P => obtain ⟨o', e1, _⟩ := H; exact ⟨_, e1⟩
theorem OR.keeps {z : Addr → Prop} {h h' : Heap} {a : Addr} {ao : AObj} (H : OR z h a ao) (k : ∀ b o, h.get? b = some o → h'.get? b = some o) : OR z h' a ao := by
  obtain ⟨o, e⟩ := H.is
  exact H.same ((k _ _ e).trans e.symm) fun _ _ _ _ e => k _ _ e

/-- some of the entries -/
noncomputable def Sub (a b : Led) : Prop := ∃ d, List.Perm b (a ++ d)
inductive Pick (p : Addr × AObj) : Led → Led → Prop
  | head {b} : Pick p (p :: b) b
  | tail {q b b'} : Pick p b b' → Pick p (q :: b) (q :: b')
theorem Pick.perm {p} {b b' : Led} (H : Pick p b b') : List.Perm b (p :: b') := by
  induction H with
  | head => exact .refl _
  | tail _ ih => exact (ih.cons _).trans (.swap ..)
theorem Sub.refl (a : Led) : Sub a a := ⟨[], by simp⟩
theorem Sub.skip {a b : Led} {q} (h : Sub a b) : Sub a (q :: b) := let ⟨d, e⟩ := h; ⟨q :: d, (e.cons q).trans List.perm_middle.symm⟩
theorem Sub.pick {p} {a b b' : Led} (hp : Pick p b b') (h : Sub a b') : Sub (p :: a) b := let ⟨d, e⟩ := h; ⟨d, hp.perm.trans (e.cons p)⟩
theorem Sub.trans {a b d : Led} (x : Sub a b) (y : Sub b d) : Sub a d := let ⟨u, e⟩ := x; let ⟨v, f⟩ := y; ⟨u ++ v, f.trans (by rw [← List.append_assoc]; exact e.append_right v)⟩
theorem Sub.of_perm {a b : Led} (h : List.Perm a b) : Sub a b := ⟨[], by simpa using h.symm⟩
section
variable {c : Cx} {σ σ' : Led} {s : Shared}
theorem Rep.toks (R : Rep c σ s) (t : Nat) : Rep c σ { s with toks := t } := ⟨R.keep, R.gens, R.os, R.ob, R.zs, R.fr, R.nd⟩
theorem Rep.sub (R : Rep c σ s) (h : List.Sublist σ' σ) : Rep c σ' s := ⟨R.keep, R.gens, R.os, fun p hp => R.ob p (h.subset hp), fun a q => ⟨(R.zs a q).1, fun p hp => (R.zs a q).2 p (h.subset hp)⟩, fun p hp => R.fr p (h.subset hp), (h.map _).nodup R.nd⟩
theorem Rep.perm (R : Rep c σ s) (h : List.Perm σ' σ) : Rep c σ' s := ⟨R.keep, R.gens, R.os, fun p hp => R.ob p (h.subset hp), fun a q => ⟨(R.zs a q).1, fun p hp => (R.zs a q).2 p (h.subset hp)⟩, fun p hp => R.fr p (h.subset hp), ((h.map _).nodup_iff).mpr R.nd⟩
theorem Rep.subp (R : Rep c σ s) (h : Sub σ' σ) : Rep c σ' s := let ⟨d, e⟩ := h; (R.perm e.symm).sub (List.sublist_append_left ..)
theorem Rep.grow {h' : Heap} (R : Rep c σ s) (k : ∀ b o, s.heap.get? b = some o → h'.get? b = some o) (t : Nat) : Rep c σ { s with heap := h', toks := t } :=
  ⟨fun b o e => k _ _ (R.keep b o e), R.gens, R.os, fun p hp => (R.ob p hp).keeps k, fun a q => ⟨let ⟨o, e⟩ := (R.zs a q).1; ⟨o, k _ _ e⟩, (R.zs a q).2⟩, R.fr, R.nd⟩
theorem Rep.fresh (R : Rep c σ s) {a : Addr} (ha : s.heap.objs.size ≤ a) : (∀ o, ¬ c.kp a o) ∧ ∀ p ∈ σ, p.1 ≠ a :=
  ⟨fun o e => absurd (Heap.lt_size (R.keep _ _ e)) (Nat.not_lt.mpr ha), fun p hp e => by
    obtain ⟨o, e'⟩ := (R.ob p hp).is
    exact absurd (Heap.lt_size (e ▸ e')) (Nat.not_lt.mpr ha)⟩
theorem Rep.newz (R : Rep c σ s) : ¬ c.z s.heap.objs.size := fun q => let ⟨_, e⟩ := (R.zs _ q).1; Nat.lt_irrefl _ (Heap.lt_size e)
/-- a new entry -/
theorem Rep.add {h' : Heap} {a : Addr} {ao : AObj} (R : Rep c σ s) (ha : s.heap.objs.size ≤ a) (k : ∀ b o, s.heap.get? b = some o → h'.get? b = some o) (hn : OR c.z h' a ao) (t : Nat) : Rep c ((a, ao) :: σ) { s with heap := h', toks := t } := by
  obtain ⟨f1, f2⟩ := R.fresh ha
  have R' := R.grow k t
  refine ⟨R'.keep, R'.gens, R'.os, fun p hp => ?_, fun b q => ⟨(R'.zs b q).1, fun p hp => ?_⟩, fun p hp => ?_, ?_⟩
  · rcases List.mem_cons.mp hp with rfl | hp
    · exact hn
    · exact R'.ob p hp
  · rcases List.mem_cons.mp hp with rfl | hp
    · rintro rfl
      obtain ⟨o, e⟩ := (R.zs _ q).1
      exact absurd (Heap.lt_size e) (Nat.not_lt.mpr ha)
    · exact (R'.zs b q).2 p hp
  · rcases List.mem_cons.mp hp with rfl | hp
    · exact f1
    · exact R'.fr p hp
  · rw [List.map_cons, List.nodup_cons]
    refine ⟨fun hm => ?_, R.nd⟩
    obtain ⟨p, hp, e⟩ := List.mem_map.mp hm
    exact f2 p hp e
/-- an entry turned -/
theorem Rep.upd {h' : Heap} {a : Addr} {o o' : AObj} (R : Rep c σ s) (u : Upd a o o' σ σ') (hs : ∀ b, b ≠ a → ∀ o, s.heap.get? b = some o → h'.get? b = some o) (hn : OR c.z h' a o') (t : Nat) : Rep c σ' { s with heap := h', toks := t } ∧ Ext c.z s.heap h' := by
  have hx : Ext c.z s.heap h' := fun b i n _ e => by
    by_cases hb : b = a
    · subst hb; exact absurd e fun e => (R.ob _ u.mem).notTup e
    · exact hs b hb _ e
  refine ⟨⟨fun b o e => ?_, R.gens, R.os, fun p hp => ?_, fun b q => ⟨?_, fun p hp => ?_⟩, fun p hp => ?_, by rw [u.keys]; exact R.nd⟩, hx⟩
  · have : b ≠ a := fun q => R.fr _ u.mem o (q ▸ e)
    exact hs b this _ (R.keep b o e)
  · rcases u.mem' R.nd p hp with rfl | ⟨h1, h2⟩
    · exact hn
    · obtain ⟨o₁, e₁⟩ := (R.ob p h1).is
      exact (R.ob p h1).same ((hs _ h2 _ e₁).trans e₁.symm) hx
  · obtain ⟨o₁, e₁⟩ := (R.zs b q).1
    exact ⟨o₁, hs _ (fun q' => (R.zs b q).2 _ u.mem q'.symm) _ e₁⟩
  · have : p.1 ∈ σ.map (·.1) := u.keys ▸ List.mem_map_of_mem (f := (·.1)) hp
    obtain ⟨p', hp', e'⟩ := List.mem_map.mp this
    exact e' ▸ (R.zs b q).2 p' hp'
  · rcases u.mem' R.nd p hp with rfl | ⟨h1, h2⟩
    · exact fun q => R.fr _ u.mem q
    · exact R.fr p h1
end
end Mine
end
section
open PySem PySem.Calls PyProof.Rows PySem.W
set_option maxRecDepth 100000
set_option linter.unusedVariables false
namespace Mine

/-- from σ the tree ends in K -/
noncomputable def WG {α β : Type} (R : (Addr → Prop) → Heap → α → β → Prop) (c : Cx) (A : Around) (t : Sem α) (σ : Led) (K : β → Led → Prop) : Prop :=
  ∀ (s : Shared) (Q : α → Shared → Prop) (E : Value → Shared → Prop), Rep c σ s →
    (∀ a b σ' s', K b σ' → R c.z s'.heap a b → Rep c σ' s' → Ext c.z s.heap s'.heap → Q a s') → wpAny (model c.prog c.w) A t Q E s
inductive Fl where
  | next | brk | cont
  | ret (v : V)
noncomputable def FR (z : Addr → Prop) (h : Heap) (f : Flow) : Fl → Prop
  | .next => f = .next
  | .brk => f = .brk
  | .cont => f = .cont
  | .ret V => ∃ v, f = .ret v ∧ VR z h v V
/-- two ways -/
structure If (z : Bool) (p q : Prop) : Prop where
  yes : z = true → p
  no : z = false → q
/-- behind a statement: the rest, or out -/
noncomputable def Seq (k : Led → Prop) (K : Fl → Led → Prop) : Fl → Led → Prop
  | .next, σ => k σ
  | .brk, σ => K .brk σ
  | .cont, σ => K .cont σ
  | .ret X, σ => K (.ret X) σ
theorem Seq.next' {k K σ} (h : k σ) : Seq k K .next σ := h
theorem Seq.brk' {k K σ} (h : K .brk σ) : Seq k K .brk σ := h
theorem Seq.cont' {k K σ} (h : K .cont σ) : Seq k K .cont σ := h
theorem Seq.ret' {k K X σ} (h : K (.ret X) σ) : Seq k K (.ret X) σ := h
/-- behind a turn -/
noncomputable def Turn (I : Nat → Led → Prop) (n : Nat) (K : Fl → Led → Prop) : Fl → Led → Prop
  | .next, σ => ∃ m, m < n ∧ I m σ
  | .cont, σ => ∃ m, m < n ∧ I m σ
  | .brk, σ => K .next σ
  | .ret X, σ => K (.ret X) σ
theorem Turn.next' {I n K σ} (h : ∃ m, m < n ∧ I m σ) : Turn I n K .next σ := h
theorem Turn.cont' {I n K σ} (h : ∃ m, m < n ∧ I m σ) : Turn I n K .cont σ := h
theorem Turn.brk' {I n K σ} (h : K .next σ) : Turn I n K .brk σ := h
theorem Turn.ret' {I n K X σ} (h : K (.ret X) σ) : Turn I n K (.ret X) σ := h
noncomputable abbrev LR (z : Addr → Prop) (h : Heap) (vs : List Value) (Vs : List V) : Prop := All2 (VR z h) vs Vs
noncomputable abbrev W := @WG Value V VR
noncomputable abbrev WL := @WG (List Value) (List V) LR
noncomputable abbrev WF := @WG Flow Fl FR
noncomputable abbrev WB := @WG Bool Bool (fun _ _ a b => a = b)
noncomputable abbrev WU := @WG Unit Unit (fun _ _ _ _ => True)
/-- one, two values at hand -/
noncomputable def W1 {α β : Type} (R : (Addr → Prop) → Heap → α → β → Prop) (c : Cx) (A : Around) (f : Value → Sem α) (X : V) (σ : Led) (K : β → Led → Prop) : Prop :=
  ∀ (s : Shared) (Q : α → Shared → Prop) (E : Value → Shared → Prop) (x : Value), Rep c σ s → VR c.z s.heap x X →
    (∀ a b σ' s', K b σ' → R c.z s'.heap a b → Rep c σ' s' → Ext c.z s.heap s'.heap → Q a s') → wpAny (model c.prog c.w) A (f x) Q E s
noncomputable def W2 {α β : Type} (R : (Addr → Prop) → Heap → α → β → Prop) (c : Cx) (A : Around) (f : Value → Value → Sem α) (X Y : V) (σ : Led) (K : β → Led → Prop) : Prop :=
  ∀ (s : Shared) (Q : α → Shared → Prop) (E : Value → Shared → Prop) (x y : Value), Rep c σ s → VR c.z s.heap x X → VR c.z s.heap y Y →
    (∀ a b σ' s', K b σ' → R c.z s'.heap a b → Rep c σ' s' → Ext c.z s.heap s'.heap → Q a s') → wpAny (model c.prog c.w) A (f x y) Q E s
/-- a law of one answer, told at once -/
theorem WG.got {c : Cx} {A : Around} {α β : Type} {R : (Addr → Prop) → Heap → α → β → Prop} {t : Sem α} {σ σ' : Led} {b : β} (h : ∀ K : β → Led → Prop, K b σ' → WG R c A t σ K) {s : Shared} {Q : α → Shared → Prop} {E : Value → Shared → Prop} (r : Rep c σ s)
    (q : ∀ v s', R c.z s'.heap v b → Rep c σ' s' → Ext c.z s.heap s'.heap → Q v s') : wpAny (model c.prog c.w) A t Q E s :=
  h (fun X σ₁ => X = b ∧ σ₁ = σ') ⟨rfl, rfl⟩ s Q E r fun v X σ₁ s' ⟨e1, e2⟩ hr R' x => by subst e1 e2; exact q v s' hr R' x
theorem W2.got {c : Cx} {A : Around} {α β : Type} {R : (Addr → Prop) → Heap → α → β → Prop} {f : Value → Value → Sem α} {X Y : V} {σ σ' : Led} {b : β} (h : ∀ K : β → Led → Prop, K b σ' → W2 R c A f X Y σ K) {s : Shared} {Q : α → Shared → Prop} {E : Value → Shared → Prop} {x y : Value} (r : Rep c σ s) (hx : VR c.z s.heap x X) (hy : VR c.z s.heap y Y)
    (q : ∀ v s', R c.z s'.heap v b → Rep c σ' s' → Ext c.z s.heap s'.heap → Q v s') : wpAny (model c.prog c.w) A (f x y) Q E s :=
  h (fun X σ₁ => X = b ∧ σ₁ = σ') ⟨rfl, rfl⟩ s Q E x y r hx hy fun v X σ₁ s' ⟨e1, e2⟩ hr R' x => by subst e1 e2; exact q v s' hr R' x
theorem W1.got {c : Cx} {A : Around} {α β : Type} {R : (Addr → Prop) → Heap → α → β → Prop} {f : Value → Sem α} {X : V} {σ σ' : Led} {b : β} (h : ∀ K : β → Led → Prop, K b σ' → W1 R c A f X σ K) {s : Shared} {Q : α → Shared → Prop} {E : Value → Shared → Prop} {x : Value} (r : Rep c σ s) (hx : VR c.z s.heap x X)
    (q : ∀ v s', R c.z s'.heap v b → Rep c σ' s' → Ext c.z s.heap s'.heap → Q v s') : wpAny (model c.prog c.w) A (f x) Q E s :=
  h (fun X σ₁ => X = b ∧ σ₁ = σ') ⟨rfl, rfl⟩ s Q E x r hx fun v X σ₁ s' ⟨e1, e2⟩ hr R' x => by subst e1 e2; exact q v s' hr R' x
noncomputable def W3 {α β : Type} (R : (Addr → Prop) → Heap → α → β → Prop) (c : Cx) (A : Around) (f : Value → Value → Value → Sem α) (X Y Z : V) (σ : Led) (K : β → Led → Prop) : Prop :=
  ∀ (s : Shared) (Q : α → Shared → Prop) (E : Value → Shared → Prop) (x y z : Value), Rep c σ s → VR c.z s.heap x X → VR c.z s.heap y Y → VR c.z s.heap z Z →
    (∀ a b σ' s', K b σ' → R c.z s'.heap a b → Rep c σ' s' → Ext c.z s.heap s'.heap → Q a s') → wpAny (model c.prog c.w) A (f x y z) Q E s
noncomputable def WN {α β : Type} (R : (Addr → Prop) → Heap → α → β → Prop) (c : Cx) (A : Around) (f : List Value → Sem α) (X : List V) (σ : Led) (K : β → Led → Prop) : Prop :=
  ∀ (s : Shared) (Q : α → Shared → Prop) (E : Value → Shared → Prop) (x : List Value), Rep c σ s → LR c.z s.heap x X →
    (∀ a b σ' s', K b σ' → R c.z s'.heap a b → Rep c σ' s' → Ext c.z s.heap s'.heap → Q a s') → wpAny (model c.prog c.w) A (f x) Q E s

theorem LR.ext {z : Addr → Prop} {h h' : Heap} (x : Ext z h h') {vs : List Value} {Vs : List V} (l : LR z h vs Vs) : LR z h' vs Vs := l.imp fun _ _ => VR.ext x

section
variable {c : Cx} {A : Around} {σ : Led} {env : Env}

theorem WG.mono {α β : Type} {R : (Addr → Prop) → Heap → α → β → Prop} {t : Sem α} {K K' : β → Led → Prop} (h : WG R c A t σ K) (i : ∀ b σ', K b σ' → K' b σ') : WG R c A t σ K' :=
  fun s Q E r k => h s Q E r fun a b σ' s' hk => k a b σ' s' (i _ _ hk)
/-- what is no more wanted -/
theorem WG.drop {α β : Type} {R : (Addr → Prop) → Heap → α → β → Prop} {t : Sem α} {σ' : Led} {K : β → Led → Prop} (h : WG R c A t σ' K) (hs : List.Sublist σ' σ) : WG R c A t σ K :=
  fun s Q E r k => h s Q E (r.sub hs) k
theorem WG.perm {α β : Type} {R : (Addr → Prop) → Heap → α → β → Prop} {t : Sem α} {σ' : Led} {K : β → Led → Prop} (h : WG R c A t σ' K) (hs : List.Perm σ' σ) : WG R c A t σ K :=
  fun s Q E r k => h s Q E (r.perm hs) k
theorem WG.thin {α β : Type} {R : (Addr → Prop) → Heap → α → β → Prop} {t : Sem α} {K : β → Led → Prop} (h : WG R c A t σ fun b σ₁ => ∃ σ₂, List.Sublist σ₂ σ₁ ∧ K b σ₂) : WG R c A t σ K :=
  fun s Q E r k => h s Q E r fun a b σ' s' ⟨σ₂, hs, hk⟩ hr r' x => k a b σ₂ s' hk hr (r'.sub hs) x
theorem WG.nodup {α β : Type} {R : (Addr → Prop) → Heap → α → β → Prop} {t : Sem α} {K : β → Led → Prop} (h : (σ.map (·.1)).Nodup → WG R c A t σ K) : WG R c A t σ K :=
  fun s Q E r k => h r.nd s Q E r k

-- constants, names
theorem W_none {k pos} {K : V → Led → Prop} (h : K .none σ) : W c A (eval (.Constant .none k pos) env) σ K :=
  fun s Q E r q => wpAny_Constant_none (q _ _ _ _ h rfl r (Ext.refl _))
theorem W_bool {b k pos} {K : V → Led → Prop} (h : K (.bool b) σ) : W c A (eval (.Constant (.bool b) k pos) env) σ K :=
  fun s Q E r q => wpAny_Constant_bool (q _ _ _ _ h rfl r (Ext.refl _))
theorem W_int {i k pos} {K : V → Led → Prop} (h : K (.int i) σ) : W c A (eval (.Constant (.int i) k pos) env) σ K :=
  fun s Q E r q => wpAny_Constant_int (q _ _ _ _ h ⟨_, rfl⟩ (r.toks _) (Ext.refl _))
theorem W_str {x k pos} {K : V → Led → Prop} (h : K (.str x) σ) : W c A (eval (.Constant (.str x) k pos) env) σ K :=
  fun s Q E r q => wpAny_Constant_str (q _ _ _ _ h ⟨_, rfl⟩ (r.toks _) (Ext.refl _))
theorem W_bytes {x k pos} {K : V → Led → Prop} (h : K (.bytes x) σ) : W c A (eval (.Constant (.bytes x) k pos) env) σ K :=
  fun s Q E r q => PySem.W.Constant_bytes (q _ _ _ _ h ⟨_, rfl⟩ (r.toks _) (Ext.refl _))
theorem W_loc {x : Str} {pos : Pos} {X : V} {ρ : List (Str × Option V)} {K : V → Led → Prop} (hx : (x, some X) ∈ ρ) (h : K X ((env.locals, .ns env.scope ρ) :: σ))
    (hk : env.scope.kind = .function := by rfl) (hd : (x == ("__debug__" : Str)) = false := by rfl) : W c A (eval (.Name x pos) env) ((env.locals, .ns env.scope ρ) :: σ) K := by
  intro s Q E r q
  obtain ⟨n1, n2, m, hn, hm⟩ := r.ob _ (.head _)
  obtain ⟨v, hv, hV⟩ := hm _ hx X rfl
  exact wpAny_Name (wpAny_loadName_local hk (n2 _ hx) hn hv (q _ _ _ _ h hV r (Ext.refl _))) hd
theorem W_ld {x : Str} {X : V} {ρ : List (Str × Option V)} {K : V → Led → Prop} (hx : (x, some X) ∈ ρ) (h : K X ((env.locals, .ns env.scope ρ) :: σ))
    (hk : env.scope.kind = .function := by rfl) : W c A (loadName env x) ((env.locals, .ns env.scope ρ) :: σ) K := by
  intro s Q E r q
  obtain ⟨n1, n2, m, hn, hm⟩ := r.ob _ (.head _)
  obtain ⟨v, hv, hV⟩ := hm _ hx X rfl
  exact wpAny_loadName_local hk (n2 _ hx) hn hv (q _ _ _ _ h hV r (Ext.refl _))

/-- a name's place in the frame, turned -/
inductive Put (x : Str) (X : V) : List (Str × Option V) → List (Str × Option V) → Prop
  | head {o ρ} : Put x X ((x, o) :: ρ) ((x, some X) :: ρ)
  | tail {p ρ ρ'} : Put x X ρ ρ' → Put x X (p :: ρ) (p :: ρ')
theorem mh1 {α : Type} {p a : α} {l : List α} : p ∈ a :: p :: l := .tail _ (.head _)
theorem mh2 {α : Type} {p a b : α} {l : List α} : p ∈ a :: b :: p :: l := .tail _ (.tail _ (.head _))
theorem mh3 {α : Type} {p a b c : α} {l : List α} : p ∈ a :: b :: c :: p :: l := .tail _ (.tail _ (.tail _ (.head _)))
theorem mt4 {α : Type} {p a b c d : α} {l : List α} (h : p ∈ l) : p ∈ a :: b :: c :: d :: l := .tail _ (.tail _ (.tail _ (.tail _ h)))
theorem Put.h1 {x X o p ρ} : Put x X (p :: (x, o) :: ρ) (p :: (x, some X) :: ρ) := .tail .head
theorem Put.h2 {x X o p q ρ} : Put x X (p :: q :: (x, o) :: ρ) (p :: q :: (x, some X) :: ρ) := .tail (.tail .head)
theorem Put.h3 {x X o p q r ρ} : Put x X (p :: q :: r :: (x, o) :: ρ) (p :: q :: r :: (x, some X) :: ρ) := .tail (.tail (.tail .head))
theorem Put.t4 {x X p q r s ρ ρ'} (h : Put x X ρ ρ') : Put x X (p :: q :: r :: s :: ρ) (p :: q :: r :: s :: ρ') := .tail (.tail (.tail (.tail h)))
theorem Put.keys {x X} {ρ ρ' : List (Str × Option V)} (H : Put x X ρ ρ') : ρ'.map (·.1) = ρ.map (·.1) := by
  induction H with
  | head => rfl
  | tail _ ih => rw [List.map_cons, List.map_cons, ih]
theorem Put.has {x X} {ρ ρ' : List (Str × Option V)} (H : Put x X ρ ρ') : ∃ o, (x, o) ∈ ρ := by
  induction H with
  | head => exact ⟨_, .head _⟩
  | tail _ ih => obtain ⟨o, e⟩ := ih; exact ⟨o, .tail _ e⟩
theorem Put.mem {x X} {ρ ρ' : List (Str × Option V)} (H : Put x X ρ ρ') : (ρ.map (·.1)).Nodup → ∀ p ∈ ρ', p = (x, some X) ∨ (p ∈ ρ ∧ p.1 ≠ x) := by
  induction H with
  | head =>
    intro nd p hp
    rw [List.map_cons, List.nodup_cons] at nd
    rcases List.mem_cons.mp hp with rfl | hp
    · exact .inl rfl
    · exact .inr ⟨.tail _ hp, fun e => nd.1 (e ▸ List.mem_map_of_mem (f := (·.1)) hp)⟩
  | tail h ih =>
    intro nd p hp
    rw [List.map_cons, List.nodup_cons] at nd
    rcases List.mem_cons.mp hp with rfl | hp
    · obtain ⟨o, e⟩ := h.has
      exact .inr ⟨.head _, fun e' => nd.1 (e' ▸ List.mem_map_of_mem (f := (·.1)) e)⟩
    · rcases ih nd.2 p hp with e | ⟨e1, e2⟩
      · exact .inl e
      · exact .inr ⟨.tail _ e1, e2⟩
theorem lookup_local_mem {sc : Scope} {ρ ρ' : List (Str × Option V)} (e : ρ'.map (·.1) = ρ.map (·.1)) (h : ∀ p ∈ ρ, sc.names.lookup p.1 = some .local) : ∀ p ∈ ρ', sc.names.lookup p.1 = some .local := fun p hp => by
  have : p.1 ∈ ρ.map (·.1) := e ▸ List.mem_map_of_mem hp
  obtain ⟨q, hq, e'⟩ := List.mem_map.mp this
  rw [← e']; exact h q hq

/-- a local name stored -/
theorem W_store {x : Str} {X : V} {ρ ρ' : List (Str × Option V)} {K : Unit → Led → Prop} (hp : Put x X ρ ρ') (h : K () ((env.locals, .ns env.scope ρ') :: σ))
    (hk : env.scope.kind = .function := by rfl) : W1 (fun _ _ _ _ => True) c A (storeName env x) X ((env.locals, .ns env.scope ρ) :: σ) K := by
  intro s Q E v r hV q
  obtain ⟨n1, n2, m, hn, hm⟩ := r.ob _ (.head _)
  obtain ⟨o, ho⟩ := hp.has
  refine wpAny_storeName_local (n2 _ ho) hn (fun h' hn' hs => ?_) (by rw [hk]; rfl)
  have hx : Ext c.z s.heap h' := fun b i n _ e => by
    by_cases hb : b = env.locals
    · subst hb; exact absurd e fun e => (r.ob _ (.head _)).notTup e
    · exact (hs.2 b hb).trans e
  obtain ⟨r', _⟩ := r.upd (o' := .ns env.scope ρ') (σ' := (env.locals, .ns env.scope ρ') :: σ) .head (fun b hb o e => (hs.2 b hb).trans e) (show OR c.z h' env.locals _ from ⟨⟨by rw [hp.keys]; exact n1.1, n1.2⟩, lookup_local_mem hp.keys n2, _, hn', fun p hp' Y hY => by
    rcases hp.mem n1.1 p hp' with rfl | ⟨h1, h2⟩
    · cases hY; exact ⟨v, by simp, hV.ext hx⟩
    · obtain ⟨v', q1, q2⟩ := hm p h1 Y hY
      exact ⟨v', by simp [h2, q1], q2.ext hx⟩⟩) (s.toks + 1)
  exact q _ () _ _ h trivial r' hx

-- operators
theorem W_BinOp {l op r pos} {K : V → Led → Prop} (h : W c A (eval l env) σ fun X σ₁ => W c A (eval r env) σ₁ fun Y σ₂ => W2 VR c A (binaryOp op) X Y σ₂ K) : W c A (eval (.BinOp l op r pos) env) σ K :=
  fun s Q E R q => wpAny_BinOp (h s _ _ R fun x X σ₁ s₁ h₁ hx R₁ x₁ => h₁ s₁ _ _ R₁ fun y Y σ₂ s₂ h₂ hy R₂ x₂ => h₂ s₂ _ _ x y R₂ (hx.ext x₂) hy fun a b σ' s' hk hr R' x' => q a b σ' s' hk hr R' ((x₁.trans x₂).trans x'))
theorem W_UnaryOp {op x pos} {K : V → Led → Prop} (h : W c A (eval x env) σ fun X σ₁ => W1 VR c A (unaryOp op) X σ₁ K) : W c A (eval (.UnaryOp op x pos) env) σ K :=
  fun s Q E R q => wpAny_UnaryOp (h s _ _ R fun x X σ₁ s₁ h₁ hx R₁ x₁ => h₁ s₁ _ _ x R₁ hx fun a b σ' s' hk hr R' x' => q a b σ' s' hk hr R' (x₁.trans x'))
theorem W_Compare {l op r pos} {K : V → Led → Prop} (h : W c A (eval l env) σ fun X σ₁ => W c A (eval r env) σ₁ fun Y σ₂ => W2 VR c A (compareOp op) X Y σ₂ K) (hm : behindInMarks op r = false := by rfl) : W c A (eval (.Compare l [op] [r] pos) env) σ K :=
  fun s Q E R q => wpAny_Compare1 (h s _ _ R fun x X σ₁ s₁ h₁ hx R₁ x₁ => h₁ s₁ _ _ R₁ fun y Y σ₂ s₂ h₂ hy R₂ x₂ => h₂ s₂ _ _ x y R₂ (hx.ext x₂) hy fun a b σ' s' hk hr R' x' => q a b σ' s' hk hr R' ((x₁.trans x₂).trans x')) hm
theorem W_IfExp {t b o pos} {K : V → Led → Prop} (h : WB c A (isTrue t env (eval t env)) σ fun z σ₁ => If z (W c A (eval b env) σ₁ K) (W c A (eval o env) σ₁ K)) : W c A (eval (.IfExp t b o pos) env) σ K :=
  fun s Q E R q => wpAny_IfExp (h s _ _ R fun z z' σ₁ s₁ h₁ hz R₁ x₁ => by
    subst hz
    cases z with
    | true => exact h₁.yes rfl s₁ _ _ R₁ fun a b σ' s' hk hr R' x' => q a b σ' s' hk hr R' (x₁.trans x')
    | false => exact h₁.no rfl s₁ _ _ R₁ fun a b σ' s' hk hr R' x' => q a b σ' s' hk hr R' (x₁.trans x'))

-- truth
theorem WB_Compare {l op r pos whole} {K : Bool → Led → Prop} (h : W c A (eval l env) σ fun X σ₁ => W c A (eval r env) σ₁ fun Y σ₂ => W2 VR c A (compareOp op) X Y σ₂ fun Z σ₃ => W1 (fun _ _ a b => a = b) c A truthy Z σ₃ K) (hm : behindInMarks op r = false := by rfl) : WB c A (isTrue (.Compare l [op] [r] pos) env whole) σ K :=
  fun s Q E R q => wpAny_isTrue_Compare1 (h s _ _ R fun x X σ₁ s₁ h₁ hx R₁ x₁ => h₁ s₁ _ _ R₁ fun y Y σ₂ s₂ h₂ hy R₂ x₂ => h₂ s₂ _ _ x y R₂ (hx.ext x₂) hy fun z Z σ₃ s₃ h₃ hz R₃ x₃ => h₃ s₃ _ _ z R₃ hz fun a b σ' s' hk hr R' x' => q a b σ' s' hk hr R' (((x₁.trans x₂).trans x₃).trans x')) hm
theorem WB_Not {x pos whole} {K : Bool → Led → Prop} (h : WB c A (isTrue x env (eval x env)) σ fun z σ₁ => K (!z) σ₁) : WB c A (isTrue (.UnaryOp .Not x pos) env whole) σ K :=
  fun s Q E R q => wpAny_isTrue_Not (h s _ _ R fun z z' σ₁ s₁ h₁ hz R₁ x₁ => q _ _ _ _ h₁ (by rw [hz]) R₁ x₁)
theorem WB_val {e whole} {K : Bool → Led → Prop} (h : W c A whole σ fun X σ₁ => W1 (fun _ _ a b => a = b) c A truthy X σ₁ K) (he : isTrue e env whole = (do let v ← whole; standAt e.pos; holding [v] (truthy v)) := by rfl) : WB c A (isTrue e env whole) σ K :=
  fun s Q E R q => wpAny_isTrue_value (h s _ _ R fun x X σ₁ s₁ h₁ hx R₁ x₁ => h₁ s₁ _ _ x R₁ hx fun a b σ' s' hk hr R' x' => q a b σ' s' hk hr R' (x₁.trans x')) he
theorem WB_Bool {op vs pos whole} {K : Bool → Led → Prop} (h : WB c A (allTrue op vs env) σ K) : WB c A (isTrue (.BoolOp op vs pos) env whole) σ K :=
  fun s Q E R q => wpAny_isTrue_BoolOp (h s _ _ R q)
theorem WB_And_nil {K : Bool → Led → Prop} (h : K true σ) : WB c A (allTrue .And [] env) σ K := fun s Q E R q => wpAny_allTrue_And_nil (q _ _ _ _ h rfl R (Ext.refl _))
theorem WB_Or_nil {K : Bool → Led → Prop} (h : K false σ) : WB c A (allTrue .Or [] env) σ K := fun s Q E R q => wpAny_allTrue_Or_nil (q _ _ _ _ h rfl R (Ext.refl _))
theorem WB_And {x rest} {K : Bool → Led → Prop} (h : WB c A (isTrue x env (eval x env)) σ fun z σ₁ => If z (WB c A (allTrue .And rest env) σ₁ K) (K false σ₁)) : WB c A (allTrue .And (x :: rest) env) σ K :=
  fun s Q E R q => wpAny_allTrue_And_cons (h s _ _ R fun z z' σ₁ s₁ h₁ hz R₁ x₁ => by
    subst hz
    cases z with
    | true => exact h₁.yes rfl s₁ _ _ R₁ fun a b σ' s' hk hr R' x' => q a b σ' s' hk hr R' (x₁.trans x')
    | false => exact q _ _ _ _ (h₁.no rfl) rfl R₁ x₁)
theorem WB_Or {x rest} {K : Bool → Led → Prop} (h : WB c A (isTrue x env (eval x env)) σ fun z σ₁ => If z (K true σ₁) (WB c A (allTrue .Or rest env) σ₁ K)) : WB c A (allTrue .Or (x :: rest) env) σ K :=
  fun s Q E R q => wpAny_allTrue_Or_cons (h s _ _ R fun z z' σ₁ s₁ h₁ hz R₁ x₁ => by
    subst hz
    cases z with
    | true => exact q _ _ _ _ (h₁.yes rfl) rfl R₁ x₁
    | false => exact h₁.no rfl s₁ _ _ R₁ fun a b σ' s' hk hr R' x' => q a b σ' s' hk hr R' (x₁.trans x'))
theorem T_bool {b : Bool} {K : Bool → Led → Prop} (h : K b σ) : W1 (fun _ _ a b => a = b) c A truthy (.bool b) σ K := fun s Q E x R hx q => by
  cases hx; exact wpAny_truthy_bool (q _ _ _ _ h rfl R (Ext.refl _))

-- statements
theorem WF_nil {K : Fl → Led → Prop} (h : K .next σ) : WF c A (execs [] env) σ K := fun s Q E R q => wpAny_execs_nil (q _ _ _ _ h rfl R (Ext.refl _))
theorem WF_cons {st rest} {K : Fl → Led → Prop} (h : WF c A (exec st env) σ (Seq (fun σ₁ => WF c A (execs rest env) σ₁ K) K)) : WF c A (execs (st :: rest) env) σ K :=
  fun s Q E R q => wpAny_execs_cons (h s _ _ R fun f F σ₁ s₁ h₁ hf R₁ x₁ => by
    cases F with
    | next => cases hf; exact h₁ s₁ _ _ R₁ fun a b σ' s' hk hr R' x' => q a b σ' s' hk hr R' (x₁.trans x')
    | brk => cases hf; exact q _ _ _ _ h₁ rfl R₁ x₁
    | cont => cases hf; exact q _ _ _ _ h₁ rfl R₁ x₁
    | ret X => obtain ⟨v, rfl, hv⟩ := hf; exact q _ _ _ _ h₁ ⟨v, rfl, hv⟩ R₁ x₁)
theorem WF_Pass {pos} {K : Fl → Led → Prop} (h : K .next σ) : WF c A (exec (.Pass pos) env) σ K := fun s Q E R q => wpAny_Pass (q _ _ _ _ h rfl R (Ext.refl _))
theorem WF_Break {pos} {K : Fl → Led → Prop} (h : K .brk σ) : WF c A (exec (.Break pos) env) σ K := fun s Q E R q => wpAny_Break (q _ _ _ _ h rfl R (Ext.refl _))
theorem WF_Continue {pos} {K : Fl → Led → Prop} (h : K .cont σ) : WF c A (exec (.Continue pos) env) σ K := fun s Q E R q => wpAny_Continue (q _ _ _ _ h rfl R (Ext.refl _))
theorem WF_Return {e pos} {K : Fl → Led → Prop} (h : W c A (eval e env) σ fun X σ₁ => K (.ret X) σ₁) : WF c A (exec (.Return (some e) pos) env) σ K :=
  fun s Q E R q => wpAny_Return_some (h s _ _ R fun x X σ₁ s₁ h₁ hx R₁ x₁ => q _ _ _ _ h₁ ⟨x, rfl, hx⟩ R₁ x₁)
theorem WF_If {t b o pos} {K : Fl → Led → Prop} (h : WB c A (isTrue t env (eval t env)) σ fun z σ₁ => If z (WF c A (execs b env) σ₁ K) (WF c A (execs o env) σ₁ K)) : WF c A (exec (.If t b o pos) env) σ K :=
  fun s Q E R q => wpAny_If (h s _ _ R fun z z' σ₁ s₁ h₁ hz R₁ x₁ => by
    subst hz
    cases z with
    | true => exact h₁.yes rfl s₁ _ _ R₁ fun a b σ' s' hk hr R' x' => q a b σ' s' hk hr R' (x₁.trans x')
    | false => exact h₁.no rfl s₁ _ _ R₁ fun a b σ' s' hk hr R' x' => q a b σ' s' hk hr R' (x₁.trans x'))
theorem WF_Assign {x pos' value pos} {K : Fl → Led → Prop} (h : W c A (eval value env) σ fun X σ₁ => W1 (fun _ _ _ _ => True) c A (storeName env x) X σ₁ fun (_ : Unit) σ₂ => K .next σ₂)
    (hs : swapsWith value (some (.Name x pos')) pos.line env = pure false := by rfl) : WF c A (exec (.Assign [.Name x pos'] value pos) env) σ K :=
  fun s Q E R q => wpAny_Assign_Name (h s _ _ R fun x X σ₁ s₁ h₁ hx R₁ x₁ => h₁ s₁ _ _ x R₁ hx fun a b σ' s' hk hr R' x' => q _ _ σ' s' hk rfl R' (x₁.trans x')) hs
theorem WF_Expr {e pos} {K : Fl → Led → Prop} (h : W c A (eval e env) σ fun X σ₁ => X = .none ∧ K .next σ₁) (hi : interactive env = false := by rfl) (hs : swapsWith e none pos.line env = pure false := by rfl) : WF c A (exec (.Expr e pos) env) σ K :=
  fun s Q E R q => wpAny_Expr (h s _ _ R fun x X σ₁ s₁ h₁ hx R₁ x₁ => by
    obtain ⟨rfl, hk⟩ := h₁
    cases hx
    exact q _ _ _ _ hk rfl R₁ x₁) hi hs

/-- a while, by a measure -/
theorem WF_While {test body orelse pos} {K : Fl → Led → Prop} (I : Nat → Led → Prop) (n : Nat) (h0 : I n σ)
    (turn : ∀ n σ, I n σ → WB c A (isTrue test env (eval test env)) σ fun z σ₁ => If z (WF c A (execs body env) σ₁ (Turn I n K)) (WF c A (execs orelse env) σ₁ K)) :
    WF c A (exec (.While test body orelse pos) env) σ K := by
  intro s Q E R q
  refine wpAny_While (codeAny_whileLoop (fun n s' => ∃ σ', I n σ' ∧ Rep c σ' s' ∧ Ext c.z s.heap s'.heap) (fun n s₁ ⟨σ₁, hI, R₁, x₁⟩ => ?_) n ⟨σ, h0, R, Ext.refl _⟩)
  refine turn n σ₁ hI s₁ _ _ R₁ fun z z' σ₂ s₂ h₂ hz R₂ x₂ => ?_
  subst hz
  cases z with
  | true =>
    refine h₂.yes rfl s₂ _ _ R₂ fun f F σ₃ s₃ h₃ hf R₃ x₃ => ?_
    have x := (x₁.trans x₂).trans x₃
    cases F with
    | next => cases hf; obtain ⟨m, hm, hI'⟩ := h₃; exact ⟨m, hm, σ₃, hI', R₃, x⟩
    | cont => cases hf; obtain ⟨m, hm, hI'⟩ := h₃; exact ⟨m, hm, σ₃, hI', R₃, x⟩
    | brk => cases hf; exact q _ _ _ _ h₃ rfl R₃ x
    | ret X => obtain ⟨v, rfl, hv⟩ := hf; exact q _ _ _ _ h₃ ⟨v, rfl, hv⟩ R₃ x
  | false =>
    refine h₂.no rfl s₂ _ _ R₂ fun f F σ₃ s₃ h₃ hf R₃ x₃ => ?_
    exact q _ _ _ _ h₃ hf R₃ ((x₁.trans x₂).trans x₃)
end
end Mine
end
section
open PySem PySem.Calls PyProof.Rows PySem.W
set_option maxRecDepth 100000
set_option linter.unusedVariables false
namespace Mine
section
variable {c : Cx} {A : Around} {σ : Led} {env : Env} {K : V → Led → Prop}
-- ints
theorem O_add {a b : Int} (h : K (.int (a + b)) σ) : W2 VR c A (binaryOp .Add) (.int a) (.int b) σ K := fun s Q E x y R ⟨_, hx⟩ ⟨_, hy⟩ q => by
  subst hx hy; (with_reducible refine PyProof.Rows.add_int ?_); exact q _ _ _ _ h ⟨_, rfl⟩ (R.toks _) (Ext.refl _)
theorem O_sub {a b : Int} (h : K (.int (a - b)) σ) : W2 VR c A (binaryOp .Sub) (.int a) (.int b) σ K := fun s Q E x y R ⟨_, hx⟩ ⟨_, hy⟩ q => by
  subst hx hy; (with_reducible refine PyProof.Rows.sub_int ?_); exact q _ _ _ _ h ⟨_, rfl⟩ (R.toks _) (Ext.refl _)
theorem O_mul {a b : Int} (hm : IntMulOk a b) (h : K (.int (a * b)) σ) : W2 VR c A (binaryOp .Mult) (.int a) (.int b) σ K := fun s Q E x y R ⟨_, hx⟩ ⟨_, hy⟩ q => by
  subst hx hy; (with_reducible refine PyProof.Rows.mul_int ?_ hm); exact q _ _ _ _ h ⟨_, rfl⟩ (R.toks _) (Ext.refl _)
theorem O_mod {a b : Int} (hb : b ≠ 0) (h : K (.int (a.fmod b)) σ) : W2 VR c A (binaryOp .Mod) (.int a) (.int b) σ K := fun s Q E x y R ⟨_, hx⟩ ⟨_, hy⟩ q => by
  subst hx hy; (with_reducible refine PyProof.Rows.mod_int' hb ?_); exact q _ _ _ _ h ⟨_, rfl⟩ (R.toks _) (Ext.refl _)
theorem O_fdiv {a b : Int} (hb : b ≠ 0) (hp : Builtin.divisionGoesByPylong a b = false) (h : K (.int (a.fdiv b)) σ) : W2 VR c A (binaryOp .FloorDiv) (.int a) (.int b) σ K := fun s Q E x y R ⟨_, hx⟩ ⟨_, hy⟩ q => by
  subst hx hy; (with_reducible refine PyProof.Rows.floordiv_int hb ?_ (.inl hp)); exact q _ _ _ _ h ⟨_, rfl⟩ (R.toks _) (Ext.refl _)
theorem O_shr {a n : Int} (hn : 0 ≤ n) (h : K (.int (a.fdiv (2 ^ n.toNat))) σ) : W2 VR c A (binaryOp .RShift) (.int a) (.int n) σ K := fun s Q E x y R ⟨_, hx⟩ ⟨_, hy⟩ q => by
  subst hx hy; (with_reducible refine PyProof.Rows.rshift_int hn ?_); exact q _ _ _ _ h ⟨_, rfl⟩ (R.toks _) (Ext.refl _)
theorem O_shl {a n : Int} (hn : 0 ≤ n) (hn2 : n ≤ 1000000) (ha : a.natAbs < 2 ^ 64) (h : K (.int (a * 2 ^ n.toNat)) σ) : W2 VR c A (binaryOp .LShift) (.int a) (.int n) σ K := fun s Q E x y R ⟨_, hx⟩ ⟨_, hy⟩ q => by
  subst hx hy; (with_reducible refine PyProof.Rows.lshift_int_small hn hn2 ha ?_); exact q _ _ _ _ h ⟨_, rfl⟩ (R.toks _) (Ext.refl _)
theorem O_pow {a n : Int} (hn : 0 ≤ n) (hn2 : n ≤ 1000000) (ha : a.natAbs < 2 ^ 64) (h : K (.int (a ^ n.toNat)) σ) : W2 VR c A (binaryOp .Pow) (.int a) (.int n) σ K := fun s Q E x y R ⟨_, hx⟩ ⟨_, hy⟩ q => by
  subst hx hy; (with_reducible refine PyProof.Rows.pow_int_small hn hn2 ha ?_); exact q _ _ _ _ h ⟨_, rfl⟩ (R.toks _) (Ext.refl _)
theorem O_and {a b : Int} (h : K (.int (Builtin.bitAnd a b)) σ) : W2 VR c A (binaryOp .BitAnd) (.int a) (.int b) σ K := fun s Q E x y R ⟨_, hx⟩ ⟨_, hy⟩ q => by
  subst hx hy; (with_reducible refine PyProof.Rows.and_int ?_); exact q _ _ _ _ h ⟨_, rfl⟩ (R.toks _) (Ext.refl _)
theorem O_or {a b : Int} (h : K (.int (Builtin.bitOr a b)) σ) : W2 VR c A (binaryOp .BitOr) (.int a) (.int b) σ K := fun s Q E x y R ⟨_, hx⟩ ⟨_, hy⟩ q => by
  subst hx hy; (with_reducible refine PyProof.Rows.or_int ?_); exact q _ _ _ _ h ⟨_, rfl⟩ (R.toks _) (Ext.refl _)
theorem O_neg {a : Int} (h : K (.int (-a)) σ) : W1 VR c A (unaryOp .USub) (.int a) σ K := fun s Q E x R ⟨_, hx⟩ q => by
  subst hx; (with_reducible refine PyProof.Rows.neg_int ?_); exact q _ _ _ _ h ⟨_, rfl⟩ (R.toks _) (Ext.refl _)
theorem C_lt {a b : Int} (h : K (.bool (decide (a < b))) σ) : W2 VR c A (compareOp .Lt) (.int a) (.int b) σ K := fun s Q E x y R ⟨_, hx⟩ ⟨_, hy⟩ q => by
  subst hx hy; (with_reducible refine PyProof.Rows.lt_int ?_); exact q _ _ _ _ h rfl R (Ext.refl _)
theorem C_le {a b : Int} (h : K (.bool (decide (a ≤ b))) σ) : W2 VR c A (compareOp .LtE) (.int a) (.int b) σ K := fun s Q E x y R ⟨_, hx⟩ ⟨_, hy⟩ q => by
  subst hx hy; (with_reducible refine PyProof.Rows.le_int ?_); exact q _ _ _ _ h rfl R (Ext.refl _)
theorem C_gt {a b : Int} (h : K (.bool (decide (b < a))) σ) : W2 VR c A (compareOp .Gt) (.int a) (.int b) σ K := fun s Q E x y R ⟨_, hx⟩ ⟨_, hy⟩ q => by
  subst hx hy; (with_reducible refine PyProof.Rows.gt_int ?_); exact q _ _ _ _ h rfl R (Ext.refl _)
theorem C_ge {a b : Int} (h : K (.bool (decide (b ≤ a))) σ) : W2 VR c A (compareOp .GtE) (.int a) (.int b) σ K := fun s Q E x y R ⟨_, hx⟩ ⟨_, hy⟩ q => by
  subst hx hy; (with_reducible refine PyProof.Rows.ge_int ?_); exact q _ _ _ _ h rfl R (Ext.refl _)
theorem C_eq {a b : Int} (h : K (.bool (a == b)) σ) : W2 VR c A (compareOp .Eq) (.int a) (.int b) σ K := fun s Q E x y R ⟨_, hx⟩ ⟨_, hy⟩ q => by
  subst hx hy; (with_reducible refine PyProof.Rows.eq_int ?_); exact q _ _ _ _ h rfl R (Ext.refl _)
theorem C_ne {a b : Int} (h : K (.bool (a != b)) σ) : W2 VR c A (compareOp .NotEq) (.int a) (.int b) σ K := fun s Q E x y R ⟨_, hx⟩ ⟨_, hy⟩ q => by
  subst hx hy; (with_reducible refine PyProof.Rows.ne_int ?_); exact q _ _ _ _ h rfl R (Ext.refl _)

-- items
theorem W_Sub {value slice pos} (h : W c A (eval value env) σ fun X σ₁ => W c A (eval slice env) σ₁ fun Y σ₂ => W2 VR c A (subscriptTail value slice) X Y σ₂ K) : W c A (eval (.Subscript value slice pos) env) σ K :=
  fun s Q E R q => Subscript_ (h s _ _ R fun x X σ₁ s₁ h₁ hx R₁ x₁ => h₁ s₁ _ _ R₁ fun y Y σ₂ s₂ h₂ hy R₂ x₂ => h₂ s₂ _ _ x y R₂ (hx.ext x₂) hy fun a b σ' s' hk hr R' x' => q a b σ' s' hk hr R' ((x₁.trans x₂).trans x'))
theorem isList_of {h : Heap} {l : Addr} {items : Array Value} {n : Nat} (x : IsL h l items n) : h.IsList l items := ⟨_, x, rfl, n, rfl⟩
/-- an item of a list -/
theorem O_item {l : Addr} {xs : List V} {k : Int} {X : V} {value slice : Expr} (hl : (l, AObj.list xs) ∈ σ) (h0 : 0 ≤ k) (h1 : k < 2 ^ 63) (hx : xs[k.toNat]? = some X) (h : K X σ)
    (hs : ∀ u, subscripted slice false (.ref l) (.int k u) = operate [.ref l, .int k u] (getItem (.ref l) (.int k u)) := by intro u; with_unfolding_all rfl) :
    W2 VR c A (subscriptTail value slice) (.ref l) (.int k) σ K := fun s Q E x y R hx' ⟨u, hy⟩ q => by
  cases hx'; subst hy
  obtain ⟨vs, n, e, hv⟩ := R.ob _ hl
  obtain ⟨v, hv1, hv2⟩ := hv.get _ _ hx
  exact tail_any (isList_of e).typeIs slot_list_getitem.lookup (wpAny_getItem_list (isList_of e) h0 h1 (by simpa using hv1) (q _ _ _ _ h hv2 R (Ext.refl _))) (hs u)
/-- the last item of a list -/
theorem O_last {l : Addr} {xs : List V} {k : Int} {X : V} {value slice : Expr} (hl : (l, AObj.list xs) ∈ σ) (h0 : k = -1) (h1 : xs.length < 2 ^ 62) (hx : xs[xs.length - 1]? = some X) (h : K X σ)
    (hs : ∀ u, subscripted slice false (.ref l) (.int k u) = operate [.ref l, .int k u] (getItem (.ref l) (.int k u)) := by intro u; with_unfolding_all rfl) :
    W2 VR c A (subscriptTail value slice) (.ref l) (.int k) σ K := fun s Q E x y R hx' ⟨u, hy⟩ q => by
  cases hx'; subst hy
  obtain ⟨vs, n, e, hv⟩ := R.ob _ hl
  obtain ⟨v, hv1, hv2⟩ := hv.get _ _ hx
  have hlen := hv.length
  have hpos : 0 < xs.length := by
    cases xs with
    | nil => simp at hx
    | cons _ _ => simp
  subst h0
  refine tail_any (isList_of e).typeIs slot_list_getitem.lookup (wpAny_getItem_list_neg (isList_of e) (by omega) (by simp; omega) (by omega) (x := v) ?_ (q _ _ _ _ h hv2 R (Ext.refl _))) (hs u)
  have : ((-1 : Int) + ((vs.toArray.size : Nat) : Int)).toNat = xs.length - 1 := by simp; omega
  rw [this]; simpa using hv1
/-- an item of a tuple -/
theorem O_titem {l : List At} {k : Int} {j : Nat} {X : At} {value slice : Expr} (hk : k = (j : Int)) (h1 : k < 2 ^ 63) (hx : l[j]? = some X) (h : K (match X with | .int i => .int i | .ref a => .ref a) σ)
    (hs : ∀ t u, subscripted slice false (.ref t) (.int k u) = operate [.ref t, .int k u] (getItem (.ref t) (.int k u)) := by intro t u; with_unfolding_all rfl) :
    W2 VR c A (subscriptTail value slice) (.tup l) (.int k) σ K := fun s Q E x y R ⟨t, vs, n, e1, ⟨ez, e2⟩, e3⟩ ⟨u, hy⟩ q => by
  subst e1 hy
  obtain ⟨v, hv1, hv2⟩ := e3.get _ _ hx
  have hlen := e3.length
  have hj : j < vs.length := by
    rcases Nat.lt_or_ge j vs.length with h | h
    · exact h
    · rw [List.getElem?_eq_none h] at hv1; cases hv1
  have hT : IsTup s.heap t vs.toArray := ⟨_, e2, rfl, n, rfl⟩
  refine item_tupleT (j := j) hT (by omega) h1 ?_ hv1 (q _ _ _ _ h ?_ R (Ext.refl _)) (hs t u)
  · subst hk
    have hn : ¬ ((j : Int) < 0) := by omega
    simp [seqIndex?, hn]; omega
  · cases X with
    | int i => exact hv2
    | ref a => exact hv2
/-- a list's item stored -/
theorem setItem_L {prog : Program} {w : World} {E : Value → Shared → Prop} {s : Shared} {l : Addr} {items : Array Value} {n : Nat} {k : Int} {t : Tok} {v : Value} {Q : Unit → Shared → Prop} (hl : IsL s.heap l items n)
    (h0 : 0 ≤ k) (hfit : k < 2 ^ 63) (hn : k < items.size) (hQ : Q () { s with heap := s.heap.update l (Obj.mapSeq (·.setIfInBounds k.toNat v)) }) :
    wpAny (model prog w) A (setItem (.ref l) (.int k t) v) Q E s := by
  have hl' := isList_of hl
  unfold setItem
  try with_reducible refine wpAny_holding ?_
  first | refine wpAny_bind (wpAny_pure ?_) | skip
  refine wpAny_bind (wpAny_sequenceKey hl'.typeIs (by decide) ?_)
  refine wpAny_bind (wpAny_callSpecial?_slot (name := Str.ofString "__setitem__") hl'.typeIs slot_list_setitem
    (wpAny_call_entry slot_list_setitem hl'.typeIs entry_list_setitem ?_ (args_list_setitem _ _ _)))
  show wpAny _ _ (Builtin.List.listSubscript? (.int k t) >>= _) _ _ s
  refine wpAny_bind (wpAny_listSubscript_int (fitsIndex_of h0 hfit) ?_)
  obtain ⟨j, rfl⟩ := Int.eq_ofNat_of_zero_le h0
  have hj : j < items.size := by omega
  show wpAny _ _ ((seqItemAt l j >>= fun r => pure (r.map (j, ·))) >>= _) _ _ s
  refine wpAny_bind (wpAny_bind (wpAny_seqItemAt hl rfl (wpAny_pure ?_)))
  rw [Array.getElem?_eq_getElem hj]
  show wpAny _ _ (setSeqItemAt l j v >>= _) _ _ s
  refine wpAny_bind (wpAny_setSeqItemAt hl rfl ?_)
  first
    | exact wpAny_bind (wpAny_pure (wpAny_pure ⟨.none, rfl, wpAny_pure hQ⟩))
    | exact wpAny_pure ⟨.none, rfl, wpAny_pure hQ⟩
theorem O_setitem {K : Unit → Led → Prop} {l : Addr} {xs : List V} {σ' : Led} {k : Int} {X : V} (u : Upd l (.list xs) (.list (xs.set k.toNat X)) σ σ') (h0 : 0 ≤ k) (h1 : k < 2 ^ 63) (hk : k < xs.length) (h : K () σ') :
    W3 (fun _ _ _ _ => True) c A setItem (.ref l) (.int k) X σ K := fun s Q E x y z R hx ⟨t, hy⟩ hz q => by
  cases hx; subst hy
  obtain ⟨vs, n, e, hv⟩ := R.ob _ u.mem
  have hlen := hv.length
  refine setItem_L e h0 h1 (by simp; omega) ?_
  have hx : Ext c.z s.heap (s.heap.update l (Obj.mapSeq (·.setIfInBounds k.toNat z))) := fun b i n' _ e' => by
    by_cases hb : b = l
    · subst hb; exact absurd e' fun e' => (R.ob _ u.mem).notTup e'
    · exact (Heap.get?_update_other _ _ (Ne.symm hb)).trans e'
  obtain ⟨R', _⟩ := R.upd u (h' := s.heap.update l (Obj.mapSeq (·.setIfInBounds k.toNat z))) (fun b hb o e' => (Heap.get?_update_other _ _ (Ne.symm hb)).trans e') (show OR c.z _ l (.list _) from
    ⟨vs.set k.toNat z, n, by have := e.update (·.setIfInBounds k.toNat z); simpa using this, (hv.imp fun _ _ => VR.ext hx).set _ _ _ (hz.ext hx)⟩) s.toks
  exact q _ () _ _ h trivial R' hx
end
end Mine
end
section
open PySem PySem.Calls PyProof.Rows PySem.W
set_option maxRecDepth 100000
set_option linter.unusedVariables false
namespace Mine
theorem lookup_of_mem {β : Type} : ∀ {l : List (Str × β)} {x : Str} {k : β}, (l.map (·.1)).Nodup → (x, k) ∈ l → l.lookup x = some k
  | (y, j) :: l, x, k, nd, h => by
    rw [List.map_cons, List.nodup_cons] at nd
    rcases List.mem_cons.mp h with e | h
    · cases e; simp
    · have : x ≠ y := fun e => nd.1 (e ▸ List.mem_map_of_mem (f := (·.1)) h)
      rw [List.lookup_cons, beq_eq_false_iff_ne.mpr this]
      exact lookup_of_mem nd.2 h
noncomputable def Glo (c : Cx) (x : Str) (v : Value) : Prop := c.mg x = some v ∨ (c.mg x = none ∧ c.mb x = some v)
theorem Glo.own {c : Cx} {x : Str} {v : Value} (h : nsIn (KF c.w.params) mainGlobals x = some (some v)) : Glo c x v := .inl (c.gk _ _ h)
theorem Glo.boot {c : Cx} {x : Str} {v : Value} (h : nsIn (KF c.w.params) mainGlobals x = some none) (h2 : bootBuiltins x = some v) (h3 : x ≠ "__name__") : Glo c x v := .inr ⟨c.gk _ _ h, (c.bk _ h3).trans h2⟩

section
variable {c : Cx} {A : Around} {σ : Led} {env : Env} {K : V → Led → Prop}
theorem Rep.kept {s : Shared} (R : Rep c σ s) : Kept c.kp s.heap := R.keep
theorem W_glob {x : Str} {pos : Pos} {v : Value} {ρ : List (Str × Option V)} (hm : (x, NameKind.globalImplicit) ∈ env.scope.names) (hg : Glo c x v) (h : K (.con v) ((env.locals, .ns env.scope ρ) :: σ))
    (hk : env.scope.kind = .function := by rfl) (h1 : env.globals = mainGlobals := by rfl) (h2 : env.builtins = builtinsNs := by rfl) (hd : (x == ("__debug__" : Str)) = false := by rfl) :
    W c A (eval (.Name x pos) env) ((env.locals, .ns env.scope ρ) :: σ) K := by
  intro s Q E R q
  obtain ⟨⟨_, n1⟩, _⟩ := R.ob _ (.head _)
  refine Name_function_global hk (lookup_of_mem n1 hm) ?_ hd
  rcases hg with hg | ⟨hg, hb⟩
  · exact loadGlobal_global (h1 ▸ c.g _ R.keep) hg (q _ _ _ _ h rfl R (Ext.refl _))
  · exact loadGlobal_builtin (h1 ▸ c.g _ R.keep) hg (h2 ▸ c.b _ R.keep) hb (q _ _ _ _ h rfl R (Ext.refl _))

-- arguments
theorem WL_nil {pos : Pos} {K : List V → Led → Prop} (h : K [] σ) : WL c A (spliced (backTo pos (starEach [] env))) σ K := fun s Q E R q => args_nil (q _ _ _ _ h .nil R (Ext.refl _))
theorem WL_cons {e : Expr} {rest : List Expr} {pos : Pos} {K : List V → Led → Prop} (h : W c A (eval e env) σ fun X σ₁ => WL c A (spliced (backTo pos (starEach rest env))) σ₁ fun Xs σ₂ => K (X :: Xs) σ₂)
    (he : starEach (e :: rest) env = (false, eval e env) :: starEach rest env := by rfl) : WL c A (spliced (backTo pos (starEach (e :: rest) env))) σ K :=
  fun s Q E R q => args_cons (h s _ _ R fun x X σ₁ s₁ h₁ hx R₁ x₁ => h₁ s₁ _ _ R₁ fun xs Xs σ₂ s₂ h₂ hxs R₂ x₂ => q _ _ _ _ h₂ (.cons (hx.ext x₂) hxs) R₂ (x₁.trans x₂)) he

noncomputable def IsV (X : V) (v : Value) : Prop := ∀ z h x, VR z h x X → x = v
theorem IsV.con {v : Value} : IsV (.con v) v := fun _ _ _ e => e
theorem IsV.ref {a : Addr} : IsV (.ref a) (.ref a) := fun _ _ _ e => e
/-- who holds the callee meanwhile -/
noncomputable def Keeps (c : Cx) (f : Value) (σ : Led) : Prop := ∀ s, Rep c σ s → ∃ k, (k = Keeper.frame ∨ k = Keeper.machine ∨ k = Keeper.boundFrame) ∧ Looks (model c.prog c.w) s.heap (keeperOf f) k
theorem Keeps.builtin {id : String} : Keeps c (.builtin id) σ := fun _ _ => ⟨.machine, .inr (.inl rfl), Looks.of_pure rfl⟩
theorem Keeps.type {T : String} : Keeps c (.type T) σ := fun _ _ => ⟨.machine, .inr (.inl rfl), Looks.of_pure rfl⟩
theorem Keeps.func {a : Addr} {o : Obj} {fd : FuncData} (h : c.kp a o) (hd : o.data = .func fd) : Keeps c (.ref a) σ := fun s R => ⟨.frame, .inl rfl, fun A Q E s' k q => by
  unfold keeperOf
  refine wpAny_bind (wpAny_load (k _ _ (R.keep _ _ h)) ?_)
  simp only [hd]
  exact wpAny_pure q⟩
theorem Keeps.led {a : Addr} {o : Obj} {fd : FuncData} (h : (a, AObj.obj o) ∈ σ) (hd : o.data = .func fd) : Keeps c (.ref a) σ := fun s R => ⟨.frame, .inl rfl, fun A Q E s' k q => by
  unfold keeperOf
  refine wpAny_bind (wpAny_load (k _ _ (R.ob _ h).1) ?_)
  simp only [hd]
  exact wpAny_pure q⟩
theorem evalArgs_any {M : Model} {E : Value → Shared → Prop} {s : Shared} {f : Value} {args : List (Bool × Sem Value)} {Q : Args → Shared → Prop} (hp : args.any (·.1) = false) (h : wpAny M A (spliced args) (fun vs s' => Q ⟨vs, []⟩ s') E s) : wpAny M A (evalArgs f true args []) Q E s := by
  cases args with
  | cons p r =>
    obtain ⟨b, t⟩ := p
    cases b with
    | false => exact evalArgs_plain h
    | true => cases hp
  | nil =>
    unfold evalArgs
    show wpAny M A (spliced [] >>= _) Q E s
    refine wpAny_bind (wpAny_mono h (fun vs s' h' => ?_) fun _ _ x => x)
    refine wpAny_holding ?_
    exact wpAny_bind (wpAny_pure (wpAny_bind (wpAny_pure (wpAny_pure h'))))
theorem W_callWith {pos : Pos} {f : Value} {first : List V} {args : List Expr} (h : WL c A (spliced (backTo pos (starEach args env))) σ fun Xs σ₁ => Keeps c f σ₁ ∧ WN VR c A (fun vs => call f vs) (first ++ Xs) σ₁ K)
    (hp : (backTo pos (starEach args env)).any (·.1) = false := by rfl) :
    WN VR c A (fun fs => callWith pos f fs (backTo pos (starEach args env)) []) first σ K := fun s Q E fs R hfs q => by
  have main : wpAny (model c.prog c.w) A (spliced (backTo pos (starEach args env))) (fun vs s₁ => (∃ σ₁, Rep c σ₁ s₁ ∧ Keeps c f σ₁) ∧ wpAny (model c.prog c.w) A (call f (fs ++ vs)) Q E s₁) E s :=
    h s _ _ R fun xs Xs σ₁ s₁ h₁ hxs R₁ x₁ => ⟨⟨σ₁, R₁, h₁.1⟩, h₁.2 s₁ _ _ _ R₁ ((hfs.imp fun _ _ => VR.ext x₁).app hxs) fun a b σ' s' hk hr R' x' => q a b σ' s' hk hr R' (x₁.trans x')⟩
  refine callWith_of (P := fun h => ∃ k, (k = Keeper.frame ∨ k = Keeper.machine ∨ k = Keeper.boundFrame) ∧ Looks (model c.prog c.w) h (keeperOf f) k) (by rw [hp]; rfl) (fun h z => z) (evalArgs_any hp (wpAny_mono main (fun vs s₁ z => ⟨?_, z.2⟩) fun _ _ x => x))
  obtain ⟨σ₁, R₁, k⟩ := z.1
  exact k s₁ R₁
theorem W_Call {func : Expr} {args : List Expr} {pos : Pos} (h : W c A (eval func env) σ fun F σ₁ => ∃ f, IsV F f ∧ WL c A (spliced (backTo pos (starEach args env))) σ₁ fun Xs σ₂ => Keeps c f σ₂ ∧ WN VR c A (fun vs => call f vs) Xs σ₂ K)
    (hp : (backTo pos (starEach args env)).any (·.1) = false := by rfl)
    (he : eval (.Call func args [] pos) env = (do callWith pos (← eval func env) [] (backTo pos (starEach args env)) (backToKw pos (keywordEach [] env))) := by rfl) : W c A (eval (.Call func args [] pos) env) σ K :=
  fun s Q E R q => Call_ (h s _ _ R fun f F σ₁ s₁ ⟨f', hf, h₁⟩ hF R₁ x₁ => by
    cases hf _ _ _ hF
    exact W_callWith (first := []) h₁ hp s₁ _ _ [] R₁ .nil fun a b σ' s' hk hr R' x' => q a b σ' s' hk hr R' (x₁.trans x')) he
/-- a callee by its global name -/
theorem W_CallG {x : Str} {pos' : Pos} {args : List Expr} {pos : Pos} {f : Value} {ρ : List (Str × Option V)} (hm : (x, NameKind.globalImplicit) ∈ env.scope.names) (hg : Glo c x f) (hf : ∀ σ, Keeps c f σ)
    (h : WL c A (spliced (backTo pos (starEach args env))) ((env.locals, .ns env.scope ρ) :: σ) fun Xs σ₂ => WN VR c A (fun vs => call f vs) Xs σ₂ K)
    (hk : env.scope.kind = .function := by rfl) (h1 : env.globals = mainGlobals := by rfl) (h2 : env.builtins = builtinsNs := by rfl) (hd : (x == ("__debug__" : Str)) = false := by rfl)
    (hp : (backTo pos (starEach args env)).any (·.1) = false := by rfl)
    (he : eval (.Call (.Name x pos') args [] pos) env = (do callWith pos (← eval (.Name x pos') env) [] (backTo pos (starEach args env)) (backToKw pos (keywordEach [] env))) := by rfl) : W c A (eval (.Call (.Name x pos') args [] pos) env) ((env.locals, .ns env.scope ρ) :: σ) K :=
  W_Call (W_glob hm hg ⟨f, IsV.con, h.mono fun _ _ z => ⟨hf _, z⟩⟩ hk h1 h2 hd) hp he

-- a def entered
noncomputable def locs (sc : Scope) : List Str := sc.names.filterMap fun p => match p.2 with | .local => some p.1 | _ => none
theorem locs_mem {sc : Scope} {x : Str} (h : x ∈ locs sc) : (x, NameKind.local) ∈ sc.names := by
  unfold locs at h
  obtain ⟨⟨y, k⟩, h1, h2⟩ := List.mem_filterMap.mp h
  cases k <;> simp at h2
  subst h2; exact h1
theorem locs_nodup {sc : Scope} (h : (sc.names.map (·.1)).Nodup) : (locs sc).Nodup := by
  unfold locs
  revert h
  induction sc.names with
  | nil => exact fun _ => .nil
  | cons p l ih =>
    intro h
    rw [List.map_cons, List.nodup_cons] at h
    obtain ⟨x, k⟩ := p
    cases k <;> simp only [List.filterMap_cons] <;> first | exact ih h.2 | skip
    refine List.nodup_cons.mpr ⟨fun hm => h.1 ?_, ih h.2⟩
    obtain ⟨⟨y, k⟩, h1, h2⟩ := List.mem_filterMap.mp hm
    cases k <;> simp at h2
    subst h2
    exact List.mem_map_of_mem (f := (·.1)) h1
noncomputable def frame (names : List Str) (Xs : List V) (others : List Str) : List (Str × Option V) := names.zipWith (fun x X => (x, some X)) Xs ++ others.map fun x => (x, none)
theorem frame_keys {names : List Str} {Xs : List V} {others : List Str} (h : names.length = Xs.length) : (frame names Xs others).map (·.1) = names ++ others := by
  induction names generalizing Xs with
  | nil => cases Xs with
    | nil => simp [frame, Function.comp_def]
    | cons => cases h
  | cons x names ih => cases Xs with
    | nil => cases h
    | cons X Xs => exact congrArg (x :: ·) (ih (Nat.succ.inj h))
/-- what a call's end hands on -/
noncomputable def Ret (K : V → Led → Prop) : Fl → Led → Prop
  | .ret X, σ => ∃ σ', Sub σ' σ ∧ K X σ'
  | _, σ => ∃ σ', Sub σ' σ ∧ K .none σ'
noncomputable abbrev envF (sc : Scope) (L : Addr) (cl : List (Str × Addr)) (qual : Str) (a : Addr) (code : Value) : Env :=
  { scope := sc, locals := L, globals := mainGlobals, cells := cl, qual := qual ++ ".<locals>.", func := some a, code := code, frame := some L, builtins := builtinsNs }
theorem frame_mem {others : List Str} {z : Addr → Prop} {h : Heap} {names : List Str} {Xs : List V} {vs : List Value} (hr : LR z h vs Xs) (hl : names.length = Xs.length) (nd : names.Nodup) : ∀ p ∈ frame names Xs others, ∀ Y, p.2 = some Y → ∃ v, (names.zip vs).lookup p.1 = some v ∧ VR z h v Y := by
  induction names generalizing Xs vs with
  | nil =>
    intro p hp Y hY
    cases Xs with
    | cons => cases hl
    | nil =>
      simp [frame] at hp
      obtain ⟨x, _, rfl⟩ := hp
      cases hY
  | cons x names ih =>
    intro p hp Y hY
    cases hr with
    | nil => cases hl
    | @cons v X vs Xs e r =>
      rw [List.nodup_cons] at nd
      have hp' : p = (x, some X) ∨ p ∈ frame names Xs others := by simpa [frame] using hp
      rcases hp' with rfl | hp'
      · cases hY; exact ⟨v, by simp, e⟩
      · obtain ⟨v', h1, h2⟩ := ih r (Nat.succ.inj hl) nd.2 p hp' Y hY
        refine ⟨v', ?_, h2⟩
        have hne : p.1 ≠ x := fun e' => nd.1 (by
          have := lookup_isSome_mem h1
          rw [← e']; exact this)
        rw [List.zip_cons_cons, List.lookup_cons, beq_eq_false_iff_ne.mpr hne]
        exact h1
where
  lookup_isSome_mem : ∀ {names : List Str} {vs : List Value} {x : Str} {v : Value}, (names.zip vs).lookup x = some v → x ∈ names
  | [], _, _, _, h => by simp at h
  | _ :: _, [], _, _, h => by simp at h
  | y :: names, u :: vs, x, v, h => by
    rw [List.zip_cons_cons, List.lookup_cons] at h
    by_cases e : x = y
    · exact e ▸ List.mem_cons_self
    · rw [beq_eq_false_iff_ne.mpr e] at h
      exact List.mem_cons_of_mem _ (lookup_isSome_mem h)
theorem lookup_rev {l : List (Str × Value)} (nd : (l.map (·.1)).Nodup) (x : Str) : l.reverse.lookup x = l.lookup x := by
  cases h : l.lookup x with
  | some v =>
    exact lookup_of_mem (by rw [List.map_reverse]; exact (List.reverse_perm _).nodup_iff.mpr nd) (List.mem_reverse.mpr (mem_of_lookup h))
  | none =>
    cases h' : l.reverse.lookup x with
    | none => rfl
    | some v => have := lookup_of_mem nd (List.mem_reverse.mp (mem_of_lookup h')); rw [h] at this; cases this
theorem W_defA {a : Addr} {oc : Value} {od : Option Addr} {osl : Array (Option Value)} {name qual : Str} {params : Arguments} {body : List Stmt} {sc : Scope} {dV kV doc pm ct : Value} {an : Option Addr} {ca : Addr} {names others : List Str} {Xs Ys : List V}
    (mk : List Value → Args) (ρ : List (Str × Option V))
    (ho : c.kp a ⟨oc, od, .func ⟨name, qual, params, .stmts body, sc, mainGlobals, [], dV, kV, doc, pm, an, .ref ca, ct, builtinsNs⟩, osl⟩)
    (hcode : ∃ o vs t, c.kp ca o ∧ o.data = .fields vs ∧ vs[1]? = some (.str qual t))
    (hbind : ∀ s vs, Rep c σ s → LR c.z s.heap vs Xs → ∃ us, LR c.z s.heap us Ys ∧ BindsTo s ⟨name, qual, params, .stmts body, sc, mainGlobals, [], dV, kV, doc, pm, an, .ref ca, ct, builtinsNs⟩ (mk vs) (names.zip us)) (hlen : names.length = Ys.length)
    (hρ : ρ = frame names Ys others)
    (hnd : (sc.names.map (·.1)).Nodup) (hloc : locs sc = names ++ others) (hcell : ∀ x ∈ sc.names, x.2 ≠ .cell)
    (hroom : A.depth < 1000) (hco : sc.isCoroutine = false) (hgen : sc.isGenerator = false) (hk : sc.kind = .function)
    (h : ∀ L A', A'.depth = A.depth + 1 → A'.units = A.units + 3 → A'.handled = A.handled → WF c A' (execs body (envF sc L [] qual a (.ref ca))) ((L, .ns sc ρ) :: σ) (Ret K)) :
    WN VR c A (fun vs => call (.ref a) (mk vs).pos (mk vs).kw) Xs σ K := by
  intro s Q E ws R hws q
  subst hρ
  obtain ⟨vs, hvs, hb⟩ := hbind s ws R hws
  have hnl := locs_nodup hnd
  have hN : names.Nodup := by rw [hloc] at hnl; exact (List.nodup_append.mp hnl).1
  have hzk : ((names.zip vs).map (·.1)).Nodup := by rw [List.map_fst_zip (by rw [hlen, hvs.length]; exact Nat.le_refl _)]; exact hN
  obtain ⟨o, us, t, e2, e3, e4⟩ := hcode
  refine wpAny_call (codeAny_call_function hroom (R.keep _ _ ho) rfl hco hgen rfl ⟨ca, o, us, t, rfl, R.keep _ _ e2, e3, e4⟩ (hb _ _ _ _ ?_))
  refine wpAny_newFunctionEnv hcell (fun p hp => ?_) (fun h' hns hsb => ?_) hk
  · have : p.1 ∈ locs sc := by rw [hloc]; exact List.mem_append_left _ (List.of_mem_zip hp).1
    exact lookup_of_mem hnd (locs_mem this)
  · have hk' : ∀ b o, s.heap.get? b = some o → h'.get? b = some o := fun b o e => hsb.extBut b o (Nat.ne_of_lt (Heap.lt_size e)) (Heap.get?_push_of_some _ e)
    have hx : Ext c.z s.heap h' := fun _ _ _ _ e => hk' _ _ e
    have R' := R.add (a := s.heap.objs.size) (ao := .ns sc (frame names Ys others)) (Nat.le_refl _) hk' (show OR c.z h' _ (.ns _ _) from
      ⟨⟨by rw [frame_keys hlen, ← hloc]; exact hnl, hnd⟩, fun p hp => by
        have : p.1 ∈ locs sc := by rw [hloc, ← frame_keys (others := others) hlen]; exact List.mem_map_of_mem hp
        exact lookup_of_mem hnd (locs_mem this), _, hns, fun p hp Y hY => by
        obtain ⟨v, h1, h2⟩ := frame_mem (hvs.imp fun _ _ => VR.ext hx) hlen hN p hp Y hY
        exact ⟨v, by rw [lookup_rev hzk]; exact h1, h2⟩⟩) (s.toks + (names.zip vs).length)
    refine ⟨c.lim _ R'.keep, codeAny_func ?_⟩
    refine h s.heap.objs.size (A.deeper (envF sc s.heap.objs.size [] qual a (.ref ca))) rfl rfl rfl _ _ _ R' fun f F σ₁ s₁ h₁ hf R₁ x₁ => ?_
    have x := hx.trans x₁
    cases F with
    | ret X => obtain ⟨v, rfl, hv⟩ := hf; obtain ⟨σ₂, hs, hk⟩ := h₁; exact q _ _ _ _ hk hv (R₁.subp hs) x
    | next => cases hf; obtain ⟨σ₂, hs, hk⟩ := h₁; exact q _ _ _ _ hk rfl (R₁.subp hs) x
    | brk => cases hf; obtain ⟨σ₂, hs, hk⟩ := h₁; exact q _ _ _ _ hk rfl (R₁.subp hs) x
    | cont => cases hf; obtain ⟨σ₂, hs, hk⟩ := h₁; exact q _ _ _ _ hk rfl (R₁.subp hs) x
theorem W_def {a : Addr} {oc : Value} {od : Option Addr} {osl : Array (Option Value)} {name qual : Str} {params : Arguments} {body : List Stmt} {sc : Scope} {dV kV doc pm ct : Value} {an : Option Addr} {ca : Addr} {names others : List Str} {Xs : List V}
    (ρ : List (Str × Option V))
    (ho : c.kp a ⟨oc, od, .func ⟨name, qual, params, .stmts body, sc, mainGlobals, [], dV, kV, doc, pm, an, .ref ca, ct, builtinsNs⟩, osl⟩)
    (hcode : ∃ o vs t, c.kp ca o ∧ o.data = .fields vs ∧ vs[1]? = some (.str qual t))
    (hbind : ∀ s vs, Rep c σ s → LR c.z s.heap vs Xs → BindsTo s ⟨name, qual, params, .stmts body, sc, mainGlobals, [], dV, kV, doc, pm, an, .ref ca, ct, builtinsNs⟩ ⟨vs, []⟩ (names.zip vs)) (hlen : names.length = Xs.length)
    (hρ : ρ = frame names Xs others)
    (hnd : (sc.names.map (·.1)).Nodup) (hloc : locs sc = names ++ others) (hcell : ∀ x ∈ sc.names, x.2 ≠ .cell)
    (hroom : A.depth < 1000) (hco : sc.isCoroutine = false) (hgen : sc.isGenerator = false) (hk : sc.kind = .function)
    (h : ∀ L A', A'.depth = A.depth + 1 → A'.units = A.units + 3 → A'.handled = A.handled → WF c A' (execs body (envF sc L [] qual a (.ref ca))) ((L, .ns sc ρ) :: σ) (Ret K)) :
    WN VR c A (fun vs => call (.ref a) vs) Xs σ K :=
  W_defA (fun vs => ⟨vs, []⟩) ρ ho hcode (fun s vs R hv => ⟨vs, hv, hbind s vs R hv⟩) hlen hρ hnd hloc hcell hroom hco hgen hk h
theorem Ret.ret' {X : V} {σ' : Led} (hs : Sub σ' σ) (h : K X σ') : Ret K (.ret X) σ := ⟨σ', hs, h⟩
theorem Ret.next' {σ' : Led} (hs : Sub σ' σ) (h : K .none σ') : Ret K .next σ := ⟨σ', hs, h⟩
theorem binds1 {z : Addr → Prop} {s : Shared} {fd : FuncData} {x1 : Str} {X1 : V} (h : ∀ v1, BindsTo s fd ⟨[v1], []⟩ [(x1, v1)]) (vs : List Value) (hv : LR z s.heap vs [X1]) : BindsTo s fd ⟨vs, []⟩ ([x1].zip vs) := by
  cases hv with | cons _ hv => cases hv; exact h _
theorem binds2 {z : Addr → Prop} {s : Shared} {fd : FuncData} {x1 x2 : Str} {X1 X2 : V} (h : ∀ v1 v2, BindsTo s fd ⟨[v1, v2], []⟩ [(x1, v1), (x2, v2)]) (vs : List Value) (hv : LR z s.heap vs [X1, X2]) : BindsTo s fd ⟨vs, []⟩ ([x1, x2].zip vs) := by
  cases hv with | cons _ hv => cases hv with | cons _ hv => cases hv; exact h _ _
theorem binds3 {z : Addr → Prop} {s : Shared} {fd : FuncData} {x1 x2 x3 : Str} {X1 X2 X3 : V} (h : ∀ v1 v2 v3, BindsTo s fd ⟨[v1, v2, v3], []⟩ [(x1, v1), (x2, v2), (x3, v3)]) (vs : List Value) (hv : LR z s.heap vs [X1, X2, X3]) : BindsTo s fd ⟨vs, []⟩ ([x1, x2, x3].zip vs) := by
  cases hv with | cons _ hv => cases hv with | cons _ hv => cases hv with | cons _ hv => cases hv; exact h _ _ _
/-- a call with one value in its place and one by its name -/
theorem W_CallGK {x : Str} {pos' : Pos} {e e2 : Expr} {n : Str} {p2 pos : Pos} {f : Value} {ρ : List (Str × Option V)} (hm : (x, NameKind.globalImplicit) ∈ env.scope.names) (hg : Glo c x f) (hf : ∀ σ, Keeps c f σ)
    (h : W c A (eval e env) ((env.locals, .ns env.scope ρ) :: σ) fun X σ₁ => W c A (eval e2 env) σ₁ fun Y σ₂ => WN VR c A (fun vs => call f (vs.take 1) [(n, vs.getD 1 .none)]) [X, Y] σ₂ K)
    (hk : env.scope.kind = .function := by rfl) (h1 : env.globals = mainGlobals := by rfl) (h2 : env.builtins = builtinsNs := by rfl) (hd : (x == ("__debug__" : Str)) = false := by rfl)
    (hst : starEach [e] env = [(false, eval e env)] := by rfl)
    (he : eval (.Call (.Name x pos') [e] [⟨some n, e2, p2⟩] pos) env = (do callWith pos (← eval (.Name x pos') env) [] (backTo pos (starEach [e] env)) (backToKw pos (keywordEach [⟨some n, e2, p2⟩] env))) := by rfl) :
    W c A (eval (.Call (.Name x pos') [e] [⟨some n, e2, p2⟩] pos) env) ((env.locals, .ns env.scope ρ) :: σ) K := by
  intro s Q E R q
  rw [he]
  refine wpAny_bind (W_glob (K := fun F σ' => F = .con f ∧ σ' = (env.locals, .ns env.scope ρ) :: σ) hm hg ⟨rfl, rfl⟩ hk h1 h2 hd s _ _ R fun v F σ₁ s₁ ⟨e1, e2'⟩ hv R₁ x₁ => ?_)
  subst e1 e2'
  cases hv
  refine callWith_of (P := fun h => ∃ k, (k = Keeper.frame ∨ k = Keeper.machine ∨ k = Keeper.boundFrame) ∧ Looks (model c.prog c.w) h (keeperOf f) k) (by rw [hst]; rfl) (fun h z => z) (evalArgs_kw2 (by rfl) ?_ hst)
  refine args_cons (h s₁ _ _ R₁ fun a X σ₂ s₂ h₂ ha R₂ x₂ => args_nil (kwAll_cons (h₂ s₂ _ _ R₂ fun b Y σ₃ s₃ h₃ hb R₃ x₃ => kwAll_nil ⟨hf _ s₃ R₃, ?_⟩))) hst
  exact h₃ s₃ _ _ [a, b] R₃ (.cons (ha.ext x₃) (.cons hb .nil)) fun a b σ' s' hk hr R' x' => q a b σ' s' hk hr R' (((x₁.trans x₂).trans x₃).trans x')
end
end Mine
end
section
open PySem PySem.Calls PyProof.Rows PySem.W
set_option maxRecDepth 100000
set_option linter.unusedVariables false
set_option linter.unusedSimpArgs false
namespace Mine
/-- pairs, in their order -/
noncomputable def plt (x y : Int × Int) : Bool := decide (x.1 < y.1 ∨ (x.1 = y.1 ∧ x.2 < y.2))
noncomputable def ptup (x : Int × Int) : V := .tup [.int x.1, .int x.2]
theorem tuple_lt2 (l b : Addr) (n n2 : Nat) (x1 x2 y1 y2 : Int) (t1 t2 u1 u2 : Tok) :
    Meets (Builtin.«tuple.__lt__» ⟨[.ref l, .ref b], []⟩)
      (fun A R s => IsT s.heap l #[.int x1 t1, .int x2 t2] n ∧ IsT s.heap b #[.int y1 u1, .int y2 u2] n2 ∧
        R (.ok (.ret (.bool (decide (x1 < y1 ∨ (x1 = y1 ∧ x2 < y2)))))) s) :=
  .of_wp fun prog w A R s h => by
    obtain ⟨hp, g, d, tk, os⟩ := s; obtain ⟨hl, hb, h⟩ := h
    have f2 := AutoSeq1.sub_tuple_tuple
    wp_walk using wpAny_loadPart' hl, wpAny_loadPart' hb, wpAny_eqBool_int
    by_cases e1 : x1 = y1
    · subst e1
      simp only [beq_self_eq_true, Bool.not_true, Bool.false_eq_true, if_false]
      wp_walk using wpAny_eqBool_int
      by_cases e2 : x2 = y2
      · subst e2
        simp only [beq_self_eq_true, Bool.not_true, Bool.false_eq_true, if_false]
        wp_walk
        exact ⟨_, rfl, by simpa [Builtin.Tuple.tupleCompareSizes] using h⟩
      · have e2' : (x2 == y2) = false := by simpa using e2
        simp only [e2', Bool.not_false, if_true]
        refine wpAny_bind (wpAny_rule (wpAny_bind ?_))
        refine (PyProof.Rows.lt_int (a := x2) (b := y2) ?_ : wpAny _ _ (compareOp .Lt _ _) _ _ _)
        wp_walk
        exact ⟨_, rfl, by simpa using h⟩
    · have e1' : (x1 == y1) = false := by simpa using e1
      simp only [e1', Bool.not_false, if_true]
      refine wpAny_bind (wpAny_rule (wpAny_bind ?_))
      refine (PyProof.Rows.lt_int (a := x1) (b := y1) ?_ : wpAny _ _ (compareOp .Lt _ _) _ _ _)
      wp_walk
      exact ⟨_, rfl, by simpa [e1] using h⟩
theorem tuple_ge2 (l b : Addr) (n n2 : Nat) (x1 x2 y1 y2 : Int) (t1 t2 u1 u2 : Tok) :
    Meets (Builtin.«tuple.__ge__» ⟨[.ref l, .ref b], []⟩)
      (fun A R s => IsT s.heap l #[.int x1 t1, .int x2 t2] n ∧ IsT s.heap b #[.int y1 u1, .int y2 u2] n2 ∧
        R (.ok (.ret (.bool (!decide (x1 < y1 ∨ (x1 = y1 ∧ x2 < y2)))))) s) :=
  .of_wp fun prog w A R s h => by
    obtain ⟨hp, g, d, tk, os⟩ := s; obtain ⟨hl, hb, h⟩ := h
    have f2 := AutoSeq1.sub_tuple_tuple
    wp_walk using wpAny_loadPart' hl, wpAny_loadPart' hb, wpAny_eqBool_int
    by_cases e1 : x1 = y1
    · subst e1
      simp only [beq_self_eq_true, Bool.not_true, Bool.false_eq_true, if_false]
      wp_walk using wpAny_eqBool_int
      by_cases e2 : x2 = y2
      · subst e2
        simp only [beq_self_eq_true, Bool.not_true, Bool.false_eq_true, if_false]
        wp_walk
        exact ⟨_, rfl, by simpa [Builtin.Tuple.tupleCompareSizes] using h⟩
      · have e2' : (x2 == y2) = false := by simpa using e2
        simp only [e2', Bool.not_false, if_true]
        refine wpAny_bind (wpAny_rule (wpAny_bind ?_))
        refine (PyProof.Rows.ge_int (a := x2) (b := y2) ?_ : wpAny _ _ (compareOp .GtE _ _) _ _ _)
        wp_walk
        refine ⟨_, rfl, ?_⟩
        have : decide (y2 ≤ x2) = !decide (x1 < x1 ∨ x1 = x1 ∧ x2 < y2) := by
          by_cases q : x2 < y2 <;> simp [q] <;> omega
        rw [this]; exact h
    · have e1' : (x1 == y1) = false := by simpa using e1
      simp only [e1', Bool.not_false, if_true]
      refine wpAny_bind (wpAny_rule (wpAny_bind ?_))
      refine (PyProof.Rows.ge_int (a := x1) (b := y1) ?_ : wpAny _ _ (compareOp .GtE _ _) _ _ _)
      wp_walk
      refine ⟨_, rfl, ?_⟩
      have : decide (y1 ≤ x1) = !decide (x1 < y1 ∨ x1 = y1 ∧ x2 < y2) := by
        by_cases q : x1 < y1 <;> simp [q, e1] <;> omega
      rw [this]; exact h
section
variable {c : Cx} {A : Around} {σ : Led} {env : Env} {K : V → Led → Prop}
theorem two_ints {vs : List Value} {x : Int × Int} (h : All2 AR vs [.int x.1, .int x.2]) : ∃ t1 t2, vs = [.int x.1 t1, .int x.2 t2] := by
  cases h with
  | cons h1 r =>
    cases r with
    | cons h2 r =>
      cases r
      obtain ⟨t1, rfl⟩ := h1; obtain ⟨t2, rfl⟩ := h2
      exact ⟨t1, t2, rfl⟩
theorem C_tlt {x y : Int × Int} (hu : A.units < 9900) (h : K (.bool (plt x y)) σ) : W2 VR c A (compareOp .Lt) (ptup x) (ptup y) σ K := fun s Q E v u R ⟨a, vs, n, e1, ⟨ez, e2⟩, e3⟩ ⟨b, us, n2, f1, ⟨fz, f2⟩, f3⟩ q => by
  subst e1 f1
  obtain ⟨t1, t2, rfl⟩ := two_ints e3
  obtain ⟨u1, u2, rfl⟩ := two_ints f3
  exact cmp_ofLt (richCompare_meets_room (op := .Lt) ⟨_, e2, rfl⟩ ⟨_, f2, rfl⟩ F.slot_tuple_lt F.entry_tuple_lt (F.args_tuple_lt_2 _ _) (tuple_lt2 a b n n2 x.1 x.2 y.1 y.2 t1 t2 u1 u2) ⟨e2, f2, ⟨(fun x => nomatch x), q _ _ _ _ h rfl R (Ext.refl _)⟩⟩ hu)
theorem C_tge {x y : Int × Int} (hu : A.units < 9900) (h : K (.bool (!plt x y)) σ) : W2 VR c A (compareOp .GtE) (ptup x) (ptup y) σ K := fun s Q E v u R ⟨a, vs, n, e1, ⟨ez, e2⟩, e3⟩ ⟨b, us, n2, f1, ⟨fz, f2⟩, f3⟩ q => by
  subst e1 f1
  obtain ⟨t1, t2, rfl⟩ := two_ints e3
  obtain ⟨u1, u2, rfl⟩ := two_ints f3
  exact cmp_ofGtE (richCompare_meets_room (op := .GtE) ⟨_, e2, rfl⟩ ⟨_, f2, rfl⟩ F.slot_tuple_ge F.entry_tuple_ge (F.args_tuple_ge_2 _ _) (tuple_ge2 a b n n2 x.1 x.2 y.1 y.2 t1 t2 u1 u2) ⟨e2, f2, ⟨(fun x => nomatch x), q _ _ _ _ h rfl R (Ext.refl _)⟩⟩ hu)
/-- an item stored: the statement -/
theorem WF_AssignSub {o i value : Expr} {spos pos : Pos} {K : Fl → Led → Prop} (h : W c A (eval value env) σ fun X σ₁ => W c A (eval o env) σ₁ fun O σ₂ => W c A (eval i env) σ₂ fun I σ₃ => W3 (fun _ _ _ _ => True) c A setItem O I X σ₃ fun (_ : Unit) σ₄ => K .next σ₄)
    (hs : swapsWithSole [.Subscript o i spos] value pos.line env = pure false := by rfl) (hw : swappedStores [.Subscript o i spos] value env = pure none := by rfl) : WF c A (exec (.Assign [.Subscript o i spos] value pos) env) σ K :=
  fun s Q E R q => wpAny_Assign_stores (h s _ _ R fun x X σ₁ s₁ h₁ hx R₁ x₁ => by
    show wpAny _ _ (assign (.Subscript o i spos) env x) _ _ _
    rw [arm_assign_Subscript]
    refine wpAny_bind (wpAny_holding (h₁ s₁ _ _ R₁ fun ov O σ₂ s₂ h₂ ho R₂ x₂ => wpAny_bind (wpAny_holding (h₂ s₂ _ _ R₂ fun iv I σ₃ s₃ h₃ hi R₃ x₃ => wpAny_bind (wpAny_standAt (wpAny_bind (wpAny_holding (h₃ s₃ _ _ ov iv x R₃ (ho.ext x₃) hi ((hx.ext x₂).ext x₃) fun a b σ₄ s₄ h₄ _ R₄ x₄ => ?_))))))))
    exact wpAny_release (q _ _ _ _ h₄ rfl R₄ (((x₁.trans x₂).trans x₃).trans x₄))) hs hw
end
end Mine
namespace Mine
/-- the frame ahead, the word of its names and of the rest -/
noncomputable def Fr1 (env : Env) (I : Nat → List (Str × Option V) → Led → Prop) (n : Nat) (σ : Led) : Prop := ∃ ρ σ₁, σ = (env.locals, .ns env.scope ρ) :: σ₁ ∧ I n ρ σ₁
section
variable {c : Cx} {A : Around} {σ : Led} {env : Env}
theorem WF_WhileF {test body orelse pos} {ρ : List (Str × Option V)} {K : Fl → Led → Prop} (I : Nat → List (Str × Option V) → Led → Prop) (n : Nat) (h0 : I n ρ σ)
    (turn : ∀ I' : Nat → List (Str × Option V) → Led → Prop, (∀ n ρ σ, I n ρ σ → I' n ρ σ) → ∀ n ρ σ, I n ρ σ → WB c A (isTrue test env (eval test env)) ((env.locals, .ns env.scope ρ) :: σ) fun z σ₁ => If z (WF c A (execs body env) σ₁ (Turn (Fr1 env I') n K)) (WF c A (execs orelse env) σ₁ K)) :
    WF c A (exec (.While test body orelse pos) env) ((env.locals, .ns env.scope ρ) :: σ) K :=
  WF_While (Fr1 env I) n ⟨ρ, σ, rfl, h0⟩ fun n σ ⟨ρ, σ₁, e, h⟩ => by subst e; exact turn I (fun _ _ _ h => h) n ρ σ₁ h
theorem Turn.nextF {env : Env} {I : Nat → List (Str × Option V) → Led → Prop} {n : Nat} {K : Fl → Led → Prop} {ρ : List (Str × Option V)} (m : Nat) (hm : m < n) (h : I m ρ σ) : Turn (Fr1 env I) n K .next ((env.locals, .ns env.scope ρ) :: σ) := ⟨m, hm, ρ, σ, rfl, h⟩
theorem Turn.contF {env : Env} {I : Nat → List (Str × Option V) → Led → Prop} {n : Nat} {K : Fl → Led → Prop} {ρ : List (Str × Option V)} (m : Nat) (hm : m < n) (h : I m ρ σ) : Turn (Fr1 env I) n K .cont ((env.locals, .ns env.scope ρ) :: σ) := ⟨m, hm, ρ, σ, rfl, h⟩
theorem Upd.split {a o o'} {σ σ' : Led} (H : Upd a o o' σ σ') : ∃ τ, List.Perm σ ((a, o) :: τ) ∧ List.Perm σ' ((a, o') :: τ) := by
  induction H with
  | head => exact ⟨_, List.Perm.refl _, List.Perm.refl _⟩
  | @tail p _ _ _ ih =>
    obtain ⟨τ, h1, h2⟩ := ih
    exact ⟨p :: τ, (h1.cons p).trans (List.Perm.swap ..), (h2.cons p).trans (List.Perm.swap ..)⟩
/-- a callee that turns one entry: by its own part alone -/
theorem WN.part {α β : Type} {R : (Addr → Prop) → Heap → α → β → Prop} {f : List Value → Sem α} {Xs : List V} {σ' : Led} {K : β → Led → Prop} {a : Addr} {o o' : AObj} {b : β} (u : Upd a o o' σ σ') (h : K b σ')
    (hf : ∀ (τ : Led) (K' : β → Led → Prop), K' b ((a, o') :: τ) → WN R c A f Xs ((a, o) :: τ) K') : WN R c A f Xs σ K := by
  intro s Q E x r hx q
  obtain ⟨τ, h1, h2⟩ := u.split
  refine hf τ (fun b' σ₁ => b' = b ∧ σ₁ = (a, o') :: τ) ⟨rfl, rfl⟩ s Q E x (r.perm h1.symm) hx fun v b' σ₁ s' ⟨e1, e2⟩ hr r' x' => ?_
  subst e1 e2
  exact q _ _ _ _ h hr (r'.perm h2) x'
end
end Mine
end
section
open PySem PySem.Calls PyProof.Rows PySem.W
set_option maxRecDepth 100000
set_option linter.unusedVariables false
set_option linter.unusedSimpArgs false
namespace Mine
section
variable {c : Cx} {A : Around} {σ : Led} {env : Env} {K : V → Led → Prop}
/-- a method of a built-in kind -/
noncomputable def Meth (c : Cx) (O : V) (name : Str) (id : String) (σ : Led) : Prop := ∀ (A : Around) (s : Shared) (E : Value → Shared → Prop) (Q : Value × List Value → Shared → Prop) (pl : Sem Bool) (v : Value), Rep c σ s → VR c.z s.heap v O → Q (.builtin id, [v]) s → wpAny (model c.prog c.w) A (getMethod v name pl) Q E s
theorem W_Meth {o : Expr} {name : Str} {apos pos : Pos} {args : List Expr} {pl : Sem Bool} (id : String) (h : W c A (eval o env) σ fun O σ₁ => Meth c O name id σ₁ ∧ WL c A (spliced (backTo pos (starEach args env))) σ₁ fun Xs σ₂ => WN VR c A (fun vs => call (.builtin id) vs) (O :: Xs) σ₂ K)
    (hp : (backTo pos (starEach args env)).any (·.1) = false := by rfl)
    (he : eval (.Call (.Attribute o name apos) args [] pos) env = (do
      let ov ← eval o env
      standAt apos.atName
      let (f, first) ← holding [ov] (getMethod ov name pl)
      callWith pos f first (backTo pos (starEach args env)) []) := by rfl) : W c A (eval (.Call (.Attribute o name apos) args [] pos) env) σ K :=
  fun s Q E R q => MethodCall_ (h s _ _ R fun ov O σ₁ s₁ ⟨hm, h₁⟩ ho R₁ x₁ => hm A s₁ _ _ _ _ R₁ ho
    (W_callWith (first := [O]) (h₁.mono fun _ _ z => ⟨Keeps.builtin, z⟩) hp s₁ _ _ [ov] R₁ (.cons ho .nil) fun a b σ' s' hk hr R' x' => q a b σ' s' hk hr R' (x₁.trans x'))) he
theorem Meth.list {l : Addr} {xs : List V} {name : Str} {id : String} (hl : (l, AObj.list xs) ∈ σ) (slot : Slot "list" name id) (hty : typeOf (.builtin id) = pure (.type "method_descriptor")) : Meth c (.ref l) name id σ := fun A s E Q pl v R hv h => by
  cases hv
  obtain ⟨vs, n, e, _⟩ := R.ob _ hl
  exact getMethod_builtin (isList_of e).typeIs PySem.F.plainAttrs_list slot hty (fun a e' => by cases e'; exact ⟨_, e, rfl⟩) h

theorem len_fit {n : Nat} (h : n ≤ 1000000) : n ≤ sizeLine := by rw [sizeLine_eq]; omega
theorem size_push_fit {n : Nat} (h : n ≤ 1000000) : n ≤ sizeLine + 1 := by rw [sizeLine_eq]; omega
/-- a list's entry turned by its items -/
theorem Rep.updList {l : Addr} {xs ys : List V} {s : Shared} {σ' : Led} {vs us : List Value} {n : Nat} {f : Array Value → Array Value} (R : Rep c σ s) (u : Upd l (.list xs) (.list ys) σ σ') (e : IsL s.heap l vs.toArray n) (hf : f vs.toArray = us.toArray)
    (hu : ∀ h', Ext c.z s.heap h' → All2 (VR c.z h') us ys) : Rep c σ' { s with heap := s.heap.update l (Obj.mapSeq f) } ∧ Ext c.z s.heap (s.heap.update l (Obj.mapSeq f)) := by
  have hx : Ext c.z s.heap (s.heap.update l (Obj.mapSeq f)) := fun b i n' _ e' => by
    by_cases hb : b = l
    · subst hb; exact absurd e' fun e' => (R.ob _ u.mem).notTup e'
    · exact (Heap.get?_update_other _ _ (Ne.symm hb)).trans e'
  obtain ⟨R', _⟩ := R.upd u (h' := s.heap.update l (Obj.mapSeq f)) (fun b hb o e' => (Heap.get?_update_other _ _ (Ne.symm hb)).trans e') (show OR c.z _ l (.list _) from
    ⟨us, _, by have := e.update f; rw [hf] at this; exact this, hu _ hx⟩) s.toks
  exact ⟨R', hx⟩
theorem B_append {l : Addr} {xs : List V} {X : V} {σ' : Led} (u : Upd l (.list xs) (.list (xs ++ [X])) σ σ') (hn : xs.length ≤ 1000000) (h : K .none σ') : WN VR c A (fun vs => call (.builtin "list.append") vs) [.ref l, X] σ K := by
  intro s Q E vs R hvs q
  cases hvs with
  | cons h1 r =>
    cases r with
    | cons h2 r =>
      cases r; cases h1
      rename_i v
      obtain ⟨ws, n, e, hw⟩ := R.ob _ u.mem
      obtain ⟨R', x⟩ := R.updList u e (f := fun xs => xs.push v) (us := ws ++ [v]) (by simp) (fun h' hx => (hw.imp fun _ _ => VR.ext hx).app (.cons (h2.ext hx) .nil))
      exact call_meets F.slot_list_append ⟨_, e, rfl⟩ F.entry_list_append (F.args_list_append_2 _ _) (list_append l ws.toArray n v (by simp only [List.size_toArray, hw.length]; exact len_fit hn)) ⟨e, q _ _ _ _ h rfl R' x⟩
theorem pop_list_eq (ws : List Value) (h : ws ≠ []) : ws.toArray.eraseIdxIfInBounds (ws.toArray.size - 1) = ws.dropLast.toArray := by
  have : ws.toArray.size - 1 < ws.toArray.size := by cases ws with | nil => exact absurd rfl h | cons _ _ => simp
  rw [Array.eraseIdxIfInBounds, dif_pos this]
  apply Array.ext'
  simp [Array.toList_eraseIdx, List.eraseIdx_length_sub_one]
theorem All2.dropLast {α β : Type} {R : α → β → Prop} {as : List α} {bs : List β} (H : All2 R as bs) : All2 R as.dropLast bs.dropLast := by
  induction H with
  | nil => exact .nil
  | cons x r ih => cases r with
    | nil => exact .nil
    | cons y z => exact .cons x ih
theorem B_pop {l : Addr} {xs : List V} {X : V} {σ' : Led} (u : Upd l (.list xs) (.list xs.dropLast) σ σ') (hn : xs.length ≤ 1000000) (hx : xs[xs.length - 1]? = some X) (h : K X σ') : WN VR c A (fun vs => call (.builtin "list.pop") vs) [.ref l] σ K := by
  intro s Q E vs R hvs q
  cases hvs with
  | cons h1 r =>
    cases r; cases h1
    obtain ⟨ws, n, e, hw⟩ := R.ob _ u.mem
    obtain ⟨v, hv1, hv2⟩ := hw.get _ _ hx
    have hl := hw.length
    have hne : ws ≠ [] := by rintro rfl; simp at hv1
    obtain ⟨R', x⟩ := R.updList u e (f := fun xs => xs.eraseIdxIfInBounds (ws.toArray.size - 1)) (us := ws.dropLast) (pop_list_eq ws hne) (fun h' hx => (hw.imp fun _ _ => VR.ext hx).dropLast)
    exact call_meets F.slot_list_pop ⟨_, e, rfl⟩ F.entry_list_pop (F.args_list_pop_1 _) (MeetsSeq.list_pop_last l ws.toArray n v (by simpa [hl] using hv1) (by simp only [List.size_toArray, hl]; exact len_fit hn)) ⟨e, q _ _ _ _ h (hv2.ext x) R' x⟩
theorem B_pop0 {l : Addr} {xs : List V} {X : V} {σ' : Led} (u : Upd l (.list (X :: xs)) (.list xs) σ σ') (hn : xs.length < 1000000) (h : K X σ') : WN VR c A (fun vs => call (.builtin "list.pop") vs) [.ref l, .int 0] σ K := by
  intro s Q E vs R hvs q
  cases hvs with
  | cons h1 r =>
    cases r with
    | cons h2 r =>
      cases r; cases h1
      obtain ⟨t, rfl⟩ := h2
      obtain ⟨ws, n, e, hw⟩ := R.ob _ u.mem
      have hl := hw.length
      cases hw with
      | cons hv1 hw =>
        rename_i v ws
        obtain ⟨R', x⟩ := R.updList u e (f := fun xs => xs.eraseIdxIfInBounds 0) (us := ws) (by simp [Array.eraseIdxIfInBounds]) (fun h' hx => (hw.imp fun _ _ => VR.ext hx))
        exact call_meets F.slot_list_pop ⟨_, e, rfl⟩ F.entry_list_pop (F.args_list_pop_2 _ _) (MeetsSeq.list_pop_at l (v :: ws).toArray n 0 t 0 v (by decide) (by simp [seqIndex?]) (by simp) (by simp only [List.size_toArray, hl]; exact len_fit (by simp; omega))) ⟨e, q _ _ _ _ h (hv1.ext x) R' x⟩
theorem B_len {l : Addr} {xs : List V} (hl : (l, AObj.list xs) ∈ σ) (hn : xs.length ≤ 1000000) (h : K (.int xs.length) σ) : WN VR c A (fun vs => call (.builtin "len") vs) [.ref l] σ K := by
  intro s Q E vs R hvs q
  cases hvs with
  | cons h1 r =>
    cases r; cases h1
    obtain ⟨ws, n, e, hw⟩ := R.ob _ hl
    have hlen := hw.length
    refine call_len_list (isList_of e) (by simp; omega) (q _ _ _ _ h ⟨s.toks + 1, by simp [hlen]⟩ (R.toks _) (Ext.refl _))
theorem T_list {l : Addr} {xs : List V} {K : Bool → Led → Prop} (hl : (l, AObj.list xs) ∈ σ) (hn : xs.length ≤ 1000000) (h : K (!xs.isEmpty) σ) : W1 (fun _ _ a b => a = b) c A truthy (.ref l) σ K := fun s Q E x R hx q => by
  cases hx
  obtain ⟨ws, n, e, hw⟩ := R.ob _ hl
  have hlen := hw.length
  refine wpAny_truthy_list (isList_of e) (by simp; omega) (q _ _ _ _ h ?_ (R.toks _) (Ext.refl _))
  cases ws <;> cases xs <;> simp at hlen ⊢
/-- the statement of a call -/
theorem WF_ExprRef {e pos} {K : Fl → Led → Prop} (h : W c A (eval e env) σ fun X σ₁ => X = .none ∧ K .next σ₁) (hi : interactive env = false := by rfl) (hs : swapsWith e none pos.line env = pure false := by rfl) : WF c A (exec (.Expr e pos) env) σ K := WF_Expr h hi hs
end
end Mine
namespace Mine
noncomputable def Fr0 (env : Env) (J : List (Str × Option V) → Led → Prop) (σ : Led) : Prop := ∃ ρ σ₁, σ = (env.locals, .ns env.scope ρ) :: σ₁ ∧ J ρ σ₁
/-- ways that meet behind a statement -/
noncomputable def Meet (env : Env) (J : List (Str × Option V) → Led → Prop) (f : Fl) (σ : Led) : Prop := f = .next ∧ Fr0 env J σ
section
variable {c : Cx} {A : Around} {σ : Led} {env : Env}
theorem Meet.here {J : List (Str × Option V) → Led → Prop} {ρ : List (Str × Option V)} (h : J ρ σ) : Meet env J .next ((env.locals, .ns env.scope ρ) :: σ) := ⟨rfl, ρ, σ, rfl, h⟩
theorem WF_join {st : Stmt} {ρ : List (Str × Option V)} {k : Led → Prop} {K : Fl → Led → Prop} (J : List (Str × Option V) → Led → Prop) (h1 : ∀ J' : List (Str × Option V) → Led → Prop, (∀ ρ σ, J ρ σ → J' ρ σ) → WF c A (exec st env) ((env.locals, .ns env.scope ρ) :: σ) (Meet env J'))
    (h2 : ∀ ρ σ, J ρ σ → k ((env.locals, .ns env.scope ρ) :: σ)) : WF c A (exec st env) ((env.locals, .ns env.scope ρ) :: σ) (Seq k K) :=
  WG.mono (h1 J fun _ _ h => h) fun f σ' ⟨e, ρ', σ₁, e', hJ⟩ => by subst e e'; exact h2 _ _ hJ
end
end Mine
namespace Mine
theorem If.of_true {p q : Prop} (h : p) : If true p q := ⟨fun _ => h, fun e => by cases e⟩
theorem If.of_false {p q : Prop} (h : q) : If false p q := ⟨fun e => (by cases e), fun _ => h⟩
end Mine
end
section
open PySem PySem.Calls PyProof.Rows PySem.W
set_option maxRecDepth 100000
set_option linter.unusedVariables false
set_option linter.unusedSimpArgs false
namespace Mine
noncomputable def OptR (z : Addr → Prop) (h : Heap) (v : Option Value) (V : Option V) : Prop := match v, V with
  | none, none => True
  | some v, some X => VR z h v X
  | _, _ => False
noncomputable abbrev WO := @WG (Option Value) (Option V) OptR
section
variable {c : Cx} {A : Around} {σ : Led} {env : Env}
/-- a for, whatever it goes over -/
theorem WF_ForG {target iter body orelse pos} {K : Fl → Led → Prop} (hs : ∀ x, foldedSetIterable iter env x = pure x) (hg : ∀ it v, letOwnedTupleGo target it v = pure ())
    (h : W c A (eval iter env) σ fun X σ₁ => W1 VR c A pyIter X σ₁ fun Y σ₂ => ∃ it, IsV Y it ∧ ∃ (I : Nat → Led → Prop) (n : Nat), I n σ₂ ∧ ∀ I' : Nat → Led → Prop, (∀ n σ, I n σ → I' n σ) →
      ∀ n σ, I n σ → WO c A (pyNext it) σ fun r σ₁ => match r with
        | none => WF c A (execs orelse env) σ₁ K
        | some X => W1 (fun _ _ _ _ => True) c A (assign target env) X σ₁ fun (_ : Unit) σ₂ => WF c A (execs body env) σ₂ (Turn I' n K)) :
    WF c A (exec (.For target iter body orelse pos) env) σ K := by
  intro s Q E R q
  show wpAny _ _ (do standAt pos; let x ← foldedSetIterable iter env (← eval iter env); standAt iter.pos; runOwn (.forLoop target (← holding [x] (pyIter x)) body orelse env) env) _ _ _
  refine wpAny_bind (wpAny_standAt (wpAny_bind (h s _ _ R fun x X σ₁ s₁ h₁ hx R₁ x₁ => ?_)))
  rw [hs]
  refine wpAny_bind (wpAny_pure (wpAny_bind (wpAny_standAt (wpAny_bind (wpAny_holding (h₁ s₁ _ _ x R₁ hx fun y Y σ₂ s₂ ⟨it, hit, I, n, h0, turn⟩ hy R₂ x₂ => ?_))))))
  cases hit _ _ _ hy
  have turn := turn I fun _ _ h => h
  refine wpAny_runOwn (codeAny_forLoop_any (fun n s' => ∃ σ', I n σ' ∧ Rep c σ' s' ∧ Ext c.z s.heap s'.heap) (fun n s₃ ⟨σ₃, hI, R₃, x₃⟩ => ?_) n ⟨σ₂, h0, R₂, x₁.trans x₂⟩)
  refine turn n σ₃ hI s₃ _ _ R₃ fun r r' σ₄ s₄ h₄ hr R₄ x₄ => ?_
  cases r with
  | none =>
    cases r' with
    | some _ => cases hr
    | none => exact h₄ s₄ _ _ R₄ fun f F σ₅ s₅ h₅ hf R₅ x₅ => q _ _ _ _ h₅ hf R₅ ((x₃.trans x₄).trans x₅)
  | some v =>
    cases r' with
    | none => cases hr
    | some V =>
      show wpAny _ _ (letOwnedTupleGo target y v) _ _ _
      rw [hg]
      refine wpAny_pure (h₄ s₄ _ _ v R₄ hr fun _ _ σ₅ s₅ h₅ _ R₅ x₅ => h₅ s₅ _ _ R₅ fun f F σ₆ s₆ h₆ hf R₆ x₆ => ?_)
      have x := ((x₃.trans x₄).trans x₅).trans x₆
      cases F with
      | next => cases hf; obtain ⟨m, hm, hI'⟩ := h₆; exact ⟨m, hm, σ₆, hI', R₆, x⟩
      | cont => cases hf; obtain ⟨m, hm, hI'⟩ := h₆; exact ⟨m, hm, σ₆, hI', R₆, x⟩
      | brk => cases hf; exact q _ _ _ _ h₆ rfl R₆ x
      | ret X => obtain ⟨v, rfl, hv⟩ := hf; exact q _ _ _ _ h₆ ⟨v, rfl, hv⟩ R₆ x

/-- an iterator at I that has items yet to give: its entry by the number given -/
structure IterOK (c : Cx) (A : Around) (I : Addr) (cell : Nat → AObj) (items : List V) (need : Led → Prop) : Prop where
  next : ∀ (i : Nat) (σ σ' : Led) (X : V) (K : Option V → Led → Prop), items[i]? = some X → need σ → Upd I (cell i) (cell (i + 1)) σ σ' → K (some X) σ' → WO c A (pyNext (.ref I)) σ K
  done : ∀ (σ σ' : Led) (K : Option V → Led → Prop), need σ → Pick (I, cell items.length) σ σ' → K none σ' → WO c A (pyNext (.ref I)) σ K
  self : ∀ (i : Nat) (σ : Led) (K : V → Led → Prop), (I, cell i) ∈ σ → K (.ref I) σ → W c A (pyIter (.ref I)) σ K
/-- an iterator made anew, ahead of the rest -/
inductive IterJ (c : Cx) (A : Around) (items : List V) (need : Led → Prop) (σ : Led) (X : V) (σ' : Led) : Prop
  | mk (I : Addr) (cell : Nat → AObj) (e1 : X = .ref I) (ok : IterOK c A I cell items need) (e2 : σ' = (I, cell 0) :: σ)
theorem IterOK.next1 {I : Addr} {cell : Nat → AObj} {items : List V} {need : Led → Prop} (ok : IterOK c A I cell items need) {i : Nat} {σ σ' : Led} {X : V} (hX : items[i]? = some X) (hn : need σ) (u : Upd I (cell i) (cell (i + 1)) σ σ') {s : Shared} {Q : Option Value → Shared → Prop} {E : Value → Shared → Prop} (R : Rep c σ s)
    (q : ∀ v s', VR c.z s'.heap v X → Rep c σ' s' → Ext c.z s.heap s'.heap → Q (some v) s') : wpAny (model c.prog c.w) A (pyNext (.ref I)) Q E s :=
  WG.got (fun K h => ok.next i σ σ' X K hX hn u h) R fun v s' hv R' x => by
    cases v with
    | none => cases hv
    | some v => exact q v s' hv R' x
theorem IterOK.done1 {I : Addr} {cell : Nat → AObj} {items : List V} {need : Led → Prop} (ok : IterOK c A I cell items need) {σ σ' : Led} (hn : need σ) (u : Pick (I, cell items.length) σ σ') {s : Shared} {Q : Option Value → Shared → Prop} {E : Value → Shared → Prop} (R : Rep c σ s)
    (q : ∀ s', Rep c σ' s' → Ext c.z s.heap s'.heap → Q none s') : wpAny (model c.prog c.w) A (pyNext (.ref I)) Q E s :=
  WG.got (fun K h => ok.done σ σ' K hn u h) R fun v s' hv R' x => by
    cases v with
    | some _ => cases hv
    | none => exact q s' R' x
theorem IterOK.self1 {I : Addr} {cell : Nat → AObj} {items : List V} {need : Led → Prop} (ok : IterOK c A I cell items need) (i : Nat) {σ : Led} (hm : (I, cell i) ∈ σ) {s : Shared} {Q : Value → Shared → Prop} {E : Value → Shared → Prop} (R : Rep c σ s)
    (q : ∀ s', Rep c σ s' → Ext c.z s.heap s'.heap → Q (.ref I) s') : wpAny (model c.prog c.w) A (pyIter (.ref I)) Q E s :=
  WG.got (fun K h => ok.self i σ K hm h) R fun v s' hv R' x => by cases hv; exact q s' R' x
/-- X gives these items -/
noncomputable def Iters (c : Cx) (A : Around) (X : V) (items : List V) (need : Led → Prop) : Prop :=
  ∀ (σ : Led) (K : V → Led → Prop), need σ → (∀ I cell, IterOK c A I cell items need → K (.ref I) ((I, cell 0) :: σ)) → W1 VR c A pyIter X σ K

noncomputable def ItersAt (c : Cx) (A : Around) (X : V) (items : List V) (need : Led → Prop) (σ : Led) : Prop :=
  ∀ (K : V → Led → Prop), (∀ I cell, IterOK c A I cell items need → K (.ref I) ((I, cell 0) :: σ)) → W1 VR c A pyIter X σ K
theorem Iters.at {X : V} {items : List V} {need : Led → Prop} (h : Iters c A X items need) {σ : Led} (hn : need σ) : ItersAt c A X items need σ := fun K hK => h σ K hn hK
/-- behind a turn: the frame, the iterator's entry, the rest -/
noncomputable def TurnI (env : Env) (p : Addr × AObj) (J : Nat → List (Str × Option V) → Led → Prop) (i : Nat) (K : Fl → Led → Prop) : Fl → Led → Prop
  | .next, σ => ∃ ρ τ, Sub ((env.locals, .ns env.scope ρ) :: p :: τ) σ ∧ J (i + 1) ρ τ
  | .cont, σ => ∃ ρ τ, Sub ((env.locals, .ns env.scope ρ) :: p :: τ) σ ∧ J (i + 1) ρ τ
  | .brk, σ => K .next σ
  | .ret X, σ => K (.ret X) σ
theorem TurnI.next' {p J i K ρ τ} (h : Sub ((env.locals, .ns env.scope ρ) :: p :: τ) σ) (hJ : J (i + 1) ρ τ) : TurnI env p J i K .next σ := ⟨ρ, τ, h, hJ⟩
theorem TurnI.cont' {p J i K ρ τ} (h : Sub ((env.locals, .ns env.scope ρ) :: p :: τ) σ) (hJ : J (i + 1) ρ τ) : TurnI env p J i K .cont σ := ⟨ρ, τ, h, hJ⟩
theorem TurnI.brk' {p J i K} (h : K .next σ) : TurnI env p J i K .brk σ := h
theorem TurnI.ret' {p J i K X} (h : K (.ret X) σ) : TurnI env p J i K (.ret X) σ := h
theorem WG.subp {α β : Type} {R : (Addr → Prop) → Heap → α → β → Prop} {t : Sem α} {σ' : Led} {K : β → Led → Prop} (h : WG R c A t σ' K) (hs : Sub σ' σ) : WG R c A t σ K :=
  fun s Q E r k => h s Q E (r.subp hs) k

inductive ForP (c : Cx) (A : Around) (items : List V) (need : Led → Prop) (env : Env) (J0 : List (Str × Option V) → Led → Prop) (X : V) (σ₁ : Led) : Prop
  | mk (hi : ItersAt c A X items need σ₁) (ρ : List (Str × Option V)) (τ : Led) (e : σ₁ = (env.locals, .ns env.scope ρ) :: τ) (h : J0 ρ τ)
/-- a for over items that are known one by one -/
theorem WF_For {target iter body pos} {K : Fl → Led → Prop} {items : List V} {need : Led → Prop} (J : Nat → List (Str × Option V) → Led → Prop)
    (hneed : ∀ p σ, need σ → need (p :: σ))
    (h : W c A (eval iter env) σ (ForP c A items need env (J 0)))
    (hJ : ∀ i ρ τ, J i ρ τ → need τ)
    (turn : ∀ J' : Nat → List (Str × Option V) → Led → Prop, (∀ i ρ τ, J i ρ τ → J' i ρ τ) → ∀ i X ρ τ p, items[i]? = some X → J i ρ τ → W1 (fun _ _ _ _ => True) c A (assign target env) X ((env.locals, .ns env.scope ρ) :: p :: τ) fun (_ : Unit) σ₂ => WF c A (execs body env) σ₂ (TurnI env p J' i K))
    (fin : ∀ ρ τ, J items.length ρ τ → K .next ((env.locals, .ns env.scope ρ) :: τ))
    (hs : ∀ x, foldedSetIterable iter env x = pure x := by intro _; rfl) (hg : ∀ it v, letOwnedTupleGo target it v = pure () := by intro _ _; rfl) :
    WF c A (exec (.For target iter body [] pos) env) σ K := by
  refine WF_ForG hs hg (h.mono fun X σ₁ ⟨hi, ρ, τ, e, h0⟩ => ?_)
  subst e
  refine hi _ fun I cell ok => ?_
  refine ⟨.ref I, IsV.ref, fun n σ => ∃ i ρ τ, i + n = items.length ∧ Sub ((env.locals, .ns env.scope ρ) :: (I, cell i) :: τ) σ ∧ J i ρ τ, items.length, ⟨0, ρ, τ, by omega, Sub.of_perm (List.Perm.swap ..), h0⟩, ?_⟩
  have turn := turn J fun _ _ _ h => h
  rintro I' mI n σ ⟨i, ρ, τ, hin, hsub, hj⟩
  have hn : need ((env.locals, .ns env.scope ρ) :: (I, cell i) :: τ) := hneed _ _ (hneed _ _ (hJ _ _ _ hj))
  refine WG.subp ?_ hsub
  cases n with
  | zero =>
    have hi : i = items.length := by omega
    subst hi
    refine ok.done _ _ _ hn (.tail .head) ?_
    exact WF_nil (fin _ _ hj)
  | succ n =>
    have hlt : i < items.length := by omega
    refine ok.next i _ _ items[i] _ (List.getElem?_eq_getElem hlt) hn (.tail .head) ?_
    refine fun s Q E x R hx q => turn i items[i] ρ τ (I, cell (i + 1)) (List.getElem?_eq_getElem hlt) hj s Q E x R hx fun a b σ' s' hk hr R' x' => q a b σ' s' ?_ hr R' x'
    refine hk.mono fun f σ₂ hf => ?_
    cases f with
    | next => obtain ⟨ρ', τ', h1, h2⟩ := hf; exact ⟨n, by omega, mI _ _ ⟨i + 1, ρ', τ', by omega, h1, h2⟩⟩
    | cont => obtain ⟨ρ', τ', h1, h2⟩ := hf; exact ⟨n, by omega, mI _ _ ⟨i + 1, ρ', τ', by omega, h1, h2⟩⟩
    | brk => exact hf
    | ret X => exact hf

-- what gives items
theorem one_step {h' : Heap} {I : Addr} {s : Shared} (hs : Heap.SameBut I s.heap h') : ∀ b, b ≠ I → ∀ o, s.heap.get? b = some o → h'.get? b = some o := fun b hb o e => (hs.2 b hb).trans e
theorem ext_same {h' : Heap} {I : Addr} {ao : AObj} {s : Shared} (R : Rep c σ s) (hm : (I, ao) ∈ σ) (hs : Heap.SameBut I s.heap h') : Ext c.z s.heap h' := fun b i n _ e => by
  by_cases hb : b = I
  · subst hb; exact absurd e fun e => (R.ob _ hm).notTup e
  · exact (hs.2 b hb).trans e
theorem Pick.keys {p : Addr × AObj} {b b' : Led} (H : Pick p b b') : p ∈ b := by
  induction H with
  | head => exact .head _
  | tail _ ih => exact .tail _ ih
/-- an entry let go -/
theorem Rep.gone {I : Addr} {ao : AObj} {s : Shared} {σ' : Led} {h' : Heap} (R : Rep c σ s) (hp : Pick (I, ao) σ σ') (hs : Heap.ExtBut I s.heap h') (t : Nat) : Rep c σ' { s with heap := h', toks := t } ∧ Ext c.z s.heap h' := by
  have hx : Ext c.z s.heap h' := fun b i n _ e => by
    by_cases hb : b = I
    · subst hb; exact absurd e fun e => (R.ob _ hp.keys).notTup e
    · exact hs b _ hb e
  have R' := R.perm hp.perm.symm
  have nd := R'.nd
  rw [List.map_cons, List.nodup_cons] at nd
  refine ⟨⟨fun b o e => ?_, R.gens, R.os, fun p hm => ?_, fun a q => ⟨let ⟨o, e⟩ := (R'.zs a q).1; ⟨o, hs _ _ (Ne.symm ((R'.zs a q).2 _ (.head _))) e⟩, fun p hm => (R'.zs a q).2 p (.tail _ hm)⟩, fun p hm => R'.fr p (.tail _ hm), nd.2⟩, hx⟩
  · have : b ≠ I := fun q => R'.fr _ (.head _) o (q ▸ e)
    exact hs b _ this (R.keep b o e)
  · have hne : p.1 ≠ I := fun q => nd.1 (q ▸ List.mem_map_of_mem (f := (·.1)) hm)
    obtain ⟨o₁, e₁⟩ := (R'.ob p (.tail _ hm)).is
    exact (R'.ob p (.tail _ hm)).same ((hs _ _ hne e₁).trans e₁.symm) hx
noncomputable abbrev isIter (T : String) (v : Value) (i : Nat) (o : Obj) : Prop := o.cls = .type T ∧ o.data = .fields #[v, .int (i : Int) 0]
theorem add_iter {T : String} {v : Value} {s : Shared} (R : Rep c σ s) (hT : T ≠ "tuple") : Rep c ((s.heap.objs.size, .any fun _ o => isIter T v 0 o) :: σ) { s with heap := s.heap.push { cls := .type T, data := .fields #[v, .int 0 0] } } :=
  R.add (a := s.heap.objs.size) (h' := s.heap.push { cls := .type T, data := .fields #[v, .int 0 0] }) (Nat.le_refl _) (fun b o e => Heap.get?_push_of_some _ e) (show OR c.z _ _ (.any _) from ⟨_, Heap.get?_push_size _ rfl, (fun e => hT (by injection e)), fun _ _ => ⟨rfl, rfl⟩⟩) s.toks
theorem ne_tuple {T : String} {o : Obj} (hc : o.cls = .type T) (hT : T ≠ "tuple") : o.cls ≠ .type "tuple" := by rw [hc]; exact fun e => hT (by injection e)
/-- bytes -/
theorem It_bytes (hh : A.handled = none) {l : List UInt8} : Iters c A (.bytes l) (l.map fun b => V.int (b.toNat : Int)) (fun _ => True) := by
  intro σ K _ hK s Q E x R ⟨t, hx⟩ q
  subst hx
  refine KBw.pyIter_bytes ?_
  refine q _ _ _ _ (hK s.heap.objs.size (fun i => .any fun _ o => isIter "bytes_iterator" (.bytes l.toArray t) i o) ?_) rfl (add_iter R (by decide)) (Ext.push _)
  constructor
  · intro i σ σ' X K hi _ u hk s Q E R q
    obtain ⟨o, ho, hc, hP⟩ := R.ob _ u.mem
    obtain ⟨hc', hd⟩ := hP _ (Ext.refl _)
    have hi' : ∃ b, l[i]? = some b ∧ X = .int (b.toNat : Int) := by
      rw [List.getElem?_map] at hi
      cases hb : l[i]? with
      | none => rw [hb] at hi; cases hi
      | some b => rw [hb] at hi; cases hi; exact ⟨b, rfl, rfl⟩
    obtain ⟨b, hb, rfl⟩ := hi'
    refine KBw.next_item (b := l.toArray) (c := b) (t := t) ⟨o, ho, hc', hd⟩ (by simpa using hb) fun h' hit hs => ?_
    obtain ⟨o', ho', hc2, hd2⟩ := hit
    obtain ⟨R', x⟩ := R.upd u (one_step hs) (show OR c.z _ _ (.any _) from ⟨o', ho', ne_tuple hc2 (by decide), fun _ _ => ⟨hc2, hd2⟩⟩) (s.toks + 1)
    exact q _ (some _) _ _ hk ⟨_, rfl⟩ R' x
  · intro σ σ' K _ u hk s Q E R q
    obtain ⟨o, ho, hc, hP⟩ := R.ob _ u.keys
    obtain ⟨hc', hd⟩ := hP _ (Ext.refl _)
    refine KBw.next_end (b := l.toArray) (t := t) hh ⟨o, ho, hc', hd⟩ (by simp) fun h' hs => ?_
    obtain ⟨R', x⟩ := R.gone u hs s.toks
    exact q none none _ _ hk trivial R' x
  · intro i σ K hm hk s Q E R q
    obtain ⟨o, ho, hc, hP⟩ := R.ob _ hm
    obtain ⟨hc', hd⟩ := hP _ (Ext.refl _)
    exact KBw.pyIter_self (b := l.toArray) (t := t) (i := i) ⟨o, ho, hc', hd⟩ (q _ _ _ _ hk rfl R (Ext.refl _))
/-- a list that stands meanwhile -/
theorem It_list (hh : A.handled = none) {l : Addr} {xs : List V} : Iters c A (.ref l) xs (fun σ => (l, AObj.list xs) ∈ σ) := by
  intro σ K hl hK s Q E x R hx q
  cases hx
  obtain ⟨vs, n, e, hv⟩ := R.ob _ hl
  refine wpAny_pyIter_list (isList_of e) ?_
  refine q _ _ _ _ (hK s.heap.objs.size (fun i => .any fun _ o => isIter "list_iterator" (.ref l) i o) ?_) rfl (add_iter R (by decide)) (Ext.push _)
  constructor
  · intro i σ σ' X K hi hl u hk s Q E R q
    obtain ⟨o, ho, hc, hP⟩ := R.ob _ u.mem
    obtain ⟨hc', hd⟩ := hP _ (Ext.refl _)
    obtain ⟨vs, n, e, hv⟩ := R.ob _ hl
    obtain ⟨v, hv1, hv2⟩ := hv.get _ _ hi
    refine wpAny_pyNext_list_item (l := l) (i := i) ⟨o, ho, hc', hd⟩ (isList_of e) (by simpa using hv1) fun h' hit hs => ?_
    obtain ⟨o', ho', hc2, hd2⟩ := hit
    obtain ⟨R', x⟩ := R.upd u (one_step hs) (show OR c.z _ _ (.any _) from ⟨o', ho', ne_tuple hc2 (by decide), fun _ _ => ⟨hc2, hd2⟩⟩) s.toks
    exact q _ (some _) _ _ hk (hv2.ext x) R' x
  · intro σ σ' K hl u hk s Q E R q
    obtain ⟨o, ho, hc, hP⟩ := R.ob _ u.keys
    obtain ⟨hc', hd⟩ := hP _ (Ext.refl _)
    obtain ⟨vs, n, e, hv⟩ := R.ob _ hl
    refine wpAny_pyNext_list_end (l := l) (i := xs.length) hh ⟨o, ho, hc', hd⟩ (isList_of e) (by simp [hv.length]) fun h' hs => ?_
    obtain ⟨R', x⟩ := R.gone u hs s.toks
    exact q none none _ _ hk trivial R' x
  · intro i σ K hm hk s Q E R q
    obtain ⟨o, ho, hc, hP⟩ := R.ob _ hm
    obtain ⟨hc', hd⟩ := hP _ (Ext.refl _)
    exact wpAny_pyIter_listiter (l := l) (i := i) ⟨o, ho, hc', hd⟩ (q _ _ _ _ hk rfl R (Ext.refl _))
noncomputable def atV : At → V
  | .int i => .int i
  | .ref a => .ref a
theorem AR.vr {z : Addr → Prop} {h : Heap} {v : Value} {X : At} (e : AR v X) : VR z h v (atV X) := by cases X <;> exact e
/-- a tuple -/
theorem It_tuple (hh : A.handled = none) {l : List At} : Iters c A (.tup l) (l.map atV) (fun _ => True) := by
  intro σ K _ hK s Q E x R ⟨a, vs, n, e1, ⟨ez, e2⟩, e3⟩ q
  subst e1
  refine wpAny_pyIter_tuple (items := vs.toArray) ⟨_, e2, rfl, n, rfl⟩ ?_
  have R' := R.add (a := s.heap.objs.size) (h' := s.heap.push { cls := .type "tuple_iterator", data := .fields #[.ref a, .int 0 0] }) (ao := .any fun h o => isIter "tuple_iterator" (.ref a) 0 o ∧ IsT h a vs.toArray n) (Nat.le_refl _) (fun b o e => Heap.get?_push_of_some _ e)
    (show OR c.z _ _ (.any _) from ⟨_, Heap.get?_push_size _ rfl, ne_tuple rfl (by decide), fun h' y => ⟨⟨rfl, rfl⟩, y _ _ _ ez (Heap.get?_push_of_some _ e2)⟩⟩) s.toks
  refine q _ _ _ _ (hK s.heap.objs.size (fun i => .any fun h o => isIter "tuple_iterator" (.ref a) i o ∧ IsT h a vs.toArray n) ?_) rfl R' (Ext.push _)
  constructor
  · intro i σ σ' X K hi _ u hk s Q E R q
    obtain ⟨o, ho, hc, hP⟩ := R.ob _ u.mem
    obtain ⟨⟨hc', hd⟩, hT⟩ := hP _ (Ext.refl _)
    have hi' : ∃ b, l[i]? = some b ∧ X = atV b := by
      rw [List.getElem?_map] at hi
      cases hb : l[i]? with
      | none => rw [hb] at hi; cases hi
      | some b => rw [hb] at hi; cases hi; exact ⟨b, rfl, rfl⟩
    obtain ⟨b, hb, rfl⟩ := hi'
    obtain ⟨v, hv1, hv2⟩ := e3.get _ _ hb
    refine wpAny_pyNext_tuple_item (t := a) (i := i) (items := vs.toArray) ⟨o, ho, hc', hd⟩ ⟨_, hT, rfl, n, rfl⟩ (by simpa using hv1) fun h' hit hs => ?_
    obtain ⟨o', ho', hc2, hd2⟩ := hit
    have hx := ext_same R u.mem hs
    obtain ⟨R', x⟩ := R.upd u (one_step hs) (show OR c.z _ _ (.any _) from ⟨o', ho', ne_tuple hc2 (by decide), fun h'' y => ⟨⟨hc2, hd2⟩, y _ _ _ ez (hx _ _ _ ez hT)⟩⟩) s.toks
    exact q _ (some _) _ _ hk hv2.vr R' x
  · intro σ σ' K _ u hk s Q E R q
    obtain ⟨o, ho, hc, hP⟩ := R.ob _ u.keys
    obtain ⟨⟨hc', hd⟩, hT⟩ := hP _ (Ext.refl _)
    refine wpAny_pyNext_tuple_end (t := a) (i := (l.map atV).length) (items := vs.toArray) hh ⟨o, ho, hc', hd⟩ ⟨_, hT, rfl, n, rfl⟩ (by simp [e3.length]) fun h' hs => ?_
    obtain ⟨R', x⟩ := R.gone u hs s.toks
    exact q none none _ _ hk trivial R' x
  · intro i σ K hm hk s Q E R q
    obtain ⟨o, ho, hc, hP⟩ := R.ob _ hm
    obtain ⟨⟨hc', hd⟩, _⟩ := hP _ (Ext.refl _)
    exact wpAny_pyIter_tupleiter (t := a) (i := i) ⟨o, ho, hc', hd⟩ (q _ _ _ _ hk rfl R (Ext.refl _))
/-- a text of small signs -/
theorem It_str (hh : A.handled = none) {x : Str} (ha : x.cps.all (· < 128) = true) : Iters c A (.str x) (x.cps.toList.map fun k => V.str ⟨#[k]⟩) (fun _ => True) := by
  intro σ K _ hK s Q E v R ⟨t, hx⟩ q
  subst hx
  refine wpAny_pyIter_ascii ha ?_
  refine q _ _ _ _ (hK s.heap.objs.size (fun i => .any fun _ o => isIter "str_ascii_iterator" (.str x t) i o) ?_) rfl (add_iter R (by decide)) (Ext.push _)
  constructor
  · intro i σ σ' X K hi _ u hk s Q E R q
    obtain ⟨o, ho, hc, hP⟩ := R.ob _ u.mem
    obtain ⟨hc', hd⟩ := hP _ (Ext.refl _)
    have hi' : ∃ b, x.cps.toList[i]? = some b ∧ X = .str ⟨#[b]⟩ := by
      rw [List.getElem?_map] at hi
      cases hb : x.cps.toList[i]? with
      | none => rw [hb] at hi; cases hi
      | some b => rw [hb] at hi; cases hi; exact ⟨b, rfl, rfl⟩
    obtain ⟨b, hb, rfl⟩ := hi'
    refine wpAny_pyNext_ascii_item (x := x) (c := b) (t := t) (i := i) ⟨o, ho, hc', hd⟩ (by simpa using hb) fun h' hit hs => ?_
    obtain ⟨o', ho', hc2, hd2⟩ := hit
    obtain ⟨R', x⟩ := R.upd u (one_step hs) (show OR c.z _ _ (.any _) from ⟨o', ho', ne_tuple hc2 (by decide), fun _ _ => ⟨hc2, hd2⟩⟩) (s.toks + 1)
    exact q _ (some _) _ _ hk ⟨_, rfl⟩ R' x
  · intro σ σ' K _ u hk s Q E R q
    obtain ⟨o, ho, hc, hP⟩ := R.ob _ u.keys
    obtain ⟨hc', hd⟩ := hP _ (Ext.refl _)
    refine wpAny_pyNext_ascii_end (x := x) (t := t) (i := (x.cps.toList.map fun k => V.str ⟨#[k]⟩).length) hh ⟨o, ho, hc', hd⟩ (by simp) fun h' hs => ?_
    obtain ⟨R', x⟩ := R.gone u hs s.toks
    exact q none none _ _ hk trivial R' x
  · intro i σ K hm hk s Q E R q
    obtain ⟨o, ho, hc, hP⟩ := R.ob _ hm
    obtain ⟨hc', hd⟩ := hP _ (Ext.refl _)
    exact wpAny_pyIter_striter_ascii (x := x) (t := t) (i := i) ⟨o, ho, hc', hd⟩ (q _ _ _ _ hk rfl R (Ext.refl _))
end
end Mine
end
section
open PySem PySem.Calls PyProof.Rows PySem.W
set_option maxRecDepth 100000
set_option linter.unusedVariables false
set_option linter.unusedSimpArgs false
namespace Mine
section
variable {c : Cx} {A : Around} {σ : Led} {env : Env} {K : V → Led → Prop}
/-- a value's kind -/
noncomputable def tyOf : V → String
  | .none => "NoneType"
  | .bool _ => "bool"
  | .int _ => "int"
  | .str _ => "str"
  | .bytes _ => "bytes"
  | .tup _ => "tuple"
  | _ => ""
theorem typeIs_of {z : Addr → Prop} {s : Shared} {v : Value} {X : V} (e : VR z s.heap v X) (hX : tyOf X ≠ "") : s.TypeIs v (tyOf X) := by
  cases X with
  | none => cases e; rfl
  | bool _ => cases e; rfl
  | int _ => obtain ⟨_, e⟩ := e; cases e; rfl
  | str _ => obtain ⟨_, e⟩ := e; cases e; rfl
  | bytes _ => obtain ⟨_, e⟩ := e; cases e; rfl
  | tup _ => obtain ⟨a, vs, n, e, h, _⟩ := e; cases e; exact ⟨_, h.2, rfl⟩
  | ref _ => exact absurd rfl hX
  | con _ => exact absurd rfl hX
theorem B_type {X : V} (hX : tyOf X ≠ "") (h : K (.con (.type (tyOf X))) σ) : WN VR c A (fun vs => call (.type "type") vs) [X] σ K := by
  intro s Q E vs R hvs q
  cases hvs with
  | cons h1 r =>
    cases r
    refine call_type_of (typeIs_of h1 hX) ?_ (q _ _ _ _ h rfl R (Ext.refl _))
    cases X <;> first | rfl | exact absurd rfl hX
theorem C_isT {a b : String} (h : K (.bool (a == b)) σ) : W2 VR c A (compareOp .Is) (.con (.type a)) (.con (.type b)) σ K := fun s Q E x y R hx hy q => by
  cases hx; cases hy
  show wpAny _ _ (do return Value.bool (← isSame (.type a) (.type b))) _ _ _
  have : isSame (.type a) (.type b) = pure (a == b) := by
    show pure (Value.type a == Value.type b) = _
    congr 1
    by_cases e : a = b
    · subst e; simp
    · have : (Value.type a == Value.type b) = false := by simpa using e
      rw [this]; simp [e]
  rw [this]
  exact wpAny_bind (wpAny_pure (wpAny_pure (q _ _ _ _ h rfl R (Ext.refl _))))
noncomputable def isNoneV : V → Bool
  | .none => true
  | _ => false
theorem isNone_of {z : Addr → Prop} {h : Heap} {v : Value} {X : V} (e : VR z h v X) (hc : ∀ w, X ≠ .con w) : (v == .none) = isNoneV X := by
  cases X with
  | none => cases e; rfl
  | bool _ => cases e; rfl
  | int _ => obtain ⟨_, e⟩ := e; cases e; rfl
  | str _ => obtain ⟨_, e⟩ := e; cases e; rfl
  | bytes _ => obtain ⟨_, e⟩ := e; cases e; rfl
  | tup _ => obtain ⟨a, vs, n, e, _, _⟩ := e; cases e; rfl
  | ref _ => cases e; rfl
  | con w => exact absurd rfl (hc w)
theorem C_isNone {X : V} (hX : ∀ w, X ≠ .con w) (h : K (.bool (isNoneV X)) σ) : W2 VR c A (compareOp .Is) X .none σ K := fun s Q E x y R hx hy q => by
  cases hy; exact is_none (q _ _ _ _ h (by rw [isNone_of hx hX]; rfl) R (Ext.refl _))
theorem C_isNotNone {X : V} (hX : ∀ w, X ≠ .con w) (h : K (.bool (!isNoneV X)) σ) : W2 VR c A (compareOp .IsNot) X .none σ K := fun s Q E x y R hx hy q => by
  cases hy; exact isNot_none (q _ _ _ _ h (by rw [isNone_of hx hX]; rfl) R (Ext.refl _))
/-- a global that is bytes -/
theorem W_globB {x : Str} {pos : Pos} {l : List UInt8} {t : Tok} {ρ : List (Str × Option V)} (hm : (x, NameKind.globalImplicit) ∈ env.scope.names) (hg : Glo c x (.bytes l.toArray t)) (h : K (.bytes l) ((env.locals, .ns env.scope ρ) :: σ))
    (hk : env.scope.kind = .function := by rfl) (h1 : env.globals = mainGlobals := by rfl) (h2 : env.builtins = builtinsNs := by rfl) (hd : (x == ("__debug__" : Str)) = false := by rfl) :
    W c A (eval (.Name x pos) env) ((env.locals, .ns env.scope ρ) :: σ) K := by
  intro s Q E R q
  refine W_glob (K := fun X σ' => X = .con (.bytes l.toArray t) ∧ σ' = (env.locals, .ns env.scope ρ) :: σ) hm hg ⟨rfl, rfl⟩ hk h1 h2 hd s Q E R fun a b σ' s' ⟨e1, e2⟩ hr R' x => ?_
  subst e1 e2
  exact q _ _ _ _ h ⟨t, hr⟩ R' x
/-- an item of bytes -/
theorem O_bitem {l : List UInt8} {k : Int} {b : UInt8} {value slice : Expr} (hn : l.length ≤ 1000000) (h0 : 0 ≤ k) (hx : l[k.toNat]? = some b) (h : K (.int (b.toNat : Int)) σ)
    (hs : ∀ v u, subscripted slice false (.bytes l.toArray v) (.int k u) = operate [.bytes l.toArray v, .int k u] (getItem (.bytes l.toArray v) (.int k u)) := by intro v u; with_unfolding_all rfl) :
    W2 VR c A (subscriptTail value slice) (.bytes l) (.int k) σ K := fun s Q E x y R ⟨t, hx'⟩ ⟨u, hy⟩ q => by
  subst hx' hy
  have hlt : k.toNat < l.length := by
    rcases Nat.lt_or_ge k.toNat l.length with h | h
    · exact h
    · rw [List.getElem?_eq_none h] at hx; cases hx
  have e : (l.getD k.toNat 0).toNat = b.toNat := by simp [List.getD, hx]
  exact tail_any (typeIs_bytes s _ t) FB.slot_bytes_getitem.lookup (PySem.W.getItem_bytes (by omega) h0 (by omega) (q _ _ _ _ h ⟨_, by rw [e]⟩ (R.toks _) (Ext.refl _))) (hs t u)
theorem B_blen {l : List UInt8} (hn : l.length ≤ 1000000) (h : K (.int l.length) σ) : WN VR c A (fun vs => call (.builtin "len") vs) [.bytes l] σ K := by
  intro s Q E vs R hvs q
  cases hvs with
  | cons h1 r =>
    cases r
    obtain ⟨t, rfl⟩ := h1
    exact PySem.W.len_bytes (by simp; omega) (q _ _ _ _ h ⟨s.toks + 1, by simp⟩ (R.toks _) (Ext.refl _))
theorem C_bne {a b : List UInt8} (h : K (.bool (a != b)) σ) : W2 VR c A (compareOp .NotEq) (.bytes a) (.bytes b) σ K := fun s Q E x y R ⟨_, hx⟩ ⟨_, hy⟩ q => by
  subst hx hy; exact PySem.W.ne_bytes (q _ _ _ _ h (by simp [VR]) R (Ext.refl _))
theorem intsAre_of {z : Addr → Prop} {h : Heap} {vs : List Value} {ns : List Int} (H : All2 (VR z h) vs (ns.map V.int)) : IntsAre vs ns := by
  induction ns generalizing vs with
  | nil => cases H; exact .nil
  | cons n ns ih =>
    cases H with
    | cons e r => obtain ⟨t, e⟩ := e; subst e; exact IntsAre.cons _ _ (ih r)
noncomputable def byteL (ns : List Int) : List UInt8 := ns.map fun n => n.toNat.toUInt8
/-- bytes made of a list of ints -/
theorem B_bytes {l : Addr} {ns : List Int} (hh : A.handled = none) (hl : (l, AObj.list (ns.map V.int)) ∈ σ) (hr : ∀ n ∈ ns, 0 ≤ n ∧ n < 256) (hn : ns.length ≤ 1000000) (h : K (.bytes (byteL ns)) σ) : WN VR c A (fun vs => call (.type "bytes") vs) [.ref l] σ K := by
  intro s Q E vs R hvs q
  cases hvs with
  | cons h1 r =>
    cases r; cases h1
    obtain ⟨ws, n, e, hw⟩ := R.ob _ hl
    refine call_bytes_ints (isList_of e) (intsAre_of hw) hr (by have := hw.length; simp at this; rw [this]; exact len_fit hn) hh fun h' t k hk => ?_
    exact q _ _ _ _ h ⟨t, rfl⟩ (R.grow hk k) fun _ _ _ _ e => hk _ _ e
end
end Mine
end
section
open PySem PySem.Calls PyProof.Rows PySem.W
set_option maxRecDepth 100000
namespace Mine
noncomputable def b64s : List UInt8 := [65, 66, 67, 68, 69, 70, 71, 72, 73, 74, 75, 76, 77, 78, 79, 80, 81, 82, 83, 84, 85, 86, 87, 88, 89, 90, 97, 98, 99, 100, 101, 102, 103, 104, 105, 106, 107, 108, 109, 110, 111, 112, 113, 114, 115, 116, 117, 118, 119, 120, 121, 122, 48, 49, 50, 51, 52, 53, 54, 55, 56, 57, 43, 47]
noncomputable def btab : List (Str × Value) := [("len", (.builtin "len")), ("type", (.type "type")), ("str", (.type "str")), ("bytes", (.type "bytes")), ("bytearray", (.type "bytearray")), ("bool", (.type "bool")), ("int", (.type "int")), ("float", (.type "float")), ("complex", (.type "complex")), ("list", (.type "list")), ("tuple", (.type "tuple")), ("dict", (.type "dict")), ("set", (.type "set")), ("frozenset", (.type "frozenset")), ("range", (.type "range")), ("isinstance", (.builtin "isinstance")), ("repr", (.builtin "repr")), ("ord", (.builtin "ord")), ("chr", (.builtin "chr")), ("iter", (.builtin "iter")), ("sum", (.builtin "sum")), ("zip", (.type "zip")), ("sorted", (.builtin "sorted")), ("min", (.builtin "min"))]
noncomputable def otab : List (Str × Value) := [("heappush", (.ref 28)), ("heappop", (.ref 35)), ("_siftdown", (.ref 42)), ("_siftup", (.ref 49)), ("bytes_types", (.ref 50)), ("_bytes_from_decode_data", (.ref 57)), ("_ascii_buffer", (.ref 77)), ("_buffer", (.ref 84)), ("_truth", (.ref 91)), ("_b64_value", (.ref 98)), ("a2b_base64", (.ref 106)), ("b2a_base64", (.ref 114)), ("b64encode", (.ref 122)), ("b64decode", (.ref 130)), ("_netrclex", (.ref 168)), ("_law_octets", (.ref 177)), ("_law_written", (.ref 182)), ("_law_spelled", (.ref 187)), ("_law_deliveries", (.ref 194)), ("_law_worked", (.ref 201)), ("_law_taken", (.ref 206)), ("_law_told", (.ref 211)), ("_B64", (.bytes b64s.toArray 292))]
theorem btab_boot : btab.map (fun p => bootBuiltins p.1) = btab.map fun p => some p.2 := by kernel_rfl
theorem btab_none (P : Params) : btab.map (fun p => nsIn (KF P) mainGlobals p.1) = btab.map fun _ => some none := by kernel_rfl
theorem btab_name : ∀ p ∈ btab, p.1 ≠ "__name__" := by decide +kernel
theorem otab_own (P : Params) : otab.map (fun p => nsIn (KF P) mainGlobals p.1) = otab.map fun p => some (some p.2) := by kernel_rfl
theorem g_b (c : Cx) {x : Str} {v : Value} (i : Nat) (e : btab[i]? = some (x, v)) : Glo c x v := have h := List.mem_of_getElem? e
  .boot (List.map_inj_left.mp (btab_none c.w.params) _ h) (List.map_inj_left.mp btab_boot _ h) (btab_name _ h)
theorem g_o (c : Cx) {x : Str} {v : Value} (i : Nat) (e : otab[i]? = some (x, v)) : Glo c x v := .own (List.map_inj_left.mp (otab_own c.w.params) _ (List.mem_of_getElem? e))
theorem g_len (c : Cx) : Glo c "len" (.builtin "len") := g_b c 0 rfl
theorem g_type (c : Cx) : Glo c "type" (.type "type") := g_b c 1 rfl
theorem g_str (c : Cx) : Glo c "str" (.type "str") := g_b c 2 rfl
theorem g_bytes (c : Cx) : Glo c "bytes" (.type "bytes") := g_b c 3 rfl
theorem g_bytearray (c : Cx) : Glo c "bytearray" (.type "bytearray") := g_b c 4 rfl
theorem g_bool (c : Cx) : Glo c "bool" (.type "bool") := g_b c 5 rfl
theorem g_int (c : Cx) : Glo c "int" (.type "int") := g_b c 6 rfl
theorem g_float (c : Cx) : Glo c "float" (.type "float") := g_b c 7 rfl
theorem g_complex (c : Cx) : Glo c "complex" (.type "complex") := g_b c 8 rfl
theorem g_list (c : Cx) : Glo c "list" (.type "list") := g_b c 9 rfl
theorem g_tuple (c : Cx) : Glo c "tuple" (.type "tuple") := g_b c 10 rfl
theorem g_dict (c : Cx) : Glo c "dict" (.type "dict") := g_b c 11 rfl
theorem g_set (c : Cx) : Glo c "set" (.type "set") := g_b c 12 rfl
theorem g_frozenset (c : Cx) : Glo c "frozenset" (.type "frozenset") := g_b c 13 rfl
theorem g_range (c : Cx) : Glo c "range" (.type "range") := g_b c 14 rfl
theorem g_isinstance (c : Cx) : Glo c "isinstance" (.builtin "isinstance") := g_b c 15 rfl
theorem g_repr (c : Cx) : Glo c "repr" (.builtin "repr") := g_b c 16 rfl
theorem g_ord (c : Cx) : Glo c "ord" (.builtin "ord") := g_b c 17 rfl
theorem g_chr (c : Cx) : Glo c "chr" (.builtin "chr") := g_b c 18 rfl
theorem g_iter (c : Cx) : Glo c "iter" (.builtin "iter") := g_b c 19 rfl
theorem g_sum (c : Cx) : Glo c "sum" (.builtin "sum") := g_b c 20 rfl
theorem g_zip (c : Cx) : Glo c "zip" (.type "zip") := g_b c 21 rfl
theorem g_sorted (c : Cx) : Glo c "sorted" (.builtin "sorted") := g_b c 22 rfl
theorem g_min (c : Cx) : Glo c "min" (.builtin "min") := g_b c 23 rfl
theorem g_heappush (c : Cx) : Glo c "heappush" (.ref 28) := g_o c 0 rfl
theorem g_heappop (c : Cx) : Glo c "heappop" (.ref 35) := g_o c 1 rfl
theorem g_siftdown (c : Cx) : Glo c "_siftdown" (.ref 42) := g_o c 2 rfl
theorem g_siftup (c : Cx) : Glo c "_siftup" (.ref 49) := g_o c 3 rfl
theorem g_bytes_types (c : Cx) : Glo c "bytes_types" (.ref 50) := g_o c 4 rfl
theorem g_bytes_from_decode_data (c : Cx) : Glo c "_bytes_from_decode_data" (.ref 57) := g_o c 5 rfl
theorem g_ascii_buffer (c : Cx) : Glo c "_ascii_buffer" (.ref 77) := g_o c 6 rfl
theorem g_buffer (c : Cx) : Glo c "_buffer" (.ref 84) := g_o c 7 rfl
theorem g_truth (c : Cx) : Glo c "_truth" (.ref 91) := g_o c 8 rfl
theorem g_b64_value (c : Cx) : Glo c "_b64_value" (.ref 98) := g_o c 9 rfl
theorem g_a2b_base64 (c : Cx) : Glo c "a2b_base64" (.ref 106) := g_o c 10 rfl
theorem g_b2a_base64 (c : Cx) : Glo c "b2a_base64" (.ref 114) := g_o c 11 rfl
theorem g_b64encode (c : Cx) : Glo c "b64encode" (.ref 122) := g_o c 12 rfl
theorem g_b64decode (c : Cx) : Glo c "b64decode" (.ref 130) := g_o c 13 rfl
theorem g_netrclex (c : Cx) : Glo c "_netrclex" (.ref 168) := g_o c 14 rfl
theorem g_law_octets (c : Cx) : Glo c "_law_octets" (.ref 177) := g_o c 15 rfl
theorem g_law_written (c : Cx) : Glo c "_law_written" (.ref 182) := g_o c 16 rfl
theorem g_law_spelled (c : Cx) : Glo c "_law_spelled" (.ref 187) := g_o c 17 rfl
theorem g_law_deliveries (c : Cx) : Glo c "_law_deliveries" (.ref 194) := g_o c 18 rfl
theorem g_law_worked (c : Cx) : Glo c "_law_worked" (.ref 201) := g_o c 19 rfl
theorem g_law_taken (c : Cx) : Glo c "_law_taken" (.ref 206) := g_o c 20 rfl
theorem g_law_told (c : Cx) : Glo c "_law_told" (.ref 211) := g_o c 21 rfl
theorem g_B64 (c : Cx) : Glo c "_B64" (.bytes b64s.toArray 292) := g_o c 22 rfl
theorem k_fn (c : Cx) {a : Addr} {o : Obj} {fd : FuncData} (h : (KF c.w.params).lookup a = some o) (hd : o.data = .func fd) (σ : Led) : Keeps c (.ref a) σ := Keeps.func (c.inK a o h) hd
end Mine
end
section
open PySem PySem.Calls PyProof.Rows PySem.W
set_option maxRecDepth 100000
set_option linter.unusedVariables false
set_option linter.unusedSimpArgs false
namespace Mine
namespace BT
open Builtin
theorem kind_mt : builtinKind "bytes.maketrans" = some .staticMethod := by decide +kernel
theorem split_mt : splitId "bytes.maketrans" = some ("bytes", "maketrans") := by decide +kernel
theorem plain_mt : plainId "bytes.maketrans" = true := by decide +kernel
theorem entry_mt : entryFor table "bytes.maketrans" = some Builtin.«bytes.maketrans» := entryFor_of_tree (by kernel_rfl)
theorem args_mt (a b : Value) : argsOk "bytes.maketrans" ⟨[a, b], []⟩ := by
  unfold argsOk; rw [signature?_of (id := "bytes.maketrans") (n := ['s','n','a','r','t','e','k','a','m']) (o := ['s', 'e', 't', 'y', 'b']) (by kernel_rfl) FB.owner_bytes]; kernel_rfl
theorem call_mt {prog : Program} {w : World} {A : Around} {E : Value → Shared → Prop} {s : Shared} {a b : Value} {S : PySem.Spec} {Q : Value → Shared → Prop} (g : Meets (Builtin.«bytes.maketrans» ⟨[a, b], []⟩) S) (h : S A (wants Q E) s) : wpAny (model prog w) A (call (.builtin "bytes.maketrans") [a, b]) Q E s := by
  refine wpAny_call (codeAny_call_builtin plain_mt entry_mt ?_)
  have hfin := g prog w A (wants Q E) s h
  simp only [checkBuiltinCall, kind_mt, split_mt]
  have ok := args_mt a b
  cases hsig : Manifest.signature? "bytes.maketrans" with
  | none => exact wpAny_pure hfin
  | some sig =>
    simp only [argsOk, hsig] at ok
    have h2 : Bind.checkArgs "bytes.maketrans" sig ⟨[a, b], []⟩ = pure () := ok
    show wpAny _ _ (Bind.checkArgs "bytes.maketrans" sig ⟨[a, b], []⟩) _ _ s
    rw [h2]; exact wpAny_pure hfin
theorem slot_tr : Slot "bytes" "translate" "bytes.translate" :=
  .of (owner := "bytes") (n := "translate") (by rw [typeLookup_type, builtinLookup_eq_fast]; kernel_rfl) (by decide +kernel) (by decide +kernel) (by decide +kernel)
    (by first | exact .inl (by decide +kernel) | exact .inr (by decide +kernel)) (by rw [isSubtype_type]; kernel_rfl)
theorem type_tr : typeOf (.builtin "bytes.translate") = pure (.type "method_descriptor") := by show builtinType _ = _; rw [builtinType_eq_fast]; kernel_rfl
theorem entry_tr : entryFor table "bytes.translate" = some Builtin.«bytes.translate» := entryFor_of_tree (by kernel_rfl)
theorem args_tr (a b : Value) : argsOk "bytes.translate" ⟨[a, b], []⟩ := by
  unfold argsOk; rw [signature?_of (id := "bytes.translate") (n := ['e','t','a','l','s','n','a','r','t']) (o := ['s', 'e', 't', 'y', 'b']) (by kernel_rfl) FB.owner_bytes]; kernel_rfl
/-- the table of 256 -/
noncomputable def mtab (f t : List UInt8) : Array UInt8 := (f.zip t).foldl (fun t (p : UInt8 × UInt8) => t.setIfInBounds p.1.toNat p.2) ((Array.range 256).map (·.toUInt8))
theorem fold_size : ∀ (l : List (UInt8 × UInt8)) (a : Array UInt8), (l.foldl (fun t (p : UInt8 × UInt8) => t.setIfInBounds p.1.toNat p.2) a).size = a.size
  | [], _ => rfl
  | p :: l, a => by rw [List.foldl_cons, fold_size l]; simp
theorem mtab_size (f t : List UInt8) : (mtab f t).size = 256 := by unfold mtab; rw [fold_size]; simp
theorem meets_mt {f t : List UInt8} {t1 t2 : Tok} (h2 : f.length = t.length) :
    Meets («bytes.maketrans» ⟨[.bytes f.toArray t1, .bytes t.toArray t2], []⟩) (fun _ R s => R (.ok (.ret (.bytes (mtab f t) s.toks))) { s with toks := s.toks + 1 }) := by
  refine .of_wp fun prog w A R s h => ?_
  show wpAny _ _ (Bytes.bytesLike _ (.bytes f.toArray t1) >>= fun r => _) _ _ s
  refine wpAny_bind (wpAny_of_eq KBd.like_eq ?_)
  show wpAny _ _ (Bytes.bytesLike _ (.bytes t.toArray t2) >>= fun r => _) _ _ s
  refine wpAny_bind (wpAny_of_eq KBd.like_eq ?_)
  refine KFB.if_not (by simp [h2]) ?_
  refine wpAny_bind (wpAny_mkBytes ?_ (by rw [fold_size, sizeLine_eq]; simp))
  refine wpAny_pure ⟨_, rfl, ?_⟩
  exact h
noncomputable def trans (m : Array UInt8) (b : List UInt8) : List UInt8 := b.map fun c => m.getD c.toNat c
theorem meets_tr {b : List UInt8} {m : Array UInt8} {t1 t2 : Tok} (hm : m.size = 256) (hb : b.length ≤ 1000000) :
    Meets («bytes.translate» ⟨[.bytes b.toArray t1, .bytes m t2], []⟩) (fun _ R s => ∀ t k, R (.ok (.ret (.bytes (trans m b).toArray t))) { s with toks := k }) := by
  refine .of_wp fun prog w A R s h => ?_
  show wpAny _ _ (Bytes.bytesLike _ (.bytes m t2) >>= fun r => _) _ _ s
  refine wpAny_bind (wpAny_of_eq KBd.like_eq ?_)
  refine KFB.if_not (by simp [hm]) ?_
  refine wpAny_bind (wpAny_pure ?_)
  refine wpAny_bind (wpAny_pure ?_)
  refine wpAny_bind (wpAny_of_eq (a := b.toArray) rfl ?_)
  have e : ((b.toArray.filter fun x => !(#[] : Array UInt8).contains x).map fun c => m.getD c.toNat c) = (trans m b).toArray := by
    simp [trans, List.filter_eq_self.mpr]
  show wpAny _ _ (if (((b.toArray.filter fun x => !(#[] : Array UInt8).contains x).map fun c => m.getD c.toNat c) == b.toArray) = true then _ else _) _ _ s
  by_cases q : (trans m b).toArray = b.toArray
  · refine KFB.if_so (by rw [e]; simpa using q) ?_
    rw [q] at h
    show wpAny _ _ (rule _ >>= fun _ => _) _ _ s
    exact wpAny_bind (wpAny_rule (wpAny_bind (wpAny_of_eq (a := .bytes b.toArray t1) rfl (wpAny_pure ⟨_, rfl, h _ _⟩))))
  · refine KFB.if_not (by rw [e]; simpa using q) ?_
    rw [e]
    show wpAny _ _ (mkBytes _ >>= fun _ => _) _ _ s
    exact wpAny_bind (wpAny_mkBytes (wpAny_pure ⟨_, rfl, h _ _⟩) (by simp [trans]; exact len_fit hb))
end BT
section
variable {c : Cx} {A : Around} {σ : Led} {env : Env} {K : V → Led → Prop}
theorem B_maketrans {f t : List UInt8} (h2 : f.length = t.length) (h : K (.bytes (BT.mtab f t).toList) σ) : WN VR c A (fun vs => call (.builtin "bytes.maketrans") vs) [.bytes f, .bytes t] σ K := by
  intro s Q E vs R hvs q
  cases hvs with
  | cons h1 r =>
    cases r with
    | cons h2' r =>
      cases r; obtain ⟨t1, rfl⟩ := h1; obtain ⟨t2, rfl⟩ := h2'
      exact BT.call_mt (BT.meets_mt h2) (q _ _ _ _ h ⟨_, rfl⟩ (R.toks _) (Ext.refl _))
theorem B_translate {b m : List UInt8} (hm : m.length = 256) (hb : b.length ≤ 1000000) (h : K (.bytes (BT.trans m.toArray b)) σ) : WN VR c A (fun vs => call (.builtin "bytes.translate") vs) [.bytes b, .bytes m] σ K := by
  intro s Q E vs R hvs q
  cases hvs with
  | cons h1 r =>
    cases r with
    | cons h2' r =>
      cases r; obtain ⟨t1, rfl⟩ := h1; obtain ⟨t2, rfl⟩ := h2'
      exact call_meets BT.slot_tr (typeIs_bytes _ _ _) BT.entry_tr (BT.args_tr _ _) (BT.meets_tr (by simpa using hm) hb) (fun t k => q _ _ _ _ h ⟨_, rfl⟩ (R.toks _) (Ext.refl _))
theorem Meth.bytes {l : List UInt8} {name : Str} {id : String} (slot : Slot "bytes" name id) (hty : typeOf (.builtin id) = pure (.type "method_descriptor")) : Meth c (.bytes l) name id σ := fun A s E Q pl v R hv h => by
  obtain ⟨t, rfl⟩ := hv
  with_reducible refine KBd.method_of (.bytes l.toArray t) ?_ slot hty ?_ ?_
  · exact typeIs_bytes _ _ _
  · exact KBd.noRef
  · exact h
/-- bytes.maketrans, looked up -/
theorem getm_mt {prog : Program} {w : World} {s : Shared} {E : Value → Shared → Prop} {pl : Sem Bool} {Q : Value × List Value → Shared → Prop}
    (h : Q (.builtin "bytes.maketrans", []) { s with toks := s.toks + 1 }) :
    wpAny (model prog w) A (getMethod (.type "bytes") (PySem.Str.ofString "maketrans") pl) Q E s := by
  have X : Frag.In [] s.heap := fun a o e => nomatch e
  have hstub : opaqueClassAbove (.type "bytes") = pure none := by unfold opaqueClassAbove; dsimp only; rw [show Manifest.isStub "bytes" = false by decide +kernel]; rfl
  have ht : typeOf (.type "bytes") = pure (.type "type") := by first | rfl | kernel_rfl
  have L0 : Looks (model prog w) s.heap (typeOf (.type "bytes")) (.type "type") := Looks.of_pure ht
  have hg : findIn [] (.type "type") "__getattribute__" = some (some (.builtin "type.__getattribute__")) := type_tga
  unfold getMethod specialOf
  refine wpAny_bind (wpAny_bind (L0.here ((looks_findIn X hg).here ?_)))
  dsimp only
  rw [if_pos canon_tga]
  refine wpAny_bind (wpAny_mono (Q := fun v => Q (v, [])) (E := E) ?_ (fun _ _ z => wpAny_pure z) fun _ _ z => z)
  have LO : Looks (model prog w) s.heap (opaqueClassAbove (.type "bytes")) none := Looks.of_pure hstub
  refine cls_open X LO L0 hg (looks_hook X (r := none) (by rfl)) (by show subIn [] _ _ = _; rfl) (r := .val (.builtin "bytes.maketrans")) (by kernel_rfl) ?_
  refine wpAny_pure (handed_on (by decide +kernel) h)
theorem W_maketrans {pos' apos pos : Pos} {args : List Expr} {pl : Sem Bool} {ρ : List (Str × Option V)} (hm : (("bytes" : Str), NameKind.globalImplicit) ∈ env.scope.names)
    (h : WL c A (spliced (backTo pos (starEach args env))) ((env.locals, .ns env.scope ρ) :: σ) fun Xs σ₂ => WN VR c A (fun vs => call (.builtin "bytes.maketrans") vs) Xs σ₂ K)
    (hk : env.scope.kind = .function := by rfl) (h1 : env.globals = mainGlobals := by rfl) (h2 : env.builtins = builtinsNs := by rfl)
    (hp : (backTo pos (starEach args env)).any (·.1) = false := by rfl)
    (he : eval (.Call (.Attribute (.Name (PySem.Str.ofString "bytes") pos') (PySem.Str.ofString "maketrans") apos) args [] pos) env = (do
      let ov ← eval (.Name (PySem.Str.ofString "bytes") pos') env
      standAt apos.atName
      let (f, first) ← holding [ov] (getMethod ov (PySem.Str.ofString "maketrans") pl)
      callWith pos f first (backTo pos (starEach args env)) []) := by rfl) : W c A (eval (.Call (.Attribute (.Name (PySem.Str.ofString "bytes") pos') (PySem.Str.ofString "maketrans") apos) args [] pos) env) ((env.locals, .ns env.scope ρ) :: σ) K :=
  fun s Q E R q => MethodCall_ (W_glob (K := fun F σ' => F = .con (.type "bytes") ∧ σ' = (env.locals, .ns env.scope ρ) :: σ) hm (g_bytes c) ⟨rfl, rfl⟩ hk h1 h2 rfl s _ _ R fun ov O σ₁ s₁ ⟨e1, e2⟩ ho R₁ x₁ => by
    subst e1 e2
    cases ho
    with_reducible refine getm_mt ?_
    exact (W_callWith (first := []) (h.mono fun _ _ z => ⟨Keeps.builtin, z⟩) hp _ _ _ [] (R₁.toks _) .nil fun a b σ' s' hk hr R' x' => q a b σ' s' hk hr R' (x₁.trans x'))) he
-- displays
inductive ListP (env : Env) (K : V → Led → Prop) (Xs : List V) (σ₁ : Led) : Prop
  | mk (hn : Xs.length ≤ 1000000) (ρ : List (Str × Option V)) (τ : Led) (e : σ₁ = (env.locals, .ns env.scope ρ) :: τ) (h : ∀ a, K (.ref a) ((env.locals, .ns env.scope ρ) :: (a, .list Xs) :: τ))
theorem W_List {elts : List Expr} {pos : Pos} (h : WL c A (spliced (backTo pos (starEach elts env))) σ (ListP env K)) : W c A (eval (.List elts pos) env) σ K :=
  fun s Q E R q => wpAny_List (h s _ _ R fun vs Xs σ₁ s₁ ⟨hn, ρ, τ, e, hk⟩ hvs R₁ x₁ => by
    subst e
    have hl := hvs.length
    refine ⟨by rw [hl]; exact len_fit hn, ?_⟩
    have R' := R₁.add (a := s₁.heap.objs.size) (ao := .list Xs) (h' := s₁.heap.push { cls := .type "list", data := .seq vs.toArray }) (Nat.le_refl _) (fun b o e => Heap.get?_push_of_some _ e) (show OR c.z _ _ (.list _) from ⟨vs, _, Heap.get?_push_size _ rfl, hvs.imp fun _ _ => VR.ext (Ext.push _)⟩) s₁.toks
    exact q _ _ _ _ (hk s₁.heap.objs.size) rfl (R'.perm (List.Perm.swap ..)) (x₁.trans (Ext.push _)))
noncomputable def atOf : V → Option At
  | .int i => some (.int i)
  | .ref a => some (.ref a)
  | _ => none
theorem ats_of {z : Addr → Prop} {h : Heap} {vs : List Value} {l : List At} (H : All2 (VR z h) vs (l.map atV)) : All2 AR vs l := by
  induction l generalizing vs with
  | nil => cases H; exact .nil
  | cons a l ih =>
    cases H with
    | cons e r => cases a <;> exact .cons e (ih r)
inductive TupP (K : V → Led → Prop) (Xs : List V) (σ₁ : Led) : Prop
  | mk (l : List At) (e : Xs = l.map atV) (hn : l.length ≤ 1000000) (h : K (.tup l) σ₁)
theorem W_Tuple {elts : List Expr} {k : Nat} {pos : Pos} (h : WL c A (spliced (backTo pos (starEach elts env))) σ (TupP K)) : W c A (eval (.Tuple elts k pos) env) σ K :=
  fun s Q E R q => wpAny_Tuple (h s _ _ R fun vs Xs σ₁ s₁ ⟨l, e, hn, hk⟩ hvs R₁ x₁ => by
    subst e
    have hl := hvs.length
    refine ⟨by rw [hl, List.length_map]; exact len_fit hn, ?_⟩
    refine q _ _ _ _ hk ⟨_, vs, _, rfl, ⟨R₁.newz, Heap.get?_push_size _ rfl⟩, ats_of hvs⟩ (R₁.grow (h' := s₁.heap.push { cls := .type "tuple", data := .seq vs.toArray }) (fun b o e => Heap.get?_push_of_some _ e) s₁.toks) (x₁.trans (Ext.push _)))
theorem WF_Assert {test : Expr} {msg : Option Expr} {pos : Pos} {K : Fl → Led → Prop} (h : WB c A (isTrue test env (eval test env)) σ fun z σ₁ => z = true ∧ K .next σ₁) : WF c A (exec (.Assert test msg pos) env) σ K :=
  fun s Q E R q => wpAny_Assert_holds (h s _ _ R fun z z' σ₁ s₁ ⟨h1, h2⟩ hz R₁ x₁ => ⟨hz.trans h1, q _ _ _ _ h2 rfl R₁ x₁⟩)
/-- a < b < c -/
theorem WB_Chain {l op₁ op₂ r₁ r₂ pos whole} {K : Bool → Led → Prop} (h : W c A (eval l env) σ fun X σ₁ => W c A (eval r₁ env) σ₁ fun Y σ₂ => W2 VR c A (compareOp op₁) X Y σ₂ fun Z σ₃ => W1 (fun _ _ a b => a = b) c A truthy Z σ₃ fun z σ₄ =>
      If z (W c A (eval r₂ env) σ₄ fun Y' σ₅ => W2 VR c A (compareOp op₂) Y Y' σ₅ fun Z' σ₆ => W1 (fun _ _ a b => a = b) c A truthy Z' σ₆ K) (K false σ₄))
    (hm : lastMarks [op₁, op₂] [r₁, r₂] = false := by with_unfolding_all rfl) : WB c A (isTrue (.Compare l [op₁, op₂] [r₁, r₂] pos) env whole) σ K := by
  intro s Q E R q
  refine isTrue_chain (h s _ _ R fun x X σ₁ s₁ h₁ hx R₁ x₁ => test_link (h₁ s₁ _ _ R₁ fun y Y σ₂ s₂ h₂ hy R₂ x₂ => h₂ s₂ _ _ x y R₂ (hx.ext x₂) hy fun z Z σ₃ s₃ h₃ hz R₃ x₃ => h₃ s₃ _ _ z R₃ hz fun t t' σ₄ s₄ h₄ ht R₄ x₄ => ?_)) hm
  subst ht
  cases t with
  | false => exact q _ _ _ _ (h₄.no rfl) rfl R₄ (((x₁.trans x₂).trans x₃).trans x₄)
  | true =>
    refine test_last (h₄.yes rfl s₄ _ _ R₄ fun y' Y' σ₅ s₅ h₅ hy' R₅ x₅ => h₅ s₅ _ _ y y' R₅ (((hy.ext x₃).ext x₄).ext x₅) hy' fun z' Z' σ₆ s₆ h₆ hz' R₆ x₆ => h₆ s₆ _ _ z' R₆ hz' fun a b σ' s' hk hr R' x' => q _ _ _ _ hk hr R' ?_)
    exact (((((x₁.trans x₂).trans x₃).trans x₄).trans x₅).trans x₆).trans x'
theorem T_none {K : Bool → Led → Prop} (h : K false σ) : W1 (fun _ _ a b => a = b) c A truthy .none σ K := fun s Q E x R hx q => by
  cases hx; exact wpAny_pure (q _ _ _ _ h rfl R (Ext.refl _))
theorem T_int {i : Int} {K : Bool → Led → Prop} (h : K (i != 0) σ) : W1 (fun _ _ a b => a = b) c A truthy (.int i) σ K := fun s Q E x R ⟨t, hx⟩ q => by
  subst hx; exact truthy_int (q _ _ _ _ h rfl R (Ext.refl _))
/-- isinstance of bytes -/
theorem B_isiB {l : List UInt8} {T : String} {b : Bool} (e : kitOne [] (.type "bytes") (.type T) = some b) (h : K (.bool b) σ) : WN VR c A (fun vs => call (.builtin "isinstance") vs) [.bytes l, .con (.type T)] σ K := by
  intro s Q E vs R hvs q
  cases hvs with
  | cons h1 r =>
    cases r with
    | cons h2' r =>
      cases r; obtain ⟨t1, rfl⟩ := h1; cases h2'
      exact kia_one (K := []) kitx_bytes (fun a o e => nomatch e) trivial e (by intro e; cases e) fun tk => q _ _ _ _ h rfl (R.toks _) (Ext.refl _)
theorem B_isiBT {l : List UInt8} {tp : Addr} {its : List Value} {n : Nat} {dd : Option Addr} {sl : Array (Option Value)} {b : Bool} (ho : c.kp tp ⟨.type "tuple", dd, .seq its.toArray n, sl⟩) (e : kitAny [] (.type "bytes") its = some b) (h : K (.bool b) σ) : WN VR c A (fun vs => call (.builtin "isinstance") vs) [.bytes l, .con (.ref tp)] σ K := by
  intro s Q E vs R hvs q
  cases hvs with
  | cons h1 r =>
    cases r with
    | cons h2' r =>
      cases r; obtain ⟨t1, rfl⟩ := h1; cases h2'
      exact kia_tup (K := []) kitx_bytes (fun a o e => nomatch e) trivial (R.keep _ _ ho) e (by intro e; cases e) fun tk => q _ _ _ _ h rfl (R.toks _) (Ext.refl _)
theorem W_assignName {x : Str} {pos : Pos} {X : V} {K : Unit → Led → Prop} (h : W1 (fun _ _ _ _ => True) c A (storeName env x) X σ K) : W1 (fun _ _ _ _ => True) c A (assign (.Name x pos) env) X σ K :=
  fun s Q E v R hv q => wpAny_assign_Name (h s Q E v R hv q)
end
end Mine
end
section
open PySem PySem.Calls PyProof.Rows PySem.W
set_option maxRecDepth 100000
set_option linter.unusedVariables false
set_option linter.unusedSimpArgs false
namespace Mine
section
variable {c : Cx} {A : Around} {σ : Led} {env : Env} {K : V → Led → Prop}
-- cells
theorem W_cell {x : Str} {pos : Pos} {X : V} {C : Addr} (hC : (C, AObj.cell (some X)) ∈ σ) (h : K X σ) (hl : env.kindOf x = some .cell := by rfl) (hc : env.cells.lookup x = some C := by rfl)
    (hk : env.scope.kind = .function := by rfl) (hd : (x == ("__debug__" : Str)) = false := by rfl) : W c A (eval (.Name x pos) env) σ K := by
  intro s Q E R q
  obtain ⟨v, hv, hV⟩ := R.ob _ hC
  exact wpAny_Name (wpAny_loadName_cell hk hl hc hv (q _ _ _ _ h hV R (Ext.refl _))) hd
theorem W_free {x : Str} {pos : Pos} {X : V} {C : Addr} (hC : (C, AObj.cell (some X)) ∈ σ) (h : K X σ) (hl : env.kindOf x = some .free := by rfl) (hc : env.cells.lookup x = some C := by rfl)
    (hk : env.scope.kind = .function := by rfl) (hd : (x == ("__debug__" : Str)) = false := by rfl) (hn : (x == ("__classdict__" : Str)) = false := by rfl) : W c A (eval (.Name x pos) env) σ K := by
  intro s Q E R q
  obtain ⟨v, hv, hV⟩ := R.ob _ hC
  exact wpAny_Name (wpAny_loadName_free hk hl hc hv (q _ _ _ _ h hV R (Ext.refl _)) hn) hd
theorem OR.cell {z : Addr → Prop} {h : Heap} {C : Addr} {o : Option V} (H : OR z h C (.cell o)) : ∃ v, h.IsCell C v := by
  cases o with
  | none => exact ⟨_, H⟩
  | some V => obtain ⟨v, h1, _⟩ := H; exact ⟨_, h1⟩
theorem W_storeC {x : Str} {X : V} {C : Addr} {o : Option V} {σ' : Led} {K : Unit → Led → Prop} (u : Upd C (.cell o) (.cell (some X)) σ σ') (h : K () σ') (hl : env.kindOf x = some .cell := by rfl) (hc : env.cells.lookup x = some C := by rfl)
    (hk : env.scope.kind = .function := by rfl) : W1 (fun _ _ _ _ => True) c A (storeName env x) X σ K := by
  intro s Q E v R hV q
  obtain ⟨v₀, hv⟩ := (R.ob _ u.mem).cell
  refine wpAny_storeName_cell hk hl hc hv fun h' hc' hs => ?_
  have hx : Ext c.z s.heap h' := fun b i n _ e => by
    by_cases hb : b = C
    · subst hb; exact absurd e fun e => (R.ob _ u.mem).notTup e
    · exact (hs.2 b hb).trans e
  obtain ⟨R', _⟩ := R.upd u (h' := h') (fun b hb o e => (hs.2 b hb).trans e) (show OR c.z h' C (.cell (some X)) from ⟨v, hc', hV.ext hx⟩) s.toks
  exact q _ () _ _ h trivial R' hx

-- a def with cells entered
theorem cellsFrom_has {x : Str} : ∀ {names : List (Str × NameKind)} {n : Nat} {acc : List (Str × Addr)}, ((acc.lookup x).isSome = true ∨ (x, NameKind.cell) ∈ names) → ((cellsFrom n names acc).lookup x).isSome = true
  | [], n, acc, h => by rcases h with h | h; exact h; cases h
  | (y, k) :: r, n, acc, h => by
    unfold cellsFrom
    by_cases hk : k = .cell
    · subst hk
      simp only [beq_self_eq_true, if_true]
      refine cellsFrom_has ?_
      by_cases e : x = y
      · subst e; left; simp
      · rcases h with h | h
        · left; rw [List.lookup_cons, beq_eq_false_iff_ne.mpr e]; exact h
        · rcases List.mem_cons.mp h with h | h
          · cases h; exact absurd rfl e
          · exact .inr h
    · have : (k == NameKind.cell) = false := by simpa using hk
      simp only [this, Bool.false_eq_true, if_false]
      refine cellsFrom_has ?_
      rcases h with h | h
      · exact .inl h
      · rcases List.mem_cons.mp h with h | h
        · cases h; exact absurd rfl hk
        · exact .inr h
theorem bindL_get {k : Str → Option NameKind} {x : Str} (hx : k x = some .local) : ∀ {l : List (Str × Value)} {m : Str → Option Value}, (l.map (·.1)).Nodup → bindL k l m x = (l.lookup x).or (m x)
  | [], m, _ => rfl
  | (y, v) :: r, m, nd => by
    rw [List.map_cons, List.nodup_cons] at nd
    unfold bindL
    rw [bindL_get hx nd.2]
    by_cases e : x = y
    · subst e
      have : r.lookup x = none := by
        cases q : r.lookup x with
        | none => rfl
        | some u => exact absurd (List.mem_map_of_mem (f := (·.1)) (mem_of_lookup q)) nd.1
      rw [this]; simp [hx]
    · rw [List.lookup_cons, beq_eq_false_iff_ne.mpr e]
      split <;> simp [e]
theorem bindC_get {k : Str → Option NameKind} {x : Str} (hx : k x ≠ some .local) : ∀ {l : List (Str × Value)} {m : Str → Option Value}, (l.map (·.1)).Nodup → bindC k l m x = (l.lookup x).or (m x)
  | [], m, _ => rfl
  | (y, v) :: r, m, nd => by
    rw [List.map_cons, List.nodup_cons] at nd
    unfold bindC
    rw [bindC_get hx nd.2]
    by_cases e : x = y
    · subst e
      have : r.lookup x = none := by
        cases q : r.lookup x with
        | none => rfl
        | some u => exact absurd (List.mem_map_of_mem (f := (·.1)) (mem_of_lookup q)) nd.1
      rw [this]; simp [hx]
    · rw [List.lookup_cons, beq_eq_false_iff_ne.mpr e]
      split <;> simp [e]
theorem zip_lookup {z : Addr → Prop} {h : Heap} : ∀ {names : List Str} {vs : List Value} {Ys : List V}, LR z h vs Ys → ∀ {x : Str},
    (∀ Y, (names.zip Ys).lookup x = some Y → ∃ v, (names.zip vs).lookup x = some v ∧ VR z h v Y) ∧ ((names.zip Ys).lookup x = none → (names.zip vs).lookup x = none)
  | [], _, _, _, x => ⟨fun Y h => by simp at h, fun _ => by simp⟩
  | _ :: _, _, _, .nil, x => ⟨fun Y h => by simp at h, fun _ => by simp⟩
  | y :: names, _, _, .cons (a := v) e r, x => by
    have ih := zip_lookup (names := names) r (x := x)
    simp only [List.zip_cons_cons, List.lookup_cons]
    by_cases q : x = y
    · subst q; simp; exact e
    · simp only [beq_eq_false_iff_ne.mpr q]; exact ih
noncomputable def rhoOf (names : List Str) (Ys : List V) (sc : Scope) : List (Str × Option V) := (locs sc).map fun x => (x, (names.zip Ys).lookup x)
noncomputable def cellsOf (names : List Str) (Ys : List V) (cl : List (Str × Addr)) : Led := cl.map fun p => (p.2, .cell ((names.zip Ys).lookup p.1))
theorem cl_nodup {cs : List (Str × Addr)} (h : cs.Pairwise fun x y => x.2 ≠ y.2) : (cs.map (·.2)).Nodup := by
  unfold List.Nodup; exact List.pairwise_map.mpr h
/-- many new entries -/
theorem Rep.addMany {h' : Heap} {s : Shared} {τ : Led} (R : Rep c σ s) (k : ∀ b o, s.heap.get? b = some o → h'.get? b = some o) (hf : ∀ p ∈ τ, s.heap.objs.size ≤ p.1) (hn : ∀ p ∈ τ, OR c.z h' p.1 p.2) (nd : (τ.map (·.1)).Nodup) (t : Nat) :
    Rep c (τ ++ σ) { s with heap := h', toks := t } := by
  have R' := R.grow k t
  refine ⟨R'.keep, R'.gens, R'.os, fun p hp => ?_, fun b q => ⟨(R'.zs b q).1, fun p hp => ?_⟩, fun p hp => ?_, ?_⟩
  · rcases List.mem_append.mp hp with hp | hp
    · exact hn p hp
    · exact R'.ob p hp
  · rcases List.mem_append.mp hp with hp | hp
    · rintro rfl
      obtain ⟨o, e⟩ := (R.zs _ q).1
      exact absurd (Heap.lt_size e) (Nat.not_lt.mpr (hf p hp))
    · exact (R'.zs b q).2 p hp
  · rcases List.mem_append.mp hp with hp | hp
    · exact (R.fresh (hf p hp)).1
    · exact R'.fr p hp
  · rw [List.map_append, List.nodup_append]
    refine ⟨nd, R.nd, fun a ha b hb e => ?_⟩
    obtain ⟨p, hp, rfl⟩ := List.mem_map.mp ha
    obtain ⟨p', hp', rfl⟩ := List.mem_map.mp hb
    exact (R.fresh (hf p hp)).2 p' hp' e.symm
theorem cells_in {cl : Addr → List (Str × Addr)} {sc : Scope} (cn : List Str) (e : ∀ L, (cl L).map (·.1) = cn) (h : ∀ x ∈ cn, (x, NameKind.cell) ∈ sc.names) : ∀ L, ∀ p ∈ cl L, (p.1, NameKind.cell) ∈ sc.names := fun L p hp => h _ (e L ▸ List.mem_map_of_mem hp)
theorem W_defC {a : Addr} {oc : Value} {od : Option Addr} {osl : Array (Option Value)} {name qual : Str} {params : Arguments} {body : List Stmt} {sc : Scope} {dV kV doc pm ct : Value} {an : Option Addr} {ca : Addr} {names : List Str} {Xs : List V}
    (ρ : List (Str × Option V)) (cl : Addr → List (Str × Addr)) (ce : Addr → Led → Led)
    (ho : c.kp a ⟨oc, od, .func ⟨name, qual, params, .stmts body, sc, mainGlobals, [], dV, kV, doc, pm, an, .ref ca, ct, builtinsNs⟩, osl⟩)
    (hcode : ∃ o vs t, c.kp ca o ∧ o.data = .fields vs ∧ vs[1]? = some (.str qual t))
    (hbind : ∀ s vs, Rep c σ s → LR c.z s.heap vs Xs → BindsTo s ⟨name, qual, params, .stmts body, sc, mainGlobals, [], dV, kV, doc, pm, an, .ref ca, ct, builtinsNs⟩ ⟨vs, []⟩ (names.zip vs)) (hlen : names.length = Xs.length)
    (hρ : rhoOf names Xs sc = ρ) (hcl : ∀ L, cellsFrom (L + 1) sc.names [] = cl L) (hce : ∀ L τ, cellsOf names Xs (cl L) ++ τ = ce L τ)
    (hN : names.Nodup) (hnd : (sc.names.map (·.1)).Nodup) (hpar : ∀ x ∈ names, (x, NameKind.local) ∈ sc.names ∨ (x, NameKind.cell) ∈ sc.names)
    (hcn : ∀ L, ∀ p ∈ cl L, (p.1, NameKind.cell) ∈ sc.names)
    (hroom : A.depth < 1000) (hco : sc.isCoroutine = false) (hgen : sc.isGenerator = false) (hk : sc.kind = .function)
    (h : ∀ L A', A'.depth = A.depth + 1 → A'.units = A.units + 3 → A'.handled = A.handled → WF c A' (execs body (envF sc L (cl L) qual a (.ref ca))) ((L, .ns sc ρ) :: ce L σ) (Ret K)) :
    WN VR c A (fun vs => call (.ref a) vs) Xs σ K := by
  intro s Q E vs R hvs q
  have hb := hbind s vs R hvs
  obtain ⟨o, us, t, e2, e3, e4⟩ := hcode
  have hzk : ((names.zip vs).map (·.1)).Nodup := by rw [List.map_fst_zip (by rw [hlen, hvs.length]; exact Nat.le_refl _)]; exact hN
  refine wpAny_call (codeAny_call_function hroom (R.keep _ _ ho) rfl hco hgen rfl ⟨ca, o, us, t, rfl, R.keep _ _ e2, e3, e4⟩ (hb _ _ _ _ ?_))
  refine wpAny_newFunctionEnv_cells hk (fun p hp => ?_) fun env he s' x => ?_
  · have hp' : p.1 ∈ names := (List.of_mem_zip hp).1
    rcases hpar _ hp' with h1 | h1
    · exact .inl (lookup_of_mem hnd h1)
    · exact .inr ⟨lookup_of_mem hnd h1, cellsFrom_has (.inr h1)⟩
  · subst he
    obtain ⟨h', tk, rfl⟩ := x.toInCall.same
    have hk' : ∀ b o, s.heap.get? b = some o → h'.get? b = some o := fun b o e => x.toInCall.keep b o e
    have hx : Ext c.z s.heap h' := fun _ _ _ _ e => hk' _ _ e
    have hvs' : LR c.z h' vs Xs := hvs.imp fun _ _ => VR.ext hx
    have hcl' : cellsFrom (s.heap.objs.size + 1) sc.names [] = cl s.heap.objs.size := hcl _
    have hap : (cl s.heap.objs.size).Pairwise fun x y => x.2 ≠ y.2 := hcl' ▸ x.apart
    have hnames : ∀ p ∈ cl s.heap.objs.size, p.1 ∈ sc.names.map (·.1) := fun p hp => List.mem_map_of_mem (f := (·.1)) (hcn _ p hp)
    have Rc := R.addMany (τ := (s.heap.objs.size, .ns sc ρ) :: cellsOf names Xs (cl s.heap.objs.size)) (h' := h') hk' (fun p hp => ?_) (fun p hp => ?_) ?_ tk
    · refine ⟨c.lim _ Rc.keep, codeAny_func ?_⟩
      have hbody := h s.heap.objs.size (A.deeper (envF sc s.heap.objs.size (cl s.heap.objs.size) qual a (.ref ca))) rfl rfl rfl
      have he : newEnv sc s.heap.objs.size mainGlobals (cellsFrom (s.heap.objs.size + 1) sc.names []) (qual ++ ".<locals>.") (some a) (.ref ca) none builtinsNs = envF sc s.heap.objs.size (cl s.heap.objs.size) qual a (.ref ca) := by rw [hcl']; rfl
      show wpAny _ (A.deeper (newEnv sc s.heap.objs.size mainGlobals (cellsFrom (s.heap.objs.size + 1) sc.names []) (qual ++ ".<locals>.") (some a) (.ref ca) none builtinsNs)) (execs body (newEnv sc s.heap.objs.size mainGlobals (cellsFrom (s.heap.objs.size + 1) sc.names []) (qual ++ ".<locals>.") (some a) (.ref ca) none builtinsNs)) _ _ _
      rw [he]
      rw [List.cons_append, hce] at Rc
      refine hbody _ _ _ Rc fun f F σ₁ s₁ h₁ hf R₁ x₁ => ?_
      have x := hx.trans x₁
      cases F with
      | ret X => obtain ⟨v, rfl, hv⟩ := hf; obtain ⟨σ₂, hs, hk⟩ := h₁; exact q _ _ _ _ hk hv (R₁.subp hs) x
      | next => cases hf; obtain ⟨σ₂, hs, hk⟩ := h₁; exact q _ _ _ _ hk rfl (R₁.subp hs) x
      | brk => cases hf; obtain ⟨σ₂, hs, hk⟩ := h₁; exact q _ _ _ _ hk rfl (R₁.subp hs) x
      | cont => cases hf; obtain ⟨σ₂, hs, hk⟩ := h₁; exact q _ _ _ _ hk rfl (R₁.subp hs) x
    · rcases List.mem_cons.mp hp with rfl | hp
      · exact Nat.le_refl _
      · obtain ⟨⟨n, C⟩, hm, rfl⟩ := List.mem_map.mp hp
        exact Nat.le_of_lt (x.above n C (by rw [← hcl'] at hm; exact hm))
    · rcases List.mem_cons.mp hp with rfl | hp
      · subst hρ
        refine ⟨⟨?_, hnd⟩, fun p hp => ?_, _, x.toInCall.ns, fun p hp Y hY => ?_⟩
        · unfold rhoOf; rw [List.map_map]
          show ((locs sc).map fun x => x).Nodup
          rw [List.map_id']; exact locs_nodup hnd
        · obtain ⟨y, hy, rfl⟩ := List.mem_map.mp hp
          exact lookup_of_mem hnd (locs_mem hy)
        · obtain ⟨y, hy, rfl⟩ := List.mem_map.mp hp
          have hl : (newEnv sc s.heap.objs.size mainGlobals (cellsFrom (s.heap.objs.size + 1) sc.names []) (qual ++ ".<locals>.") (some a) (.ref ca) none builtinsNs).kindOf y = some .local := lookup_of_mem hnd (locs_mem hy)
          obtain ⟨v, h1, h2⟩ := (zip_lookup hvs').1 Y hY
          exact ⟨v, by rw [bindL_get hl hzk, h1]; rfl, h2⟩
      · obtain ⟨⟨n, C⟩, hm, rfl⟩ := List.mem_map.mp hp
        have hl : (newEnv sc s.heap.objs.size mainGlobals (cellsFrom (s.heap.objs.size + 1) sc.names []) (qual ++ ".<locals>.") (some a) (.ref ca) none builtinsNs).kindOf n ≠ some .local := by
          show sc.names.lookup n ≠ _
          rw [lookup_of_mem hnd (hcn _ _ hm)]; decide
        have hcell := x.cell n C (by
          show (cellsFrom (s.heap.objs.size + 1) sc.names []).lookup n = some C
          rw [hcl']
          have hs : ((cl s.heap.objs.size).lookup n).isSome = true := by rw [← hcl']; exact cellsFrom_has (.inr (hcn _ _ hm))
          obtain ⟨C', hC'⟩ := Option.isSome_iff_exists.mp hs
          have : ((cl s.heap.objs.size).map (·.1)).Nodup := by rw [← hcl']; exact cells_names hnd
          exact lookup_of_mem this hm)
        rw [bindC_get hl hzk] at hcell
        show OR c.z h' C (.cell ((names.zip Xs).lookup n))
        cases hY : (names.zip Xs).lookup n with
        | none => rw [(zip_lookup hvs').2 hY] at hcell; exact hcell
        | some Y =>
          obtain ⟨v, h1, h2⟩ := (zip_lookup hvs').1 Y hY
          rw [h1] at hcell
          exact ⟨v, hcell, h2⟩
    · rw [List.map_cons, List.nodup_cons]
      have e : (cellsOf names Xs (cl s.heap.objs.size)).map (·.1) = (cl s.heap.objs.size).map (·.2) := by unfold cellsOf; rw [List.map_map]; rfl
      rw [e]
      refine ⟨fun hm => ?_, cl_nodup hap⟩
      obtain ⟨⟨n, C⟩, hm, e⟩ := List.mem_map.mp hm
      have := x.above n C (by rw [← hcl'] at hm; exact hm)
      exact Nat.ne_of_gt this e
where
  cells_names {names : List (Str × NameKind)} (nd : (names.map (·.1)).Nodup) {n : Nat} : ((cellsFrom n names []).map (·.1)).Nodup := by
    have key : ∀ (names : List (Str × NameKind)) (n : Nat) (acc : List (Str × Addr)), (names.map (·.1)).Nodup → (acc.map (·.1)).Nodup → (∀ p ∈ acc, p.1 ∉ names.map (·.1)) → ((cellsFrom n names acc).map (·.1)).Nodup := by
      intro names
      induction names with
      | nil => exact fun n acc _ h _ => h
      | cons p r ih =>
        obtain ⟨y, k⟩ := p
        intro n acc nd na hd
        rw [List.map_cons, List.nodup_cons] at nd
        unfold cellsFrom
        split
        · refine ih _ _ nd.2 ?_ ?_
          · rw [List.map_cons, List.nodup_cons]
            refine ⟨fun hm => ?_, na⟩
            obtain ⟨p, hp, e⟩ := List.mem_map.mp hm
            exact hd p hp (by rw [e]; simp)
          · intro p hp
            rcases List.mem_cons.mp hp with rfl | hp
            · exact nd.1
            · exact fun h => hd p hp (by simp at h ⊢; exact .inr h)
        · exact ih _ _ nd.2 na fun p hp h => hd p hp (by simp at h ⊢; exact .inr h)
    exact key names n [] nd .nil (fun p hp => by cases hp)
end
end Mine
end
section
open PySem PySem.Calls PyProof.Rows PySem.W
set_option maxRecDepth 100000
set_option linter.unusedVariables false
set_option linter.unusedSimpArgs false
namespace Mine
/-- a comprehension's place -/
noncomputable abbrev envG (sc : Scope) (C : Addr) (cl : List (Str × Addr)) (env : Env) : Env :=
  { scope := sc, locals := C, globals := env.globals, cells := cl, qual := env.qual, func := none, code := env.code, frame := env.frame, builtins := env.builtins }
noncomputable abbrev scG (scope : Scope) (ns : List (Str × NameKind)) : Scope := { kind := scope.kind, names := ns, isGenerator := scope.isGenerator, isCoroutine := scope.isCoroutine, more := scope.more }
noncomputable def rho0 (sc : Scope) : List (Str × Option V) := (locs sc).map fun x => (x, none)
theorem Rep.turn {c : Cx} {σ : Led} {s : Shared} {a : Addr} {o o' : AObj} (R : Rep c ((a, o) :: σ) s) (h : OR c.z s.heap a o → OR c.z s.heap a o') : Rep c ((a, o') :: σ) s :=
  ⟨R.keep, R.gens, R.os, fun p hp => by
    rcases List.mem_cons.mp hp with rfl | hp
    · exact h (R.ob _ (.head _))
    · exact R.ob _ (.tail _ hp), fun b q => ⟨(R.zs b q).1, fun p hp => by
    rcases List.mem_cons.mp hp with rfl | hp
    · exact (R.zs b q).2 (a, o) (.head _)
    · exact (R.zs b q).2 _ (.tail _ hp)⟩, fun p hp => by
    rcases List.mem_cons.mp hp with rfl | hp
    · exact R.fr (a, o) (.head _)
    · exact R.fr _ (.tail _ hp), R.nd⟩
theorem OR.forget {z : Addr → Prop} {h : Heap} {a : Addr} {sc : Scope} {ρ : List (Str × Option V)} (hρ : ρ.map (·.1) = locs sc) (H : OR z h a (.ns sc ρ)) : OR z h a (.ns sc (rho0 sc)) := by
  obtain ⟨⟨n1, n2⟩, n3, m, hm, _⟩ := H
  refine ⟨⟨?_, n2⟩, fun p hp => ?_, m, hm, fun p hp Y hY => ?_⟩
  · unfold rho0; rw [List.map_map]
    show ((locs sc).map fun x => x).Nodup
    rw [List.map_id']; exact locs_nodup n2
  · obtain ⟨x, hx, rfl⟩ := List.mem_map.mp hp
    exact lookup_of_mem n2 (locs_mem hx)
  · obtain ⟨x, hx, rfl⟩ := List.mem_map.mp hp
    cases hY
theorem OR.fresh {z : Addr → Prop} {h : Heap} {a : Addr} {sc : Scope} {m} (n2 : (sc.names.map (·.1)).Nodup) (hm : h.Ns a m) : OR z h a (.ns sc (rho0 sc)) := by
  refine ⟨⟨?_, n2⟩, fun p hp => ?_, m, hm, fun p hp Y hY => ?_⟩
  · unfold rho0; rw [List.map_map]
    show ((locs sc).map fun x => x).Nodup
    rw [List.map_id']; exact locs_nodup n2
  · obtain ⟨x, hx, rfl⟩ := List.mem_map.mp hp
    exact lookup_of_mem n2 (locs_mem hx)
  · obtain ⟨x, hx, rfl⟩ := List.mem_map.mp hp
    cases hY
/-- behind a comprehension's turn -/
inductive CompT (sc : Scope) (C D : Addr) (p : Addr × AObj) (J : Nat → List V → Led → Prop) (i : Nat) (ys : List V) (ys' : List V) (σ : Led) : Prop
  | mk' {τ : Led} {ρ : List (Str × Option V)} (hs : Sub ((C, .ns sc ρ) :: p :: (D, .list ys) :: τ) σ) (hρ : ρ.map (·.1) = locs sc) (hJ : J i ys' τ)
/-- ahead of a comprehension's turn -/
inductive CompI (c : Cx) (h0 : Heap) (I : Addr) (cell : Nat → AObj) (C D : Addr) (sc : Scope) (J : Nat → List V → Led → Prop) (len n : Nat) (s : Shared) : Prop
  | mk (i : Nat) (ys : List V) (τ : Led) (hin : i + n = len) (hys : ys.length ≤ i) (hj : J i ys τ) (R : Rep c ((C, .ns sc (rho0 sc)) :: (I, cell i) :: (D, .list ys) :: τ) s) (x : Ext c.z h0 s.heap)
/-- a comprehension's tests -/
noncomputable def WT (c : Cx) (A : Around) (ifs : List Expr) (env : Env) (σ : Led) (K : Bool → Led → Prop) : Prop := match ifs with
  | [] => K true σ
  | [t] => WB c A (isTrue t env (eval t env)) σ K
  | _ => False
section
variable {c : Cx} {A : Around} {σ : Led} {env : Env} {K : V → Led → Prop}
theorem WT_run {ifs : List Expr} {K : Bool → Led → Prop} (h : WT c A ifs env σ K) : WB c A (forIn ifs true fun c r => if r = true then do let ok ← isTrue c env (eval c env); pure (ForInStep.yield ok) else pure (ForInStep.yield r)) σ K := by
  intro s Q E R q
  cases ifs with
  | nil => exact wpAny_tests_nil (q _ _ _ _ h rfl R (Ext.refl _))
  | cons t r =>
    cases r with
    | nil => exact wpAny_tests_one (h s _ _ R fun a b σ' s' hk hr R' x => by subst hr; exact q _ _ _ _ hk rfl R' x)
    | cons _ _ => exact h.elim
theorem Rep.append {s : Shared} {l : Addr} {xs : List V} {X : V} {σ' : Led} {v : Value} {E : Value → Shared → Prop} {Q : Value → Shared → Prop} (R : Rep c σ s) (u : Upd l (.list xs) (.list (xs ++ [X])) σ σ') (hn : xs.length ≤ 1000000) (hv : VR c.z s.heap v X)
    (q : ∀ s', Rep c σ' s' → Ext c.z s.heap s'.heap → Q .none s') : wpAny (model c.prog c.w) A (call (.builtin "list.append") [.ref l, v]) Q E s :=
  B_append (K := fun X σ₁ => X = .none ∧ σ₁ = σ') u hn ⟨rfl, rfl⟩ s Q E [.ref l, v] R (.cons rfl (.cons hv .nil)) fun a b σ₁ s' ⟨e1, e2⟩ hr R' x => by subst e1 e2; cases hr; exact q s' R' x
/-- the loop of a comprehension of one clause -/
theorem comp_loop {elt target iter : Expr} {ifs : List Expr} {scope sc : Scope} {pos : Pos} {I D C : Addr} {cell : Nat → AObj} {items : List V} {need : Led → Prop} {cl : List (Str × Addr)} {R : Result → Shared → Prop} {s : Shared} {τ : Led}
    (J : Nat → List V → Led → Prop) (hneed : ∀ p σ, need σ → need (p :: σ)) (hJ : ∀ i ys τ, J i ys τ → need τ) (hn : items.length ≤ 1000000) (ok : IterOK c A I cell items need)
    (turn : ∀ i X ys τ p, items[i]? = some X → J i ys τ → W1 (fun _ _ _ _ => True) c A (assign target (envG sc C cl env)) X ((C, .ns sc (rho0 sc)) :: p :: (D, .list ys) :: τ) fun (_ : Unit) σ₂ =>
      WT c A ifs (envG sc C cl env) σ₂ fun ok σ₃ => If ok (W c A (eval elt (envG sc C cl env)) σ₃ fun Y σ₄ => CompT sc C D p J (i + 1) ys (ys ++ [Y]) σ₄) (CompT sc C D p J (i + 1) ys ys σ₃))
    (R0 : Rep c ((C, .ns sc (rho0 sc)) :: (I, cell 0) :: (D, .list []) :: τ) s) (h0 : J 0 [] τ)
    (fin : ∀ ys τ s', J items.length ys τ → Rep c ((C, .ns sc (rho0 sc)) :: (D, .list ys) :: τ) s' → Ext c.z s.heap s'.heap → R (.ok .next) s')
    (ht : ∀ it v, letOwnedTupleGo target it v = pure ()) :
    codeAny (model c.prog c.w) A (.compLoop (.ListComp elt [⟨target, iter, ifs, 0⟩] scope pos) 0 (.ref I) (.ref D) (envG sc C cl env)) R s := by
  refine codeAny_compLoop_tests (CompI c s.heap I cell C D sc J items.length) ?_ items.length ⟨0, [], τ, Nat.zero_add _, Nat.le_refl _, h0, R0, Ext.refl _⟩ (ht _)
  rintro n s₁ ⟨i, ys, τ, hin, hys, hj, R₁, x₁⟩
  have hnd : need ((C, .ns sc (rho0 sc)) :: (I, cell i) :: (D, .list ys) :: τ) := hneed _ _ (hneed _ _ (hneed _ _ (hJ _ _ _ hj)))
  cases n with
  | zero =>
    cases (Nat.add_zero i).symm.trans hin
    exact ok.done1 hnd (.tail .head) R₁ fun s₂ R₂ x₂ => fin _ _ _ hj R₂ (x₁.trans x₂)
  | succ n =>
    have hlt : i < items.length := hin ▸ Nat.lt_add_of_pos_right (Nat.succ_pos n)
    have hin' : i + 1 + n = items.length := (Nat.add_right_comm i 1 n).trans hin
    refine ok.next1 (List.getElem?_eq_getElem hlt) hnd (.tail .head) R₁ fun v s₂ hr R₂ x₂ => ?_
    refine turn i items[i] ys τ (I, cell (i + 1)) (List.getElem?_eq_getElem hlt) hj s₂ _ _ v R₂ hr fun _ _ σ₃ s₃ h₃ _ R₃ x₃ => ?_
    refine WT_run h₃ s₃ _ _ R₃ fun z z' σ₄ s₄ h₄ hz R₄ x₄ => ?_
    subst hz
    have x4 := ((x₁.trans x₂).trans x₃).trans x₄
    cases z with
    | false =>
      obtain ⟨hsub, hρ, hj'⟩ := h₄.no rfl
      exact ⟨n, Nat.lt_succ_self _, i + 1, ys, _, hin', Nat.le_succ_of_le hys, hj', (R₄.subp hsub).turn (OR.forget hρ), x4⟩
    | true =>
      refine h₄.yes rfl s₄ _ _ R₄ fun y Y σ₅ s₅ ⟨hsub, hρ, hj'⟩ hy R₅ x₅ => ?_
      refine (R₅.subp hsub).append (.tail (.tail .head)) (Nat.le_trans hys (Nat.le_trans (Nat.le_of_lt hlt) hn)) hy fun s₆ R₆ x₆ => ?_
      exact ⟨n, Nat.lt_succ_self _, i + 1, ys ++ [Y], _, hin', by rw [List.length_append]; exact Nat.succ_le_succ hys, hj', R₆.turn (OR.forget hρ), (x4.trans x₅).trans x₆⟩
theorem comp_main {elt target iter : Expr} {ifs : List Expr} {scope : Scope} {pos : Pos} {items : List V} {need : Led → Prop} {use : Option (Value → Sem Unit)} {s : Shared} {Q : Value → Shared → Prop} {E : Value → Shared → Prop}
    (ns : List (Str × NameKind)) (cl : List (Str × Addr)) (J : Nat → List V → Led → Prop) (hneed : ∀ p σ, need σ → need (p :: σ)) (hJ : ∀ i ys τ, J i ys τ → need τ) (hn : items.length ≤ 1000000)
    (hns : relabel scope env = scG scope ns) (hcl : closureFor scope env = pure cl) (hk : scope.kind = .function)
    (hnn : (ns.map (·.1)).Nodup) (hcell : ∀ x ∈ scope.names, x.2 ≠ .cell) (hnd : (scope.names.map (·.1)).Nodup)
    (h : W c A (eval iter env) σ fun X σ₁ => ItersAt c A X items need σ₁ ∧ J 0 [] σ₁)
    (turn : ∀ C D i X ys τ p, items[i]? = some X → J i ys τ → W1 (fun _ _ _ _ => True) c A (assign target (envG (scG scope ns) C cl env)) X ((C, .ns (scG scope ns) (rho0 (scG scope ns))) :: p :: (D, .list ys) :: τ) fun (_ : Unit) σ₂ =>
      WT c A ifs (envG (scG scope ns) C cl env) σ₂ fun ok σ₃ => If ok (W c A (eval elt (envG (scG scope ns) C cl env)) σ₃ fun Y σ₄ => CompT (scG scope ns) C D p J (i + 1) ys (ys ++ [Y]) σ₄) (CompT (scG scope ns) C D p J (i + 1) ys ys σ₃))
    (R : Rep c σ s)
    (fin : ∀ C D ys τ s', J items.length ys τ → Rep c ((C, .ns (scG scope ns) (rho0 (scG scope ns))) :: (D, .list ys) :: τ) s' → Ext c.z s.heap s'.heap → compPost (model c.prog c.w) A E use Q (.ref D) C (.ok .next) s')
    (hs : ∀ x, foldedSetIterable iter env x = pure x) (ht : ∀ it v, letOwnedTupleGo target it v = pure ()) :
    wpAny (model c.prog c.w) A (comprehension (.ListComp elt [⟨target, iter, ifs, 0⟩] scope pos) scope env (firstIterPos [⟨target, iter, ifs, 0⟩] pos) (newList []) false (eval iter env) use) Q E s := by
  have hnames : ∀ x ∈ scope.names, x.2 = .local → scope.names.lookup x.1 = some .local := fun x hx e => lookup_of_mem hnd (by rw [← e]; exact hx)
  refine wpAny_comprehension_free rfl hs hcl hk hnames (h s _ _ R fun x X σ₁ s₁ ⟨hi, h0⟩ hx R₁ x₁ => ?_)
  refine hi (IterJ c A items need σ₁) (fun I cell ok => ⟨I, cell, rfl, ok, rfl⟩) s₁ _ _ x R₁ hx fun y Y σ₂ s₂ ⟨I, cell, e1, ok, e2⟩ hy R₂ x₂ => ?_
  subst e1 e2
  cases hy
  refine wpAny_newObj_type ?_ (by size_fits)
  have R₃ := R₂.add (a := s₂.heap.objs.size) (ao := .list []) (h' := s₂.heap.push { cls := .type "list", data := .seq #[] }) (Nat.le_refl _) (fun b o e => Heap.get?_push_of_some _ e) (show OR c.z _ _ (.list _) from ⟨[], _, Heap.get?_push_size _ rfl, .nil⟩) s₂.toks
  refine wpAny_newFunctionEnv hcell (fun x hx => by cases hx) (fun h' hn' hs' => ?_) hk
  have hk' : ∀ b o, (s₂.heap.push { cls := .type "list", data := .seq #[] }).get? b = some o → h'.get? b = some o := fun b o e => hs'.extBut b o (Nat.ne_of_lt (Heap.lt_size e)) (Heap.get?_push_of_some _ e)
  have R₄ := R₃.add (ao := .ns (scG scope ns) (rho0 (scG scope ns))) (h' := h') (Nat.le_refl _) hk' (OR.fresh hnn hn') (s₂.toks + ([] : List (Str × Value)).length)
  have x4 : Ext c.z s.heap h' := ((x₁.trans x₂).trans (Ext.push _)).trans (fun _ _ _ _ e => hk' _ _ e)
  rw [hns]
  generalize hC : (s₂.heap.push { cls := .type "list", data := .seq #[] }).objs.size = C at *
  have loop : ∀ s₅, Rep c ((C, .ns (scG scope ns) (rho0 (scG scope ns))) :: (I, cell 0) :: (s₂.heap.objs.size, .list []) :: σ₁) s₅ → Ext c.z s.heap s₅.heap → codeAny (model c.prog c.w) A (.compLoop (.ListComp elt [⟨target, iter, ifs, 0⟩] scope pos) 0 (.ref I) (.ref s₂.heap.objs.size) (envG (scG scope ns) C cl env)) (compPost (model c.prog c.w) A E use Q (.ref s₂.heap.objs.size) C) s₅ := fun s₅ R₅ x₅ =>
    comp_loop J hneed hJ hn ok (turn _ _) R₅ h0 (fun ys τ s' hj R' x' => fin _ _ ys τ s' hj R' (x₅.trans x')) ht
  have R₄' := R₄.perm (List.Perm.cons _ (List.Perm.swap ..))
  exact codeAny_compStart_list (loop _ R₄' x4) (ok.self1 0 (.tail _ (.head _)) R₄' fun s' R' x' => loop _ R' (x4.trans x'))
theorem W_Comp {elt target iter : Expr} {ifs : List Expr} {scope : Scope} {pos : Pos} {items : List V} {need : Led → Prop}
    (ns : List (Str × NameKind)) (cl : List (Str × Addr)) (J : Nat → List V → Led → Prop) (hneed : ∀ p σ, need σ → need (p :: σ)) (hJ : ∀ i ys τ, J i ys τ → need τ) (hn : items.length ≤ 1000000)
    (hns : relabel scope env = scG scope ns) (hcl : closureFor scope env = pure cl) (hk : scope.kind = .function)
    (hnn : (ns.map (·.1)).Nodup) (hcell : ∀ x ∈ scope.names, x.2 ≠ .cell) (hnd : (scope.names.map (·.1)).Nodup)
    (h : W c A (eval iter env) σ fun X σ₁ => ItersAt c A X items need σ₁ ∧ J 0 [] σ₁)
    (turn : ∀ C D i X ys τ p, items[i]? = some X → J i ys τ → W1 (fun _ _ _ _ => True) c A (assign target (envG (scG scope ns) C cl env)) X ((C, .ns (scG scope ns) (rho0 (scG scope ns))) :: p :: (D, .list ys) :: τ) fun (_ : Unit) σ₂ =>
      WT c A ifs (envG (scG scope ns) C cl env) σ₂ fun ok σ₃ => If ok (W c A (eval elt (envG (scG scope ns) C cl env)) σ₃ fun Y σ₄ => CompT (scG scope ns) C D p J (i + 1) ys (ys ++ [Y]) σ₄) (CompT (scG scope ns) C D p J (i + 1) ys ys σ₃))
    (fin : ∀ D ys τ, J items.length ys τ → ∃ p τ', τ = p :: τ' ∧ K (.ref D) (p :: (D, .list ys) :: τ'))
    (hs : ∀ x, foldedSetIterable iter env x = pure x := by intro _; rfl) (ht : ∀ it v, letOwnedTupleGo target it v = pure () := by intro _ _; rfl) :
    W c A (eval (.ListComp elt [⟨target, iter, ifs, 0⟩] scope pos) env) σ K := by
  intro s Q E R q
  rw [eval_ListComp]
  refine comp_main (use := none) ns cl J hneed hJ hn hns hcl hk hnn hcell hnd h turn R (fun C D ys τ s' hj R' x' => ?_) hs ht
  obtain ⟨_, _, m, hm, _⟩ := R'.ob _ (.head _)
  refine ⟨m, hm, fun h' hs' => ?_⟩
  obtain ⟨p, τ', rfl, hk⟩ := fin D ys τ hj
  obtain ⟨R'', x''⟩ := R'.gone (.head) hs'.extBut s'.toks
  exact q _ _ _ _ hk rfl (R''.perm (List.Perm.swap ..)) (x'.trans x'')
/-- a comprehension stored in a local name -/
theorem WF_AssignComp {x : Str} {py : Pos} {elt target iter : Expr} {ifs : List Expr} {scope : Scope} {pos spos : Pos} {items : List V} {need : Led → Prop} {K : Fl → Led → Prop}
    (ns : List (Str × NameKind)) (cl : List (Str × Addr)) (J : Nat → List V → Led → Prop) (hneed : ∀ p σ, need σ → need (p :: σ)) (hJ : ∀ i ys τ, J i ys τ → need τ) (hn : items.length ≤ 1000000)
    (hns : relabel scope env = scG scope ns) (hcl : closureFor scope env = pure cl) (hk : scope.kind = .function)
    (hnn : (ns.map (·.1)).Nodup) (hcell : ∀ x ∈ scope.names, x.2 ≠ .cell) (hnd : (scope.names.map (·.1)).Nodup) (hke : env.scope.kind = .function)
    (h : W c A (eval iter env) σ fun X σ₁ => ItersAt c A X items need σ₁ ∧ J 0 [] σ₁)
    (turn : ∀ C D i X ys τ p, items[i]? = some X → J i ys τ → W1 (fun _ _ _ _ => True) c A (assign target (envG (scG scope ns) C cl env)) X ((C, .ns (scG scope ns) (rho0 (scG scope ns))) :: p :: (D, .list ys) :: τ) fun (_ : Unit) σ₂ =>
      WT c A ifs (envG (scG scope ns) C cl env) σ₂ fun ok σ₃ => If ok (W c A (eval elt (envG (scG scope ns) C cl env)) σ₃ fun Y σ₄ => CompT (scG scope ns) C D p J (i + 1) ys (ys ++ [Y]) σ₄) (CompT (scG scope ns) C D p J (i + 1) ys ys σ₃))
    (fin : ∀ D ys τ, J items.length ys τ → ∃ ρ ρ' τ', τ = (env.locals, .ns env.scope ρ) :: τ' ∧ Put x (.ref D) ρ ρ' ∧ K .next ((env.locals, .ns env.scope ρ') :: (D, .list ys) :: τ'))
    (hsw : swapsWith (.ListComp elt [⟨target, iter, ifs, 0⟩] scope pos) (some (.Name x py)) spos.line env = pure true)
    (hs : ∀ x, foldedSetIterable iter env x = pure x := by intro _; rfl) (ht : ∀ it v, letOwnedTupleGo target it v = pure () := by intro _ _; rfl) :
    WF c A (exec (.Assign [.Name x py] (.ListComp elt [⟨target, iter, ifs, 0⟩] scope pos) spos) env) σ K := by
  intro s Q E R q
  rw [exec_Assign_Name_used _ _ _ _ hsw]
  refine wpAny_bind (wpAny_standAt (wpAny_bind ?_))
  show wpAny _ A (do let _ ← comprehension (.ListComp elt [⟨target, iter, ifs, 0⟩] scope pos) scope env _ (newList []) false (eval iter env) (some (assign (.Name x py) env))) _ _ s
  refine wpAny_bind (wpAny_mono (comp_main (use := some (assign (.Name x py) env)) (Q := fun _ s' => Q .next s') ns cl J hneed hJ hn hns hcl hk hnn hcell hnd h turn R (fun C D ys τ s' hj R' x' => ?_) hs ht) (fun _ s' hq => wpAny_pure (wpAny_pure hq)) fun _ _ e => e)
  obtain ⟨ρ, ρ', τ', rfl, hput, hk⟩ := fin D ys τ hj
  show wpAny _ A (assign (.Name x py) env (.ref D)) _ _ _
  have R₁ : Rep c ((env.locals, .ns env.scope ρ) :: (C, .ns (scG scope ns) (rho0 (scG scope ns))) :: (D, .list ys) :: τ') s' := R'.perm ((List.Perm.swap ..).trans (List.Perm.cons _ (List.Perm.swap ..)))
  refine W_assignName (W_store (K := fun _ σ' => σ' = (env.locals, .ns env.scope ρ') :: (C, .ns (scG scope ns) (rho0 (scG scope ns))) :: (D, .list ys) :: τ') hput rfl hke) s' _ _ (.ref D) R₁ rfl fun _ _ σ₂ s₂ e₂ _ R₂ x₂ => ?_
  subst e₂
  obtain ⟨_, _, m, hm, _⟩ := R₂.ob _ (.tail _ (.head _))
  refine ⟨m, hm, fun h' hs' => ?_⟩
  obtain ⟨R'', x''⟩ := R₂.gone (.tail .head) hs'.extBut s₂.toks
  exact q _ _ _ _ hk rfl R'' ((x'.trans x₂).trans x'')
end
end Mine
end
section
open PySem PySem.Calls PyProof.Rows PySem.W
set_option maxRecDepth 100000
set_option linter.unusedVariables false
set_option linter.unusedSimpArgs false
namespace Mine
/-- a text of these signs -/
noncomputable def S (l : List Nat) : Str := ⟨l.toArray⟩
theorem S_list (l : List Nat) : (S l).cps.toList = l := by simp [S]
theorem S_of (x : Str) : S x.cps.toList = x := by cases x; simp [S]
theorem len_S (l : List Nat) : (S l).length = l.length := by simp [S, Str.length]
section
variable {c : Cx} {A : Around} {σ : Led} {env : Env} {K : V → Led → Prop}
theorem add_str_S {x y : Str} {t u : Tok} {s : Shared} {Q : Value → Shared → Prop} (hn : x.length + y.length ≤ 1000000) (h : ∀ t' k, Q (.str (S (x.cps.toList ++ y.cps.toList)) t') { s with toks := k }) :
    (if x.length == 0 then Made.val (.str y u) else if y.length == 0 then Made.val (.str x t) else Made.str (x ++ y)).post Q s := by
  have e : S (x.cps.toList ++ y.cps.toList) = x ++ y := by
    cases x; cases y; show S _ = Str.mk (_ ++ _); simp [S]
  split
  · rename_i h0
    have : S (x.cps.toList ++ y.cps.toList) = y := by
      have : x.cps.toList = [] := by cases x; simpa [Str.length] using h0
      rw [this]; simpa using S_of y
    rw [this] at h; exact h u s.toks
  · split
    · rename_i h0
      have : S (x.cps.toList ++ y.cps.toList) = x := by
        have : y.cps.toList = [] := by cases y; simpa [Str.length] using h0
        rw [this]; simpa using S_of x
      rw [this] at h; exact h t s.toks
    · rw [e] at h
      refine ⟨?_, h s.toks (s.toks + 1)⟩
      show (x ++ y).length ≤ sizeLine
      have : (x ++ y).length = x.length + y.length := by cases x; cases y; show (_ ++ _ : Array Nat).size = _; simp [Str.length]
      rw [this]; exact len_fit hn
theorem O_sadd {x y : Str} (hn : x.length + y.length ≤ 1000000) (h : K (.str (S (x.cps.toList ++ y.cps.toList))) σ) : W2 VR c A (binaryOp .Add) (.str x) (.str y) σ K := fun s Q E a b R ⟨t, ha⟩ ⟨u, hb⟩ q => by
  subst ha hb; exact P.add_str (add_str_S hn fun t' k => q _ _ _ _ h ⟨_, rfl⟩ (R.toks _) (Ext.refl _))
theorem O_siadd {x y : Str} (hn : x.length + y.length ≤ 1000000) (h : K (.str (S (x.cps.toList ++ y.cps.toList))) σ) : W2 VR c A (inplaceOp .Add) (.str x) (.str y) σ K := fun s Q E a b R ⟨t, ha⟩ ⟨u, hb⟩ q => by
  subst ha hb; exact P.iadd_str (add_str_S hn fun t' k => q _ _ _ _ h ⟨_, rfl⟩ (R.toks _) (Ext.refl _))
theorem C_seq {x y : Str} (h : K (.bool (x.cps.toList == y.cps.toList)) σ) : W2 VR c A (compareOp .Eq) (.str x) (.str y) σ K := fun s Q E a b R ⟨t, ha⟩ ⟨u, hb⟩ q => by
  subst ha hb; exact P.eq_str (q _ _ _ _ h rfl R (Ext.refl _))
theorem C_sne {x y : Str} (h : K (.bool (x.cps.toList != y.cps.toList)) σ) : W2 VR c A (compareOp .NotEq) (.str x) (.str y) σ K := fun s Q E a b R ⟨t, ha⟩ ⟨u, hb⟩ q => by
  subst ha hb; exact P.ne_str (q _ _ _ _ h rfl R (Ext.refl _))
/-- x in y, of texts -/
theorem C_sin {x y : Str} {b : Bool} (e : (!(Builtin.Str.occurrences y x 0 y.length 1).isEmpty) = b) (h : K (.bool b) σ) : W2 VR c A (compareOp .In) (.str x) (.str y) σ K := fun s Q E a b R ⟨t, ha⟩ ⟨u, hb⟩ q => by
  subst ha hb e; exact P.in_str (q _ _ _ _ h rfl R (Ext.refl _))
theorem O_sitem {x : Str} {k : Int} {d : Nat} {value slice : Expr} (h0 : 0 ≤ k) (h1 : k < 2 ^ 62) (hx : x.cps.toList[k.toNat]? = some d) (h : K (.str (S [d])) σ)
    (hs : ∀ t u, subscripted slice false (.str x t) (.int k u) = operate [.str x t, .int k u] (getItem (.str x t) (.int k u)) := by intro t u; with_unfolding_all rfl)
    (ht : ∀ t r, letTemporaryGo value (.str x t) r = pure () := by intro _ _; with_unfolding_all rfl) :
    W2 VR c A (subscriptTail value slice) (.str x) (.int k) σ K := fun s Q E a b R ⟨t, ha⟩ ⟨u, hb⟩ q => by
  subst ha hb
  have hlt : k.toNat < x.cps.toList.length := by
    rcases Nat.lt_or_ge k.toNat x.cps.toList.length with h | h
    · exact h
    · rw [List.getElem?_eq_none h] at hx; cases hx
  have hl : x.length = x.cps.toList.length := by simp [Str.length]
  have hc : (seqIndex? k x.length).bind (x.cps[·]?) = some d := by
    obtain ⟨j, rfl⟩ := Int.eq_ofNat_of_zero_le h0
    have hn : ¬ ((j : Int) < 0) := by omega
    have : seqIndex? (j : Int) x.length = some j := by simp [seqIndex?, hn]; simp at hlt; rw [hl]; simpa using hlt
    rw [this]
    simpa using hx
  refine tail_of_ItemOn (o := .str x t) (i := .int k u) ⟨"str", _, F.slot_str_getitem.lookup, typeIs_str _ _ _, ?_⟩ (hs t u) (ht t)
  exact P.getItem_str (by simp; omega) hc (q _ _ _ _ h ⟨_, rfl⟩ (R.toks _) (Ext.refl _))
theorem B_ord {d : Nat} (h : K (.int (d : Int)) σ) : WN VR c A (fun vs => call (.builtin "ord") vs) [.str (S [d])] σ K := by
  intro s Q E vs R hvs q
  cases hvs with
  | cons h1 r =>
    cases r; obtain ⟨t, rfl⟩ := h1
    exact P.ord_of_char (q _ _ _ _ h ⟨_, rfl⟩ (R.toks _) (Ext.refl _))
theorem B_chr {i : Int} (h0 : 0 ≤ i) (h1 : i ≤ 1114111) (h : K (.str (S [i.toNat])) σ) : WN VR c A (fun vs => call (.builtin "chr") vs) [.int i] σ K := by
  intro s Q E vs R hvs q
  cases hvs with
  | cons hv r =>
    cases r; obtain ⟨t, rfl⟩ := hv
    exact chr_of_range h0 h1 (q _ _ _ _ h ⟨_, rfl⟩ (R.toks _) (Ext.refl _))
theorem O_smul1 {x : Str} {n : Int} {z : Str} (hok : MulOk x n) (e : Txt.mul x n = z) (h : K (.str z) σ) : W2 VR c A (binaryOp .Mult) (.str x) (.int n) σ K := fun s Q E a b R ⟨t, ha⟩ ⟨u, hb⟩ q => by
  subst ha hb e; exact SB.mul hok fun t' k => q _ _ _ _ h ⟨_, rfl⟩ (R.toks _) (Ext.refl _)
theorem Meth.str {x : Str} {name : Str} {id : String} (slot : Slot "str" name id) (hty : typeOf (.builtin id) = pure (.type "method_descriptor")) : Meth c (.str x) name id σ := fun A s E Q pl v R hv h => by
  obtain ⟨t, rfl⟩ := hv
  with_reducible refine getMethod_builtin ?_ ?_ slot hty ?_ ?_
  · exact typeIs_str _ _ _
  · exact F.plainAttrs_str
  · exact fun a e => nomatch e
  · exact h
theorem strs_of {z : Addr → Prop} {h : Heap} {vs : List Value} {ys : List Str} (H : All2 (VR z h) vs (ys.map V.str)) : ∃ l : List (Str × Tok), strValues l = vs ∧ l.map (·.1) = ys := by
  induction ys generalizing vs with
  | nil => cases H; exact ⟨[], rfl, rfl⟩
  | cons y ys ih =>
    cases H with
    | cons e r =>
    obtain ⟨t, e⟩ := e
    obtain ⟨l, e1, e2⟩ := ih r
    subst e
    exact ⟨(y, t) :: l, by simp [strValues] at e1 ⊢; exact e1, by simp [e2]⟩
/-- sep.join(list) -/
theorem B_join {sep : Str} {l : Addr} {ys : List Str} {z : Str} (hl : (l, AObj.list (ys.map V.str)) ∈ σ) (hok : JoinOk sep ys = true) (e : Txt.join sep ys = z) (h : K (.str z) σ) :
    WN VR c A (fun vs => call (.builtin "str.join") vs) [.str sep, .ref l] σ K := by
  intro s Q E vs R hvs q
  cases hvs with
  | cons h1 r =>
    cases r with
    | cons h2 r =>
      cases r; obtain ⟨t, rfl⟩ := h1; cases h2
      obtain ⟨ws, n, e', hw⟩ := R.ob _ hl
      obtain ⟨ls, e1, e2⟩ := strs_of hw
      subst e1 e2 e
      unfold JoinOk at hok
      rw [Bool.not_eq_true'] at hok
      exact call_meets F.slot_str_join (typeIs_str _ _ _) F.entry_str_join (F.args_str_join_2 _ _) (meets_str_join_list sep t l ls hok) ⟨isList_of e', post_join ls ⟨joinFit_length hok, fun t' k => q _ _ _ _ h ⟨_, rfl⟩ (R.toks _) (Ext.refl _)⟩⟩
end
end Mine
end
section
open PySem PySem.Calls PyProof.Rows PySem.W
set_option maxRecDepth 100000
set_option linter.unusedVariables false
set_option linter.unusedSimpArgs false
namespace Mine
-- data
mutual
inductive Dat (σ : Led) : V → PyData → Prop
  | int (i) : Dat σ (.int i) (.int i)
  | str (x) : Dat σ (.str x) (.str x)
  | tup {l ds} : Dats σ (l.map atV) ds → Dat σ (.tup l) (.tuple ds)
  | list {a xs ds} : (a, AObj.list xs) ∈ σ → Dats σ xs ds → Dat σ (.ref a) (.list ds)
inductive Dats (σ : Led) : List V → List PyData → Prop
  | nil : Dats σ [] []
  | cons {X Xs d ds} : Dat σ X d → Dats σ Xs ds → Dats σ (X :: Xs) (d :: ds)
end
section
variable {c : Cx} {σ : Led} {s : Shared}
theorem all_atV {z : Addr → Prop} {h : Heap} {vs : List Value} {l : List At} (H : All2 AR vs l) : All2 (VR z h) vs (l.map atV) := by
  induction H with
  | nil => exact .nil
  | cons e _ ih => exact .cons e.vr ih
mutual
theorem Dat.reads (R : Rep c σ s) : ∀ {X d}, Dat σ X d → ∀ {v}, VR c.z s.heap v X → ∃ as, Reads s.heap v d as
  | _, _, .int i => fun e => by
    obtain ⟨t, rfl⟩ := e
    exact ⟨_, .int i t⟩
  | _, _, .str x => fun e => by
    obtain ⟨t, rfl⟩ := e
    exact ⟨_, .str x t⟩
  | _, _, .tup h => fun e => by
    obtain ⟨a, vs, n, rfl, e2, e3⟩ := e
    obtain ⟨as, r⟩ := Dats.reads R h (all_atV e3)
    exact ⟨_, .tuple e2.2 rfl rfl r⟩
  | _, _, .list hm h => fun e => by
    cases e
    obtain ⟨vs, n, e1, e2⟩ := R.ob _ hm
    obtain ⟨as, r⟩ := Dats.reads R h e2
    exact ⟨_, .list e1 rfl rfl r⟩
theorem Dats.reads (R : Rep c σ s) : ∀ {Xs ds}, Dats σ Xs ds → ∀ {vs}, All2 (VR c.z s.heap) vs Xs → ∃ as, ReadsAll s.heap vs ds as
  | _, _, .nil => fun e => by cases e; exact ⟨_, .nil⟩
  | _, _, .cons h1 h2 => fun e => by
    cases e with
    | cons e1 e2 =>
    obtain ⟨as, r⟩ := Dat.reads R h1 e1
    obtain ⟨bs, q⟩ := Dats.reads R h2 e2
    exact ⟨_, .cons r q⟩
end
end
section
variable {c : Cx} {A : Around} {σ : Led} {env : Env} {K : V → Led → Prop}
theorem C_deq {X Y : V} {d d' : PyData} (hx : Dat σ X d) (hy : Dat σ Y d') (ha : d.canLay0 = true) (hb : d'.canLay0 = true) (hu : A.units + min d.depth d'.depth < cLine) (h : K (.bool (PyData.eqv d d')) σ) :
    W2 VR c A (compareOp .Eq) X Y σ K := fun s Q E x y R hX hY q => by
  obtain ⟨as, r⟩ := hx.reads R hX
  obtain ⟨bs, r'⟩ := hy.reads R hY
  exact SeqAt.compareEq_reads r r' ha hb hu (q _ _ _ _ h rfl R (Ext.refl _))
theorem C_dne {X Y : V} {d d' : PyData} (hx : Dat σ X d) (hy : Dat σ Y d') (ha : d.canLay0 = true) (hb : d'.canLay0 = true) (hu : A.units + min d.depth d'.depth < cLine) (h : K (.bool (!PyData.eqv d d')) σ) :
    W2 VR c A (compareOp .NotEq) X Y σ K := fun s Q E x y R hX hY q => by
  obtain ⟨as, r⟩ := hx.reads R hX
  obtain ⟨bs, r'⟩ := hy.reads R hY
  exact SeqAt.compareNe_reads r r' ha hb hu (q _ _ _ _ h rfl R (Ext.refl _))
/-- against a new empty list -/
theorem C_neNil {l b : Addr} {xs : List V} (hl : (l, AObj.list xs) ∈ σ) (hb : (b, AObj.list []) ∈ σ) (hu : A.units < 9900) (h : K (.bool (!xs.isEmpty)) σ) : W2 VR c A (compareOp .NotEq) (.ref l) (.ref b) σ K := fun s Q E x y R hX hY q => by
  cases hX; cases hY
  obtain ⟨vs, n, e, hv⟩ := R.ob _ hl
  obtain ⟨us, n2, e2, hv2⟩ := R.ob _ hb
  cases hv2
  have hTl : s.TypeIs (.ref l) "list" := ⟨_, e, rfl⟩
  have hTb : s.TypeIs (.ref b) "list" := ⟨_, e2, rfl⟩
  cases hv with
  | nil =>
    refine cmp_ofNotEq (richCompare_meets_room (op := .NotEq) hTl hTb F.slot_list_ne F.entry_list_ne (F.args_list_ne_2 _ _) (SeqAt.list_neAt l b #[] #[] n n2 none none #[] #[] rfl (fun _ => true)) ⟨e, e2, (fun j h1 => by simp at h1), ⟨(fun x => nomatch x), ?_⟩⟩ hu)
    exact q _ _ _ _ h rfl R (Ext.refl _)
  | cons hx r =>
    rename_i v X vs Xs
    refine cmp_ofNotEq (richCompare_meets_room (op := .NotEq) hTl hTb F.slot_list_ne F.entry_list_ne (F.args_list_ne_2 _ _) (SeqAt.list_ne_lengthsAt l b (List.toArray (v :: vs)) #[] n n2 none none #[] #[] (by simp)) ⟨e, e2, ⟨(fun x => nomatch x), ?_⟩⟩ hu)
    exact q _ _ _ _ h rfl R (Ext.refl _)
theorem any_ints {z : Addr → Prop} {h : Heap} {x : Int} : ∀ {vs : List Value} {ns : List Int}, All2 (VR z h) vs (ns.map V.int) → (vs.any fun v => match v with | .int i _ => i == x | _ => false) = ns.contains x
  | _, [], .nil => rfl
  | _, n :: ns, .cons ⟨t, e⟩ r => by
    subst e
    simp only [List.any_cons, List.contains_cons, any_ints r]
    congr 1
    rw [Bool.eq_iff_iff]; simp only [beq_iff_eq]; exact ⟨Eq.symm, Eq.symm⟩
theorem eqg_ints {z : Addr → Prop} {h : Heap} {x : Int} {t : Tok} {vs : List Value} {ns : List Int} (hv : All2 (VR z h) vs (ns.map V.int)) : ∀ y, y ∈ vs.toArray → MeetsSeq.EqGives y (.int x t) (match y with | .int i _ => i == x | _ => false) := by
  intro y hy
  have hy : y ∈ vs := by simpa using hy
  have : ∀ {vs : List Value} {ns : List Int}, All2 (VR z h) vs (ns.map V.int) → y ∈ vs → ∃ i u, y = .int i u := by
    intro vs
    induction vs with
    | nil => intro ns _ h; cases h
    | cons v vs ih =>
      intro ns hv h
      cases ns with
      | nil => cases hv
      | cons n ns =>
        cases hv with
        | cons h1 h2 =>
          rcases List.mem_cons.mp h with rfl | h
          · obtain ⟨u, e⟩ := h1; exact ⟨n, u, e⟩
          · exact ih h2 h
  obtain ⟨i, u, rfl⟩ := this hv hy
  exact MeetsSeq.EqGives.int i x u t
theorem C_inI {l : Addr} {x : Int} {ns : List Int} (hl : (l, AObj.list (ns.map V.int)) ∈ σ) (h : K (.bool (ns.contains x)) σ) : W2 VR c A (compareOp .In) (.int x) (.ref l) σ K := fun s Q E a b R ⟨t, hX⟩ hY q => by
  subst hX; cases hY
  obtain ⟨vs, n, e, hv⟩ := R.ob _ hl
  exact SeqInW.in_listW _ (eqg_ints hv) (isList_of e) (q _ _ _ _ h (by rw [← any_ints hv]; simp [VR]) R (Ext.refl _))
theorem C_notInI {l : Addr} {x : Int} {ns : List Int} (hl : (l, AObj.list (ns.map V.int)) ∈ σ) (h : K (.bool (!ns.contains x)) σ) : W2 VR c A (compareOp .NotIn) (.int x) (.ref l) σ K := fun s Q E a b R ⟨t, hX⟩ hY q => by
  subst hX; cases hY
  obtain ⟨vs, n, e, hv⟩ := R.ob _ hl
  exact SeqInW.notIn_listW _ (eqg_ints hv) (isList_of e) (q _ _ _ _ h (by rw [← any_ints hv]; simp [VR]) R (Ext.refl _))
theorem Rep.newList {s : Shared} {h' : Heap} {a : Addr} {Xs : List V} {us : List Value} {n : Nat} (R : Rep c σ s) (ha : s.heap.objs.size ≤ a) (k : ∀ b o, s.heap.get? b = some o → h'.get? b = some o) (e : IsL h' a us.toArray n) (hv : All2 (VR c.z h') us Xs) (t : Nat) :
    Rep c ((a, .list Xs) :: σ) { s with heap := h', toks := t } := R.add ha k (show OR c.z h' a (.list Xs) from ⟨us, n, e, hv⟩) t
/-- list(a text) -/
theorem B_listS {p : Addr × AObj} {x : Str} (hh : A.handled = none) (hn : x.cps.size ≤ 1000000) (h : ∀ a, K (.ref a) (p :: (a, .list (x.cps.toList.map fun k => V.str (S [k]))) :: σ)) : WN VR c A (fun vs => call (.type "list") vs) [.str x] (p :: σ) K := by
  intro s Q E vs R hvs q
  cases hvs with
  | cons h1 r =>
    cases r; obtain ⟨t, rfl⟩ := h1
    refine call_list_str hh x t (fun h' tk acc c' hk hS hit => ?_) (len_fit hn)
    have hv : All2 (VR c.z h') acc.toList (x.cps.toList.map fun k => V.str (S [k])) := by
      obtain ⟨hsz, hit⟩ := hit
      have key : ∀ (m : Nat) (as : List Value) (ks : List Nat), as.length = m → ks.length = m → (∀ (i : Nat) (v : Value), as[i]? = some v → ∃ d u, ks[i]? = some d ∧ v = .str ⟨#[d]⟩ u) → All2 (VR c.z h') as (ks.map fun k => V.str (S [k])) := by
        intro m
        induction m with
        | zero =>
          intro as ks h1 h2 _
          rw [List.length_eq_zero_iff.mp h1, List.length_eq_zero_iff.mp h2]; exact .nil
        | succ m ih =>
          intro as ks h1 h2 hi
          cases as with
          | nil => cases h1
          | cons a as =>
            cases ks with
            | nil => cases h2
            | cons k ks =>
              refine .cons ?_ (ih as ks (Nat.succ.inj h1) (Nat.succ.inj h2) fun i v hv => by simpa using hi (i + 1) v (by simpa using hv))
              obtain ⟨d, u, e1, e2⟩ := hi 0 a rfl
              cases e1; exact ⟨u, e2⟩
      refine key x.cps.size _ _ (by simpa using hsz) (by simp) fun i v hv => ?_
      obtain ⟨d, u, e1, e2⟩ := hit i v (by simpa using hv)
      exact ⟨d, u, by simpa using e1, e2⟩
    exact q _ _ _ _ (h _) rfl ((R.newList (Nat.le_refl _) hk (by simpa using hS) hv tk).perm (List.Perm.swap ..)) (fun _ _ _ _ e => hk _ _ e)
/-- list(a list) -/
theorem B_listL {p : Addr × AObj} {l : Addr} {xs : List V} (hl : (l, AObj.list xs) ∈ p :: σ) (hn : xs.length ≤ 1000000) (h : ∀ a, K (.ref a) (p :: (a, .list xs) :: σ)) : WN VR c A (fun vs => call (.type "list") vs) [.ref l] (p :: σ) K := by
  intro s Q E vs R hvs q
  cases hvs with
  | cons h1 r =>
    cases r; cases h1
    obtain ⟨ws, n, e, hw⟩ := R.ob _ hl
    refine call_list_seq l (.inl rfl) e rfl rfl (fun h' c' hk hS => ?_) (by have := hw.length; simp [this]; exact len_fit hn)
    exact q _ _ _ _ (h _) rfl ((R.newList (Nat.le_refl _) hk hS (hw.imp fun _ _ => VR.ext fun _ _ _ _ e => hk _ _ e) s.toks).perm (List.Perm.swap ..)) (fun _ _ _ _ e => hk _ _ e)
theorem O_ladd {p : Addr × AObj} {l b : Addr} {xs ys : List V} (hl : (l, AObj.list xs) ∈ p :: σ) (hb : (b, AObj.list ys) ∈ p :: σ) (hn : xs.length + ys.length ≤ 1000000) (h : ∀ a, K (.ref a) (p :: (a, .list (xs ++ ys)) :: σ)) :
    W2 VR c A (binaryOp .Add) (.ref l) (.ref b) (p :: σ) K := fun s Q E x y R hX hY q => by
  cases hX; cases hY
  obtain ⟨vs, n, e, hv⟩ := R.ob _ hl
  obtain ⟨us, n2, e2, hu⟩ := R.ob _ hb
  refine P.add_list e e2 ?_ (by have := hv.length; have := hu.length; simp [*]; exact len_fit hn)
  have R' := R.newList (a := s.heap.objs.size) (Xs := xs ++ ys) (us := vs ++ us) (h' := s.heap.push { cls := .type "list", data := .seq (vs.toArray ++ us.toArray) }) (Nat.le_refl _) (fun b o e => Heap.get?_push_of_some _ e) (by rw [show (vs ++ us).toArray = vs.toArray ++ us.toArray by simp]; exact Heap.get?_push_size _ rfl)
    ((hv.app hu).imp fun _ _ => VR.ext (Ext.push _)) s.toks
  exact q _ _ _ _ (h _) rfl (R'.perm (List.Perm.swap ..)) (Ext.push _)
end
end Mine
end
section
open PySem PySem.Calls PyProof.Rows PySem.W
set_option maxRecDepth 100000
set_option linter.unusedVariables false
set_option linter.unusedSimpArgs false
namespace Mine
section
variable {c : Cx} {A : Around} {σ : Led} {env : Env} {K : V → Led → Prop}
-- range
noncomputable def isRange (a b : Int) (o : Obj) : Prop := ∃ t u v, o = { cls := .type "range", dict := none, data := .fields #[.int a t, .int b u, .int 1 v], slots := #[] }
noncomputable abbrev rangeE (a b : Int) : AObj := .any fun _ o => isRange a b o
theorem B_range1 {p : Addr × AObj} {n : Int} (h : ∀ r, K (.ref r) (p :: (r, rangeE 0 n) :: σ)) : WN VR c A (fun vs => call (.type "range") vs) [.int n] (p :: σ) K := by
  intro s Q E vs R hvs q
  cases hvs with
  | cons h1 r =>
    cases r; obtain ⟨t, rfl⟩ := h1
    refine call_range_1 ?_
    exact q _ _ _ _ (h _) rfl ((R.add (a := s.heap.objs.size) (ao := rangeE 0 n) (Nat.le_refl _) (fun b o e => Heap.get?_push_of_some _ e) (show OR c.z _ _ (.any _) from ⟨_, Heap.get?_push_size _ rfl, (fun e => by injection e with e; revert e; decide), fun _ _ => ⟨_, _, _, rfl⟩⟩) _).perm (List.Perm.swap ..)) (Ext.push _)
theorem B_range2 {p : Addr × AObj} {m n : Int} (h : ∀ r, K (.ref r) (p :: (r, rangeE m n) :: σ)) : WN VR c A (fun vs => call (.type "range") vs) [.int m, .int n] (p :: σ) K := by
  intro s Q E vs R hvs q
  cases hvs with
  | cons h1 r =>
    cases r with
    | cons h2 r =>
      cases r; obtain ⟨t, rfl⟩ := h1; obtain ⟨u, rfl⟩ := h2
      refine call_range_2 ?_
      exact q _ _ _ _ (h _) rfl ((R.add (a := s.heap.objs.size) (ao := rangeE m n) (Nat.le_refl _) (fun b o e => Heap.get?_push_of_some _ e) (show OR c.z _ _ (.any _) from ⟨_, Heap.get?_push_size _ rfl, (fun e => by injection e with e; revert e; decide), fun _ _ => ⟨_, _, _, rfl⟩⟩) _).perm (List.Perm.swap ..)) (Ext.push _)
/-- the ints from a up to b -/
noncomputable def span (a b : Int) : List Int := (List.range (b - a).toNat).map fun (i : Nat) => a + (i : Int)
noncomputable abbrev iterE (a n i : Int) : AObj := .any fun _ o => o = { cls := .type "range_iterator", dict := none, data := .fields #[rawInt (a + i), rawInt (n - i), rawInt 1], slots := #[] }
theorem It_range (hh : A.handled = none) {r : Addr} {a b : Int} (h0 : -(2 ^ 61) ≤ a) (h1 : a < 2 ^ 61) (h2 : -(2 ^ 61) ≤ b) (h3 : b < 2 ^ 61) (hr : (r, rangeE a b) ∈ σ) : ItersAt c A (.ref r) ((span a b).map V.int) (fun _ => True) σ := by
  intro K hK s Q E x R hx q
  cases hx
  obtain ⟨o, ho, hc, hP⟩ := R.ob _ hr
  obtain ⟨t, u, v, rfl⟩ := hP _ (Ext.refl _)
  have hsz : Builtin.Range.rangeSize a b 1 = ((b - a).toNat : Int) := by rw [rangeSize_one]; split <;> omega
  refine wpAny_pyIter_range (a := a) (b := b) (c := 1) (t := t) (u := u) (v := v) ho (small_one (by omega) (by omega) (by omega) (by omega)) ?_
  rw [hsz]
  have R' := R.add (a := s.heap.objs.size) (ao := iterE a ((b - a).toNat : Int) ((0 : Nat) : Int)) (h' := s.heap.push { cls := .type "range_iterator", data := .fields #[rawInt a, rawInt ((b - a).toNat : Int), rawInt 1] }) (Nat.le_refl _) (fun b o e => Heap.get?_push_of_some _ e)
    (show OR c.z _ _ (.any _) from ⟨_, Heap.get?_push_size _ rfl, (fun e => by injection e with e; revert e; decide), fun _ _ => by simp⟩) s.toks
  refine q _ _ _ _ (hK s.heap.objs.size (fun i => iterE a ((b - a).toNat : Int) (i : Int)) ?_) rfl R' (Ext.push _)
  constructor
  · intro i σ σ' X K hi _ u hk s Q E R q
    obtain ⟨o, ho, hc, hP⟩ := R.ob _ u.mem
    have e := hP _ (Ext.refl _)
    subst e
    have hlt : i < (b - a).toNat := by
      rcases Nat.lt_or_ge i (b - a).toNat with h | h
      · exact h
      · rw [List.getElem?_eq_none (by simp [span]; omega)] at hi; cases hi
    have hX : X = .int (a + (i : Int)) := by
      simp [span, hlt] at hi
      exact hi.symm
    subst hX
    refine wpAny_pyNext_range_item (x := a + i) (left := ((b - a).toNat : Int) - i) (step := 1) ho (by omega) fun h' hit hs => ?_
    obtain ⟨R', x⟩ := R.upd u (one_step hs) (show OR c.z _ _ (.any _) from ⟨_, hit, (fun e => by injection e with e; revert e; decide), fun _ _ => by
      have e1 : a + (i : Int) + 1 = a + ((i + 1 : Nat) : Int) := by push_cast; omega
      have e2 : ((b - a).toNat : Int) - (i : Int) - 1 = ((b - a).toNat : Int) - ((i + 1 : Nat) : Int) := by push_cast; omega
      rw [e1, e2]⟩) (s.toks + 1)
    exact q _ (some _) _ _ hk ⟨_, rfl⟩ R' x
  · intro σ σ' K _ u hk s Q E R q
    obtain ⟨o, ho, hc, hP⟩ := R.ob _ u.keys
    have e := hP _ (Ext.refl _)
    subst e
    refine wpAny_pyNext_range_end (x := a + (((span a b).map V.int).length : Nat)) (left := ((b - a).toNat : Int) - (((span a b).map V.int).length : Nat)) (step := 1) hh ho (by simp [span]) fun h' hs => ?_
    obtain ⟨R', x⟩ := R.gone u hs s.toks
    exact q none none _ _ hk trivial R' x
  · intro i σ K hm hk s Q E R q
    obtain ⟨o, ho, hc, hP⟩ := R.ob _ hm
    have e := hP _ (Ext.refl _)
    subst e
    exact wpAny_pyIter_rangeiter (x := a + i) (left := ((b - a).toNat : Int) - i) (step := 1) ho (q _ _ _ _ hk rfl R (Ext.refl _))
-- sum
theorem preSum_eq (ns : List Int) : ∀ n, n ≤ ns.length → preSum (fun i => ns.getD i 0) n = (ns.take n).sum := by
  intro n
  induction n with
  | zero => intro _; simp [preSum]
  | succ n ih =>
    intro h
    have e : ns.take (n + 1) = ns.take n ++ [ns.getD n 0] := by
      rw [List.take_add_one]; simp [List.getD, h]
      rw [List.getElem?_eq_getElem (by omega)]; rfl
    rw [preSum, ih (by omega), e]
    simp
theorem Rep.moved {I : Addr} {s s' : Shared} {G : Array GenState → Array GenState → Prop} (R : Rep c σ s) (hI : s.heap.objs.size ≤ I) (x : ∀ b o, b ≠ I → s.heap.get? b = some o → s'.heap.get? b = some o) (hg : s'.gens = s.gens) (ho : s'.os = s.os) : Rep c σ s' ∧ Ext c.z s.heap s'.heap := by
  have k : ∀ b o, s.heap.get? b = some o → s'.heap.get? b = some o := fun b o e => x b o (fun q => Nat.not_lt.mpr hI (q ▸ Heap.lt_size e)) e
  have R' := R.grow k s'.toks
  exact ⟨⟨R'.keep, hg.trans R.gens, ho.trans R.os, R'.ob, R'.zs, R'.fr, R'.nd⟩, fun _ _ _ _ e => k _ _ e⟩
theorem B_sum {l : Addr} {ns : List Int} (hh : A.handled = none) (hl : (l, AObj.list (ns.map V.int)) ∈ σ) (h : K (.int ns.sum) σ) : WN VR c A (fun vs => call (.builtin "sum") vs) [.ref l] σ K := by
  intro s Q E vs R hvs q
  cases hvs with
  | cons h1 r =>
    cases r; cases h1
    obtain ⟨ws, n, e, hw⟩ := R.ob _ hl
    have hi := intsAre_of hw
    have hlen := hw.length
    simp at hlen
    have hne : l ≠ s.heap.objs.size := Nat.ne_of_lt (Heap.lt_size e)
    have hh1 : A.in1.handled = none := hh
    refine call_sum_walkAnyS (wpAny_pyIter_list (isList_of e) ⟨s.heap.objs.size, _, _, _, _, _, _, (fun i => ns.getD i 0), rfl, (Walks.list (A := A.in1) hh1 s.heap.objs.size l hne ws.toArray).toS, ⟨⟨_, Heap.get?_push_size _ rfl, rfl, rfl⟩, (isList_of e).push _⟩, fun b hb => ?_, fun i v hv => ?_, fun s' t' mv => ?_⟩)
    · simp at hb
      rcases hb with rfl | rfl
      · simp [Heap.size_push]
      · show b < (s.heap.push _).objs.size; rw [Heap.size_push]; exact Nat.lt_succ_of_lt (Heap.lt_size e)
    · have hv' : ws[i]? = some v := by simpa using hv
      exact ints_get hi i v hv'
    · have e' : preSum (fun i => ns.getD i 0) ws.toArray.size = ns.sum := by
        rw [List.size_toArray, hlen, preSum_eq ns _ (Nat.le_refl _), List.take_length]
      rw [e']
      obtain ⟨R', x⟩ := R.moved (s' := s') (G := fun a b => b = a) (Nat.le_refl _) (fun b o hb e => mv.heap b o (by simpa using hb) (Heap.get?_push_of_some _ e)) mv.gens mv.os
      exact q _ _ _ _ h ⟨_, rfl⟩ R' x
where
  ints_get : ∀ {ws : List Value} {ns : List Int}, IntsAre ws ns → ∀ (i : Nat) (v : Value), ws[i]? = some v → ∃ t, v = .int (ns.getD i 0) t
  | _, _, .nil, i, v, h => by simp at h
  | _, _, .cons _ _ r, i, v, h => by
    cases i with
    | zero => simp at h; subst h; exact ⟨_, rfl⟩
    | succ i => simp at h; simpa using ints_get r i v h
-- tuple targets
theorem W_assignTup2 {x y : Str} {px py pos : Pos} {k : Nat} {P P' : At} {ρ ρ₁ ρ₂ : List (Str × Option V)} {K : Unit → Led → Prop} (hh : A.handled = none) (h1 : Put x (atV P) ρ ρ₁) (h2 : Put y (atV P') ρ₁ ρ₂) (h : K () ((env.locals, .ns env.scope ρ₂) :: σ))
    (hk : env.scope.kind = .function := by rfl) : W1 (fun _ _ _ _ => True) c A (assign (.Tuple [.Name x px, .Name y py] k pos) env) (.tup [P, P']) ((env.locals, .ns env.scope ρ) :: σ) K := by
  intro s Q E v R ⟨a, vs, n, e1, ⟨_, e2⟩, e3⟩ q
  subst e1
  cases e3 with
  | cons g1 r =>
    cases r with
    | cons g2 r =>
      cases r
      rename_i v1 v2
      refine assign_Tuple_tuple hh (items := [v1, v2].toArray) ⟨_, e2, rfl, n, rfl⟩ (by rfl) (by rfl) fun h' hx => ?_
      have k' : ∀ b o, s.heap.get? b = some o → h'.get? b = some o := fun b o e => hx b o (Nat.ne_of_lt (Heap.lt_size e)) e
      have R' := R.grow k' s.toks
      have hx' : Ext c.z s.heap h' := fun _ _ _ _ e => k' _ _ e
      show wpAny _ _ (do holding [v2] (assign (.Name x px) env v1); assignInOrder [assign (.Name y py) env] [v2]) _ _ _
      refine wpAny_bind (wpAny_holding (W_assignName (W_store (K := fun _ σ' => σ' = (env.locals, .ns env.scope ρ₁) :: σ) h1 rfl hk) _ _ _ v1 R' g1.vr fun _ _ σ₁ s₁ e₁ _ R₁ x₁ => ?_))
      subst e₁
      show wpAny _ _ (do holding [] (assign (.Name y py) env v2); assignInOrder [] []) _ _ _
      refine wpAny_bind (wpAny_holding (W_assignName (W_store (K := fun _ σ' => σ' = (env.locals, .ns env.scope ρ₂) :: σ) h2 rfl hk) _ _ _ v2 R₁ g2.vr fun _ _ σ₂ s₂ e₂ _ R₂ x₂ => ?_))
      subst e₂
      exact wpAny_pure (q _ () _ _ h trivial R₂ ((hx'.trans x₁).trans x₂))
theorem WF_AssignTup {elts : List Expr} {k : Nat} {tpos pos : Pos} {value : Expr} {K : Fl → Led → Prop} (h : W c A (eval value env) σ fun X σ₁ => W1 (fun _ _ _ _ => True) c A (assign (.Tuple elts k tpos) env) X σ₁ fun (_ : Unit) σ₂ => K .next σ₂)
    (hs : swapsWithSole [.Tuple elts k tpos] value pos.line env = pure false := by rfl) (hw : swappedStores [.Tuple elts k tpos] value env = pure none := by rfl) : WF c A (exec (.Assign [.Tuple elts k tpos] value pos) env) σ K :=
  fun s Q E R q => Assign_Tuple (h s _ _ R fun x X σ₁ s₁ h₁ hx R₁ x₁ => h₁ s₁ _ _ x R₁ hx fun _ _ σ' s' hk _ R' x' => q _ _ σ' s' hk rfl R' (x₁.trans x')) hs hw
/-- xs[::-1] -/
theorem W_sliceRev {value st : Expr} {p pos : Pos} (h : W c A (eval value env) σ fun X σ₁ => W c A (eval st env) σ₁ fun Y σ₂ => ∃ l xs, X = .ref l ∧ Y = .int (-1) ∧ (l, AObj.list xs) ∈ σ₂ ∧ xs.length ≤ 1000000 ∧
      ∃ q τ, σ₂ = q :: τ ∧ ∀ a, K (.ref a) (q :: (a, .list xs.reverse) :: τ))
    (ht : ∀ o r, letTemporaryGo value o r = pure () := by intro _ _; rfl) : W c A (eval (.Subscript value (.Slice none none (some st) p) pos) env) σ K := by
  intro s Q E R q
  refine wpAny_Subscript_Slice_step (T := "list") list_getitem_lookup (h s _ _ R fun o X σ₁ s₁ h₁ ho R₁ x₁ => wpAny_Slice ?_) ht
  rw [evalPart_none, evalPart_some]
  refine wpAny_pure (wpAny_pure (h₁ s₁ _ _ R₁ fun i Y σ₂ s₂ ⟨l, xs, e1, e2, hl, hn, pp, τ, e3, hk⟩ hi R₂ x₂ => ?_))
  subst e1 e2 e3
  cases ho
  obtain ⟨t, rfl⟩ := hi
  obtain ⟨ws, n, e, hw⟩ := R₂.ob _ hl
  have hlen := hw.length
  refine ⟨((isList_of e).push _).typeIs, wpAny_getItem_list_slice (lo := none) (hi := none) (st := some (-1)) ((isList_of e).push _) (Heap.IsSliceOf.new ..) .none .none (.int _ _) (by decide) ?_ (by rw [List.size_toArray, hlen]; exact len_fit hn)⟩
  rw [krv_pick, Heap.size_push]
  have k2 : ∀ b o, s₂.heap.get? b = some o → ((s₂.heap.push { cls := .type "slice", data := .fields #[.none, .none, .int (-1) t] }).push { cls := .type "list", data := .seq ws.reverse.toArray }).get? b = some o := fun b o e => Heap.get?_push_of_some _ (Heap.get?_push_of_some _ e)
  have R' := R₂.newList (a := s₂.heap.objs.size + 1) (Xs := xs.reverse) (us := ws.reverse) (n := 0) (by omega) k2 (by
    have := Heap.get?_push_size (s₂.heap.push { cls := .type "slice", data := .fields #[.none, .none, .int (-1) t] }) (o := { cls := .type "list", data := .seq ws.reverse.toArray }) rfl
    rw [Heap.size_push] at this; exact this) (hw.rev.imp fun _ _ => VR.ext fun _ _ _ _ e => k2 _ _ e) s₂.toks
  exact q _ _ _ _ (hk _) rfl (R'.perm (List.Perm.swap ..)) ((x₁.trans x₂).trans fun _ _ _ _ e => k2 _ _ e)
/-- x[:k], of a text -/
theorem W_sliceS {value upper : Expr} {p pos : Pos} (h : W c A (eval value env) σ fun X σ₁ => W c A (eval upper env) σ₁ fun Y σ₂ => ∃ x k z, X = .str x ∧ Y = .int k ∧ x.length ≤ 1000000 ∧ Txt.slice x none (some k) = z ∧ K (.str z) σ₂)
    (ht : ∀ o r, letTemporaryGo value o r = pure () := by intro _ _; rfl) : W c A (eval (.Subscript value (.Slice none (some upper) none p) pos) env) σ K := by
  intro s Q E R q
  refine wpAny_Subscript_Slice (T := "str") F.slot_str_getitem.lookup (h s _ _ R fun o X σ₁ s₁ h₁ ho R₁ x₁ => wpAny_Slice ?_) ht
  rw [evalPart_none, evalPart_some]
  refine wpAny_pure (h₁ s₁ _ _ R₁ fun i Y σ₂ s₂ ⟨x, k, z, e1, e2, hn, e3, hk⟩ hi R₂ x₂ => wpAny_pure ?_)
  subst e1 e2 e3
  obtain ⟨t, rfl⟩ := ho
  obtain ⟨u, rfl⟩ := hi
  refine ⟨typeIs_str _ _ _, ?_⟩
  obtain ⟨T, id, hl, hT, hg⟩ := SBH.sliceItem_ns (prog := c.prog) (w := c.w) (A := A) (E := E) (P := fun h' => ∀ b o, s₂.heap.get? b = some o → h'.get? b = some o) (s := s₂) (x := x) (t := t) (j := k) (uj := u) (Q := Q) (fun h ob hh b o e => Heap.get?_push_of_some _ (hh b o e)) (fun _ _ e => e)
    (fun h' t' k' hP => q _ _ _ _ hk ⟨_, rfl⟩ (R₂.grow hP k') ((x₁.trans x₂).trans fun _ _ _ _ e => hP _ _ e)) (len_fit hn)
  exact hg
-- x op= v
theorem WF_AugName {x : Str} {pos' pos : Pos} {op : Operator} {value : Expr} {K : Fl → Led → Prop} (h : W c A (loadName env x) σ fun X σ₁ => W c A (eval value env) σ₁ fun Y σ₂ => W2 VR c A (inplaceOp op) X Y σ₂ fun Z σ₃ => W1 (fun _ _ _ _ => True) c A (storeName env x) Z σ₃ fun (_ : Unit) σ₄ => K .next σ₄) :
    WF c A (exec (.AugAssign (.Name x pos') op value pos) env) σ K :=
  fun s Q E R q => wpAny_AugAssign_Name (h s _ _ R fun x X σ₁ s₁ h₁ hx R₁ x₁ => h₁ s₁ _ _ R₁ fun y Y σ₂ s₂ h₂ hy R₂ x₂ => h₂ s₂ _ _ x y R₂ (hx.ext x₂) hy fun z Z σ₃ s₃ h₃ hz R₃ x₃ => h₃ s₃ _ _ z R₃ hz fun _ _ σ₄ s₄ hk _ R₄ x₄ => q _ _ _ _ hk rfl R₄ (((x₁.trans x₂).trans x₃).trans x₄))
end
end Mine
end
section
open PySem PySem.Calls PyProof.Rows PySem.W
set_option maxRecDepth 100000
set_option linter.unusedVariables false
set_option linter.unusedSimpArgs false
namespace Mine
inductive CompF (env : Env) (sc : Scope) (C D : Addr) (p : Addr × AObj) (J : Nat → List V → List (Str × Option V) → Led → Prop) (i : Nat) (ys ys' : List V) (σ : Led) : Prop
  | mk' {τ : Led} {ρc ρ : List (Str × Option V)} (hs : Sub ((C, .ns sc ρc) :: p :: (D, .list ys) :: (env.locals, .ns env.scope ρ) :: τ) σ) (hρ : ρc.map (·.1) = locs sc) (hJ : J i ys' ρ τ)
noncomputable def JF (env : Env) (J : Nat → List V → List (Str × Option V) → Led → Prop) (i : Nat) (ys : List V) (τ : Led) : Prop := ∃ ρ τ', τ = (env.locals, .ns env.scope ρ) :: τ' ∧ J i ys ρ τ'
section
variable {c : Cx} {A : Around} {σ : Led} {env : Env} {K : V → Led → Prop}
theorem CompF.toT {sc : Scope} {C D : Addr} {p : Addr × AObj} {J : Nat → List V → List (Str × Option V) → Led → Prop} {i : Nat} {ys ys' : List V} (h : CompF env sc C D p J i ys ys' σ) : CompT sc C D p (JF env J) i ys ys' σ := by
  obtain ⟨h2, h1, h3⟩ := h
  exact ⟨h2, h1, _, _, rfl, h3⟩
theorem WT.mono {ifs : List Expr} {K K' : Bool → Led → Prop} (h : WT c A ifs env σ K) (i : ∀ b σ', K b σ' → K' b σ') : WT c A ifs env σ K' := by
  cases ifs with
  | nil => exact i _ _ h
  | cons t r =>
    cases r with
    | nil => exact WG.mono (show WB c A (isTrue t env (eval t env)) σ K from h) i
    | cons _ _ => exact h.elim
theorem WT_nil {K : Bool → Led → Prop} (h : K true σ) : WT c A [] env σ K := h
theorem WT_one {t : Expr} {K : Bool → Led → Prop} (h : WB c A (isTrue t env (eval t env)) σ K) : WT c A [t] env σ K := h
theorem W1.mono {α β : Type} {R : (Addr → Prop) → Heap → α → β → Prop} {f : Value → Sem α} {X : V} {K K' : β → Led → Prop} (h : W1 R c A f X σ K) (i : ∀ b σ', K b σ' → K' b σ') : W1 R c A f X σ K' :=
  fun s Q E x r hx k => h s Q E x r hx fun a b σ' s' hk => k a b σ' s' (i _ _ hk)
theorem If.mono {z : Bool} {p q p' q' : Prop} (h : If z p q) (h1 : p → p') (h2 : q → q') : If z p' q' := ⟨fun e => h1 (h.yes e), fun e => h2 (h.no e)⟩
theorem W_CompF {elt target iter : Expr} {ifs : List Expr} {scope : Scope} {pos : Pos} {items : List V} {need : Led → Prop}
    (ns : List (Str × NameKind)) (cl : List (Str × Addr)) (ρ0 : List (Str × Option V)) (J : Nat → List V → List (Str × Option V) → Led → Prop) (hneed : ∀ p σ, need σ → need (p :: σ)) (hJ : ∀ i ys ρ τ, J i ys ρ τ → need τ) (hn : items.length ≤ 1000000)
    (hns : relabel scope env = scG scope ns) (hρ0 : rho0 (scG scope ns) = ρ0) (hcl : closureFor scope env = pure cl) (hk : scope.kind = .function)
    (hnn : (ns.map (·.1)).Nodup) (hcell : ∀ x ∈ scope.names, x.2 ≠ .cell) (hnd : (scope.names.map (·.1)).Nodup)
    (h : W c A (eval iter env) σ (ForP c A items need env (J 0 [])))
    (turn : ∀ J' : Nat → List V → List (Str × Option V) → Led → Prop, (∀ i ys ρ τ, J i ys ρ τ → J' i ys ρ τ) → ∀ C D i X ys ρ τ p, items[i]? = some X → J i ys ρ τ → W1 (fun _ _ _ _ => True) c A (assign target (envG (scG scope ns) C cl env)) X ((C, .ns (scG scope ns) ρ0) :: p :: (D, .list ys) :: (env.locals, .ns env.scope ρ) :: τ) fun (_ : Unit) σ₂ =>
      WT c A ifs (envG (scG scope ns) C cl env) σ₂ fun ok σ₃ => If ok (W c A (eval elt (envG (scG scope ns) C cl env)) σ₃ fun Y σ₄ => CompF env (scG scope ns) C D p J' (i + 1) ys (ys ++ [Y]) σ₄) (CompF env (scG scope ns) C D p J' (i + 1) ys ys σ₃))
    (fin : ∀ D ys ρ τ, J items.length ys ρ τ → K (.ref D) ((env.locals, .ns env.scope ρ) :: (D, .list ys) :: τ))
    (hs : ∀ x, foldedSetIterable iter env x = pure x := by intro _; rfl) (ht : ∀ it v, letOwnedTupleGo target it v = pure () := by intro _ _; rfl) :
    W c A (eval (.ListComp elt [⟨target, iter, ifs, 0⟩] scope pos) env) σ K := by
  subst hρ0
  refine W_Comp ns cl (JF env J) hneed (fun i ys τ ⟨ρ, τ', e, hj⟩ => e ▸ hneed _ _ (hJ _ _ _ _ hj)) hn hns hcl hk hnn hcell hnd (WG.mono h fun X σ₁ ⟨hi, ρ, τ, e, hj⟩ => ⟨hi, ρ, τ, e, hj⟩) (fun C D i X ys τ p hi ⟨ρ, τ', e, hj⟩ => ?_) (fun D ys τ ⟨ρ, τ', e, hj⟩ => ⟨_, _, e, fin D ys ρ τ' hj⟩) hs ht
  subst e
  exact (turn J (fun _ _ _ _ h => h) C D i X ys ρ τ' p hi hj).mono fun _ σ₂ h₂ => h₂.mono fun ok σ₃ h₃ => h₃.mono (fun h => WG.mono h fun Y σ₄ h₄ => h₄.toT) CompF.toT
theorem WF_AssignCompF {x : Str} {py : Pos} {elt target iter : Expr} {ifs : List Expr} {scope : Scope} {pos spos : Pos} {items : List V} {need : Led → Prop} {K : Fl → Led → Prop}
    (ns : List (Str × NameKind)) (cl : List (Str × Addr)) (ρ0 : List (Str × Option V)) (J : Nat → List V → List (Str × Option V) → Led → Prop) (hneed : ∀ p σ, need σ → need (p :: σ)) (hJ : ∀ i ys ρ τ, J i ys ρ τ → need τ) (hn : items.length ≤ 1000000)
    (hns : relabel scope env = scG scope ns) (hρ0 : rho0 (scG scope ns) = ρ0) (hcl : closureFor scope env = pure cl) (hk : scope.kind = .function)
    (hnn : (ns.map (·.1)).Nodup) (hcell : ∀ x ∈ scope.names, x.2 ≠ .cell) (hnd : (scope.names.map (·.1)).Nodup) (hke : env.scope.kind = .function)
    (h : W c A (eval iter env) σ (ForP c A items need env (J 0 [])))
    (turn : ∀ J' : Nat → List V → List (Str × Option V) → Led → Prop, (∀ i ys ρ τ, J i ys ρ τ → J' i ys ρ τ) → ∀ C D i X ys ρ τ p, items[i]? = some X → J i ys ρ τ → W1 (fun _ _ _ _ => True) c A (assign target (envG (scG scope ns) C cl env)) X ((C, .ns (scG scope ns) ρ0) :: p :: (D, .list ys) :: (env.locals, .ns env.scope ρ) :: τ) fun (_ : Unit) σ₂ =>
      WT c A ifs (envG (scG scope ns) C cl env) σ₂ fun ok σ₃ => If ok (W c A (eval elt (envG (scG scope ns) C cl env)) σ₃ fun Y σ₄ => CompF env (scG scope ns) C D p J' (i + 1) ys (ys ++ [Y]) σ₄) (CompF env (scG scope ns) C D p J' (i + 1) ys ys σ₃))
    (fin : ∀ D ys ρ τ, J items.length ys ρ τ → ∃ ρ', Put x (.ref D) ρ ρ' ∧ K .next ((env.locals, .ns env.scope ρ') :: (D, .list ys) :: τ))
    (hsw : swapsWith (.ListComp elt [⟨target, iter, ifs, 0⟩] scope pos) (some (.Name x py)) spos.line env = pure true)
    (hs : ∀ x, foldedSetIterable iter env x = pure x := by intro _; rfl) (ht : ∀ it v, letOwnedTupleGo target it v = pure () := by intro _ _; rfl) :
    WF c A (exec (.Assign [.Name x py] (.ListComp elt [⟨target, iter, ifs, 0⟩] scope pos) spos) env) σ K := by
  subst hρ0
  refine WF_AssignComp ns cl (JF env J) hneed (fun i ys τ ⟨ρ, τ', e, hj⟩ => e ▸ hneed _ _ (hJ _ _ _ _ hj)) hn hns hcl hk hnn hcell hnd hke (WG.mono h fun X σ₁ ⟨hi, ρ, τ, e, hj⟩ => ⟨hi, ρ, τ, e, hj⟩) (fun C D i X ys τ p hi ⟨ρ, τ', e, hj⟩ => ?_) (fun D ys τ ⟨ρ, τ', e, hj⟩ => let ⟨ρ', h1, h2⟩ := fin D ys ρ τ' hj; ⟨_, ρ', _, e, h1, h2⟩) hsw hs ht
  subst e
  exact (turn J (fun _ _ _ _ h => h) C D i X ys ρ τ' p hi hj).mono fun _ σ₂ h₂ => h₂.mono fun ok σ₃ h₃ => h₃.mono (fun h => WG.mono h fun Y σ₄ h₄ => h₄.toT) CompF.toT
end
end Mine
namespace Mine
section
variable {c : Cx} {A : Around} {σ : Led} {env : Env} {K : V → Led → Prop}
/-- a method called, its arguments heavy -/
theorem W_MethH {o : Expr} {name : Str} {apos pos : Pos} {args : List Expr} (id : String) (h : W c A (eval o env) σ fun O σ₁ => Meth c O name id σ₁ ∧ WL c A (spliced (backTo pos (starEach args env))) σ₁ fun Xs σ₂ => WN VR c A (fun vs => call (.builtin id) vs) (O :: Xs) σ₂ K)
    (hp : (backTo pos (starEach args env)).any (·.1) = false)
    (hbase : attributeBase o name env (eval o env) = eval o env)
    (hform : methodCallForm (args.length + ([] : List Keyword).length) (backTo pos (starEach args env)) (backToKw pos (keywordEach [] env)) = true)
    (hline : (apos.endLine == pos.line) = true) : W c A (eval (.Call (.Attribute o name apos) args [] pos) env) σ K := by
  intro s Q E R q
  rw [arm_eval_Call, hbase]
  refine wpAny_bind (h s _ _ R fun ov O σ₁ s₁ ⟨hm, h₁⟩ ho R₁ x₁ => wpAny_bind (wpAny_standAt ?_))
  have hpos : methodCallPos true o env apos pos = pure pos := by unfold methodCallPos; simp [hline]
  unfold methodCall
  rw [hform]
  unfold calleeOf
  simp only [if_true]
  refine wpAny_bind (wpAny_holding (hm A s₁ _ _ _ _ R₁ ho ?_))
  refine wpAny_bind (wpAny_of_eq hpos ?_)
  exact W_callWith (first := [O]) (h₁.mono fun _ _ z => ⟨Keeps.builtin, z⟩) hp s₁ _ _ [ov] R₁ (.cons ho .nil) fun a b σ' s' hk hr R' x' => q a b σ' s' hk hr R' (x₁.trans x')
end
end Mine
namespace Mine
theorem join_fold : ∀ (ls : List Str) (acc : Array Nat), (ls.foldl (fun acc p => acc ++ (Str.ofString "").cps ++ p.cps) acc).toList = acc.toList ++ (ls.map fun s => s.cps.toList).flatten
  | [], acc => by simp
  | x :: ls, acc => by
    rw [List.foldl_cons, join_fold ls]
    have e : (Str.ofString "").cps = #[] := by decide +kernel
    simp [e]
theorem join_S (ls : List Str) : Txt.join (Str.ofString "") ls = S (ls.map fun s => s.cps.toList).flatten := by
  unfold Txt.join
  cases ls with
  | nil => decide +kernel
  | cons x ls =>
    have : (Builtin.Str.glued (Str.ofString "") (x :: ls)).cps.toList = ((x :: ls).map fun s => s.cps.toList).flatten := by
      show (ls.foldl (fun acc p => acc ++ (Str.ofString "").cps ++ p.cps) x.cps).toList = _
      rw [join_fold]; simp
    rw [← this, S_of]
theorem joinOk_S (ls : List Str) (h : (ls.map fun s => s.length).sum ≤ 1000000) : JoinOk (Str.ofString "") ls = true := by
  unfold JoinOk
  have key : ∀ (ls : List Str) (n : Nat), ls.foldl (fun a b => a + b.length + (Str.ofString "").length) n = n + (ls.map fun s => s.length).sum := by
    intro ls
    induction ls with
    | nil => intro n; simp
    | cons x ls ih =>
      intro n
      have : (Str.ofString "").length = 0 := by decide +kernel
      rw [List.foldl_cons, ih, this]
      simp; omega
  have : ls.toArray.foldl (fun a b => a + b.length + (Str.ofString "").length) 0 = (ls.map fun s => s.length).sum := by
    rw [List.foldl_toArray']
    · rw [key]; simp
    · rfl
  rw [this]
  simp [Builtin.Str.tooLong, sizeLine_eq]
  omega
end Mine
end
section
open PySem PySem.Calls PyProof.Rows PySem.W
set_option maxRecDepth 100000
set_option linter.unusedVariables false
set_option linter.unusedSimpArgs false
namespace Mine
section
variable {c : Cx} {A : Around} {σ : Led} {env : Env}
theorem letgo_list {M : Model} {E : Value → Shared → Prop} {s : Shared} {target : Expr} {I : Addr} {v w : Value} {i : Nat} {o : Obj} {Q : Unit → Shared → Prop} (ho : s.heap.get? I = some o) (hi : isIter "list_iterator" w i o) (h : Q () s) :
    wpAny M A (letOwnedTupleGo target (.ref I) v) Q E s := by
  have main : wpAny M A (match (Value.ref I, v) with
      | (.ref r, .ref a) => do
        let o ← load r
        match o.cls, o.data with
        | .type n, .fields vs =>
          if ["enumerate", "zip", "dict_itemiterator", "dict_reverseitemiterator", "odict_iterator", "itertools.zip_longest", "itertools.pairwise"].contains n && vs[0]? == some (rawInt a) then
            rule "for.unpacks-the-owned-tuple"
            updateField r 0 .none
          else pure ()
        | _, _ => pure ()
      | _ => pure () : Sem Unit) Q E s := by
    obtain ⟨hc, hd⟩ := hi
    obtain ⟨oc, od, oda, osl⟩ := o
    dsimp only at hc hd
    subst hc hd
    cases v with
    | ref a =>
      refine wpAny_bind (wpAny_load ho ?_)
      dsimp only
      rw [if_neg (by simp)]
      exact wpAny_pure h
    | _ => exact wpAny_pure h
  unfold letOwnedTupleGo
  cases target <;> first | exact wpAny_pure h | exact main
inductive ForLP (c : Cx) (A : Around) (env : Env) (target : Expr) (body : List Stmt) (K : Fl → Led → Prop) (X : V) (σ₁ : Led) : Prop
  | mk (l : Addr) (xs : List V) (J : Nat → List (Str × Option V) → Led → Prop) (e : X = .ref l) (h0 : ∃ ρ τ, σ₁ = (env.locals, .ns env.scope ρ) :: τ ∧ J 0 ρ τ) (hJ : ∀ i ρ τ, J i ρ τ → (l, AObj.list xs) ∈ τ)
      (turn : ∀ J' : Nat → List (Str × Option V) → Led → Prop, (∀ i ρ τ, J i ρ τ → J' i ρ τ) → ∀ i X ρ τ p, xs[i]? = some X → J i ρ τ → W1 (fun _ _ _ _ => True) c A (assign target env) X ((env.locals, .ns env.scope ρ) :: p :: τ) fun (_ : Unit) σ₂ => WF c A (execs body env) σ₂ (TurnI env p J' i K))
      (fin : ∀ ρ τ, J xs.length ρ τ → K .next ((env.locals, .ns env.scope ρ) :: τ))
/-- ahead of a turn -/
inductive ForI (c : Cx) (h0 : Heap) (env : Env) (l I : Addr) (J : Nat → List (Str × Option V) → Led → Prop) (len n : Nat) (s : Shared) : Prop
  | mk (i : Nat) (ρ : List (Str × Option V)) (τ : Led) (hin : i + n = len) (hj : J i ρ τ) (R : Rep c ((env.locals, .ns env.scope ρ) :: (I, .any fun _ o => isIter "list_iterator" (.ref l) i o) :: τ) s) (x : Ext c.z h0 s.heap)
/-- a for over a list that stands, its target any -/
theorem WF_ForL {target iter body pos} {K : Fl → Led → Prop} (hh : A.handled = none)
    (h : W c A (eval iter env) σ (ForLP c A env target body K))
    (hs : ∀ x, foldedSetIterable iter env x = pure x := by intro _; rfl) :
    WF c A (exec (.For target iter body [] pos) env) σ K := by
  intro s Q E R q
  show wpAny _ _ (do standAt pos; let x ← foldedSetIterable iter env (← eval iter env); standAt iter.pos; runOwn (.forLoop target (← holding [x] (pyIter x)) body [] env) env) _ _ _
  refine wpAny_bind (wpAny_standAt (wpAny_bind (h s _ _ R fun x X σ₁ s₁ ⟨l, xs, J, e, ⟨ρ, τ, e2, h0⟩, hJ, turn, fin⟩ hx R₁ x₁ => ?_)))
  subst e e2
  cases hx
  rw [hs]
  have turn := turn J fun _ _ _ h => h
  have hl : (l, AObj.list xs) ∈ τ := hJ _ _ _ h0
  refine wpAny_bind (wpAny_pure (wpAny_bind (wpAny_standAt (wpAny_bind (wpAny_holding ?_)))))
  obtain ⟨vs, n, e, hv⟩ := R₁.ob _ (.tail _ hl)
  refine wpAny_pyIter_list (isList_of e) ?_
  have R₂ := add_iter (T := "list_iterator") (v := .ref l) R₁ (by decide)
  generalize hI : s₁.heap.objs.size = I at *
  have x2 : Ext c.z s₁.heap (s₁.heap.push { cls := .type "list_iterator", data := .fields #[.ref l, .int 0 0] }) := Ext.push _
  refine wpAny_runOwn (codeAny_forLoop_any (ForI c s.heap env l I J xs.length) (fun n s₃ ⟨i, ρ, τ, hin, hj, R₃, x₃⟩ => ?_) xs.length ⟨0, ρ, τ, Nat.zero_add _, h0, R₂.perm (List.Perm.swap ..), x₁.trans x2⟩)
  have hl : (l, AObj.list xs) ∈ τ := hJ _ _ _ hj
  obtain ⟨o, ho, hc, hP⟩ := R₃.ob _ (.tail _ (.head _))
  obtain ⟨hc', hd⟩ := hP _ (Ext.refl _)
  obtain ⟨vs, n', e, hv⟩ := R₃.ob _ (.tail _ (.tail _ hl))
  cases n with
  | zero =>
    cases (Nat.add_zero i).symm.trans hin
    refine wpAny_pyNext_list_end (l := l) (i := xs.length) hh ⟨o, ho, hc', hd⟩ (isList_of e) (by simp [hv.length]) fun h' hs => ?_
    obtain ⟨R', x⟩ := R₃.gone (.tail .head) hs s₃.toks
    exact wpAny_execs_nil (q _ _ _ _ (fin _ _ hj) rfl R' (x₃.trans x))
  | succ n =>
    have hlt : i < xs.length := hin ▸ Nat.lt_add_of_pos_right (Nat.succ_pos n)
    have hin' : i + 1 + n = xs.length := (Nat.add_right_comm i 1 n).trans hin
    obtain ⟨v, hv1, hv2⟩ := hv.get i xs[i] (List.getElem?_eq_getElem hlt)
    refine wpAny_pyNext_list_item (l := l) (i := i) ⟨o, ho, hc', hd⟩ (isList_of e) (by simpa using hv1) fun h' hit hs => ?_
    obtain ⟨o', ho', hc2, hd2⟩ := hit
    obtain ⟨R', x⟩ := R₃.upd (o' := .any fun _ o => isIter "list_iterator" (.ref l) (i + 1) o) (.tail .head) (one_step hs) (show OR c.z _ _ (.any _) from ⟨o', ho', ne_tuple hc2 (by decide), fun _ _ => ⟨hc2, hd2⟩⟩) s₃.toks
    show wpAny _ _ (letOwnedTupleGo target (.ref I) v) _ _ _
    refine letgo_list ho' ⟨hc2, hd2⟩ ?_
    refine turn i xs[i] ρ τ _ (List.getElem?_eq_getElem hlt) hj _ _ _ v R' (hv2.ext x) fun _ _ σ₅ s₅ h₅ _ R₅ x₅ => h₅ s₅ _ _ R₅ fun f F σ₆ s₆ h₆ hf R₆ x₆ => ?_
    have xx := ((x₃.trans x).trans x₅).trans x₆
    cases F with
    | next => cases hf; obtain ⟨ρ', τ', h1, h2⟩ := h₆; exact ⟨n, Nat.lt_succ_self _, i + 1, ρ', τ', hin', h2, R₆.subp h1, xx⟩
    | cont => cases hf; obtain ⟨ρ', τ', h1, h2⟩ := h₆; exact ⟨n, Nat.lt_succ_self _, i + 1, ρ', τ', hin', h2, R₆.subp h1, xx⟩
    | brk => cases hf; exact q _ _ _ _ h₆ rfl R₆ xx
    | ret X => obtain ⟨v, rfl, hv⟩ := hf; exact q _ _ _ _ h₆ ⟨v, rfl, hv⟩ R₆ xx
end
end Mine
namespace Mine
theorem B_lenE {c : Cx} {A : Around} {σ : Led} {K : V → Led → Prop} {l : Addr} {xs : List V} {n : Nat} (e : n = xs.length) (hl : (l, AObj.list xs) ∈ σ) (hn : n ≤ 1000000) (h : K (.int n) σ) : WN VR c A (fun vs => call (.builtin "len") vs) [.ref l] σ K := by subst e; exact B_len hl hn h
theorem B_appendE {c : Cx} {A : Around} {σ σ' : Led} {K : V → Led → Prop} {l : Addr} {xs ys : List V} {X : V} (e : ys = xs ++ [X]) (u : Upd l (.list xs) (.list ys) σ σ') (hn : xs.length ≤ 1000000) (h : K .none σ') : WN VR c A (fun vs => call (.builtin "list.append") vs) [.ref l, X] σ K := by subst e; exact B_append u hn h
theorem B_popE {c : Cx} {A : Around} {σ σ' : Led} {K : V → Led → Prop} {l : Addr} {xs ys : List V} {X : V} (e : ys = xs.dropLast) (u : Upd l (.list xs) (.list ys) σ σ') (hn : xs.length ≤ 1000000) (hx : xs[xs.length - 1]? = some X) (h : K X σ') : WN VR c A (fun vs => call (.builtin "list.pop") vs) [.ref l] σ K := by subst e; exact B_pop u hn hx h
/-- behind a turn of a while: the frame, the rest, what is let go -/
noncomputable def TurnS (env : Env) (I : Nat → List (Str × Option V) → Led → Prop) (n : Nat) (K : Fl → Led → Prop) : Fl → Led → Prop
  | .next, σ => ∃ m ρ τ, m < n ∧ Sub ((env.locals, .ns env.scope ρ) :: τ) σ ∧ I m ρ τ
  | .cont, σ => ∃ m ρ τ, m < n ∧ Sub ((env.locals, .ns env.scope ρ) :: τ) σ ∧ I m ρ τ
  | .brk, σ => K .next σ
  | .ret X, σ => K (.ret X) σ
noncomputable def MeetS (env : Env) (J : List (Str × Option V) → Led → Prop) (f : Fl) (σ : Led) : Prop := f = .next ∧ ∃ ρ τ, Sub ((env.locals, .ns env.scope ρ) :: τ) σ ∧ J ρ τ
section
variable {c : Cx} {A : Around} {σ : Led} {env : Env}
theorem TurnS.next' {I : Nat → List (Str × Option V) → Led → Prop} {n : Nat} {K : Fl → Led → Prop} {ρ : List (Str × Option V)} {τ : Led} (m : Nat) (hm : m < n) (hs : Sub ((env.locals, .ns env.scope ρ) :: τ) σ) (h : I m ρ τ) : TurnS env I n K .next σ := ⟨m, ρ, τ, hm, hs, h⟩
theorem TurnS.cont' {I : Nat → List (Str × Option V) → Led → Prop} {n : Nat} {K : Fl → Led → Prop} {ρ : List (Str × Option V)} {τ : Led} (m : Nat) (hm : m < n) (hs : Sub ((env.locals, .ns env.scope ρ) :: τ) σ) (h : I m ρ τ) : TurnS env I n K .cont σ := ⟨m, ρ, τ, hm, hs, h⟩
theorem WF_WhileS {test body orelse pos} {ρ : List (Str × Option V)} {K : Fl → Led → Prop} (I : Nat → List (Str × Option V) → Led → Prop) (n : Nat) (h0 : I n ρ σ)
    (turn : ∀ I' : Nat → List (Str × Option V) → Led → Prop, (∀ n ρ σ, I n ρ σ → I' n ρ σ) → ∀ n ρ σ, I n ρ σ → WB c A (isTrue test env (eval test env)) ((env.locals, .ns env.scope ρ) :: σ) fun z σ₁ => If z (WF c A (execs body env) σ₁ (TurnS env I' n K)) (WF c A (execs orelse env) σ₁ K)) :
    WF c A (exec (.While test body orelse pos) env) ((env.locals, .ns env.scope ρ) :: σ) K := by
  refine WF_While (fun n σ => ∃ ρ τ, Sub ((env.locals, .ns env.scope ρ) :: τ) σ ∧ I n ρ τ) n ⟨ρ, σ, Sub.refl _, h0⟩ fun n σ ⟨ρ, τ, hs, h⟩ => ?_
  refine WG.subp ((turn I (fun _ _ _ h => h) n ρ τ h).mono fun z σ₁ hz => hz.mono (fun hb => WG.mono hb fun f σ₂ hf => ?_) id) hs
  cases f with
  | next => obtain ⟨m, ρ', τ', h1, h2, h3⟩ := hf; exact ⟨m, h1, ρ', τ', h2, h3⟩
  | cont => obtain ⟨m, ρ', τ', h1, h2, h3⟩ := hf; exact ⟨m, h1, ρ', τ', h2, h3⟩
  | brk => exact hf
  | ret X => exact hf
theorem MeetS.here {J : List (Str × Option V) → Led → Prop} {ρ : List (Str × Option V)} {τ : Led} (hs : Sub ((env.locals, .ns env.scope ρ) :: τ) σ) (h : J ρ τ) : MeetS env J .next σ := ⟨rfl, ρ, τ, hs, h⟩
theorem WF_joinS {st : Stmt} {rest : List Stmt} {K : Fl → Led → Prop} (J : List (Str × Option V) → Led → Prop) (h1 : ∀ J' : List (Str × Option V) → Led → Prop, (∀ ρ τ, J ρ τ → J' ρ τ) → WF c A (exec st env) σ (MeetS env J'))
    (h2 : ∀ ρ τ, J ρ τ → WF c A (execs rest env) ((env.locals, .ns env.scope ρ) :: τ) K) : WF c A (exec st env) σ (Seq (fun σ₁ => WF c A (execs rest env) σ₁ K) K) :=
  WG.mono (h1 J fun _ _ h => h) fun f σ' ⟨e, ρ', τ, hs, hJ⟩ => by subst e; exact WG.subp (h2 _ _ hJ) hs
end
end Mine
end
section
open PySem PySem.Calls PyProof.Rows PySem.W
set_option maxRecDepth 100000
set_option linter.unusedVariables false
set_option linter.unusedSimpArgs false
namespace Mine
noncomputable abbrev CLex : Addr := 168
theorem Rep.kin {c : Cx} {σ : Led} {s : Shared} (R : Rep c σ s) : (KF c.w.params).In s.heap := fun a o e => R.keep _ _ (c.inK a o e)
theorem x_hd (c : Cx) : hasDictIn (KF c.w.params) CLex = true := by kernel_rfl
theorem x_ga (c : Cx) : findIn (KF c.w.params) (.ref CLex) "__getattribute__" = some (some (.builtin "object.__getattribute__")) := by kernel_rfl
theorem x_gb (c : Cx) : findIn (KF c.w.params) (.ref CLex) "__getattr__" = some none := by kernel_rfl
theorem x_set (c : Cx) : findIn (KF c.w.params) (.ref CLex) "__setattr__" = some (some (.builtin "object.__setattr__")) := by kernel_rfl
theorem x_po (c : Cx) : plainOver (KF c.w.params) CLex = true := by kernel_rfl
theorem x_mk (c : Cx) : makesIn (KF c.w.params) CLex = true := by kernel_rfl
theorem x_init (c : Cx) : findIn (KF c.w.params) (.ref CLex) "__init__" = some (some (.ref 144)) := by kernel_rfl
theorem x_rc (c : Cx) : findIn (KF c.w.params) (.ref CLex) "_read_char" = some (some (.ref 151)) := by kernel_rfl
theorem x_gt (c : Cx) : findIn (KF c.w.params) (.ref CLex) "get_token" = some (some (.ref 158)) := by kernel_rfl
theorem x_t144 (c : Cx) : typeIn (KF c.w.params) (.ref 144) = some (.type "function") := by kernel_rfl
theorem x_t151 (c : Cx) : typeIn (KF c.w.params) (.ref 151) = some (.type "function") := by kernel_rfl
theorem x_t158 (c : Cx) : typeIn (KF c.w.params) (.ref 158) = some (.type "function") := by kernel_rfl
/-- a name that is an attribute of instances alone -/
structure OwnName (c : Cx) (name : Str) : Prop where
  f : findIn (KF c.w.params) (.ref CLex) name = some none
  t : takerIn (KF c.w.params) CLex name = some none
theorem x_lineno (c : Cx) : OwnName c "lineno" := ⟨by kernel_rfl, by kernel_rfl⟩
theorem x_instream (c : Cx) : OwnName c "instream" := ⟨by kernel_rfl, by kernel_rfl⟩
theorem x_whitespace (c : Cx) : OwnName c "whitespace" := ⟨by kernel_rfl, by kernel_rfl⟩
theorem x_pushback (c : Cx) : OwnName c "pushback" := ⟨by kernel_rfl, by kernel_rfl⟩
noncomputable def AttrR (z : Addr → Prop) (h : Heap) (o : Obj) (ρ : List (Str × V)) : Prop :=
  ∃ es n, o = dictOf es n ∧ All2 (fun (e : DictEntry) (p : Str × V) => (∃ t, e.key = .str p.1 t) ∧ VR z h e.val p.2) es ρ
noncomputable abbrev attrE (z : Addr → Prop) (ρ : List (Str × V)) : AObj := .any fun h o => AttrR z h o ρ
theorem isStr_key {e : DictEntry} {x y : Str} {t : Tok} (h : e.key = .str x t) : e.key.isStr y = (x == y) := by rw [h]; rfl
theorem attr_find {z : Addr → Prop} {h : Heap} {name : Str} {es : List DictEntry} {ρ : List (Str × V)} (H : All2 (fun (e : DictEntry) (p : Str × V) => (∃ t, e.key = .str p.1 t) ∧ VR z h e.val p.2) es ρ) :
    (∀ X, ρ.lookup name = some X → ∃ e, es.find? (fun e => e.key.isStr name) = some e ∧ VR z h e.val X) ∧ (ρ.lookup name = none → es.find? (fun e => e.key.isStr name) = none) := by
  induction H with
  | nil => exact ⟨(fun X h => by cases h), fun _ => rfl⟩
  | @cons e p _ _ ep r ih =>
    obtain ⟨⟨t, hk⟩, hv⟩ := ep
    obtain ⟨x, W⟩ := p
    rw [List.find?_cons, isStr_key hk, List.lookup_cons]
    dsimp only
    by_cases q : name = x
    · subst q
      simp only [beq_self_eq_true]
      exact ⟨fun X e' => ⟨e, rfl, by cases e'; exact hv⟩, fun e' => by cases e'⟩
    · have h1 : (name == x) = false := beq_eq_false_iff_ne.mpr q
      have h2 : (x == name) = false := beq_eq_false_iff_ne.mpr (fun e => q e.symm)
      rw [h1, h2]
      exact ih
theorem attr_noref {z : Addr → Prop} {h : Heap} : ∀ {es : List DictEntry} {ρ : List (Str × V)}, All2 (fun (e : DictEntry) (p : Str × V) => (∃ t, e.key = .str p.1 t) ∧ VR z h e.val p.2) es ρ → es.any (fun x => x.refKey) = false
  | _, _, .nil => rfl
  | _, _, .cons ⟨⟨t, hk⟩, hv⟩ r => by rw [List.any_cons, attr_noref r, DictEntry.refKey, hk]; rfl
theorem attr_look {z : Addr → Prop} {h : Heap} {o : Obj} {name : Str} {ρ : List (Str × V)} (H : AttrR z h o ρ) : (∀ X, ρ.lookup name = some X → ∃ v, lookIn name o = some (some v) ∧ VR z h v X) ∧ (ρ.lookup name = none → lookIn name o = some none) := by
  obtain ⟨es, n, rfl, ha⟩ := H
  obtain ⟨h1, h2⟩ := attr_find (name := name) ha
  refine ⟨fun X hX => ?_, fun hX => ?_⟩
  · obtain ⟨e, he, hv⟩ := h1 X hX
    exact ⟨e.val, by rw [lookIn_dict]; unfold getL; rw [he], hv⟩
  · rw [lookIn_dict]; unfold getL; rw [h2 hX, attr_noref ha]; rfl
noncomputable def putA (name : Str) (X : V) : List (Str × V) → List (Str × V)
  | [] => [(name, X)]
  | p :: r => if p.1 == name then (p.1, X) :: r else p :: putA name X r
theorem attr_put {z : Addr → Prop} {h : Heap} {name : Str} {hsh : Int} {t : Tok} {v : Value} {X : V} (hv : VR z h v X) : ∀ {es : List DictEntry} {ρ : List (Str × V)}, All2 (fun (e : DictEntry) (p : Str × V) => (∃ t, e.key = .str p.1 t) ∧ VR z h e.val p.2) es ρ →
    All2 (fun (e : DictEntry) (p : Str × V) => (∃ t, e.key = .str p.1 t) ∧ VR z h e.val p.2) (putL name hsh (.str name t) v es) (putA name X ρ)
  | _, _, .nil => .cons ⟨⟨t, rfl⟩, hv⟩ .nil
  | _, _, .cons (a := e) (b := p) ⟨⟨t', hk⟩, hv'⟩ r => by
    unfold putL putA
    rw [isStr_key hk]
    by_cases q : (p.1 == name) = true
    · rw [if_pos q, if_pos q]; exact .cons ⟨⟨t', hk⟩, hv⟩ r
    · rw [if_neg q, if_neg q]; exact .cons ⟨⟨t', hk⟩, hv'⟩ (attr_put hv r)
theorem attr_ext {z : Addr → Prop} {h h' : Heap} {o : Obj} {ρ : List (Str × V)} (H : AttrR z h o ρ) (x : Ext z h h') : AttrR z h' o ρ := by
  obtain ⟨es, n, e, ha⟩ := H
  exact ⟨es, n, e, ha.imp fun _ _ ⟨h1, h2⟩ => ⟨h1, h2.ext x⟩⟩
theorem OR.attr {z : Addr → Prop} {h : Heap} {d : Addr} {ρ : List (Str × V)} (H : OR z h d (attrE z ρ)) : ∃ o, h.get? d = some o ∧ AttrR z h o ρ := by
  obtain ⟨o, h1, _, h2⟩ := H
  exact ⟨o, h1, h2 _ (Ext.refl _)⟩
theorem OR.attr_mk {z : Addr → Prop} {h : Heap} {d : Addr} {o : Obj} {ρ : List (Str × V)} (ho : h.get? d = some o) (H : AttrR z h o ρ) : OR z h d (attrE z ρ) :=
  ⟨o, ho, by obtain ⟨es, n, rfl, _⟩ := H; exact fun e => by injection e with e; revert e; decide, fun _ x => attr_ext H x⟩
section
variable {c : Cx} {A : Around} {σ : Led} {env : Env} {K : V → Led → Prop}
theorem inst_at {s : Shared} {x dx : Addr} {ρ : List (Str × V)} (R : Rep c σ s) (hx : (x, AObj.obj (instObj CLex dx)) ∈ σ) (hd : (dx, attrE c.z ρ) ∈ σ) : ∃ od, InstAt s.heap x (instObj CLex dx) CLex (some od) ∧ s.heap.get? dx = some od ∧ AttrR c.z s.heap od ρ := by
  obtain ⟨od, h1, h2⟩ := (R.ob _ hd).attr
  exact ⟨od, ⟨(R.ob _ hx).1, rfl, rfl, h1⟩, h1, h2⟩
theorem handedIn_of {z : Addr → Prop} {h : Heap} {v : Value} : ∀ {X : V}, (∀ w, X ≠ .con w) → VR z h v X → handedIn v = true
  | .none, _, e => by cases e; rfl
  | .bool _, _, e => by cases e; rfl
  | .int _, _, ⟨_, e⟩ => by cases e; rfl
  | .str _, _, ⟨_, e⟩ => by cases e; rfl
  | .bytes _, _, ⟨_, e⟩ => by cases e; rfl
  | .tup _, _, ⟨_, _, _, e, _⟩ => by cases e; rfl
  | .ref _, _, e => by cases e; rfl
  | .con w, h, _ => absurd rfl (h w)
/-- what an object holds of its own -/
theorem G_own {x dx : Addr} {ρ : List (Str × V)} {name : Str} {X : V} {ex : Bool} (hx : (x, AObj.obj (instObj CLex dx)) ∈ σ) (hd : (dx, attrE c.z ρ) ∈ σ) (hn : OwnName c name) (hl : ρ.lookup name = some X) (hX : ∀ w, X ≠ .con w) (h : K X σ) :
    W1 VR c A (fun v => getAttr v name ex) (.ref x) σ K := by
  intro s Q E v R hv q
  cases hv
  obtain ⟨od, I, h1, h2⟩ := inst_at R hx hd
  obtain ⟨v, hv, hV⟩ := (attr_look h2).1 X hl
  exact get_value R.kin I (x_ga c) (findObj_own (x_hd c) hn.f rfl hv) (handedIn_of hX hV) (q _ _ _ _ h hV (R.toks _) (Ext.refl _))
theorem S_own {x dx : Addr} {ρ ρ' : List (Str × V)} {name : Str} {X : V} {σ' : Led} {K : Unit → Led → Prop} (hx : (x, AObj.obj (instObj CLex dx)) ∈ σ) (u : Upd dx (attrE c.z ρ) (attrE c.z ρ') σ σ') (hn : OwnName c name) (hρ : putA name X ρ = ρ') (hlen : ρ'.length ≤ 1000) (h : K () σ') :
    W2 (fun _ _ _ _ => True) c A (fun o v => setAttr o name v) (.ref x) X σ K := by
  intro s Q E o v R ho hV q
  cases ho
  obtain ⟨od, I, D, h2⟩ := inst_at R hx u.mem
  have hlk : (lookIn name od).isSome = true := by
    cases e : ρ.lookup name with
    | none => rw [(attr_look h2).2 e]; rfl
    | some Y => obtain ⟨w, hw, _⟩ := (attr_look h2).1 Y e; rw [hw]; rfl
  obtain ⟨es, n, rfl, ha⟩ := h2
  refine set_plain R.kin I (x_set c) (osa_open (s := { s with toks := s.toks + 1 }) R.kin I (x_po c) hn.t fun b => ?_)
  obtain ⟨cd, hc, hd'⟩ := any_some (x_hd c)
  have hxo := (R.ob _ hx).1
  refine wpAny_bind (wpAny_pure (wpAny_bind (wpAny_bind (wpAny_loadPart hxo (wpAny_bind ((looks_clsIn (R.toks (s.toks + 1)).kin hc).here ?_))))))
  rw [hd']
  refine wpAny_pure (a := some dx) (wpAny_bind (wpAny_pure (wpAny_bind ?_)))
  unfold nsSet
  refine wpAny_bind (wpAny_bind (wpAny_askSetting (wpAny_pure (wpAny_bind (wpAny_mkText (wpAny_bind (wpAny_loadPart D ?_)))))))
  dsimp only
  have hc2 : (!(es.toArray.any (·.key.isStr name)) && es.toArray.any (·.refKey)) = false := by
    have e1 : es.toArray.any (fun x => x.refKey) = false := by
      have := attr_noref ha
      simpa using this
    have e1' : (es.toArray.any (·.refKey)) = false := e1
    rw [e1', Bool.and_false]
  rw [aRefKeyMayBeTheName_at, hc2]
  refine wpAny_updatePart D ?_
  have hx' : Ext c.z s.heap (s.heap.update dx (Obj.putName name (PyData.keyHash c.w.params name) (.str name (s.toks + 1)) v)) := fun b i n' _ e' => by
    by_cases hb : b = dx
    · subst hb; exact absurd e' fun e' => (R.ob _ u.mem).notTup e'
    · exact (Heap.get?_update_other _ _ (Ne.symm hb)).trans e'
  have ha' := attr_put (hsh := PyData.keyHash c.w.params name) (t := s.toks + 1) (name := name) (hV.ext hx') (ha.imp fun _ _ ⟨h1, h2⟩ => ⟨h1, h2.ext hx'⟩)
  rw [hρ] at ha'
  have D' : (s.heap.update dx (Obj.putName name (PyData.keyHash c.w.params name) (.str name (s.toks + 1)) v)).get? dx = some (dictOf (putL name (PyData.keyHash c.w.params name) (.str name (s.toks + 1)) v es) (putN name es n)) := by
    rw [Heap.get?_update_self _ D (by rw [putName_dict]; rfl), putName_dict]
  refine wpAny_bind (wpAny_lookBehind D' (pastItsLine_dict (by rw [List.size_toArray, ha'.length, sizeLine_eq]; omega)) ?_)
  obtain ⟨R', _⟩ := R.upd u (h' := s.heap.update dx (Obj.putName name (PyData.keyHash c.w.params name) (.str name (s.toks + 1)) v)) (fun b hb o e' => (Heap.get?_update_other _ _ (Ne.symm hb)).trans e') (OR.attr_mk D' ⟨_, _, rfl, ha'⟩) (s.toks + 1 + 1)
  exact wpAny_pure (q () () _ _ h trivial R' hx')
end
end Mine
end
section
open PySem PySem.Calls PyProof.Rows PySem.W
set_option maxRecDepth 100000
set_option linter.unusedVariables false
set_option linter.unusedSimpArgs false
namespace Mine
section
variable {c : Cx} {A : Around} {σ : Led} {env : Env} {K : V → Led → Prop}
/-- a def entered, by whatever road -/
theorem W_defX {a : Addr} {oc : Value} {od : Option Addr} {osl : Array (Option Value)} {name qual : Str} {params : Arguments} {body : List Stmt} {sc : Scope} {dV kV doc pm ct : Value} {an : Option Addr} {ca : Addr} {names others : List Str} {Xs : List V} {cl : List (Str × Addr)}
    (ρ : List (Str × Option V))
    (ho : ∀ s, Rep c σ s → s.heap.get? a = some ⟨oc, od, .func ⟨name, qual, params, .stmts body, sc, mainGlobals, cl, dV, kV, doc, pm, an, .ref ca, ct, builtinsNs⟩, osl⟩)
    (hcode : ∀ s, Rep c σ s → s.heap.CodeRec (.ref ca) qual)
    (hbind : ∀ s vs, Rep c σ s → LR c.z s.heap vs Xs → BindsTo s ⟨name, qual, params, .stmts body, sc, mainGlobals, cl, dV, kV, doc, pm, an, .ref ca, ct, builtinsNs⟩ ⟨vs, []⟩ (names.zip vs)) (hlen : names.length = Xs.length)
    (hρ : ρ = frame names Xs others)
    (hnd : (sc.names.map (·.1)).Nodup) (hloc : locs sc = names ++ others) (hcell : ∀ x ∈ sc.names, x.2 ≠ .cell)
    (hroom : A.depth < 1000) (hco : sc.isCoroutine = false) (hgen : sc.isGenerator = false) (hk : sc.kind = .function)
    (h : ∀ L A', A'.depth = A.depth + 1 → A'.units = A.units + 3 → A'.handled = A.handled → WF c A' (execs body (envF sc L cl qual a (.ref ca))) ((L, .ns sc ρ) :: σ) (Ret K))
    {s : Shared} {R : Result → Shared → Prop} {vs : List Value} (R0 : Rep c σ s) (hvs : LR c.z s.heap vs Xs) (q : ∀ v X σ' s', K X σ' → VR c.z s'.heap v X → Rep c σ' s' → Ext c.z s.heap s'.heap → R (.ok (.ret v)) s')
    (hE : ∀ e s', ¬ R (.error e) s' → True := by intros; trivial) :
    codeAny (model c.prog c.w) A (.call (.ref a) ⟨vs, []⟩) R s := by
  subst hρ
  have hb := hbind s vs R0 hvs
  have hnl := locs_nodup hnd
  have hN : names.Nodup := by rw [hloc] at hnl; exact (List.nodup_append.mp hnl).1
  have hzk : ((names.zip vs).map (·.1)).Nodup := by rw [List.map_fst_zip (by rw [hlen, hvs.length]; exact Nat.le_refl _)]; exact hN
  refine codeAny_call_function hroom (ho s R0) rfl hco hgen rfl (hcode s R0) (hb _ _ _ _ ?_)
  refine wpAny_newFunctionEnv hcell (fun p hp => ?_) (fun h' hns hsb => ?_) hk
  · have : p.1 ∈ locs sc := by rw [hloc]; exact List.mem_append_left _ (List.of_mem_zip hp).1
    exact lookup_of_mem hnd (locs_mem this)
  · have hk' : ∀ b o, s.heap.get? b = some o → h'.get? b = some o := fun b o e => hsb.extBut b o (Nat.ne_of_lt (Heap.lt_size e)) (Heap.get?_push_of_some _ e)
    have hx : Ext c.z s.heap h' := fun _ _ _ _ e => hk' _ _ e
    have R' := R0.add (a := s.heap.objs.size) (ao := .ns sc (frame names Xs others)) (Nat.le_refl _) hk' (show OR c.z h' _ (.ns _ _) from
      ⟨⟨by rw [frame_keys hlen, ← hloc]; exact hnl, hnd⟩, fun p hp => by
        have : p.1 ∈ locs sc := by rw [hloc, ← frame_keys (others := others) hlen]; exact List.mem_map_of_mem hp
        exact lookup_of_mem hnd (locs_mem this), _, hns, fun p hp Y hY => by
        obtain ⟨v, h1, h2⟩ := frame_mem (hvs.imp fun _ _ => VR.ext hx) hlen hN p hp Y hY
        exact ⟨v, by rw [lookup_rev hzk]; exact h1, h2⟩⟩) (s.toks + (names.zip vs).length)
    refine ⟨c.lim _ R'.keep, codeAny_func ?_⟩
    refine h s.heap.objs.size (A.deeper (envF sc s.heap.objs.size cl qual a (.ref ca))) rfl rfl rfl _ _ _ R' fun f F σ₁ s₁ h₁ hf R₁ x₁ => ?_
    have x := hx.trans x₁
    cases F with
    | ret X => obtain ⟨v, rfl, hv⟩ := hf; obtain ⟨σ₂, hs, hk⟩ := h₁; exact q _ _ _ _ hk hv (R₁.subp hs) x
    | next => cases hf; obtain ⟨σ₂, hs, hk⟩ := h₁; exact q _ _ _ _ hk rfl (R₁.subp hs) x
    | brk => cases hf; obtain ⟨σ₂, hs, hk⟩ := h₁; exact q _ _ _ _ hk rfl (R₁.subp hs) x
    | cont => cases hf; obtain ⟨σ₂, hs, hk⟩ := h₁; exact q _ _ _ _ hk rfl (R₁.subp hs) x
-- methods of one's own
noncomputable def MethV (c : Cx) (O : V) (name : Str) (f : Value) (Fs : List V) (σ : Led) : Prop := ∀ (A : Around) (s : Shared) (E : Value → Shared → Prop) (Q : Value × List Value → Shared → Prop) (pl : Sem Bool) (v : Value), Rep c σ s → VR c.z s.heap v O →
  (∀ fs s', LR c.z s'.heap fs Fs → Rep c σ s' → Ext c.z s.heap s'.heap → Q (f, fs) s') → wpAny (model c.prog c.w) A (getMethod v name pl) Q E s
inductive MethP (c : Cx) (A : Around) (env : Env) (args : List Expr) (pos : Pos) (name : Str) (K : V → Led → Prop) (O : V) (σ₁ : Led) : Prop
  | mk (f : Value) (Fs : List V) (hm : MethV c O name f Fs σ₁) (h : WL c A (spliced (backTo pos (starEach args env))) σ₁ fun Xs σ₂ => Keeps c f σ₂ ∧ WN VR c A (fun vs => call f vs) (Fs ++ Xs) σ₂ K)
theorem W_MethV {o : Expr} {name : Str} {apos pos : Pos} {args : List Expr} (h : W c A (eval o env) σ (MethP c A env args pos name K))
    (hp : (backTo pos (starEach args env)).any (·.1) = false)
    (hbase : attributeBase o name env (eval o env) = eval o env)
    (hform : methodCallForm (args.length + ([] : List Keyword).length) (backTo pos (starEach args env)) (backToKw pos (keywordEach [] env)) = true)
    (hline : (apos.endLine == pos.line) = true) : W c A (eval (.Call (.Attribute o name apos) args [] pos) env) σ K := by
  intro s Q E R q
  rw [arm_eval_Call, hbase]
  refine wpAny_bind (h s _ _ R fun ov O σ₁ s₁ ⟨f, Fs, hm, h₁⟩ ho R₁ x₁ => wpAny_bind (wpAny_standAt ?_))
  have hpos : methodCallPos true o env apos pos = pure pos := by unfold methodCallPos; simp [hline]
  unfold methodCall
  rw [hform]
  unfold calleeOf
  simp only [if_true]
  refine wpAny_bind (wpAny_holding (hm A s₁ _ _ _ _ R₁ ho fun fs s₂ hfs R₂ x₂ => ?_))
  refine wpAny_bind (wpAny_of_eq hpos ?_)
  exact W_callWith (first := Fs) h₁ hp s₂ _ _ fs R₂ hfs fun a b σ' s' hk hr R' x' => q a b σ' s' hk hr R' ((x₁.trans x₂).trans x')
theorem MethV.inst {x dx f : Addr} {ρ : List (Str × V)} {name : Str} (hx : (x, AObj.obj (instObj CLex dx)) ∈ σ) (hd : (dx, attrE c.z ρ) ∈ σ) (hf : findIn (KF c.w.params) (.ref CLex) name = some (some (.ref f))) (ht : typeIn (KF c.w.params) (.ref f) = some (.type "function")) (hl : ρ.lookup name = none) :
    MethV c (.ref x) name (.ref f) [.ref x] σ := fun A s E Q pl v R hv h => by
  cases hv
  obtain ⟨od, I, h1, h2⟩ := inst_at R hx hd
  exact method_fn R.kin I (x_ga c) (x_gb c) hf ht (by show (lookIn name od).map _ = _; rw [(attr_look h2).2 hl]; rfl) (h _ _ (.cons rfl .nil) R (Ext.refl _))
/-- a method bound: its object -/
noncomputable abbrev methE (f : Addr) (x : Addr) : AObj := .obj (methodObj (.ref f) (.ref x))
theorem G_meth {p : Addr × AObj} {x dx f : Addr} {ρ : List (Str × V)} {name : Str} {ex : Bool} (hx : (x, AObj.obj (instObj CLex dx)) ∈ p :: σ) (hd : (dx, attrE c.z ρ) ∈ p :: σ) (hf : findIn (KF c.w.params) (.ref CLex) name = some (some (.ref f))) (ht : typeIn (KF c.w.params) (.ref f) = some (.type "function")) (hl : ρ.lookup name = none)
    (hfo : ∀ od : Obj, lookIn name od = some none → findObj (KF c.w.params) CLex (some od) name = some (.bind (.builtin "function.__get__") (.ref f)))
    (h : ∀ m, K (.ref m) (p :: (m, methE f x) :: σ)) : W1 VR c A (fun v => getAttr v name ex) (.ref x) (p :: σ) K := by
  intro s Q E v R hv q
  cases hv
  obtain ⟨od, I, h1, h2⟩ := inst_at R hx hd
  refine get_bind R.kin I (x_ga c) (hfo od ((attr_look h2).2 hl)) (x_gb c) (wpAny_call (fn_get (s := { s with toks := s.toks + 1 }) (R.toks (s.toks + 1)).kin ht (handed_on rfl ?_)))
  have R' := R.add (a := s.heap.objs.size) (ao := methE f x) (h' := s.heap.push (methodObj (.ref f) (.ref x))) (Nat.le_refl _) (fun b o e => Heap.get?_push_of_some _ e) (show OR c.z _ _ (.obj _) from ⟨Heap.get?_push_size _ rfl, (fun e => by injection e with e; revert e; decide)⟩) (s.toks + 1)
  exact q _ _ _ _ (h _) rfl (R'.perm (List.Perm.swap ..)) (Ext.push _)
end
theorem x_c168 (c : Cx) : (clsIn (KF c.w.params) CLex).map (fun cd => (cd.hasDict, cd.mro.isEmpty || cd.mro.contains (.type "staticmethod") || cd.mro.contains (.type "classmethod"))) = some (true, false) := by kernel_rfl
theorem x_g151 (c : Cx) : specialIn (KF c.w.params) (.ref 151) "__get__" = some (some (.builtin "function.__get__")) := by kernel_rfl
theorem x_k151 (c : Cx) : takesIn (KF c.w.params) (.ref 151) = some false := by kernel_rfl
theorem x_frc (c : Cx) (od : Obj) (h : lookIn "_read_char" od = some none) : findObj (KF c.w.params) CLex (some od) "_read_char" = some (.bind (.builtin "function.__get__") (.ref 151)) := by
  obtain ⟨cd, hcd, h2⟩ := Option.map_eq_some_iff.mp (x_c168 c)
  obtain ⟨h3, h4⟩ := Prod.mk.inj h2
  unfold findObj
  rw [hcd, x_rc c]
  simp only [Option.bind_some, x_g151 c, x_k151 c]
  unfold W.ownOf
  rw [h3, if_pos rfl]
  simp only [h, Option.bind_some, h4, Bool.and_false, Bool.false_eq_true, if_false]
end Mine
end
section
open PySem PySem.Calls PyProof.Rows PySem.W
set_option maxRecDepth 100000
set_option linter.unusedVariables false
set_option linter.unusedSimpArgs false
namespace Mine
section
variable {c : Cx} {A : Around} {σ : Led} {env : Env}
theorem W_attr {value : Expr} {attr : Str} {pos : Pos} {K : V → Led → Prop} (h : W c A (eval value env) σ fun O σ₁ => W1 VR c A (fun v => getAttr v attr true) O σ₁ K)
    (he : eval (.Attribute value attr pos) env = (do
      let o ← eval value env
      standAt pos.atName
      let r ← holding [o] (getAttr o attr true)
      letTemporaryGo value o r
      pure r) := by with_unfolding_all rfl) : W c A (eval (.Attribute value attr pos) env) σ K := fun s Q E R q =>
  Attribute_any_ (h s _ _ R fun o O σ₁ s₁ h₁ ho R₁ x₁ => h₁ s₁ _ _ o R₁ ho fun a b σ' s' hk hr R' x' => q a b σ' s' hk hr R' (x₁.trans x')) he
theorem WF_AttrAssign {o value : Expr} {attr : Str} {pos' pos : Pos} {K : Fl → Led → Prop} (h : W c A (eval value env) σ fun X σ₁ => W c A (eval o env) σ₁ fun O σ₂ => W2 (fun _ _ _ _ => True) c A (fun ov v => setAttr ov attr v) O X σ₂ fun (_ : Unit) σ₃ => K .next σ₃)
    (hs : swapsWith value (some (.Attribute o attr pos')) pos.line env = pure false := by rfl) : WF c A (exec (.Assign [.Attribute o attr pos'] value pos) env) σ K := fun s Q E R q =>
  plainObj_wpAny_Assign_Attribute (h s _ _ R fun v X σ₁ s₁ h₁ hv R₁ x₁ => h₁ s₁ _ _ R₁ fun ov O σ₂ s₂ h₂ ho R₂ x₂ => h₂ s₂ _ _ ov v R₂ ho (hv.ext x₂) fun u _ σ' s' hk _ R' x' => q _ _ σ' s' hk rfl R' ((x₁.trans x₂).trans x')) hs
theorem WF_AttrAug {o value : Expr} {attr : Str} {op : Operator} {tpos pos : Pos} {K : Fl → Led → Prop} (h : W c A (eval o env) σ fun O σ₁ => W1 VR c A (fun v => getAttr v attr true) O σ₁ fun X σ₂ => W c A (eval value env) σ₂ fun Y σ₃ => W2 VR c A (inplaceOp op) X Y σ₃ fun Z σ₄ =>
      W2 (fun _ _ _ _ => True) c A (fun ov v => setAttr ov attr v) O Z σ₄ fun (_ : Unit) σ₅ => K .next σ₅) : WF c A (exec (.AugAssign (.Attribute o attr tpos) op value pos) env) σ K := fun s Q E R q =>
  wpAny_AugAssign_AttributeAny (h s _ _ R fun ov O σ₁ s₁ h₁ ho R₁ x₁ => h₁ s₁ _ _ ov R₁ ho fun old X σ₂ s₂ h₂ hX R₂ x₂ => h₂ s₂ _ _ R₂ fun v Y σ₃ s₃ h₃ hY R₃ x₃ => h₃ s₃ _ _ old v R₃ (hX.ext x₃) hY fun nw Z σ₄ s₄ h₄ hZ R₄ x₄ =>
    h₄ s₄ _ _ ov nw R₄ (ho.ext ((x₂.trans x₃).trans x₄)) hZ fun u _ σ' s' hk _ R' x' => q _ _ σ' s' hk rfl R' ((((x₁.trans x₂).trans x₃).trans x₄).trans x'))
end
end Mine
end
section
open PySem PySem.Calls PyProof.Rows PySem.W
set_option maxRecDepth 100000
set_option linter.unusedVariables false
set_option linter.unusedSimpArgs false
namespace Mine
section
variable {c : Cx} {A : Around} {σ : Led} {env : Env}
/-- where the builtins module stands -/
noncomputable def BM (c : Cx) : Prop := ∃ bm ob, c.mg "__builtins__" = some (.ref bm) ∧ bm ≠ builtinsNs ∧ c.kp bm ob ∧ ob.cls = .type "module" ∧ ob.dict = some builtinsNs ∧ ob.data = .plain
theorem Rep.add2 {s : Shared} {h' : Heap} {P c' : Addr} {o o' : AObj} {oc : Obj} {σ' : Led} (R : Rep c σ s) (u : Upd P o o' σ σ') (hs : ∀ b, b ≠ P → ∀ o, s.heap.get? b = some o → h'.get? b = some o) (hn : OR c.z h' P o') (hc : s.heap.objs.size ≤ c') (ho : h'.get? c' = some oc) (hT : oc.cls ≠ .type "tuple") (t : Nat) :
    Rep c ((c', .obj oc) :: σ') { s with heap := h', toks := t } ∧ Ext c.z s.heap h' := by
  obtain ⟨R', x⟩ := R.upd u hs hn t
  obtain ⟨f1, f2⟩ := R.fresh hc
  have hk : ∀ p ∈ σ', p.1 ≠ c' := fun p hp e => by
    have : p.1 ∈ σ'.map (·.1) := List.mem_map_of_mem hp
    rw [u.keys] at this
    obtain ⟨q, hq, e2⟩ := List.mem_map.mp this
    exact f2 q hq (e2.trans e)
  refine ⟨⟨R'.keep, R'.gens, R'.os, fun p hp => ?_, fun b q => ⟨(R'.zs b q).1, fun p hp => ?_⟩, fun p hp => ?_, ?_⟩, x⟩
  · rcases List.mem_cons.mp hp with rfl | hp
    · exact ⟨ho, hT⟩
    · exact R'.ob p hp
  · rcases List.mem_cons.mp hp with rfl | hp
    · rintro rfl
      obtain ⟨o, e⟩ := (R.zs _ q).1
      exact absurd (Heap.lt_size e) (Nat.not_lt.mpr hc)
    · exact (R'.zs b q).2 p hp
  · rcases List.mem_cons.mp hp with rfl | hp
    · exact f1
    · exact R'.fr p hp
  · rw [List.map_cons, List.nodup_cons]
    exact ⟨fun hm => by obtain ⟨q, hq, e⟩ := List.mem_map.mp hm; exact hk q hq e, R'.nd⟩
theorem bmAt {s : Shared} {P : Addr} {ps : Array Value} (R : Rep c σ s) (hP : (P, AObj.obj (tabObj ps)) ∈ σ) (B : BM c) : mainGlobals ≠ P ∧ s.heap.BuiltinsAt c.mg P := by
  obtain ⟨bm, ob, b1, b2, b3, b4, b5, b6⟩ := B
  have hp := (R.ob _ hP).1
  have hgP : mainGlobals ≠ P := fun q => by
    obtain ⟨o, es, ep, e, hd, _⟩ := c.g _ R.keep
    rw [q, hp] at e; cases e; cases hd
  have e := R.keep _ _ b3
  have hbP : bm ≠ P := fun q => by
    rw [q, hp] at e; cases e; cases b4
  have hbG : bm ≠ mainGlobals := fun q => by
    obtain ⟨o, es, ep, e', hd, _⟩ := c.g _ R.keep
    rw [q] at e; rw [e] at e'; cases e'; rw [hd] at b6; cases b6
  exact ⟨hgP, bm, ob, b1, b2, hbG, hbP, e, b4, b5, b6⟩
noncomputable abbrev fnObj (name qual : Str) (params : Arguments) (body : FuncBody) (scope : Scope) (clos : List (Str × Addr)) (pm : Value) (c' : Addr) (ct : Value) : Obj :=
  { cls := .type "function", data := .func ⟨name, qual, params, body, scope, mainGlobals, clos, .none, .none, .none, pm, none, .ref c', ct, builtinsNs⟩ }
/-- a function made in a function -/
theorem W_nestFn {name qual : Str} {params : Arguments} {body : FuncBody} {scope : Scope} {clos : List (Str × Addr)} {P cc : Addr} {ps : Array Value} {pos : Pos} {fl : Nat} {p : Addr × AObj} {K : V → Led → Prop} (B : BM c)
    (hcl : closureFor scope env = pure clos) (hge0 : env.globals = mainGlobals) (hcode : env.code = .ref cc) (C : ∀ s, Rep c (p :: (P, .obj (tabObj ps)) :: σ) s → CodeHd s.heap cc P) (ht : TriplesOk ps.toList) (hnf : codeAmong pos ps.toList = none)
    (hdoc : ∀ b, body = .stmts b → docOf b = none)
    (h : ∀ f c' oc vs t ct, oc.data = .fields vs → vs[1]? = some (.str qual t) → K (.ref f) (p :: (f, .obj (fnObj name qual params body scope clos ((c.mg "__name__").getD .none) c' ct)) :: (c', .obj oc) :: (P, .obj (tabObj (ps ++ #[rawInt pos.line, rawInt pos.col, .ref c']))) :: σ)) :
    W c A (makeFunction name qual params body scope env [] [] [] pos fl) (p :: (P, .obj (tabObj ps)) :: σ) K := by
  intro s Q E R q
  rw [makeFunction_eq]
  simp only [List.zip_nil_right, List.filterMap_nil, List.isEmpty_nil, if_true, pure_bind]
  unfold makeTail
  rw [hcl, hge0]
  refine wpAny_bind (wpAny_pure ?_)
  have key : ∀ (ct : Value) (s₁ : Shared), Rep c (p :: (P, .obj (tabObj ps)) :: σ) s₁ → Ext c.z s.heap s₁.heap →
      wpAny (model c.prog c.w) A (do
        let code ← functionCode env pos fl name qual params scope body
        let bi ← builtinsFor mainGlobals env.builtins
        let pm ← nsGet mainGlobals "__name__"
        let doc ← (pure .none : Sem Value)
        newObj (.type "function") (.func ⟨name, qual, params, body, scope, mainGlobals, clos, .none, .none, doc, pm.getD .none, none, code, ct, bi⟩)) Q E s₁ := by
    intro ct s₁ R₁ x₁
    obtain ⟨hgP, bm, ob, hbm, hne0, hneG, hneP, hbo, hcls, hdict, hdata⟩ := bmAt R₁ (.tail _ (.head _)) B
    have hP := (R₁.ob _ (.tail _ (.head _))).1
    refine wpAny_bind (wpAny_functionCodeX hcode ((C s₁ R₁).code hP ht) ((C s₁ R₁).tab hP) hnf fun c' h' tk hx hge hlt _ hrec htb hin => ?_)
    obtain ⟨c₂, oc, vs, t, e2, hoc, hd, hv⟩ := hrec
    cases e2
    have hT : oc.cls ≠ .type "tuple" := by
      obtain ⟨P', _, _, ⟨o, us, f1, f2, _⟩, _⟩ := hin
      rw [f1] at hoc; cases hoc
      rw [f2]; exact fun e => by injection e with e; revert e; decide
    obtain ⟨R', x⟩ := R₁.add2 (h' := h') (.tail .head) (fun b hb o e => hx b o hb e) (o' := .obj (tabObj (ps ++ #[rawInt pos.line, rawInt pos.col, .ref c']))) ⟨htb.2, fun e => by cases e⟩ hge hoc hT tk
    have hg' := (c.g _ R₁.keep).extBut hx hgP
    refine wpAny_bind (wpAny_builtinsFor hg' hbm hne0 (hx _ _ hneP hbo) hcls hdict hdata ?_)
    refine wpAny_bind (wpAny_nsGet hg' (wpAny_bind (wpAny_pure (wpAny_newObj_type ?_ (by size_fits)))))
    have R'' := R'.add (a := h'.objs.size) (ao := .obj (fnObj name qual params body scope clos ((c.mg "__name__").getD .none) c' ct)) (h' := h'.push (fnObj name qual params body scope clos ((c.mg "__name__").getD .none) c' ct)) (Nat.le_refl _) (fun b o e => Heap.get?_push_of_some _ e) ⟨Heap.get?_push_size _ rfl, fun e => by injection e with e; revert e; decide⟩ tk
    exact q _ _ _ _ (h _ c' oc vs t ct hd hv) rfl (R''.perm ((List.Perm.swap ..).trans (.cons _ (.swap ..)))) ((x₁.trans x).trans (Ext.push _))
  cases clos with
  | nil =>
    simp only [List.isEmpty_nil, if_true]
    refine wpAny_bind (wpAny_pure ?_)
    have := key .none s R (Ext.refl _)
    revert this
    cases body with
    | stmts b => simp only [hdoc b rfl]; exact id
    | expr e => exact id
  | cons a r =>
    simp only [List.isEmpty_cons, Bool.false_eq_true, if_false]
    refine wpAny_bind (wpAny_newTextTuple ?_)
    have := key (.ref s.heap.objs.size) _ (R.grow (h' := s.heap.push { cls := .type "tuple", data := .seq ((((a :: r).mergeSort fun a b => a.1.cps.toList ≤ b.1.cps.toList).map (Value.ref ·.2)).toArray) }) (fun b o e => Heap.get?_push_of_some _ e) s.toks) (Ext.push _)
    revert this
    cases body with
    | stmts b => simp only [hdoc b rfl]; exact id
    | expr e => exact id
theorem WF_Def {name : Str} {params : Arguments} {body : List Stmt} {scope : Scope} {pos : Pos} {K : Fl → Led → Prop} (hd0 : params.defaults = []) (hk0 : params.kw_defaults = []) (ha : annTrees params none env = [])
    (h : W c A (makeFunction name (qualnameIn env name name) params (.stmts body) scope env [] [] [] pos pos.line) σ fun X σ₁ => W1 (fun _ _ _ _ => True) c A (storeName env name) X σ₁ fun (_ : Unit) σ₂ => K .next σ₂) :
    WF c A (exec (.FunctionDef name params body [] none [] scope none name pos) env) σ K := fun s Q E R q =>
  nestDef_K hd0 hk0 ha (h s _ _ R fun v X σ₁ s₁ h₁ hv R₁ x₁ => h₁ s₁ _ _ v R₁ hv fun u _ σ' s' hk _ R' x' => q _ _ σ' s' hk rfl R' (x₁.trans x'))
theorem W_Lam {params : Arguments} {body : Expr} {scope : Scope} {pos : Pos} {K : V → Led → Prop} (hdef : defaultsOf params env = ([], [])) (h : W c A (makeFunction "<lambda>" (env.qual ++ "<lambda>") params (.expr body) scope env [] [] [] pos pos.line) σ K) :
    W c A (eval (.Lambda params body scope pos) env) σ K := fun s Q E R q => kla_eval hdef (h s Q E R q)
end
end Mine
end
section
open PySem PySem.Calls PyProof.Rows PySem.W
set_option maxRecDepth 100000
set_option linter.unusedVariables false
set_option linter.unusedSimpArgs false
namespace Mine
theorem slot_fset : Slot "function" "__setattr__" "object.__setattr__" := .of (owner := "object") (n := "__setattr__") (by rw [typeLookup_type, builtinLookup_eq_fast]; kernel_rfl) (by decide +kernel) (by decide +kernel) (by decide +kernel)
    (by first | exact .inl (by decide +kernel) | exact .inr (by decide +kernel)) (by rw [isSubtype_type]; kernel_rfl)
theorem fn_mro : mroOf (.type "function") = pure [.type "function", .type "object"] := by kernel_rfl
theorem fn_passes (self : Value) : refuseLoop self "__setattr__" [.type "function", .type "object"] = pure () := by kernel_rfl
theorem fn_read : typeLookup (.type "function") "read" = pure none := by rw [typeLookup_type, builtinLookup_eq_fast]; kernel_rfl
theorem fn_tells (f : Addr) : ownStreamTells (.ref f) (.type "function") = pure () := by rfl
theorem fn_made (a d : Addr) : dictMade (.type "function") a d = pure (some d) := by kernel_rfl
section
variable {c : Cx} {A : Around} {σ : Led} {env : Env}
noncomputable abbrev fnO (d : Option Addr) (fd : FuncData) : Obj := { cls := .type "function", dict := d, data := .func fd }
theorem S_fn {p : Addr × AObj} {f : Addr} {fd : FuncData} {X : V} {name : Str} {K : Unit → Led → Prop} (hn : typeLookup (.type "function") name = pure none)
    (h : ∀ d, K () (p :: (f, .obj (fnO (some d) fd)) :: (d, attrE c.z [(name, X)]) :: σ)) :
    W2 (fun _ _ _ _ => True) c A (fun o v => setAttr o name v) (.ref f) X (p :: (f, .obj (fnO none fd)) :: σ) K := by
  intro s Q E o v R ho hV q
  cases ho
  have hf : s.heap.get? f = some (fnO none fd) := (R.ob _ (.tail _ (.head _))).1
  have L0 : Looks (model c.prog c.w) s.heap (typeOf (.ref f)) (.type "function") := (Looks.ld hf).andThen .now
  unfold setAttr
  refine wpAny_bind (wpAny_mkText (wpAny_bind (wpAny_bind (wpAny_bind (L0 _ _ _ _ (fun _ _ e => e) (Looks.of_pure slot_fset.lookup _ _ _ _ (fun _ _ e => e) (wpAny_holding ?_)))))))
  rw [slot_fset.bind]
  refine wpAny_bind (wpAny_pure (wpAny_bind (wpAny_call ?_)))
  refine codeAny_call_builtin slot_fset.plain PySem.F.store_object.entry (slot_fset.check _ _ _ _ _ _ _ _ ⟨_, hf, rfl⟩ (PySem.F.store_object.args _ _ _) ?_)
  show wpAny _ _ (Builtin.«object.__setattr__» ⟨[.ref f, .str name s.toks, v], []⟩) _ _ _
  rw [osa_eq, refuse_eq]
  refine wpAny_bind (wpAny_bind (L0 _ _ _ _ (fun _ _ e => e) ?_))
  rw [fn_mro, pure_bind, fn_passes]
  refine wpAny_pure (wpAny_bind (L0 _ _ _ _ (fun _ _ e => e) ?_))
  rw [hn, pure_bind]
  refine wpAny_bind (wpAny_pure ?_)
  show wpAny _ _ (Builtin.ObjectAttr.storeInOwnDict (.ref f) (.type "function") (.str name s.toks) name v false) _ _ _
  unfold Builtin.ObjectAttr.storeInOwnDict
  rw [fn_tells, if_neg (by decide)]
  refine wpAny_bind (wpAny_pure (wpAny_bind ?_))
  unfold Builtin.ObjectAttr.ownDictForStores instanceDict
  refine wpAny_bind (wpAny_loadPart hf ?_)
  dsimp only
  rw [if_neg (by decide)]
  refine wpAny_bind (wpAny_alloc ?_)
  have hlt : f < s.heap.objs.size := Heap.lt_size hf
  have hne : f ≠ s.heap.objs.size := Nat.ne_of_lt hlt
  have hd0 : (s.heap.push { cls := .type "dict", data := .dict #[] }).get? f = some (fnO none fd) := Heap.get?_push_of_some _ hf
  refine wpAny_bind (wpAny_update hd0 ?_)
  rw [fn_made]
  refine wpAny_pure ?_
  dsimp only
  have D : ((s.heap.push { cls := .type "dict", data := .dict #[] }).update f fun o => { cls := o.cls, dict := some s.heap.objs.size, data := o.data, slots := o.slots }).get? s.heap.objs.size = some (dictOf [] 0) := by
    rw [Heap.get?_update_other _ _ hne]; exact Heap.get?_push_size _ rfl
  unfold Builtin.ObjectAttr.storeInDict
  refine wpAny_bind (wpAny_pure (wpAny_bind ?_))
  unfold nsSet
  refine wpAny_bind (wpAny_bind (wpAny_askSetting (wpAny_pure (wpAny_bind (wpAny_mkText (wpAny_bind (wpAny_loadPart D ?_)))))))
  dsimp only
  have hc2 : (!((#[] : Array DictEntry).any (·.key.isStr name)) && (#[] : Array DictEntry).any (·.refKey)) = false := by simp
  rw [aRefKeyMayBeTheName_at, hc2]
  refine wpAny_updatePart D ?_
  generalize hh2 : ((s.heap.push { cls := .type "dict", data := .dict #[] }).update f fun o => { cls := o.cls, dict := some s.heap.objs.size, data := o.data, slots := o.slots }) = h2 at D ⊢
  obtain ⟨h3, hh3⟩ : ∃ h3, h2.update s.heap.objs.size (Obj.putName name (PyData.keyHash c.w.params name) (.str name (s.toks + 1)) v) = h3 := ⟨_, rfl⟩
  have e1 : ∀ b, b ≠ f → b ≠ s.heap.objs.size → h3.get? b = (s.heap.push { cls := .type "dict", data := .dict #[] }).get? b := fun b h1 h2' => by
    rw [← hh3, Heap.get?_update_other _ _ (Ne.symm h2'), ← hh2, Heap.get?_update_other _ _ (Ne.symm h1)]
  have ef : h3.get? f = some (fnO (some s.heap.objs.size) fd) := by
    rw [← hh3, Heap.get?_update_other _ _ (Ne.symm hne), ← hh2, Heap.get?_update_self _ hd0 rfl]
  have ed : h3.get? s.heap.objs.size = some (dictOf (putL name (PyData.keyHash c.w.params name) (.str name (s.toks + 1)) v []) (putN name [] 0)) := by
    rw [← hh3, Heap.get?_update_self _ D (by rw [putName_dict]; rfl), putName_dict]
  obtain ⟨R1, x1⟩ := R.add2 (h' := h3) (.tail .head) (fun b hb o e => by
    have : b ≠ s.heap.objs.size := Nat.ne_of_lt (Heap.lt_size e)
    rw [e1 b hb this]; exact Heap.get?_push_of_some _ e) (o' := .obj (fnO (some s.heap.objs.size) fd)) ⟨ef, fun e => by injection e with e; revert e; decide⟩ (Nat.le_refl _) ed (fun e => by injection e with e; revert e; decide) (s.toks + 1 + 1)
  have ha := attr_put (h := h3) (hsh := PyData.keyHash c.w.params name) (t := s.toks + 1) (name := name) (hV.ext x1) (es := []) (ρ := []) .nil
  obtain ⟨R2, _⟩ := R1.upd (h' := h3) .head (fun b _ o e => e) (o' := attrE c.z [(name, X)]) (OR.attr_mk ed ⟨_, _, rfl, ha⟩) (s.toks + 1 + 1)
  subst hh3
  refine wpAny_bind (wpAny_lookBehind ed (pastItsLine_dict (by rw [List.size_toArray, ha.length, sizeLine_eq]; show 1 ≤ _; decide)) ?_)
  have fin := q () () _ _ (h _) trivial (R2.perm (List.perm_middle (l₁ := [p, (f, .obj (fnO (some s.heap.objs.size) fd))]))) x1
  exact wpAny_pure (wpAny_pure (wpAny_pure fin))
end
end Mine
end
section
open PySem PySem.Calls PyProof.Rows PySem.W
set_option maxRecDepth 100000
set_option linter.unusedVariables false
set_option linter.unusedSimpArgs false
namespace Mine
theorem slot_fga : Slot "function" "__getattribute__" "object.__getattribute__" := .of (owner := "object") (n := "__getattribute__") (by rw [typeLookup_type, builtinLookup_eq_fast]; kernel_rfl) (by decide +kernel) (by decide +kernel) (by decide +kernel)
    (by first | exact .inl (by decide +kernel) | exact .inr (by decide +kernel)) (by rw [isSubtype_type]; kernel_rfl)
theorem entry_oga : entryFor table "object.__getattribute__" = some Builtin.«object.__getattribute__» := entryFor_of_tree (by kernel_rfl)
theorem args_oga (a b : Value) : argsOk "object.__getattribute__" ⟨[a, b], []⟩ := by unfold argsOk; kernel_rfl
theorem fn_ga : typeLookup (.type "function") "__getattribute__" = pure (some (.builtin "object.__getattribute__")) := by rw [typeLookup_type, builtinLookup_eq_fast]; kernel_rfl
theorem fn_gb : typeLookup (.type "function") "__getattr__" = pure none := by rw [typeLookup_type, builtinLookup_eq_fast]; kernel_rfl
section
variable {c : Cx} {A : Around} {σ : Led} {env : Env}
theorem fn_dict {f d : Addr} {fd : FuncData} {o : Obj} {name : Str} {v : Value} {h : Heap} {M : Model} (hf : h.get? f = some (fnO (some d) fd)) (hd : h.get? d = some o) (hl : lookIn name o = some (some v)) :
    Looks M h (Builtin.ObjectAttr.inOwnDict name (.ref f)) (some v) := by
  intro A Q E s k q
  refine wpAny_bind (wpAny_bind (wpAny_loadPart (k _ _ hf) ?_))
  dsimp only
  unfold instanceDict
  refine wpAny_bind (wpAny_loadPart (k _ _ hf) ?_)
  refine wpAny_pure (a := some d) ?_
  refine wpAny_bind (wpAny_loadPart (k _ _ hd) ?_)
  rw [nsLook_of hl]; exact wpAny_pure q
theorem MethV.fnattr {f d g : Addr} {fd : FuncData} {ρ : List (Str × V)} {name : Str} (hf : (f, AObj.obj (fnO (some d) fd)) ∈ σ) (hd : (d, attrE c.z ρ) ∈ σ) (hl : ρ.lookup name = some (.ref g)) (hn : typeLookup (.type "function") name = pure none) :
    MethV c (.ref f) name (.ref g) [] σ := fun A s E Q pl v R hv h => by
  cases hv
  obtain ⟨o, ho, hA⟩ := (R.ob _ hd).attr
  obtain ⟨v, hlv, hV⟩ := (attr_look hA).1 _ hl
  have hV : v = .ref g := hV
  subst hV
  have hfo : s.heap.get? f = some (fnO (some d) fd) := (R.ob _ hf).1
  have L0 : Looks (model c.prog c.w) s.heap (typeOf (.ref f)) (.type "function") := (Looks.ld hfo).andThen .now
  have hcan := PySem.F.canon_object_ga
  have L3 : Looks (model c.prog c.w) s.heap (Builtin.ObjectAttr.find (.ref f) (.type "function") name) (.value (.ref g)) := by
    unfold Builtin.ObjectAttr.find
    refine (Looks.of_pure hn).andThen (Looks.now.andThen (Looks.now.andThen ?_))
    exact (fn_dict hfo ho hlv).andThen (Looks.tag .now)
  unfold getMethod specialOf
  refine wpAny_bind (wpAny_bind (L0.here ((Looks.of_pure fn_ga).here ?_)))
  dsimp only
  rw [hcan, if_neg (by decide)]
  refine wpAny_bind (wpAny_bind (L0.here ((Looks.of_pure fn_gb).here ?_)))
  refine wpAny_bind (wpAny_bind (L0.here ((Looks.of_pure hn).here ?_)))
  refine wpAny_bind ?_
  obtain ⟨hh, gg, dd, t, os⟩ := s
  unfold getAttr getAttrBy
  refine wpAny_bind (wpAny_mkText (wpAny_holding (wpAny_bind (L0.at (wpAny_bind ((Looks.of_pure fn_ga).at ?_))))))
  show wpAny _ _ (getAttrByItsOwn (.ref f) (.str name t) (.type "function") (.builtin "object.__getattribute__") true false) _ _ _
  unfold getAttrByItsOwn hookBefore callGetattribute boundAndCalled
  refine wpAny_bind (wpAny_of_eq (show (if onTheHeap (.type "function") then typeLookup (.type "function") "__getattr__" else pure none) = pure none from rfl) ?_)
  refine wpAny_bind (wpAny_attempt (wpAny_holding ?_))
  show wpAny _ _ (bindSpecial (.builtin "object.__getattribute__") (.ref f) >>= _) _ _ _
  refine wpAny_bind (wpAny_of_eq (slot_fga.bind _) ?_)
  refine wpAny_mono (Q := fun v s' => v = .ref g ∧ s' = ⟨hh, gg, dd, t + 1, os⟩) (E := fun _ _ => False) (wpAny_call_entry slot_fga ⟨_, hfo, rfl⟩ entry_oga ?_ (args_oga _ _)) (fun v s' hv => ?_) fun _ _ z => z.elim
  · refine wpAny_bind (wpAny_pure (wpAny_bind (wpAny_pure (wpAny_bind (L0.at (wpAny_bind (L3.at ?_)))))))
    exact wpAny_pure ⟨_, rfl, rfl, rfl⟩
  · obtain ⟨rfl, rfl⟩ := hv
    dsimp only
    rw [handedOut_of rfl]
    exact wpAny_pure (wpAny_pure (h [] _ .nil (R.toks (t + 1)) (Ext.refl _)))
end
end Mine
end
section
open PySem PySem.Calls PyProof.Rows PySem.W
set_option maxRecDepth 100000
set_option linter.unusedVariables false
set_option linter.unusedSimpArgs false
namespace Mine
section
variable {c : Cx} {A : Around} {σ : Led} {K : V → Led → Prop}
theorem O_iadd {a b : Int} (h : K (.int (a + b)) σ) : W2 VR c A (inplaceOp .Add) (.int a) (.int b) σ K := fun s Q E x y R ⟨_, hx⟩ ⟨_, hy⟩ q => by
  subst hx hy; exact PySem.AutoIntOps.iadd_0 (q _ _ _ _ h ⟨_, rfl⟩ (R.toks _) (Ext.refl _))
end
end Mine
end
section
open PySem PySem.Calls PyProof.Rows PySem.W
set_option maxRecDepth 100000
set_option linter.unusedVariables false
namespace Mine
/-- the names that the walk may call -/
noncomputable abbrev gtab : List (Str × Value) := [(Str.ofString "len", .builtin "len"), (Str.ofString "chr", .builtin "chr"), (Str.ofString "ord", .builtin "ord"), (Str.ofString "sum", .builtin "sum"), (Str.ofString "sorted", .builtin "sorted"), (Str.ofString "min", .builtin "min"), (Str.ofString "iter", .builtin "iter"),
  (Str.ofString "range", .type "range"), (Str.ofString "list", .type "list"), (Str.ofString "bytes", .type "bytes"), (Str.ofString "zip", .type "zip"),
  (Str.ofString "heappush", .ref 28), (Str.ofString "heappop", .ref 35), (Str.ofString "b64encode", .ref 122), (Str.ofString "b64decode", .ref 130), (Str.ofString "_law_octets", .ref 177), (Str.ofString "_law_written", .ref 182), (Str.ofString "_law_spelled", .ref 187),
  (Str.ofString "_law_deliveries", .ref 194), (Str.ofString "_law_worked", .ref 201), (Str.ofString "_law_taken", .ref 206), (Str.ofString "_law_told", .ref 211)]
noncomputable def GK (c : Cx) (p : Str × Value) : Prop := Glo c p.1 p.2 ∧ ∀ σ, Keeps c p.2 σ
theorem gk_all {c : Cx} : ∀ {l : List (Str × Value)}, (∀ p ∈ l, GK c p) → ∀ {p}, GK c p → ∀ q ∈ p :: l, GK c q := fun h _ hp q hq => by
  rcases List.mem_cons.mp hq with rfl | hq
  · exact hp
  · exact h q hq
theorem gtab_ok (c : Cx) : ∀ p ∈ gtab, GK c p :=
  gk_all (gk_all (gk_all (gk_all (gk_all (gk_all (gk_all (gk_all (gk_all (gk_all (gk_all (gk_all (gk_all (gk_all (gk_all (gk_all (gk_all (gk_all (gk_all (gk_all (gk_all (gk_all (fun p h => absurd h List.not_mem_nil)
    ⟨g_law_told c, k_fn c rfl rfl⟩) ⟨g_law_taken c, k_fn c rfl rfl⟩) ⟨g_law_worked c, k_fn c rfl rfl⟩) ⟨g_law_deliveries c, k_fn c rfl rfl⟩) ⟨g_law_spelled c, k_fn c rfl rfl⟩) ⟨g_law_written c, k_fn c rfl rfl⟩) ⟨g_law_octets c, k_fn c rfl rfl⟩) ⟨g_b64decode c, k_fn c rfl rfl⟩) ⟨g_b64encode c, k_fn c rfl rfl⟩) ⟨g_heappop c, k_fn c rfl rfl⟩) ⟨g_heappush c, k_fn c rfl rfl⟩)
    ⟨g_zip c, fun _ => Keeps.type⟩) ⟨g_bytes c, fun _ => Keeps.type⟩) ⟨g_list c, fun _ => Keeps.type⟩) ⟨g_range c, fun _ => Keeps.type⟩) ⟨g_iter c, fun _ => Keeps.builtin⟩) ⟨g_min c, fun _ => Keeps.builtin⟩) ⟨g_sorted c, fun _ => Keeps.builtin⟩) ⟨g_sum c, fun _ => Keeps.builtin⟩) ⟨g_ord c, fun _ => Keeps.builtin⟩) ⟨g_chr c, fun _ => Keeps.builtin⟩) ⟨g_len c, fun _ => Keeps.builtin⟩
theorem W_CallT {c : Cx} {A : Around} {σ : Led} {env : Env} {K : V → Led → Prop} {x : Str} {pos' : Pos} {args : List Expr} {pos : Pos} {f : Value} {ρ : List (Str × Option V)} (hm : (x, NameKind.globalImplicit) ∈ env.scope.names) (hg : (x, f) ∈ gtab)
    (h : WL c A (spliced (backTo pos (starEach args env))) ((env.locals, .ns env.scope ρ) :: σ) fun Xs σ₂ => WN VR c A (fun vs => call f vs) Xs σ₂ K)
    (hk : env.scope.kind = .function := by rfl) (h1 : env.globals = mainGlobals := by rfl) (h2 : env.builtins = builtinsNs := by rfl) (hd : (x == ("__debug__" : Str)) = false := by rfl)
    (hp : (backTo pos (starEach args env)).any (·.1) = false := by rfl)
    (he : eval (.Call (.Name x pos') args [] pos) env = (do callWith pos (← eval (.Name x pos') env) [] (backTo pos (starEach args env)) (backToKw pos (keywordEach [] env))) := by rfl) : W c A (eval (.Call (.Name x pos') args [] pos) env) ((env.locals, .ns env.scope ρ) :: σ) K :=
  W_CallG hm (gtab_ok c _ hg).1 (gtab_ok c _ hg).2 h hk h1 h2 hd hp he
noncomputable abbrev atab : List Str := [Str.ofString "lineno", Str.ofString "instream", Str.ofString "whitespace", Str.ofString "pushback"]
theorem own_of (c : Cx) {x : Str} (h : x ∈ atab) : OwnName c x := by
  simp only [List.mem_cons, List.not_mem_nil, or_false] at h
  rcases h with rfl | rfl | rfl | rfl
  · exact x_lineno c
  · exact x_instream c
  · exact x_whitespace c
  · exact x_pushback c
end Mine
end
section
open PySem PySem.Calls PyProof.Rows PySem.W
set_option linter.unusedVariables false
set_option linter.unusedSimpArgs false
namespace Mine
local macro_rules | `(tactic| walk_at "pick") => `(tactic| with_reducible first | exact Pick.head | (apply Pick.tail; walk_at "pick"))
local macro_rules | `(tactic| walk_at "sub") => `(tactic| first
  | with_reducible exact Sub.refl _
  | (refine' Sub.pick ?hpick ?_; (case hpick => walk_at "pick"); walk_at "sub")
  | (refine Sub.skip ?_; walk_at "sub"))
local macro_rules | `(tactic| walk_at "at") => `(tactic| with_reducible first
  | assumption | exact List.mem_cons_self | exact mh1 | exact mh2 | exact mh3 | (refine mt4 ?_; walk_at "at") | (refine List.mem_cons_of_mem _ ?_; walk_at "at")
  | exact Put.head | exact Put.h1 | exact Put.h2 | exact Put.h3 | (apply Put.t4; walk_at "at") | (apply Put.tail; walk_at "at") | exact Upd.head | (apply Upd.tail; walk_at "at"))
-- small numbers
local macro_rules | `(tactic| walk_at "num") => `(tactic| first | assumption | omega | decide | (simp; done) | (simp; omega))
local macro_rules | `(tactic| walk_at "go") => `(tactic| first
  | ((with_reducible show Mine.W _ _ (eval _ _) _ _); first
    | ((with_reducible show Mine.W _ _ (eval (Expr.Name _ _) _) _ _); refine W_loc (by walk_at "at") ?_)
    | with_reducible first | refine W_int ?_ | refine W_str ?_ | refine W_bytes ?_ | refine W_bool ?_ | refine W_none ?_ | refine W_BinOp ?_ | refine W_UnaryOp ?_ | refine W_IfExp ?_
    | ((with_reducible show Mine.W _ _ (eval (Expr.Subscript _ _ _) _) _ _); (fail_if_success (with_reducible show Mine.W _ _ (eval (Expr.Subscript _ (Expr.Slice _ _ _ _) _) _) _ _)); refine W_Sub ?_)
    | ((with_reducible show Mine.W _ _ (eval (Expr.Compare _ [_] [_] _) _) _ _); refine W_Compare ?_))
  | ((with_reducible show WF _ _ _ _ _); first
    | with_reducible first | refine WF_cons ?_ | refine WF_nil ?_ | refine WF_Return ?_ | refine WF_Continue ?_ | refine WF_Break ?_
    | ((with_reducible show WF _ _ (exec (Stmt.Assign [Expr.Name _ _] _ _) _) _ _); refine WF_Assign ?_)
    | ((with_reducible show WF _ _ (exec (Stmt.Assign [Expr.Subscript _ _ _] _ _) _) _ _); refine WF_AssignSub ?_)
    | ((with_reducible show WF _ _ (exec (Stmt.Expr _ _) _) _ _); refine WF_Expr ?_))
  | ((with_reducible show W2 _ _ _ _ _ _ _ _); first
    | with_reducible first | refine O_add ?_ | refine O_sub ?_ | refine O_and ?_ | refine O_or ?_ | refine C_gt ?_ | refine C_lt ?_ | refine C_ge ?_ | refine C_le ?_ | refine C_eq ?_ | refine C_ne ?_
    | ((with_reducible show W2 _ _ _ (binaryOp Operator.RShift) (V.int _) (V.int _) _ _); refine O_shr (by decide) ?_)
    | ((with_reducible show W2 _ _ _ (binaryOp Operator.Mod) (V.int _) (V.int _) _ _); refine O_mod (by decide) ?_))
  | ((with_reducible show W1 _ _ _ _ _ _ _); first
    | with_reducible first | refine T_bool ?_ | refine W_assignName ?_ | refine O_neg ?_
    | ((with_reducible show W1 _ _ _ (storeName _ _) _ _ _); refine' W_store ?hp ?_; (case hp => walk_at "at")))
  | ((with_reducible show WB _ _ _ _ _); first
    | with_reducible first | refine WB_Not ?_ | refine WB_Bool ?_ | refine WB_And ?_ | refine WB_And_nil ?_ | refine WB_Or ?_ | refine WB_Or_nil ?_
    | ((with_reducible show WB _ _ (isTrue (Expr.Compare _ [_] [_] _) _ _) _ _); refine WB_Compare ?_)
    | ((with_reducible show WB _ _ (isTrue (Expr.Name _ _) _ _) _ _); refine WB_val ?_))
  | ((with_reducible show WL _ _ _ _ _); first
    | ((with_reducible show WL _ _ (spliced (backTo _ (starEach (_ :: _) _))) _ _); refine WL_cons ?_)
    | with_reducible refine WL_nil ?_)
  | with_reducible first | refine Seq.next' ?_ | refine Seq.cont' ?_ | refine Seq.brk' ?_ | refine Seq.ret' ?_ | refine Turn.brk' ?_ | refine Turn.ret' ?_ | refine If.of_true ?_ | refine If.of_false ?_)
local macro_rules | `(tactic| walk_at "gi") => `(tactic| first
  | walk_at "go"
  | ((with_reducible show WF _ _ (exec (Stmt.If _ _ _ _) _) _ _); refine WF_If ?_))
noncomputable abbrev P2 := Int × Int
theorem half_le {p n : Nat} (h : p ≤ n + 1) : (p - 1) / 2 ≤ n := Nat.le_trans (Nat.div_le_self _ _) (Nat.sub_le_iff_le_add.mpr h)
noncomputable def sdF (x : P2) : Nat → Nat → List P2 → List P2
  | 0, pos, xs => xs.set pos x
  | n + 1, pos, xs => if pos = 0 then xs.set 0 x else if plt x (xs.getD ((pos - 1) / 2) (0, 0)) then sdF x n ((pos - 1) / 2) (xs.set pos (xs.getD ((pos - 1) / 2) (0, 0))) else xs.set pos x
noncomputable def sd (x : P2) (pos : Nat) (xs : List P2) : List P2 := sdF x pos pos xs
theorem sdF_eq {x : P2} : ∀ (n m pos : Nat) (xs : List P2), pos ≤ n → pos ≤ m → sdF x n pos xs = sdF x m pos xs
  | 0, 0, _, _, _, _ => rfl
  | 0, m + 1, pos, xs, h, _ => by
    have e : pos = 0 := Nat.le_zero.mp h
    subst e; rfl
  | n + 1, 0, pos, xs, _, h => by
    have e : pos = 0 := Nat.le_zero.mp h
    subst e; rfl
  | n + 1, m + 1, pos, xs, h1, h2 => by
    unfold sdF
    rw [sdF_eq n m _ _ (half_le h1) (half_le h2)]
theorem sd_zero {x : P2} {xs : List P2} : sd x 0 xs = xs.set 0 x := rfl
theorem sd_pos {x : P2} {pos : Nat} {xs : List P2} (h : pos ≠ 0) : sd x pos xs = if plt x (xs.getD ((pos - 1) / 2) (0, 0)) then sd x ((pos - 1) / 2) (xs.set pos (xs.getD ((pos - 1) / 2) (0, 0))) else xs.set pos x := by
  obtain ⟨n, rfl⟩ := Nat.exists_eq_succ_of_ne_zero h
  show sdF x (n + 1) (n + 1) xs = if plt x (xs.getD ((n + 1 - 1) / 2) (0, 0)) then sdF x ((n + 1 - 1) / 2) ((n + 1 - 1) / 2) (xs.set (n + 1) (xs.getD ((n + 1 - 1) / 2) (0, 0))) else xs.set (n + 1) x
  have e := sdF_eq (x := x) n ((n + 1 - 1) / 2) ((n + 1 - 1) / 2) (xs.set (n + 1) (xs.getD ((n + 1 - 1) / 2) (0, 0))) (Nat.div_le_self _ _) (Nat.le_refl _)
  rw [sdF, if_neg (Nat.succ_ne_zero n), e]
theorem sd_up {x : P2} {pos : Nat} {xs : List P2} (h : pos ≠ 0) (hp : plt x (xs.getD ((pos - 1) / 2) (0, 0)) = true) : sd x pos xs = sd x ((pos - 1) / 2) (xs.set pos (xs.getD ((pos - 1) / 2) (0, 0))) := by rw [sd_pos h, if_pos hp]
theorem sd_stop {x : P2} {pos : Nat} {xs : List P2} (h : pos ≠ 0) (hp : plt x (xs.getD ((pos - 1) / 2) (0, 0)) = false) : sd x pos xs = xs.set pos x := by rw [sd_pos h, if_neg (by rw [hp]; decide)]
theorem map_get {xs : List P2} {i : Nat} (h : i < xs.length) : (xs.map ptup)[i]? = some (ptup (xs.getD i (0, 0))) := by
  simp [List.getElem?_map, List.getD, h]

inductive SdJ (l : Addr) (xs : List P2) (pos : Nat) (τ : Led) (n : Nat) (ρ : List (Str × Option V)) (σ : Led) : Prop
  | mk (p : Nat) (ys : List P2) (o1 o2 : Option V) (_ : n = p) (_ : p < ys.length) (_ : ys.length = xs.length) (_ : sd (xs.getD pos (0, 0)) p ys = sd (xs.getD pos (0, 0)) pos xs) (_ : ρ = [(Str.ofString "heap", some (.ref l)), (Str.ofString "startpos", some (.int 0)), (Str.ofString "pos", some (.int p)), (Str.ofString "newitem", some (ptup (xs.getD pos (0, 0)))), (Str.ofString "parentpos", o1), (Str.ofString "parent", o2)]) (_ : σ = (l, .list (ys.map ptup)) :: τ)
theorem siftdown_spec {c : Cx} {A : Around} {σ σ' : Led} {K : V → Led → Prop} {l : Addr} {xs : List P2} {pos : Nat} (hA : A.depth < 900) (hU : A.units < 9000)
    (hpos : pos < xs.length) (hlen : xs.length < 1000000) (u : Upd l (.list (xs.map ptup)) (.list ((sd (xs.getD pos (0, 0)) pos xs).map ptup)) σ σ') (h : K .none σ') :
    WN VR c A (fun vs => call (.ref 42) vs) [.ref l, .int 0, .int pos] σ K := by
  refine WN.part u h fun τ K h => ?_
  refine W_def (names := ["heap", "startpos", "pos"]) (others := ["newitem", "parentpos", "parent"]) [(Str.ofString "heap", some (.ref l)), (Str.ofString "startpos", some (.int 0)), (Str.ofString "pos", some (.int pos)), (Str.ofString "newitem", none), (Str.ofString "parentpos", none), (Str.ofString "parent", none)]
    (c.inK 42 _ rfl) ⟨_, _, _, c.inK 41 _ rfl, rfl, rfl⟩ (fun s vs _ => binds3 (fun _ _ _ => BindsTo.of_eq rfl) vs) rfl rfl (by decide +kernel) rfl (by decide) (by omega) rfl rfl rfl ?_
  intro L A' a1 a2 a3
  walk_at "gi"
  walk_at "gi"
  walk_at "gi"
  walk_at "gi"
  walk_at "gi"
  refine O_item (by walk_at "at") (by omega) (by omega) (map_get (i := pos) hpos) ?_
  iterate 3 walk_at "gi"
  refine WF_WhileF (SdJ l xs pos τ) pos ⟨pos, xs, none, none, rfl, hpos, rfl, rfl, rfl, rfl⟩ ?_
  rintro JW mW n ρ σ ⟨p, ys, o1, o2, rfl, hp, hl, he, rfl, rfl⟩
  repeat walk_at "gi"
  refine ⟨fun hz => ?_, fun hz => ?_⟩
  · have hp0 : n ≠ 0 := by simp at hz; omega
    have e1 : ((n : Int) - 1).fdiv (2 ^ (1 : Int).toNat) = (((n - 1) / 2 : Nat) : Int) := by
      show ((n : Int) - 1).fdiv 2 = _
      rw [Int.fdiv_eq_ediv_of_nonneg _ (by decide)]; omega
    repeat walk_at "gi"
    rw [e1]
    repeat walk_at "gi"
    refine O_item (by walk_at "at") (by omega) (by omega) (map_get (i := (n - 1) / 2) (by omega)) ?_
    repeat walk_at "gi"
    refine C_tlt (by omega) ?_
    repeat walk_at "gi"
    refine ⟨fun hz => ?_, fun hz => ?_⟩
    · repeat walk_at "gi"
      refine' O_setitem ?hp ?h0 ?h1 ?h2 ?_
      case hp => walk_at "at"
      case h0 => omega
      case h1 => omega
      case h2 => simp; omega
      repeat walk_at "gi"
      refine Turn.contF ((n - 1) / 2) (by omega) (mW _ _ _ ⟨(n - 1) / 2, ys.set n (ys.getD ((n - 1) / 2) (0, 0)), _, _, rfl, by simp; omega, by simp [hl], ?_, rfl, by simp [List.map_set]⟩)
      rw [← he]; exact (sd_up hp0 hz).symm
    · repeat walk_at "gi"
      refine' O_setitem ?hp ?h0 ?h1 ?h2 ?_
      case hp => walk_at "at"
      case h0 => omega
      case h1 => omega
      case h2 => simp; omega
      repeat walk_at "gi"
      refine Ret.next' (Sub.skip (Sub.refl _)) ?_
      rw [sd_stop hp0 hz] at he
      rw [← he, List.map_set] at h
      simpa using h
  · have hp0 : n = 0 := by simp at hz; omega
    subst hp0
    repeat walk_at "gi"
    refine' O_setitem ?hp ?h0 ?h1 ?h2 ?_
    case hp => walk_at "at"
    case h0 => omega
    case h1 => omega
    case h2 => simp; omega
    repeat walk_at "gi"
    refine Ret.next' (Sub.skip (Sub.refl _)) ?_
    rw [sd_zero] at he
    rw [← he, List.map_set] at h
    simpa using h
noncomputable def hpush (xs : List P2) (x : P2) : List P2 := sd x xs.length (xs ++ [x])
theorem heappush_spec {c : Cx} {A : Around} {σ σ' : Led} {K : V → Led → Prop} {l : Addr} {xs : List P2} {x : P2} (hA : A.depth < 890) (hU : A.units < 8900)
    (hlen : xs.length < 900000) (u : Upd l (.list (xs.map ptup)) (.list ((hpush xs x).map ptup)) σ σ') (h : K .none σ') :
    WN VR c A (fun vs => call (.ref 28) vs) [.ref l, ptup x] σ K := by
  refine WN.part u h fun τ K h => ?_
  refine W_def (names := ["heap", "item"]) (others := []) [(Str.ofString "heap", some (.ref l)), (Str.ofString "item", some (ptup x))]
    (c.inK 28 _ rfl) ⟨_, _, _, c.inK 27 _ rfl, rfl, rfl⟩ (fun s vs _ => binds2 (fun _ _ => BindsTo.of_eq rfl) vs) rfl rfl (by decide +kernel) rfl (by decide) (by omega) rfl rfl rfl ?_
  intro L A' a1 a2 a3
  repeat walk_at "gi"
  refine W_Meth "list.append" ?_
  repeat walk_at "gi"
  refine ⟨Meth.list (by walk_at "at") F.slot_list_append F.type_list_append, ?_⟩
  repeat walk_at "gi"
  refine' B_append ?hp ?h0 ?_
  case hp => walk_at "at"
  case h0 => walk_at "num"
  refine ⟨rfl, ?_⟩
  repeat walk_at "gi"
  refine W_CallG (by walk_at "at") (g_siftdown c) (k_fn c rfl rfl) ?_
  repeat walk_at "gi"
  refine W_CallG (by walk_at "at") (g_len c) (fun _ => Keeps.builtin) ?_
  repeat walk_at "gi"
  refine B_len (by walk_at "at") (by walk_at "num") ?_
  repeat walk_at "gi"
  rw [show (((xs.map ptup ++ [ptup x]).length : Nat) : Int) - 1 = ((xs.length : Nat) : Int) by simp]
  rw [show xs.map ptup ++ [ptup x] = (xs ++ [x]).map ptup by simp]
  refine' siftdown_spec ?h1 ?h2 ?h3 ?h4 ?hp ?_
  case hp => walk_at "at"
  case h1 => omega
  case h2 => omega
  case h3 => simp
  case h4 => simp; omega
  refine ⟨rfl, ?_⟩
  repeat walk_at "gi"
  refine Ret.next' (Sub.skip (Sub.refl _)) ?_
  simpa [hpush] using h

/-- the smaller child's place -/
noncomputable def kid (pos : Nat) (xs : List P2) : Nat := if 2 * pos + 2 < xs.length ∧ plt (xs.getD (2 * pos + 1) (0, 0)) (xs.getD (2 * pos + 2) (0, 0)) = false then 2 * pos + 2 else 2 * pos + 1
theorem kid_gt {pos : Nat} {xs : List P2} : pos < kid pos xs := by unfold kid; split <;> omega
theorem kid_lt {pos : Nat} {xs : List P2} (h : 2 * pos + 1 < xs.length) : kid pos xs < xs.length := by unfold kid; split <;> omega
noncomputable def suF : Nat → Nat → List P2 → Nat × List P2
  | 0, pos, xs => (pos, xs)
  | n + 1, pos, xs => if 2 * pos + 1 < xs.length then suF n (kid pos xs) (xs.set pos (xs.getD (kid pos xs) (0, 0))) else (pos, xs)
noncomputable def su (pos : Nat) (xs : List P2) : Nat × List P2 := suF (xs.length - pos) pos xs
theorem kid_less {pos n : Nat} {xs : List P2} (h : 2 * pos + 1 < xs.length) (h1 : xs.length - pos ≤ n + 1) : xs.length - kid pos xs ≤ n := by
  have := @kid_gt pos xs
  omega
theorem suF_eq : ∀ (n m pos : Nat) (xs : List P2), xs.length - pos ≤ n → xs.length - pos ≤ m → suF n pos xs = suF m pos xs
  | 0, 0, _, _, _, _ => rfl
  | 0, m + 1, pos, xs, h, _ => by
    unfold suF
    rw [if_neg (by omega)]
  | n + 1, 0, pos, xs, _, h => by
    unfold suF
    rw [if_neg (by omega)]
  | n + 1, m + 1, pos, xs, h1, h2 => by
    unfold suF
    by_cases q : 2 * pos + 1 < xs.length
    · rw [if_pos q, if_pos q]
      exact suF_eq n m _ _ (by rw [List.length_set]; exact kid_less q h1) (by rw [List.length_set]; exact kid_less q h2)
    · rw [if_neg q, if_neg q]
theorem su_go {pos : Nat} {xs : List P2} (h : 2 * pos + 1 < xs.length) : su pos xs = su (kid pos xs) (xs.set pos (xs.getD (kid pos xs) (0, 0))) := by
  obtain ⟨n, e⟩ : ∃ n, xs.length - pos = n + 1 := Nat.exists_eq_succ_of_ne_zero (Nat.sub_ne_zero_of_lt (Nat.lt_of_le_of_lt (Nat.le_trans (Nat.le_mul_of_pos_left pos (by decide)) (Nat.le_succ _)) h))
  unfold su
  rw [e, List.length_set]
  show (if _ then _ else _) = _
  rw [if_pos h]
  exact suF_eq _ _ _ _ (by rw [List.length_set]; exact kid_less h (Nat.le_of_eq e)) (by rw [List.length_set]; exact Nat.le_refl _)
theorem su_end {pos : Nat} {xs : List P2} (h : ¬ 2 * pos + 1 < xs.length) : su pos xs = (pos, xs) := by
  unfold su
  cases xs.length - pos with
  | zero => rfl
  | succ n => show (if _ then _ else _) = _; rw [if_neg h]
noncomputable def sup (xs : List P2) : List P2 := sd (xs.getD 0 (0, 0)) (su 0 xs).1 ((su 0 xs).2.set (su 0 xs).1 (xs.getD 0 (0, 0)))

inductive SuJ (l : Addr) (xs : List P2) (τ : Led) (n : Nat) (ρ : List (Str × Option V)) (σ : Led) : Prop
  | mk (p : Nat) (ys : List P2) (o : Option V) (_ : n = xs.length - p) (_ : p < ys.length) (_ : ys.length = xs.length) (_ : su p ys = su 0 xs) (_ : ρ = [(Str.ofString "heap", some (.ref l)), (Str.ofString "pos", some (.int p)), (Str.ofString "endpos", some (.int ((xs.map ptup).length : Nat))), (Str.ofString "startpos", some (.int 0)), (Str.ofString "newitem", some (ptup (xs.getD 0 (0, 0)))), (Str.ofString "childpos", some (.int (2 * p + 1))), (Str.ofString "rightpos", o)]) (_ : σ = (l, .list (ys.map ptup)) :: τ)
theorem siftup_spec {c : Cx} {A : Around} {σ σ' : Led} {K : V → Led → Prop} {l : Addr} {xs : List P2} (hA : A.depth < 890) (hU : A.units < 8900)
    (hpos : 0 < xs.length) (hlen : xs.length < 900000) (u : Upd l (.list (xs.map ptup)) (.list ((sup xs).map ptup)) σ σ') (h : K .none σ') :
    WN VR c A (fun vs => call (.ref 49) vs) [.ref l, .int 0] σ K := by
  refine WN.part u h fun τ K h => ?_
  refine W_def (names := ["heap", "pos"]) (others := ["endpos", "startpos", "newitem", "childpos", "rightpos"]) [(Str.ofString "heap", some (.ref l)), (Str.ofString "pos", some (.int 0)), (Str.ofString "endpos", none), (Str.ofString "startpos", none), (Str.ofString "newitem", none), (Str.ofString "childpos", none), (Str.ofString "rightpos", none)]
    (c.inK 49 _ rfl) ⟨_, _, _, c.inK 48 _ rfl, rfl, rfl⟩ (fun s vs _ => binds2 (fun _ _ => BindsTo.of_eq rfl) vs) rfl rfl (by decide +kernel) rfl (by decide) (by omega) rfl rfl rfl ?_
  intro L A' a1 a2 a3
  repeat walk_at "gi"
  refine W_CallG (by walk_at "at") (g_len c) (fun _ => Keeps.builtin) ?_
  repeat walk_at "gi"
  refine B_len (by walk_at "at") (by walk_at "num") ?_
  repeat walk_at "gi"
  refine O_item (by walk_at "at") (by omega) (by omega) (map_get (i := 0) hpos) ?_
  repeat walk_at "gi"
  refine O_mul (IntMulOk.of_left (by decide)) ?_
  repeat walk_at "gi"
  refine WF_WhileF (SuJ l xs τ) (xs.length - 0) ⟨0, xs, none, rfl, hpos, rfl, rfl, rfl, rfl⟩ ?_
  rintro JW mW n ρ σ ⟨p, ys, o, rfl, hp, hl, he, rfl, rfl⟩
  repeat walk_at "gi"
  refine ⟨fun hz => ?_, fun hz => ?_⟩
  · have hc : 2 * p + 1 < ys.length := by simp at hz; omega
    repeat walk_at "go"
    refine WF_join (fun ρ σ => ∃ o, ρ = [(Str.ofString "heap", some (.ref l)), (Str.ofString "pos", some (.int p)), (Str.ofString "endpos", some (.int ((xs.map ptup).length : Nat))), (Str.ofString "startpos", some (.int 0)), (Str.ofString "newitem", some (ptup (xs.getD 0 (0, 0)))), (Str.ofString "childpos", some (.int (kid p ys))), (Str.ofString "rightpos", o)] ∧
      σ = (l, .list (ys.map ptup)) :: τ) (fun JM mM => ?_) ?_
    · repeat walk_at "gi"
      refine ⟨fun hr => ?_, fun hr => ?_⟩
      · have hr' : 2 * p + 2 < ys.length := by simp at hr; omega
        repeat walk_at "gi"
        rw [show (2 * (p : Int) + 1) = ((2 * p + 1 : Nat) : Int) by omega]
        refine O_item (by walk_at "at") (by omega) (by omega) (map_get (i := 2 * p + 1) hc) ?_
        repeat walk_at "gi"
        rw [show (((2 * p + 1 : Nat) : Int) + 1) = ((2 * p + 2 : Nat) : Int) by omega]
        refine O_item (by walk_at "at") (by omega) (by omega) (map_get (i := 2 * p + 2) hr') ?_
        refine C_tlt (by omega) ?_
        repeat walk_at "gi"
        refine ⟨fun hq => ?_, fun hq => ?_⟩
        · repeat walk_at "gi"
          repeat walk_at "gi"
          simp at hq
          refine Meet.here (mM _ _ ?_)
          rw [show kid p ys = 2 * p + 2 by unfold kid; rw [if_pos ⟨hr', hq⟩]]
          exact ⟨_, rfl, rfl⟩
        · repeat walk_at "gi"
          simp at hq
          refine Meet.here (mM _ _ ?_)
          rw [show kid p ys = 2 * p + 1 by unfold kid; rw [if_neg (by simp [hq])]]
          exact ⟨_, rfl, rfl⟩
      · repeat walk_at "gi"
        refine Meet.here (mM _ _ ?_)
        rw [show kid p ys = 2 * p + 1 by unfold kid; rw [if_neg (by simp at hr; omega)]]
        exact ⟨_, rfl, rfl⟩
    · rintro ρ σ ⟨o', rfl, rfl⟩
      have hk1 := @kid_gt p ys
      have hk2 := kid_lt hc
      repeat walk_at "gi"
      refine O_item (by walk_at "at") (by omega) (by omega) (map_get (i := kid p ys) hk2) ?_
      repeat walk_at "gi"
      refine' O_setitem ?hp ?h0 ?h1 ?h2 ?_
      case hp => walk_at "at"
      case h0 => omega
      case h1 => omega
      case h2 => simp; omega
      repeat walk_at "gi"
      refine O_mul (IntMulOk.of_left (by decide)) ?_
      repeat walk_at "gi"
      refine Turn.nextF (xs.length - kid p ys) (by omega) (mW _ _ _ ⟨kid p ys, ys.set p (ys.getD (kid p ys) (0, 0)), _, rfl, by simp; omega, by simp [hl], ?_, rfl, by simp [List.map_set]⟩)
      rw [← he]; exact (su_go hc).symm
  · have hc : ¬ 2 * p + 1 < ys.length := by simp at hz; omega
    rw [su_end hc] at he
    repeat walk_at "gi"
    refine' O_setitem ?hp ?h0 ?h1 ?h2 ?_
    case hp => walk_at "at"
    case h0 => omega
    case h1 => omega
    case h2 => simp; omega
    repeat walk_at "gi"
    refine W_CallG (by walk_at "at") (g_siftdown c) (k_fn c rfl rfl) ?_
    repeat walk_at "gi"
    rw [show (ys.map ptup).set (p : Int).toNat (ptup (xs.getD 0 (0, 0))) = (ys.set p (xs.getD 0 (0, 0))).map ptup by simp [List.map_set]]
    refine' siftdown_spec ?h1 ?h2 ?h3 ?h4 ?hp ?_
    case hp => walk_at "at"
    case h1 => omega
    case h2 => omega
    case h3 => simp; omega
    case h4 => simp; omega
    refine ⟨rfl, ?_⟩
    repeat walk_at "gi"
    refine Ret.next' (Sub.skip (Sub.refl _)) ?_
    have : sup xs = sd (xs.getD 0 (0, 0)) p (ys.set p (xs.getD 0 (0, 0))) := by unfold sup; rw [← he]
    rw [this] at h
    have e2 : (ys.set p (xs.getD 0 (0, 0))).getD p (0, 0) = xs.getD 0 (0, 0) := by simp [List.getD, hp]
    rw [e2]; exact h

/-- heappop: what is handed out, what is left -/
noncomputable def hpop (xs : List P2) : P2 × List P2 :=
  if xs.length = 1 then (xs.getD 0 (0, 0), [])
  else (xs.getD 0 (0, 0), sup (xs.dropLast.set 0 (xs.getD (xs.length - 1) (0, 0))))
theorem heappop_spec {c : Cx} {A : Around} {σ σ' : Led} {K : V → Led → Prop} {l : Addr} {xs : List P2} (hA : A.depth < 880) (hU : A.units < 8800)
    (hpos : 0 < xs.length) (hlen : xs.length < 900000) (u : Upd l (.list (xs.map ptup)) (.list ((hpop xs).2.map ptup)) σ σ') (h : K (ptup (hpop xs).1) σ') :
    WN VR c A (fun vs => call (.ref 35) vs) [.ref l] σ K := by
  refine WN.part u h fun τ K h => ?_
  refine W_def (names := ["heap"]) (others := ["lastelt", "returnitem"]) [(Str.ofString "heap", some (.ref l)), (Str.ofString "lastelt", none), (Str.ofString "returnitem", none)]
    (c.inK 35 _ rfl) ⟨_, _, _, c.inK 34 _ rfl, rfl, rfl⟩ (fun s vs _ => binds1 (fun _ => BindsTo.of_eq rfl) vs) rfl rfl (by decide +kernel) rfl (by decide) (by omega) rfl rfl rfl ?_
  intro L A' a1 a2 a3
  repeat walk_at "gi"
  refine W_Meth "list.pop" ?_
  repeat walk_at "gi"
  refine ⟨Meth.list (by walk_at "at") F.slot_list_pop F.type_list_pop, ?_⟩
  repeat walk_at "gi"
  refine' B_pop ?hp ?h0 (by rw [List.length_map]; exact map_get (i := xs.length - 1) (by omega)) ?_
  case hp => walk_at "at"
  case h0 => walk_at "num"
  repeat walk_at "gi"
  refine T_list (by walk_at "at") (by simp; omega) ?_
  refine ⟨fun hz => ?_, fun hz => ?_⟩
  · have h1 : 1 < xs.length := by
      rcases xs with _ | ⟨a, _ | ⟨b, r⟩⟩
      · simp at hpos
      · simp at hz
      · simp
    rw [show (xs.map ptup).dropLast = xs.dropLast.map ptup by rw [List.map_dropLast]]
    repeat walk_at "gi"
    refine O_item (by walk_at "at") (by omega) (by omega) (map_get (xs := xs.dropLast) (i := 0) (by simp; omega)) ?_
    repeat walk_at "gi"
    refine' O_setitem ?hp ?h0 ?h1 ?h2 ?_
    case hp => walk_at "at"
    case h0 => omega
    case h1 => omega
    case h2 => simp; omega
    repeat walk_at "gi"
    refine W_CallG (by walk_at "at") (g_siftup c) (k_fn c rfl rfl) ?_
    repeat walk_at "gi"
    rw [show (xs.dropLast.map ptup).set (0 : Int).toNat (ptup (xs.getD (xs.length - 1) (0, 0))) = (xs.dropLast.set 0 (xs.getD (xs.length - 1) (0, 0))).map ptup by simp [List.map_set]]
    refine' siftup_spec ?h1 ?h2 ?h3 ?h4 ?hp ?_
    case hp => walk_at "at"
    case h1 => omega
    case h2 => omega
    case h3 => simp; omega
    case h4 => simp; omega
    refine ⟨rfl, ?_⟩
    repeat walk_at "gi"
    refine Ret.ret' (Sub.skip (Sub.refl _)) ?_
    have e1 : hpop xs = (xs.getD 0 (0, 0), sup (xs.dropLast.set 0 (xs.getD (xs.length - 1) (0, 0)))) := by unfold hpop; rw [if_neg (by omega)]
    rw [e1] at h
    have e2 : xs.dropLast.getD 0 (0, 0) = xs.getD 0 (0, 0) := by
      rcases xs with _ | ⟨a, _ | ⟨b, r⟩⟩
      · simp at hpos
      · simp at h1
      · simp
    rw [e2]; exact h
  · have h1 : xs.length = 1 := by
      rcases xs with _ | ⟨a, _ | ⟨b, r⟩⟩
      · simp at hpos
      · simp
      · simp at hz
    repeat walk_at "gi"
    refine Ret.ret' (Sub.skip (Sub.refl _)) ?_
    have e1 : hpop xs = (xs.getD 0 (0, 0), []) := by unfold hpop; rw [if_pos h1]
    rw [e1] at h
    rw [show (xs.map ptup).dropLast = [] by rcases xs with _ | ⟨a, _ | ⟨b, r⟩⟩ <;> simp at h1 ⊢, show xs.length - 1 = 0 by omega]
    exact h
theorem buffer_spec {c : Cx} {A : Around} {σ : Led} {K : V → Led → Prop} {l : List UInt8} (hA : A.depth < 890) (h : K (.bytes l) σ) :
    WN VR c A (fun vs => call (.ref 84) vs) [.bytes l] σ K := by
  refine W_def (names := ["data"]) (others := ["t"]) [(Str.ofString "data", some (.bytes l)), (Str.ofString "t", none)]
    (c.inK 84 _ rfl) ⟨_, _, _, c.inK 83 _ rfl, rfl, rfl⟩ (fun s vs _ => binds1 (fun _ => BindsTo.of_eq rfl) vs) rfl rfl (by decide +kernel) rfl (by decide) (by omega) rfl rfl rfl ?_
  intro L A' a1 a2 a3
  repeat walk_at "gi"
  refine W_CallG (by walk_at "at") (g_type c) (fun _ => Keeps.type) ?_
  repeat walk_at "gi"
  refine B_type (by simp [tyOf]) ?_
  repeat walk_at "gi"
  refine W_glob (by walk_at "at") (g_bytes c) ?_
  refine C_isT ?_
  repeat walk_at "gi"
  refine ⟨fun _ => ?_, fun e => absurd e (by simp [tyOf, isNoneV])⟩
  repeat walk_at "gi"
  exact Ret.ret' (Sub.skip (Sub.refl _)) h

theorem ascii_buffer_spec {c : Cx} {A : Around} {σ : Led} {K : V → Led → Prop} {l : List UInt8} (hA : A.depth < 890) (h : K (.bytes l) σ) :
    WN VR c A (fun vs => call (.ref 77) vs) [.bytes l] σ K := by
  refine W_def (names := ["data"]) (others := ["t"]) [(Str.ofString "data", some (.bytes l)), (Str.ofString "t", none)]
    (c.inK 77 _ rfl) ⟨_, _, _, c.inK 76 _ rfl, rfl, rfl⟩ (fun s vs _ => binds1 (fun _ => BindsTo.of_eq rfl) vs) rfl rfl (by decide +kernel) rfl (by decide) (by omega) rfl rfl rfl ?_
  intro L A' a1 a2 a3
  repeat walk_at "gi"
  refine W_CallG (by walk_at "at") (g_type c) (fun _ => Keeps.type) ?_
  repeat walk_at "gi"
  refine B_type (by simp [tyOf]) ?_
  repeat walk_at "gi"
  refine W_glob (by walk_at "at") (g_str c) ?_
  refine C_isT ?_
  repeat walk_at "gi"
  refine ⟨fun e => absurd e (by simp [tyOf, isNoneV]), fun _ => ?_⟩
  repeat walk_at "gi"
  refine W_glob (by walk_at "at") (g_bytes c) ?_
  refine C_isT ?_
  repeat walk_at "gi"
  refine ⟨fun _ => ?_, fun e => absurd e (by simp [tyOf, isNoneV])⟩
  repeat walk_at "gi"
  exact Ret.ret' (Sub.skip (Sub.refl _)) h

theorem truth_spec {c : Cx} {A : Around} {σ : Led} {K : V → Led → Prop} {b : Bool} (hA : A.depth < 890) (h : K (.bool b) σ) :
    WN VR c A (fun vs => call (.ref 91) vs) [.bool b] σ K := by
  refine W_def (names := ["x"]) (others := ["t"]) [(Str.ofString "x", some (.bool b)), (Str.ofString "t", none)]
    (c.inK 91 _ rfl) ⟨_, _, _, c.inK 90 _ rfl, rfl, rfl⟩ (fun s vs _ => binds1 (fun _ => BindsTo.of_eq rfl) vs) rfl rfl (by decide +kernel) rfl (by decide) (by omega) rfl rfl rfl ?_
  intro L A' a1 a2 a3
  repeat walk_at "gi"
  refine W_CallG (by walk_at "at") (g_type c) (fun _ => Keeps.type) ?_
  repeat walk_at "gi"
  refine B_type (by simp [tyOf]) ?_
  repeat walk_at "gi"
  refine C_isNone (by intro w e; cases e) ?_
  refine T_bool ?_
  refine ⟨fun e => absurd e (by simp [tyOf, isNoneV]), fun _ => ?_⟩
  repeat walk_at "gi"
  refine W_glob (by walk_at "at") (g_bool c) ?_
  refine C_isT ?_
  refine T_bool ?_
  refine ⟨fun _ => ?_, fun e => absurd e (by simp [tyOf, isNoneV])⟩
  repeat walk_at "gi"
  refine ⟨fun e => ?_, fun e => ?_⟩
  · subst e
    repeat walk_at "gi"
    exact Ret.ret' (Sub.skip (Sub.refl _)) h
  · subst e
    repeat walk_at "gi"
    exact Ret.ret' (Sub.skip (Sub.refl _)) h

/-- a <= x <= b -/
theorem WB_between {c : Cx} {A : Around} {σ : Led} {env : Env} {K : Bool → Led → Prop} {x : Str} {a b k : Int} {k1 k2 : Nat} {p1 p2 p3 pos : Pos} {whole : Sem Value} {ρ : List (Str × Option V)} (hx : (x, some (V.int k)) ∈ ρ) (h : K (decide (a ≤ k ∧ k ≤ b)) ((env.locals, .ns env.scope ρ) :: σ))
    (hk : env.scope.kind = .function := by rfl) (hd : (x == ("__debug__" : Str)) = false := by rfl) :
    WB c A (isTrue (.Compare (.Constant (.int a) k1 p1) [.LtE, .LtE] [.Name x p2, .Constant (.int b) k2 p3] pos) env whole) ((env.locals, .ns env.scope ρ) :: σ) K := by
  refine WB_Chain (W_int (W_loc hx (C_le (T_bool ⟨fun e => W_int (C_le (T_bool ?_)), fun e => ?_⟩)) hk hd))
  · have : (decide (k ≤ b)) = decide (a ≤ k ∧ k ≤ b) := by simp at e; simp [e]
    rw [this]; exact h
  · have : false = decide (a ≤ k ∧ k ≤ b) := by simp at e; simp; omega
    rw [this]; exact h
/-- a sign's six bits, 64 for any other -/
noncomputable def b64v (k : Int) : Int := if 65 ≤ k ∧ k ≤ 90 then k - 65 else if 97 ≤ k ∧ k ≤ 122 then k - 71 else if 48 ≤ k ∧ k ≤ 57 then k + 4 else if k = 43 then 62 else if k = 47 then 63 else 64
theorem b64_value_spec {c : Cx} {A : Around} {σ : Led} {K : V → Led → Prop} {k : Int} (hA : A.depth < 890) (h : K (.int (b64v k)) σ) :
    WN VR c A (fun vs => call (.ref 98) vs) [.int k] σ K := by
  refine W_def (names := ["c"]) (others := []) [(Str.ofString "c", some (.int k))]
    (c.inK 98 _ rfl) ⟨_, _, _, c.inK 97 _ rfl, rfl, rfl⟩ (fun s vs _ => binds1 (fun _ => BindsTo.of_eq rfl) vs) rfl rfl (by decide +kernel) rfl (by decide) (by omega) rfl rfl rfl ?_
  intro L A' a1 a2 a3
  repeat walk_at "gi"
  refine WB_between (by walk_at "at") ?_
  refine ⟨fun e => ?_, fun e1 => ?_⟩
  · repeat walk_at "gi"
    refine Ret.ret' (Sub.skip (Sub.refl _)) ?_
    simp at e
    rwa [show b64v k = k - 65 by simp [b64v, e]] at h
  repeat walk_at "gi"
  refine WB_between (by walk_at "at") ?_
  refine ⟨fun e => ?_, fun e2 => ?_⟩
  · repeat walk_at "gi"
    refine Ret.ret' (Sub.skip (Sub.refl _)) ?_
    simp only [decide_eq_true_eq, decide_eq_false_iff_not] at e e1
    rwa [show b64v k = k - 71 by simp only [b64v]; rw [if_neg e1, if_pos e]] at h
  repeat walk_at "gi"
  refine WB_between (by walk_at "at") ?_
  refine ⟨fun e => ?_, fun e3 => ?_⟩
  · repeat walk_at "gi"
    refine Ret.ret' (Sub.skip (Sub.refl _)) ?_
    simp only [decide_eq_true_eq, decide_eq_false_iff_not] at e e1 e2
    rwa [show b64v k = k + 4 by simp only [b64v]; rw [if_neg e1, if_neg e2, if_pos e]] at h
  simp only [decide_eq_false_iff_not] at e1 e2 e3
  repeat walk_at "gi"
  refine ⟨fun e => ?_, fun e4 => ?_⟩
  · repeat walk_at "gi"
    refine Ret.ret' (Sub.skip (Sub.refl _)) ?_
    simp at e
    rwa [show b64v k = 62 by simp only [b64v]; rw [if_neg e1, if_neg e2, if_neg e3, if_pos e]] at h
  repeat walk_at "gi"
  refine ⟨fun e => ?_, fun e5 => ?_⟩
  · repeat walk_at "gi"
    refine Ret.ret' (Sub.skip (Sub.refl _)) ?_
    simp at e e4
    rwa [show b64v k = 63 by simp only [b64v]; rw [if_neg e1, if_neg e2, if_neg e3, if_neg e4, if_pos e]] at h
  repeat walk_at "gi"
  refine Ret.ret' (Sub.skip (Sub.refl _)) ?_
  simp at e4 e5
  rwa [show b64v k = 64 by simp only [b64v]; rw [if_neg e1, if_neg e2, if_neg e3, if_neg e4, if_neg e5]] at h
theorem bitOr_nat (a b : Nat) : Builtin.bitOr (a : Int) (b : Int) = ((a ||| b : Nat) : Int) := by
  rw [bitOr_and, bitAnd_pp (Int.natCast_nonneg a) (Int.natCast_nonneg b)]
  have := nat_or_add_and a b
  simp only [Int.toNat_natCast]
  omega
theorem or_shl {a b : Int} (k : Nat) (ha : 0 ≤ a) (hb : 0 ≤ b) (hb2 : b < 2 ^ k) : Builtin.bitOr (a * 2 ^ k) b = a * 2 ^ k + b := by
  obtain ⟨m, rfl⟩ := Int.eq_ofNat_of_zero_le ha
  obtain ⟨n, rfl⟩ := Int.eq_ofNat_of_zero_le hb
  have hn : n < 2 ^ k := by exact_mod_cast hb2
  have e : ((m : Int) * 2 ^ k) = ((m <<< k : Nat) : Int) := by rw [Nat.shiftLeft_eq]; push_cast; rfl
  rw [e, bitOr_nat, ← Nat.shiftLeft_add_eq_or_of_lt hn]
  push_cast; rfl
noncomputable def b64c (k : Int) : Int := ((b64s.getD k.toNat 0).toNat : Int)
noncomputable def encF (L : Int) : Nat → Nat → List Int → List Int × Nat
  | 0, lb, out => (out, lb)
  | n + 1, lb, out => encF L n (lb - 6) (out ++ [b64c (L / 2 ^ (lb - 6) % 64)])
noncomputable def encW (L : Int) (lb : Nat) (out : List Int) : List Int × Nat := encF L (lb / 6) lb out
theorem encW_go {L : Int} {lb : Nat} {out : List Int} (h : 6 ≤ lb) : encW L lb out = encW L (lb - 6) (out ++ [b64c (L / 2 ^ (lb - 6) % 64)]) := by
  show encF L (lb / 6) lb out = encF L ((lb - 6) / 6) (lb - 6) _
  rw [show lb / 6 = (lb - 6) / 6 + 1 from Nat.div_eq_sub_div (by decide) h]; rfl
theorem encW_end {L : Int} {lb : Nat} {out : List Int} (h : ¬ 6 ≤ lb) : encW L lb out = (out, lb) := by
  show encF L (lb / 6) lb out = _
  rw [show lb / 6 = 0 from Nat.div_eq_of_lt (Nat.lt_of_not_le h)]; rfl
noncomputable def encStep (s : List Int × Int × Nat) (b : Int) : List Int × Int × Nat :=
  let L := (s.2.1 * 256 + b) % 65536
  ((encW L (s.2.2 + 8) s.1).1, L, (encW L (s.2.2 + 8) s.1).2)
noncomputable def encAll (l : List Int) : List Int × Int × Nat := l.foldl encStep ([], 0, 0)
theorem encW_lt (L : Int) : ∀ (n lb : Nat) (out : List Int), lb ≤ n → (encW L lb out).2 < 6
  | 0, lb, out, h => by rw [encW_end (by omega)]; show lb < 6; omega
  | n + 1, lb, out, h => by
    by_cases q : 6 ≤ lb
    · rw [encW_go q]; exact encW_lt L n _ _ (by omega)
    · rw [encW_end q]; show lb < 6; omega
theorem encW_len (L : Int) : ∀ (n lb : Nat) (out : List Int), lb ≤ n → (encW L lb out).1.length ≤ out.length + lb
  | 0, lb, out, h => by rw [encW_end (by omega)]; show out.length ≤ _; omega
  | n + 1, lb, out, h => by
    by_cases q : 6 ≤ lb
    · rw [encW_go q]
      have := encW_len L n (lb - 6) (out ++ [b64c (L / 2 ^ (lb - 6) % 64)]) (by omega)
      simp at this; omega
    · rw [encW_end q]; show out.length ≤ _; omega
theorem b64c_rng (k : Int) : 0 ≤ b64c k ∧ b64c k < 256 := by
  unfold b64c
  have := (b64s.getD k.toNat 0).toNat_lt
  omega
theorem encW_rng (L : Int) : ∀ (n lb : Nat) (out : List Int), lb ≤ n → (∀ x ∈ out, 0 ≤ x ∧ x < 256) → ∀ x ∈ (encW L lb out).1, 0 ≤ x ∧ x < 256
  | 0, lb, out, h, ho => by rw [encW_end (by omega)]; exact ho
  | n + 1, lb, out, h, ho => by
    by_cases q : 6 ≤ lb
    · rw [encW_go q]
      refine encW_rng L n (lb - 6) _ (by omega) fun x hx => ?_
      rcases List.mem_append.mp hx with hx | hx
      · exact ho x hx
      · simp at hx; subst hx; exact b64c_rng _
    · rw [encW_end q]; exact ho
noncomputable def encInv (n : Nat) (s : List Int × Int × Nat) : Prop := (∀ x ∈ s.1, 0 ≤ x ∧ x < 256) ∧ (0 ≤ s.2.1 ∧ s.2.1 < 65536) ∧ s.2.2 < 6 ∧ s.1.length ≤ 14 * n
theorem encStep_inv {n : Nat} {s : List Int × Int × Nat} (b : Int) (h : encInv n s) : encInv (n + 1) (encStep s b) := by
  obtain ⟨h1, h2, h3, h4⟩ := h
  refine ⟨encW_rng _ _ _ _ (Nat.le_refl _) h1, ⟨Int.emod_nonneg _ (by decide), Int.emod_lt_of_pos _ (by decide)⟩, encW_lt _ _ _ _ (Nat.le_refl _), ?_⟩
  have := encW_len ((s.2.1 * 256 + b) % 65536) _ (s.2.2 + 8) s.1 (Nat.le_refl _)
  simp only [encStep]
  omega
theorem encFold_inv : ∀ (l : List Int) (n : Nat) (s : List Int × Int × Nat), encInv n s → encInv (n + l.length) (l.foldl encStep s)
  | [], n, s, h => h
  | b :: l, n, s, h => by
    have := encFold_inv l (n + 1) _ (encStep_inv b h)
    simp only [List.foldl_cons, List.length_cons]
    rwa [show n + (l.length + 1) = n + 1 + l.length by omega]
theorem encAll_inv (l : List Int) : encInv l.length (encAll l) := by
  have := encFold_inv l 0 ([], 0, 0) ⟨by simp, by simp, by simp, by simp⟩
  rw [Nat.zero_add] at this; exact this
theorem encAll_take {l : List Int} {i : Nat} {b : Int} (h : l[i]? = some b) : encAll (l.take (i + 1)) = encStep (encAll (l.take i)) b := by
  unfold encAll
  rw [List.take_add_one, h]
  simp

theorem binds2' {z : Addr → Prop} {s : Shared} {fd : FuncData} {x1 x2 n : Str} {X1 X2 : V} (h : ∀ v1 v2, BindsTo s fd ⟨[v1], [(n, v2)]⟩ [(x1, v1), (x2, v2)]) (vs : List Value) (hv : LR z s.heap vs [X1, X2]) : ∃ us, LR z s.heap us [X1, X2] ∧ BindsTo s fd ⟨vs.take 1, [(n, vs.getD 1 .none)]⟩ ([x1, x2].zip us) := by
  refine ⟨vs, hv, ?_⟩
  cases hv with | cons _ hv => cases hv with | cons _ hv => cases hv; exact h _ _
inductive BwJ (o : Addr) (l : List UInt8) (lb : Nat) (out : List Int) (Lc : Int) (b : UInt8) (p : Addr × AObj) (σ : Led) (n : Nat) (ρ' : List (Str × Option V)) (τ' : Led) : Prop
  | mk (k : Nat) (ys : List Int) (_ : n = k) (_ : k ≤ lb + 8) (_ : ys.length + k ≤ out.length + lb + 8) (_ : encW Lc k ys = encW Lc (lb + 8) out) (_ : ρ' = [(Str.ofString "data", some (.bytes l)), (Str.ofString "newline", some (.bool false)), (Str.ofString "bin_data", some (.bytes l)), (Str.ofString "out", some (.ref o)), (Str.ofString "leftbits", some (.int (k : Nat))), (Str.ofString "leftchar", some (.int Lc)), (Str.ofString "b", some (.int (b.toNat : Int)))]) (_ : τ' = p :: (o, .list (ys.map V.int)) :: σ)
inductive BfJ (o : Addr) (l : List UInt8) (σ : Led) (i : Nat) (ρ : List (Str × Option V)) (τ : Led) : Prop
  | mk (ob : Option V) (_ : ρ = [(Str.ofString "data", some (.bytes l)), (Str.ofString "newline", some (.bool false)), (Str.ofString "bin_data", some (.bytes l)), (Str.ofString "out", some (.ref o)), (Str.ofString "leftbits", some (.int (encAll ((l.map fun b => (b.toNat : Int)).take i)).2.2)), (Str.ofString "leftchar", some (.int (encAll ((l.map fun b => (b.toNat : Int)).take i)).2.1)), (Str.ofString "b", ob)]) (_ : τ = (o, .list ((encAll ((l.map fun b => (b.toNat : Int)).take i)).1.map V.int)) :: σ)
theorem b2a_spec {c : Cx} {A : Around} {σ : Led} {K : V → Led → Prop} {l : List UInt8} (hh : A.handled = none) (hA : A.depth < 880) (hl : l.length < 1000)
    (h0 : (encAll (l.map fun b => (b.toNat : Int))).2.2 = 0) (h : K (.bytes (byteL (encAll (l.map fun b => (b.toNat : Int))).1)) σ) :
    WN VR c A (fun vs => call (.ref 114) (vs.take 1) [(Str.ofString "newline", vs.getD 1 .none)]) [.bytes l, .bool false] σ K := by
  refine W_defA (names := ["data", "newline"]) (others := ["bin_data", "out", "leftbits", "leftchar", "b"]) (Ys := [.bytes l, .bool false]) (fun vs => ⟨vs.take 1, [(Str.ofString "newline", vs.getD 1 .none)]⟩) [(Str.ofString "data", some (.bytes l)), (Str.ofString "newline", some (.bool false)), (Str.ofString "bin_data", none), (Str.ofString "out", none), (Str.ofString "leftbits", none), (Str.ofString "leftchar", none), (Str.ofString "b", none)]
    (c.inK 114 _ rfl) ⟨_, _, _, c.inK 113 _ rfl, rfl, rfl⟩ (fun s vs _ => binds2' (fun _ _ => BindsTo.of_eq rfl) vs) rfl rfl (by decide +kernel) rfl (by decide) (by omega) rfl rfl rfl ?_
  intro L A' a1 a2 a3
  repeat walk_at "gi"
  refine W_CallG (by walk_at "at") (g_buffer c) (k_fn c rfl rfl) ?_
  repeat walk_at "gi"
  refine buffer_spec (by omega) ?_
  repeat walk_at "gi"
  refine W_CallG (by walk_at "at") (g_truth c) (k_fn c rfl rfl) ?_
  repeat walk_at "gi"
  refine truth_spec (by omega) ?_
  repeat walk_at "gi"
  refine W_List ?_
  repeat walk_at "gi"
  refine ⟨by simp, _, _, rfl, fun o => ?_⟩
  repeat walk_at "gi"
  refine WF_For (items := l.map fun b => V.int (b.toNat : Int)) (need := fun _ => True) (BfJ o l σ) (fun _ _ _ => trivial) ?_ (fun _ _ _ _ => trivial) ?_ ?_
  · repeat walk_at "gi"
    exact ⟨(It_bytes (by rw [a3]; exact hh)).at trivial, _, _, rfl, none, rfl, rfl⟩
  · rintro JF mF i X ρ τ p hi ⟨ob, rfl, rfl⟩
    have hi' : ∃ b, l[i]? = some b ∧ X = .int (b.toNat : Int) := by
      rw [List.getElem?_map] at hi
      cases hb : l[i]? with
      | none => rw [hb] at hi; cases hi
      | some b => rw [hb] at hi; cases hi; exact ⟨b, rfl, rfl⟩
    obtain ⟨b, hb, rfl⟩ := hi'
    have hb' : (l.map fun b => (b.toNat : Int))[i]? = some (b.toNat : Int) := by simp [hb]
    have hbr := b.toNat_lt
    have e := encAll_take hb'
    have inv := encAll_inv ((l.map fun b => (b.toNat : Int)).take i)
    generalize encAll ((l.map fun b => (b.toNat : Int)).take i) = st at e inv ⊢
    obtain ⟨out, lc, lb⟩ := st
    obtain ⟨i1, ⟨i2, i2'⟩, i3, i4⟩ := inv
    simp only [List.length_take, List.length_map] at i1 i2 i2' i3 i4
    dsimp only
    repeat walk_at "gi"
    refine O_shl (by decide) (by decide) (by omega) ?_
    repeat walk_at "gi"
    rw [show Builtin.bitAnd (Builtin.bitOr (lc * 2 ^ (8 : Int).toNat) (b.toNat : Int)) 65535 = (lc * 256 + b.toNat) % 65536 by
      rw [or_shl (8 : Int).toNat i2 (by omega) (by show _ < (2 : Int) ^ 8; omega), bitAnd_m16]; rfl]
    repeat walk_at "gi"
    rw [show ((lb : Int) + 8) = ((lb + 8 : Nat) : Int) by omega]
    have hL : 0 ≤ (lc * 256 + (b.toNat : Int)) % 65536 ∧ (lc * 256 + (b.toNat : Int)) % 65536 < 65536 := ⟨Int.emod_nonneg _ (by decide), Int.emod_lt_of_pos _ (by decide)⟩
    simp only [encStep] at e
    generalize (lc * 256 + (b.toNat : Int)) % 65536 = Lc at hL e ⊢
    refine WF_WhileF (BwJ o l lb out Lc b p σ) (lb + 8) ⟨lb + 8, out, rfl, Nat.le_refl _, by omega, rfl, rfl, rfl⟩ ?_
    rintro JW mW n ρ' τ' ⟨k, ys, rfl, hk, hys, he, rfl, rfl⟩
    repeat walk_at "gi"
    refine ⟨fun hz => ?_, fun hz => ?_⟩
    · have h6 : 6 ≤ n := by simp at hz; omega
      repeat walk_at "gi"
      refine W_Meth "list.append" ?_
      repeat walk_at "gi"
      refine ⟨Meth.list (by walk_at "at") F.slot_list_append F.type_list_append, ?_⟩
      repeat walk_at "gi"
      refine W_globB (by walk_at "at") (g_B64 c) ?_
      repeat walk_at "gi"
      refine O_shr (by omega) ?_
      repeat walk_at "gi"
      rw [show Builtin.bitAnd (Lc.fdiv (2 ^ ((n : Int) - 6).toNat)) 63 = Lc / 2 ^ (n - 6) % 64 by
        rw [bitAnd_m6, Int.fdiv_eq_ediv_of_nonneg _ (Int.le_of_lt (Int.pow_pos (by decide))), show ((n : Int) - 6).toNat = n - 6 by omega]]
      have hq : 0 ≤ Lc / 2 ^ (n - 6) % 64 ∧ Lc / 2 ^ (n - 6) % 64 < 64 := ⟨Int.emod_nonneg _ (by decide), Int.emod_lt_of_pos _ (by decide)⟩
      refine O_bitem (by decide) hq.1 (b := b64s.getD (Lc / 2 ^ (n - 6) % 64).toNat 0) ?_ ?_
      · rw [List.getD_eq_getElem?_getD, List.getElem?_eq_getElem (by show _ < 64; omega)]; rfl
      repeat walk_at "gi"
      refine' B_append ?hp ?h0 ?_
      case hp => walk_at "at"
      case h0 => simp; omega
      refine ⟨rfl, ?_⟩
      repeat walk_at "gi"
      refine Turn.nextF (n - 6) (by omega) (mW _ _ _ ⟨n - 6, ys ++ [b64c (Lc / 2 ^ (n - 6) % 64)], rfl, by omega, by simp; omega, ?_, ?_, ?_⟩)
      · rw [← he, encW_go h6]
      · rw [show ((n : Int) - 6) = ((n - 6 : Nat) : Int) by omega]
      · simp [b64c]
    · have h6 : ¬ 6 ≤ n := by simp at hz; omega
      rw [encW_end h6] at he
      repeat walk_at "gi"
      refine TurnI.next' (Sub.refl _) (mF _ _ _ ⟨some (.int (b.toNat : Int)), ?_, ?_⟩)
      · rw [e, ← he]
      · rw [e, ← he]
  · rintro ρ τ ⟨ob, rfl, rfl⟩
    rw [show ((l.map fun b => (b.toNat : Int)).take (l.map fun b => V.int (b.toNat : Int)).length) = l.map fun b => (b.toNat : Int) by rw [List.length_map, ← List.length_map (f := fun b : UInt8 => (b.toNat : Int)) (as := l), List.take_length]]
    have inv := encAll_inv (l.map fun b => (b.toNat : Int))
    rw [h0]
    generalize (encAll (l.map fun b => (b.toNat : Int))) = st at inv h ⊢
    obtain ⟨i1, i2, i3, i4⟩ := inv
    repeat walk_at "gi"
    refine ⟨fun hz => absurd hz (by decide), fun _ => ?_⟩
    repeat walk_at "gi"
    refine ⟨fun hz => absurd hz (by decide), fun _ => ?_⟩
    repeat walk_at "gi"
    refine W_CallG (by walk_at "at") (g_bytes c) (fun _ => Keeps.type) ?_
    repeat walk_at "gi"
    refine B_bytes (by rw [a3]; exact hh) (by walk_at "at") i1 (by simp at i4; omega) ?_
    exact Ret.ret' (Sub.skip (Sub.skip (Sub.refl _))) h
noncomputable def encB (l alt : List UInt8) : List UInt8 := BT.trans (BT.mtab [43, 47] alt) (byteL (encAll (l.map fun b => (b.toNat : Int))).1)
theorem b64encode_spec {c : Cx} {A : Around} {σ : Led} {K : V → Led → Prop} {l alt : List UInt8} (hh : A.handled = none) (hA : A.depth < 870) (hl : l.length < 1000) (ha : alt.length = 2)
    (h0 : (encAll (l.map fun b => (b.toNat : Int))).2.2 = 0) (h : K (.bytes (encB l alt)) σ) :
    WN VR c A (fun vs => call (.ref 122) vs) [.bytes l, .bytes alt] σ K := by
  refine W_def (names := ["s", "altchars"]) (others := ["encoded"]) [(Str.ofString "s", some (.bytes l)), (Str.ofString "altchars", some (.bytes alt)), (Str.ofString "encoded", none)]
    (c.inK 122 _ rfl) ⟨_, _, _, c.inK 121 _ rfl, rfl, rfl⟩ (fun s vs R => binds2 (fun _ _ => BindsTo.of_defaults rfl (R.keep _ _ (c.inK 115 _ rfl)) rfl rfl rfl) vs) rfl rfl (by decide +kernel) rfl (by decide) (by omega) rfl rfl rfl ?_
  intro L A' a1 a2 a3
  repeat walk_at "gi"
  refine W_CallGK (by walk_at "at") (g_b2a_base64 c) (k_fn c rfl rfl) ?_
  repeat walk_at "gi"
  refine b2a_spec (by rw [a3]; exact hh) (by omega) hl h0 ?_
  repeat walk_at "gi"
  refine C_isNotNone (by intro w e; cases e) ?_
  repeat walk_at "gi"
  refine ⟨fun _ => ?_, fun e => absurd e (by simp [isNoneV])⟩
  repeat walk_at "gi"
  refine WF_Assert ?_
  repeat walk_at "gi"
  refine W_CallG (by walk_at "at") (g_len c) (fun _ => Keeps.builtin) ?_
  repeat walk_at "gi"
  refine B_blen (by omega) ?_
  repeat walk_at "gi"
  refine ⟨by rw [ha]; rfl, ?_⟩
  repeat walk_at "gi"
  refine W_Meth "bytes.translate" ?_
  repeat walk_at "gi"
  refine ⟨Meth.bytes BT.slot_tr BT.type_tr, ?_⟩
  repeat walk_at "gi"
  refine W_maketrans (by walk_at "at") ?_
  repeat walk_at "gi"
  refine B_maketrans (by rw [ha]; rfl) ?_
  repeat walk_at "gi"
  have inv := (encAll_inv (l.map fun b => (b.toNat : Int))).2.2.2
  refine B_translate (by rw [Array.length_toList, BT.mtab_size]) (by simp [byteL] at inv ⊢; omega) ?_
  repeat walk_at "gi"
  exact Ret.ret' (Sub.skip (Sub.refl _)) (by simpa [encB] using h)
theorem bfdd_spec {c : Cx} {A : Around} {σ : Led} {K : V → Led → Prop} {l : List UInt8} (hA : A.depth < 890) (h : K (.bytes l) σ) :
    WN VR c A (fun vs => call (.ref 57) vs) [.bytes l] σ K := by
  refine W_def (names := ["s"]) (others := []) [(Str.ofString "s", some (.bytes l))]
    (c.inK 57 _ rfl) ⟨_, _, _, c.inK 56 _ rfl, rfl, rfl⟩ (fun s vs _ => binds1 (fun _ => BindsTo.of_eq rfl) vs) rfl rfl (by decide +kernel) rfl (by decide) (by omega) rfl rfl rfl ?_
  intro L A' a1 a2 a3
  repeat walk_at "gi"
  refine WB_val ?_
  refine W_CallG (by walk_at "at") (g_isinstance c) (fun _ => Keeps.builtin) ?_
  repeat walk_at "gi"
  refine W_glob (by walk_at "at") (g_str c) ?_
  repeat walk_at "gi"
  refine B_isiB (b := false) (by decide +kernel) ?_
  repeat walk_at "gi"
  refine WB_val ?_
  refine W_CallG (by walk_at "at") (g_isinstance c) (fun _ => Keeps.builtin) ?_
  repeat walk_at "gi"
  refine W_glob (by walk_at "at") (g_bytes_types c) ?_
  repeat walk_at "gi"
  refine B_isiBT (b := true) (c.inK 50 _ rfl) (by decide +kernel) ?_
  repeat walk_at "gi"
  exact Ret.ret' (Sub.skip (Sub.refl _)) h

/-- four signs, read: (out, place in the four, what is left) -/
noncomputable def decStep (s : List Int × Nat × Int) (k : Int) : List Int × Nat × Int :=
  if s.2.1 = 0 then (s.1, 1, b64v k)
  else if s.2.1 = 1 then (s.1 ++ [s.2.2 * 4 + b64v k / 16], 2, b64v k % 16)
  else if s.2.1 = 2 then (s.1 ++ [s.2.2 * 16 + b64v k / 4], 3, b64v k % 4)
  else (s.1 ++ [s.2.2 * 64 + b64v k], 0, 0)
noncomputable def decAll (l : List Int) : List Int × Nat × Int := l.foldl decStep ([], 0, 0)
noncomputable def decInv (n : Nat) (s : List Int × Nat × Int) : Prop := (∀ x ∈ s.1, 0 ≤ x ∧ x < 256) ∧ s.2.1 < 4 ∧ (0 ≤ s.2.2 ∧ s.2.2 < 64 ∧ (s.2.1 = 2 → s.2.2 < 16) ∧ (s.2.1 = 3 → s.2.2 < 4)) ∧ s.1.length ≤ n
theorem b64v_nonneg (k : Int) : 0 ≤ b64v k := by unfold b64v; repeat' split
                                                 all_goals omega
theorem decStep_inv {n : Nat} {s : List Int × Nat × Int} {k : Int} (hk : b64v k < 64) (h : decInv n s) : decInv (n + 1) (decStep s k) := by
  obtain ⟨out, q, lc⟩ := s
  obtain ⟨h1, h2, ⟨h3, h3', h4, h5⟩, h6⟩ := h
  have h0 := b64v_nonneg k
  dsimp only at *
  unfold decStep
  dsimp only
  split
  · exact ⟨h1, (by decide : 1 < 4), ⟨h0, hk, nofun, nofun⟩, Nat.le_succ_of_le h6⟩
  split
  · refine ⟨fun x hx => ?_, (by decide : 2 < 4), ⟨Int.emod_nonneg _ (by decide), Int.lt_trans (Int.emod_lt_of_pos _ (by decide)) (by decide), fun _ => Int.emod_lt_of_pos _ (by decide), nofun⟩, by show (_ ++ [_]).length ≤ _; rw [List.length_append]; exact Nat.succ_le_succ h6⟩
    rcases List.mem_append.mp hx with hx | hx
    · exact h1 x hx
    · simp at hx; subst hx; omega
  split
  · refine ⟨fun x hx => ?_, (by decide : 3 < 4), ⟨Int.emod_nonneg _ (by decide), Int.lt_trans (Int.emod_lt_of_pos _ (by decide)) (by decide), nofun, fun _ => Int.emod_lt_of_pos _ (by decide)⟩, by show (_ ++ [_]).length ≤ _; rw [List.length_append]; exact Nat.succ_le_succ h6⟩
    rcases List.mem_append.mp hx with hx | hx
    · exact h1 x hx
    · simp at hx; subst hx; have := h4 (by assumption); omega
  · refine ⟨fun x hx => ?_, (by decide : 0 < 4), ⟨Int.le_refl 0, (by decide : (0 : Int) < 64), nofun, nofun⟩, by show (_ ++ [_]).length ≤ _; rw [List.length_append]; exact Nat.succ_le_succ h6⟩
    rcases List.mem_append.mp hx with hx | hx
    · exact h1 x hx
    · simp at hx; subst hx; have := h5 (by omega); omega
theorem decFold_inv : ∀ (l : List Int) (n : Nat) (s : List Int × Nat × Int), (∀ k ∈ l, b64v k < 64) → decInv n s → decInv (n + l.length) (l.foldl decStep s)
  | [], n, s, _, h => h
  | b :: l, n, s, hl, h => by
    have := decFold_inv l (n + 1) _ (fun k hk => hl k (.tail _ hk)) (decStep_inv (hl b (.head _)) h)
    simp only [List.foldl_cons, List.length_cons]
    rwa [show n + (l.length + 1) = n + 1 + l.length by omega]
theorem decAll_inv {l : List Int} (hl : ∀ k ∈ l, b64v k < 64) : decInv l.length (decAll l) := by
  have := decFold_inv l 0 ([], 0, 0) hl ⟨by simp, by simp, by simp, by simp⟩
  rw [Nat.zero_add] at this; exact this
theorem decAll_take {l : List Int} {i : Nat} {b : Int} (h : l[i]? = some b) : decAll (l.take (i + 1)) = decStep (decAll (l.take i)) b := by
  unfold decAll
  rw [List.take_add_one, h]
  simp
inductive AfJ (o : Addr) (l : List UInt8) (σ : Led) (i : Nat) (ρ : List (Str × Option V)) (τ : Led) : Prop
  | mk (ob : Option V) (oi : Int) (_ : ρ = [(Str.ofString "data", some (.bytes l)), (Str.ofString "strict_mode", some (.bool false)), (Str.ofString "ascii_data", some (.bytes l)), (Str.ofString "out", some (.ref o)), (Str.ofString "quad_pos", some (.int (decAll ((l.map fun b => (b.toNat : Int)).take i)).2.1)), (Str.ofString "leftchar", some (.int (decAll ((l.map fun b => (b.toNat : Int)).take i)).2.2)), (Str.ofString "pads", some (.int 0)), (Str.ofString "i", some (.int oi)), (Str.ofString "this_ch", ob)]) (_ : τ = (o, .list ((decAll ((l.map fun b => (b.toNat : Int)).take i)).1.map V.int)) :: σ)
theorem a2b_spec {c : Cx} {A : Around} {σ : Led} {K : V → Led → Prop} {l : List UInt8} (hh : A.handled = none) (hA : A.depth < 880) (hl : l.length < 1000)
    (hv : ∀ b ∈ l, b64v (b.toNat : Int) < 64) (h0 : (decAll (l.map fun b => (b.toNat : Int))).2.1 = 0) (h : K (.bytes (byteL (decAll (l.map fun b => (b.toNat : Int))).1)) σ) :
    WN VR c A (fun vs => call (.ref 106) (vs.take 1) [(Str.ofString "strict_mode", vs.getD 1 .none)]) [.bytes l, .bool false] σ K := by
  refine W_defA (names := ["data", "strict_mode"]) (others := ["ascii_data", "out", "quad_pos", "leftchar", "pads", "i", "this_ch"]) (Ys := [.bytes l, .bool false]) (fun vs => ⟨vs.take 1, [(Str.ofString "strict_mode", vs.getD 1 .none)]⟩) [(Str.ofString "data", some (.bytes l)), (Str.ofString "strict_mode", some (.bool false)), (Str.ofString "ascii_data", none), (Str.ofString "out", none), (Str.ofString "quad_pos", none), (Str.ofString "leftchar", none), (Str.ofString "pads", none), (Str.ofString "i", none), (Str.ofString "this_ch", none)]
    (c.inK 106 _ rfl) ⟨_, _, _, c.inK 105 _ rfl, rfl, rfl⟩ (fun s vs _ => binds2' (fun _ _ => BindsTo.of_eq rfl) vs) rfl rfl (by decide +kernel) rfl (by decide) (by omega) rfl rfl rfl ?_
  intro L A' a1 a2 a3
  repeat walk_at "gi"
  refine W_CallG (by walk_at "at") (g_ascii_buffer c) (k_fn c rfl rfl) ?_
  repeat walk_at "gi"
  refine ascii_buffer_spec (by omega) ?_
  repeat walk_at "gi"
  refine W_CallG (by walk_at "at") (g_truth c) (k_fn c rfl rfl) ?_
  repeat walk_at "gi"
  refine truth_spec (by omega) ?_
  repeat walk_at "gi"
  refine W_List ?_
  repeat walk_at "gi"
  refine ⟨by simp, _, _, rfl, fun o => ?_⟩
  repeat walk_at "gi"
  refine WF_For (items := l.map fun b => V.int (b.toNat : Int)) (need := fun _ => True) (AfJ o l σ) (fun _ _ _ => trivial) ?_ (fun _ _ _ _ => trivial) ?_ ?_
  · repeat walk_at "gi"
    exact ⟨(It_bytes (by rw [a3]; exact hh)).at trivial, _, _, rfl, none, 0, rfl, rfl⟩
  · rintro JF mF i X ρ τ p hi ⟨ob, oi, rfl, rfl⟩
    have hi' : ∃ b, l[i]? = some b ∧ X = .int (b.toNat : Int) := by
      rw [List.getElem?_map] at hi
      cases hb : l[i]? with
      | none => rw [hb] at hi; cases hi
      | some b => rw [hb] at hi; cases hi; exact ⟨b, rfl, rfl⟩
    obtain ⟨b, hb, rfl⟩ := hi'
    have hb' : (l.map fun b => (b.toNat : Int))[i]? = some (b.toNat : Int) := by simp [hb]
    have hbv := hv b (List.mem_of_getElem? hb)
    have hb0 := b64v_nonneg (b.toNat : Int)
    have e := decAll_take hb'
    have inv := decAll_inv (l := (l.map fun b => (b.toNat : Int)).take i) (fun k hk => by
      obtain ⟨b, h1, rfl⟩ := List.mem_map.mp (List.mem_of_mem_take hk)
      exact hv b h1)
    generalize decAll ((l.map fun b => (b.toNat : Int)).take i) = st at e inv ⊢
    obtain ⟨out, q, lc⟩ := st
    obtain ⟨i1, i2, ⟨i3, i3', i4, i5⟩, i6⟩ := inv
    simp only [List.length_take, List.length_map] at i1 i2 i3 i3' i4 i5 i6
    have hne : ((b.toNat : Int) == 61) = false := by
      simp only [beq_eq_false_iff_ne]; intro q; rw [q] at hbv; revert hbv; decide
    dsimp only
    repeat walk_at "gi"
    rw [hne]
    repeat walk_at "gi"
    refine W_CallG (by walk_at "at") (g_b64_value c) (k_fn c rfl rfl) ?_
    repeat walk_at "gi"
    refine b64_value_spec (by omega) ?_
    repeat walk_at "gi"
    refine ⟨fun hz => absurd hz (by simp; omega), fun _ => ?_⟩
    repeat walk_at "gi"
    refine T_int ?_
    repeat walk_at "gi"
    refine ⟨fun hz => absurd hz (by decide), fun _ => ?_⟩
    repeat walk_at "go"
    refine WF_join (fun ρ σ' => ρ = [(Str.ofString "data", some (.bytes l)), (Str.ofString "strict_mode", some (.bool false)), (Str.ofString "ascii_data", some (.bytes l)), (Str.ofString "out", some (.ref o)), (Str.ofString "quad_pos", some (.int (decStep (out, q, lc) (b.toNat : Int)).2.1)), (Str.ofString "leftchar", some (.int (decStep (out, q, lc) (b.toNat : Int)).2.2)), (Str.ofString "pads", some (.int 0)), (Str.ofString "i", some (.int oi)), (Str.ofString "this_ch", some (.int (b64v (b.toNat : Int))))] ∧
      σ' = p :: (o, .list ((decStep (out, q, lc) (b.toNat : Int)).1.map V.int)) :: σ) (fun JM mM => ?_) ?_
    · repeat walk_at "gi"
      refine ⟨fun hz => ?_, fun hz => ?_⟩
      · have hq : q = 0 := by simp at hz; omega
        subst hq
        repeat walk_at "gi"
        exact Meet.here (mM _ _ ⟨by simp [decStep], by simp [decStep]⟩)
      have hq0 : q ≠ 0 := by simp at hz; omega
      repeat walk_at "gi"
      refine ⟨fun hz => ?_, fun hz => ?_⟩
      · have hq : q = 1 := by simp at hz; omega
        subst hq
        repeat walk_at "gi"
        refine W_Meth "list.append" ?_
        repeat walk_at "gi"
        refine ⟨Meth.list (by walk_at "at") F.slot_list_append F.type_list_append, ?_⟩
        repeat walk_at "gi"
        refine O_shl (by decide) (by decide) (by omega) ?_
        repeat walk_at "gi"
        rw [show Builtin.bitOr (lc * 2 ^ (2 : Int).toNat) ((b64v (b.toNat : Int)).fdiv (2 ^ (4 : Int).toNat)) = lc * 4 + b64v (b.toNat : Int) / 16 by
          rw [Int.fdiv_eq_ediv_of_nonneg _ (by decide)]
          show Builtin.bitOr (lc * 2 ^ 2) (b64v (b.toNat : Int) / 16) = _
          rw [or_shl 2 i3 (by omega) (by omega)]; rfl]
        refine' B_append ?hp ?h0 ?_
        case hp => walk_at "at"
        case h0 => simp; omega
        refine ⟨rfl, ?_⟩
        repeat walk_at "gi"
        rw [bitAnd_m4]
        exact Meet.here (mM _ _ ⟨by simp [decStep], by simp [decStep]⟩)
      have hq1 : q ≠ 1 := by simp at hz; omega
      repeat walk_at "gi"
      refine ⟨fun hz => ?_, fun hz => ?_⟩
      · have hq : q = 2 := by simp at hz; omega
        subst hq
        repeat walk_at "gi"
        refine W_Meth "list.append" ?_
        repeat walk_at "gi"
        refine ⟨Meth.list (by walk_at "at") F.slot_list_append F.type_list_append, ?_⟩
        repeat walk_at "gi"
        refine O_shl (by decide) (by decide) (by omega) ?_
        repeat walk_at "gi"
        rw [show Builtin.bitOr (lc * 2 ^ (4 : Int).toNat) ((b64v (b.toNat : Int)).fdiv (2 ^ (2 : Int).toNat)) = lc * 16 + b64v (b.toNat : Int) / 4 by
          rw [Int.fdiv_eq_ediv_of_nonneg _ (by decide)]
          show Builtin.bitOr (lc * 2 ^ 4) (b64v (b.toNat : Int) / 4) = _
          rw [or_shl 4 i3 (by omega) (by omega)]; rfl]
        refine' B_append ?hp ?h0 ?_
        case hp => walk_at "at"
        case h0 => simp; omega
        refine ⟨rfl, ?_⟩
        repeat walk_at "gi"
        rw [bitAnd_m2]
        exact Meet.here (mM _ _ ⟨by simp [decStep], by simp [decStep]⟩)
      · have hq2 : q ≠ 2 := by simp at hz; omega
        repeat walk_at "gi"
        refine W_Meth "list.append" ?_
        repeat walk_at "gi"
        refine ⟨Meth.list (by walk_at "at") F.slot_list_append F.type_list_append, ?_⟩
        repeat walk_at "gi"
        refine O_shl (by decide) (by decide) (by omega) ?_
        repeat walk_at "gi"
        rw [show Builtin.bitOr (lc * 2 ^ (6 : Int).toNat) (b64v (b.toNat : Int)) = lc * 64 + b64v (b.toNat : Int) by
          show Builtin.bitOr (lc * 2 ^ 6) _ = _
          rw [or_shl 6 i3 (by omega) (by omega)]; rfl]
        refine' B_append ?hp ?h0 ?_
        case hp => walk_at "at"
        case h0 => simp; omega
        refine ⟨rfl, ?_⟩
        repeat walk_at "gi"
        exact Meet.here (mM _ _ ⟨by simp [decStep, hq0, hq1, hq2], by simp [decStep, hq0, hq1, hq2]⟩)
    · rintro ρ σ' ⟨rfl, rfl⟩
      repeat walk_at "gi"
      exact TurnI.next' (Sub.refl _) (mF _ _ _ ⟨_, _, by rw [e], by rw [e]⟩)
  · rintro ρ τ ⟨ob, oi, rfl, rfl⟩
    rw [show ((l.map fun b => (b.toNat : Int)).take (l.map fun b => V.int (b.toNat : Int)).length) = l.map fun b => (b.toNat : Int) by rw [List.length_map, ← List.length_map (f := fun b : UInt8 => (b.toNat : Int)) (as := l), List.take_length]]
    have inv := decAll_inv (l := l.map fun b => (b.toNat : Int)) (fun k hk => by
      obtain ⟨b, h1, rfl⟩ := List.mem_map.mp hk
      exact hv b h1)
    rw [h0]
    generalize (decAll (l.map fun b => (b.toNat : Int))) = st at inv h ⊢
    obtain ⟨i1, i2, i3, i4⟩ := inv
    repeat walk_at "gi"
    refine ⟨fun hz => absurd hz (by decide), fun _ => ?_⟩
    repeat walk_at "gi"
    refine ⟨fun hz => absurd hz (by decide), fun _ => ?_⟩
    repeat walk_at "gi"
    refine W_CallG (by walk_at "at") (g_bytes c) (fun _ => Keeps.type) ?_
    repeat walk_at "gi"
    refine B_bytes (by rw [a3]; exact hh) (by walk_at "at") i1 (by simp at i4; omega) ?_
    exact Ret.ret' (Sub.skip (Sub.skip (Sub.refl _))) h
noncomputable def decT (l alt : List UInt8) : List UInt8 := BT.trans (BT.mtab alt [43, 47]) l
noncomputable def decI (l alt : List UInt8) : List Int := (decT l alt).map fun b => (b.toNat : Int)
noncomputable def decB (l alt : List UInt8) : List UInt8 := byteL (decAll (decI l alt)).1
theorem bindsD {z : Addr → Prop} {s : Shared} {fd : FuncData} {x1 x2 x3 : Str} {X1 X2 : V} (h : ∀ v1 v2, BindsTo s fd ⟨[v1, v2], []⟩ [(x1, v1), (x2, v2), (x3, .bool false)]) (vs : List Value) (hv : LR z s.heap vs [X1, X2]) : ∃ us, LR z s.heap us [X1, X2, .bool false] ∧ BindsTo s fd ⟨vs, []⟩ ([x1, x2, x3].zip us) := by
  cases hv with | cons a1 hv => cases hv with | cons a2 hv => cases hv; exact ⟨[_, _, .bool false], .cons a1 (.cons a2 (.cons rfl .nil)), h _ _⟩
theorem b64decode_spec {c : Cx} {A : Around} {σ : Led} {K : V → Led → Prop} {l alt : List UInt8} (hh : A.handled = none) (hA : A.depth < 870) (hl : l.length < 1000) (ha : alt.length = 2)
    (hv : ∀ b ∈ decT l alt, b64v (b.toNat : Int) < 64) (h0 : (decAll (decI l alt)).2.1 = 0) (h : K (.bytes (decB l alt)) σ) :
    WN VR c A (fun vs => call (.ref 130) vs) [.bytes l, .bytes alt] σ K := by
  refine W_defA (names := ["s", "altchars", "validate"]) (others := []) (Ys := [.bytes l, .bytes alt, .bool false]) (fun vs => ⟨vs, []⟩) [(Str.ofString "s", some (.bytes l)), (Str.ofString "altchars", some (.bytes alt)), (Str.ofString "validate", some (.bool false))]
    (c.inK 130 _ rfl) ⟨_, _, _, c.inK 129 _ rfl, rfl, rfl⟩ (fun s vs R => bindsD (fun _ _ => BindsTo.of_defaults rfl (R.keep _ _ (c.inK 123 _ rfl)) rfl rfl rfl) vs) rfl rfl (by decide +kernel) rfl (by decide) (by omega) rfl rfl rfl ?_
  intro L A' a1 a2 a3
  repeat walk_at "gi"
  refine W_CallG (by walk_at "at") (g_bytes_from_decode_data c) (k_fn c rfl rfl) ?_
  repeat walk_at "gi"
  refine bfdd_spec (by omega) ?_
  repeat walk_at "gi"
  refine C_isNotNone (by intro w e; cases e) ?_
  repeat walk_at "gi"
  refine ⟨fun _ => ?_, fun e => absurd e (by simp [isNoneV])⟩
  repeat walk_at "gi"
  refine W_CallG (by walk_at "at") (g_bytes_from_decode_data c) (k_fn c rfl rfl) ?_
  repeat walk_at "gi"
  refine bfdd_spec (by omega) ?_
  repeat walk_at "gi"
  refine WF_Assert ?_
  repeat walk_at "gi"
  refine W_CallG (by walk_at "at") (g_len c) (fun _ => Keeps.builtin) ?_
  repeat walk_at "gi"
  refine B_blen (by omega) ?_
  repeat walk_at "gi"
  refine ⟨by rw [ha]; rfl, ?_⟩
  repeat walk_at "gi"
  refine W_Meth "bytes.translate" ?_
  repeat walk_at "gi"
  refine ⟨Meth.bytes BT.slot_tr BT.type_tr, ?_⟩
  repeat walk_at "gi"
  refine W_maketrans (by walk_at "at") ?_
  repeat walk_at "gi"
  refine B_maketrans (by rw [ha]; rfl) ?_
  repeat walk_at "gi"
  refine B_translate (by rw [Array.length_toList, BT.mtab_size]) (by omega) ?_
  repeat walk_at "gi"
  rw [show BT.trans (BT.mtab alt [43, 47]).toList.toArray l = decT l alt by simp [decT]]
  refine W_CallGK (by walk_at "at") (g_a2b_base64 c) (k_fn c rfl rfl) ?_
  repeat walk_at "gi"
  refine a2b_spec (by rw [a3]; exact hh) (by omega) (by simp [decT, BT.trans]; omega) hv h0 ?_
  repeat walk_at "gi"
  exact Ret.ret' (Sub.skip (Sub.refl _)) h
section
noncomputable def minP : List (Int × Int) → Int × Int
  | [] => (0, 0)
  | x :: xs => xs.foldl (fun m y => if plt y m then y else m) x
theorem minP_snoc {l : List (Int × Int)} (x : Int × Int) (h : l ≠ []) : minP (l ++ [x]) = if plt x (minP l) then x else minP l := by
  cases l with
  | nil => exact absurd rfl h
  | cons y l => simp [minP]; rfl
section
variable {c : Cx} {A : Around} {σ : Led} {K : V → Led → Prop}
theorem R_tlt {x y : Int × Int} (hu : A.units < 9900) (h : K (.bool (plt x y)) σ) : W2 VR c A (richCompare .Lt) (ptup x) (ptup y) σ K := fun s Q E v u R ⟨a, vs, n, e1, ⟨_, e2⟩, e3⟩ ⟨b, us, n2, f1, ⟨_, f2⟩, f3⟩ q => by
  subst e1 f1
  obtain ⟨t1, t2, rfl⟩ := two_ints e3
  obtain ⟨u1, u2, rfl⟩ := two_ints f3
  exact richCompare_meets_room (op := .Lt) ⟨_, e2, rfl⟩ ⟨_, f2, rfl⟩ F.slot_tuple_lt F.entry_tuple_lt (F.args_tuple_lt_2 _ _) (tuple_lt2 a b n n2 x.1 x.2 y.1 y.2 t1 t2 u1 u2) ⟨e2, f2, ⟨(fun x => nomatch x), q _ _ _ _ h rfl R (Ext.refl _)⟩⟩ hu
theorem OR.two {z : Addr → Prop} {h : Heap} {a : Addr} {X Y : V} (H : OR z h a (.list [X, Y])) : ∃ v w n, h.get? a = some (seqObj "list" [v, w].toArray n) ∧ VR z h v X ∧ VR z h w Y := by
  obtain ⟨vs, n, e, hv⟩ := H
  cases hv with
  | cons h1 r =>
    cases r with
    | cons h2 r => cases r; exact ⟨_, _, n, e, h1, h2⟩
theorem min_loop {I S : Addr} {cell : Nat → AObj} {xs : List (Int × Int)} {need : Led → Prop} {R : Result → Shared → Prop} (hu : A.units < 9000) (ok : IterOK c A.in1 I cell (xs.map ptup) need) (hneed : ∀ p σ, need σ → need (p :: σ)) (hσ : need σ) :
    ∀ (k j : Nat) (m : Int × Int) (s : Shared), k + (j + 1) = xs.length → minP (xs.take (j + 1)) = m → Rep c ((I, cell (j + 1)) :: (S, .list [ptup m, ptup m]) :: σ) s →
    (∀ v s', VR c.z s'.heap v (ptup (minP xs)) → Rep c σ s' → Ext c.z s.heap s'.heap → R (.ok (.ret v)) s') →
    codeAny (model c.prog c.w) A (.builtin "min.loop" ⟨[.ref I, .none, .ref S], []⟩) R s := by
  have hname : (toString "min" ++ toString ".loop" : String) = "min.loop" := by decide
  intro k
  induction k with
  | zero =>
    intro j m s hk hm R0 hR
    have hlen : j + 1 = xs.length := (Nat.zero_add _).symm.trans hk
    have ht : xs.take (j + 1) = xs := by rw [hlen, List.take_length]
    rw [ht] at hm
    subst hm
    refine codeAny_builtin F.entry_min_loop ?_
    rw [Around.under_plainId F.plain_min_loop _]
    obtain ⟨v1, v2, n, e, hv1, hv2⟩ := OR.two (R0.ob _ (.tail _ (.head _)))
    show wpAny _ A.in1 (seqItems? (.ref S) >>= _) _ _ s
    refine wpAny_bind (wpAny_seqItems e rfl ?_)
    show wpAny _ A.in1 (tryCatch (pyNext (.ref I)) _ >>= _) _ _ s
    rw [hlen, ← List.length_map (as := xs) ptup] at R0
    refine wpAny_bind (wpAny_tryCatch (ok.done1 (hneed _ _ (hneed _ _ hσ)) .head R0 fun s₁ R₁ x₁ => ?_))
    obtain ⟨us, n', e', hu'⟩ := R₁.ob _ (.head _)
    show wpAny _ A.in1 (updateSeq S (fun _ => #[]) >>= _) _ _ _
    refine wpAny_bind ?_
    obtain ⟨R₂, x₂⟩ := R₁.updList (l := S) (ys := []) (us := []) (f := fun _ => #[]) .head e' rfl (fun _ _ => .nil)
    exact wpAny_updateSeq e' rfl (wpAny_bind (wpAny_letGo (wpAny_pure (hR _ _ ((hv1.ext x₁).ext x₂) (R₂.sub (List.sublist_cons_self ..)) (x₁.trans x₂))))) (by have := hu'.length; simp at this; simp [this]; exact len_fit (by decide))
  | succ k ih =>
    intro j m s hk hm R0 hR
    have hk' : k + (j + 1 + 1) = xs.length := by rw [← hk]; exact (Nat.succ_add_eq_add_succ k (j + 1)).symm
    have hlt : j + 1 < xs.length := hk' ▸ Nat.lt_of_lt_of_le (Nat.lt_succ_self _) (Nat.le_add_left _ _)
    have hsn : minP (xs.take (j + 1 + 1)) = if plt xs[j + 1] m then xs[j + 1] else m := by
      rw [List.take_add_one, List.getElem?_eq_getElem hlt, ← hm]
      exact minP_snoc _ (by intro h; have := congrArg List.length h; rw [List.length_take, List.length_nil] at this; omega)
    refine codeAny_builtin F.entry_min_loop ?_
    rw [Around.under_plainId F.plain_min_loop _]
    obtain ⟨v1, v2, n, e, hv1, hv2⟩ := OR.two (R0.ob _ (.tail _ (.head _)))
    show wpAny _ A.in1 (seqItems? (.ref S) >>= _) _ _ s
    refine wpAny_bind (wpAny_seqItems e rfl ?_)
    show wpAny _ A.in1 (tryCatch (pyNext (.ref I)) _ >>= _) _ _ s
    refine wpAny_bind (wpAny_tryCatch (ok.next1 (i := j + 1) (X := ptup xs[j + 1]) (by rw [List.getElem?_map, List.getElem?_eq_getElem hlt]; rfl) (hneed _ _ (hneed _ _ hσ)) .head R0 fun v s₁ hr R₁ x₁ => ?_))
    show wpAny _ A.in1 (tryCatch (holding [v, v] (richCompare .Lt v v2 >>= _)) _ >>= _) _ _ _
    refine wpAny_bind (wpAny_tryCatch (wpAny_holding (wpAny_bind (W2.got (fun K h => R_tlt (Nat.lt_of_le_of_lt hu (by decide)) h) R₁ hr (hv2.ext x₁) fun z s₂ hz R₂ x₂ => ?_))))
    cases hz
    refine wpAny_bind (wpAny_holding (wpAny_truthy_bool ?_))
    refine wpAny_bind (wpAny_letGo (wpAny_pure ?_))
    cases hb : plt xs[j + 1] m with
    | true =>
      rw [hb] at hsn
      obtain ⟨us, n', e', hu'⟩ := R₂.ob _ (.tail _ (.head _))
      refine wpAny_bind ?_
      obtain ⟨R₃, x₃⟩ := R₂.updList (l := S) (ys := [ptup xs[j + 1], ptup xs[j + 1]]) (us := [v, v]) (f := fun _ => #[v, v]) (.tail .head) e' rfl (fun h' hx => .cons ((hr.ext x₂).ext hx) (.cons ((hr.ext x₂).ext hx) .nil))
      refine wpAny_updateSeq e' rfl (wpAny_bind (wpAny_letGo ?_)) (by have := hu'.length; simp at this; simp [this]; exact len_fit (by decide))
      rw [hname]
      exact wpAny_pure ⟨plainId_quiet F.plain_min_loop _, ih (j + 1) _ _ hk' hsn R₃ fun v' s' hv' R' x' => hR v' s' hv' R' (((x₁.trans x₂).trans x₃).trans x')⟩
    | false =>
      rw [hb] at hsn
      refine wpAny_bind (wpAny_letGo ?_)
      rw [hname]
      exact wpAny_pure ⟨plainId_quiet F.plain_min_loop _, ih (j + 1) _ _ hk' hsn R₂ fun v' s' hv' R' x' => hR v' s' hv' R' ((x₁.trans x₂).trans x')⟩
theorem B_min {l : Addr} {xs : List (Int × Int)} (hh : A.handled = none) (hu : A.units < 9000) (hl : (l, AObj.list (xs.map ptup)) ∈ σ) (hne : xs ≠ []) (h : K (ptup (minP xs)) σ) : WN VR c A (fun vs => call (.builtin "min") vs) [.ref l] σ K := by
  intro s Q E vs R hvs q
  cases hvs with
  | cons h1 r =>
    cases r; cases h1
    have hname : (toString "min" ++ toString ".loop" : String) = "min.loop" := by decide
    refine call_function_tree F.kind_min F.plain_min F.entry_min (F.args_min1 _) ?_
    show wpAny _ A.in1 (Builtin.Builtins.bindParams "min" ["key", "default"] 0 ⟨[], []⟩ >>= _) _ _ s
    refine wpAny_bind (wpAny_of_eq (show Builtin.Builtins.bindParams "min" ["key", "default"] 0 ⟨[], []⟩ = pure [none, none] from rfl) ?_)
    refine wpAny_bind (wpAny_pure ?_)
    refine wpAny_bind (It_list (A := A.in1) (l := l) (xs := xs.map ptup) hh σ (IterJ c A.in1 (xs.map ptup) (fun σ => (l, AObj.list (xs.map ptup)) ∈ σ) σ) hl (fun I cell ok => ⟨I, cell, rfl, ok, rfl⟩) s _ _ (.ref l) R rfl fun y Y σ₂ s₂ ⟨I, cell, e1, ok, e2⟩ hy R₂ x₂ => ?_)
    subst e1 e2
    cases hy
    refine wpAny_bind (wpAny_newObj_type ?_)
    have R₃ := R₂.add (a := s₂.heap.objs.size) (ao := .list []) (h' := s₂.heap.push { cls := .type "list", data := .seq #[] }) (Nat.le_refl _) (fun b o e => Heap.get?_push_of_some _ e) (show OR c.z _ _ (.list _) from ⟨[], _, Heap.get?_push_size _ rfl, .nil⟩) s₂.toks
    rw [hname]
    refine wpAny_pure ⟨plainId_quiet F.plain_min_loop _, ?_⟩
    have x3 : Ext c.z s₂.heap (s₂.heap.push { cls := .type "list", data := .seq #[] }) := Ext.push _
    have hlt : 0 < xs.length := List.length_pos_iff.mpr hne
    have hX : (xs.map ptup)[0]? = some (ptup xs[0]) := by rw [List.getElem?_map, List.getElem?_eq_getElem hlt]; rfl
    have hm : minP (xs.take 1) = xs[0] := by rw [List.take_add_one]; simp [minP, hlt]
    have hk : xs.length - 1 + 1 = xs.length := Nat.sub_add_cancel hlt
    generalize xs[0] = x0 at hX hm
    refine codeAny_builtin F.entry_min_loop ?_
    rw [Around.under_plainId F.plain_min_loop _]
    show wpAny _ A.in1 (seqItems? (.ref s₂.heap.objs.size) >>= _) _ _ _
    refine wpAny_bind (wpAny_seqItems (Heap.get?_push_size _ rfl) rfl ?_)
    show wpAny _ A.in1 (tryCatch (pyNext (.ref I)) _ >>= _) _ _ _
    refine wpAny_bind (wpAny_tryCatch (ok.next1 hX (.tail _ (.tail _ hl)) (.tail .head) R₃ fun v s₁ hr R₁ x₁ => ?_))
    obtain ⟨us, n', e', hu'⟩ := R₁.ob _ (.head _)
    show wpAny _ A.in1 (updateSeq s₂.heap.objs.size (fun _ => #[v, v]) >>= _) _ _ _
    refine wpAny_bind ?_
    obtain ⟨R₄, x₄⟩ := R₁.updList (l := s₂.heap.objs.size) (ys := [ptup x0, ptup x0]) (us := [v, v]) (f := fun _ => #[v, v]) .head e' rfl (fun h' hx => .cons (hr.ext hx) (.cons (hr.ext hx) .nil))
    refine wpAny_updateSeq e' rfl ?_ (by have := hu'.length; simp at this; simp [this])
    rw [hname]
    exact wpAny_pure ⟨plainId_quiet F.plain_min_loop _, min_loop hu ok (fun _ _ h => .tail _ h) hl (xs.length - 1) 0 x0 _ hk hm (R₄.perm (List.Perm.swap ..)) fun v' s' hv' R' x' =>
      q _ _ _ _ h hv' R' ((((x₂.trans x3).trans x₁).trans x₄).trans x')⟩
end
end
section
/-- what a tree of questions gives -/
noncomputable def KW (lt : Nat → Nat → Bool) (n : Nat) {α : Type} : KasT α → (α → Prop) → Prop
  | .ret a, Q => Q a
  | .ask i j k, Q => i < n ∧ j < n ∧ KW lt n (k (lt i j)) Q
theorem KW.mono {lt : Nat → Nat → Bool} {n : Nat} {α : Type} {Q Q' : α → Prop} (h : ∀ a, Q a → Q' a) : ∀ {t : KasT α}, KW lt n t Q → KW lt n t Q'
  | .ret a, x => h a x
  | .ask i j k, ⟨h1, h2, x⟩ => ⟨h1, h2, KW.mono h x⟩
theorem KW.bind {lt : Nat → Nat → Bool} {n : Nat} {α β : Type} {f : α → KasT β} {Q : β → Prop} : ∀ {t : KasT α}, KW lt n t (fun a => KW lt n (f a) Q) → KW lt n (t.bind f) Q
  | .ret a, x => x
  | .ask i j k, ⟨h1, h2, x⟩ => ⟨h1, h2, KW.bind x⟩
theorem KW.kas {lt : Nat → Nat → Bool} {n : Nat} {α : Type} {cmp : Nat → Nat → (Bool → Shared → Prop) → Shared → Prop} {Q' : α → Prop} {Q : α → Shared → Prop} {s : Shared} (hc : ∀ i j C, i < n → j < n → C (lt i j) s → cmp i j C s) (hq : ∀ a, Q' a → Q a s) :
    ∀ {t : KasT α}, KW lt n t Q' → t.kasWp cmp Q s
  | .ret a, x => hq a x
  | .ask i j k, ⟨h1, h2, x⟩ => hc i j _ h1 h2 (KW.kas hc hq x)
structure LtOk (lt : Nat → Nat → Bool) (n : Nat) : Prop where
  tot : ∀ i j, i < n → j < n → i ≠ j → lt i j = false → lt j i = true
  tr : ∀ i j k, i < n → j < n → k < n → lt i j = true → lt j k = true → lt i k = true
  ir : ∀ i, i < n → lt i i = false
theorem LtOk.asym {lt : Nat → Nat → Bool} {n : Nat} (O : LtOk lt n) {i j : Nat} (hi : i < n) (hj : j < n) (h : lt i j = true) : lt j i = false := by
  cases e : lt j i with
  | false => rfl
  | true => have := O.tr i j i hi hj hi h e; rw [O.ir i hi] at this; cases this
structure POk (n : Nat) (p : Array Nat) : Prop where
  sz : p.size = n
  nd : p.toList.Nodup
  lt : ∀ x ∈ p.toList, x < n
theorem POk.perm {n : Nat} {p q : Array Nat} (h : POk n p) (x : q.Perm p) : POk n q :=
  ⟨x.size_eq.trans h.sz, (x.toList.nodup_iff).mpr h.nd, fun y hy => h.lt y (x.toList.mem_iff.mp hy)⟩
theorem POk.range (n : Nat) : POk n (List.toArray (List.range n)) := ⟨by simp, by simp [List.nodup_range], fun x hx => by simpa using hx⟩
theorem POk.get {n : Nat} {p : Array Nat} (h : POk n p) {k : Nat} (hk : k < n) : p.getD k 0 < n := by
  have hk' : k < p.size := by rw [h.sz]; exact hk
  refine h.lt _ ?_
  simp [Array.getD, hk']
theorem POk.inj {n : Nat} {p : Array Nat} (h : POk n p) {i j : Nat} (hi : i < n) (hj : j < n) (e : p.getD i 0 = p.getD j 0) : i = j := by
  have hi' : i < p.size := by rw [h.sz]; exact hi
  have hj' : j < p.size := by rw [h.sz]; exact hj
  simp [Array.getD, hi', hj'] at e
  exact (List.getElem_inj (i := i) (j := j) (h₀ := by simpa using hi') (h₁ := by simpa using hj') h.nd).mp (by simpa using e)
noncomputable def Asc (lt : Nat → Nat → Bool) (p : Array Nat) (m : Nat) : Prop := ∀ i j, i < j → j < m → lt (p.getD i 0) (p.getD j 0) = true
section
variable {lt : Nat → Nat → Bool} {n : Nat}
theorem pred_lt' {m n : Nat} (h : m < n) : m - 1 < n := Nat.lt_of_le_of_lt (Nat.sub_le m 1) h
theorem Asc.snoc (O : LtOk lt n) {p : Array Nat} (P : POk n p) {m : Nat} (hm : m < n) (h0 : 0 < m) (h : Asc lt p m) (e : lt (p.getD (m - 1) 0) (p.getD m 0) = true) : Asc lt p (m + 1) := by
  intro i j hij hj
  by_cases hjm : j = m
  · subst hjm
    by_cases hi : i = j - 1
    · subst hi; exact e
    · exact O.tr _ _ _ (P.get (Nat.lt_trans hij hm)) (P.get (pred_lt' hm)) (P.get hm) (h i (j - 1) (Nat.lt_of_le_of_ne (Nat.le_sub_one_of_lt hij) hi) (Nat.sub_lt h0 Nat.one_pos)) e
  · exact h i j hij (Nat.lt_of_le_of_ne (Nat.le_of_lt_succ hj) hjm)
theorem kas_asc_ok (O : LtOk lt n) {p : Array Nat} (P : POk n p) (f : Nat) : ∀ m : Nat, m + f = n → 0 < m → Asc lt p m → KW lt n (kas_asc p f m) fun r => m ≤ r ∧ r ≤ n ∧ Asc lt p r ∧ (r < n → lt (p.getD r 0) (p.getD (r - 1) 0) = true) := by
  induction f with
  | zero => exact fun m h h0 ha => ⟨Nat.le_refl _, Nat.le_of_eq h, ha, fun q => absurd h (Nat.ne_of_lt q)⟩
  | succ f ih =>
    intro m h h0 ha
    have hm : m < n := h ▸ Nat.lt_add_of_pos_right (Nat.succ_pos f)
    show KW lt n (.ask _ _ _) _
    refine ⟨P.get hm, P.get (pred_lt' hm), ?_⟩
    cases e : lt (p.getD m 0) (p.getD (m - 1) 0) with
    | true => exact ⟨Nat.le_refl _, Nat.le_of_lt hm, ha, fun _ => e⟩
    | false =>
      have e' := O.tot _ _ (P.get hm) (P.get (pred_lt' hm)) (fun q => Nat.ne_of_gt (Nat.sub_lt h0 Nat.one_pos) (P.inj hm (pred_lt' hm) q)) e
      exact (ih (m + 1) ((Nat.add_right_comm m 1 f).trans h) (Nat.succ_pos m) (ha.snoc O P hm h0 e')).mono fun r ⟨h1, h2, h3, h4⟩ => ⟨Nat.le_of_succ_le h1, h2, h3, h4⟩
noncomputable def Desc (lt : Nat → Nat → Bool) (p : Array Nat) (m : Nat) : Prop := ∀ i j, i < j → j < m → lt (p.getD j 0) (p.getD i 0) = true
theorem Desc.snoc (O : LtOk lt n) {p : Array Nat} (P : POk n p) {m : Nat} (hm : m < n) (h0 : 0 < m) (h : Desc lt p m) (e : lt (p.getD m 0) (p.getD (m - 1) 0) = true) : Desc lt p (m + 1) := by
  intro i j hij hj
  by_cases hjm : j = m
  · subst hjm
    by_cases hi : i = j - 1
    · subst hi; exact e
    · exact O.tr _ _ _ (P.get hm) (P.get (pred_lt' hm)) (P.get (Nat.lt_trans hij hm)) e (h i (j - 1) (Nat.lt_of_le_of_ne (Nat.le_sub_one_of_lt hij) hi) (Nat.sub_lt h0 Nat.one_pos))
  · exact h i j hij (Nat.lt_of_le_of_ne (Nat.le_of_lt_succ hj) hjm)
theorem kas_desc_ok (O : LtOk lt n) {p : Array Nat} (P : POk n p) (f : Nat) : ∀ m : Nat, m + f = n → 0 < m → Desc lt p m → KW lt n (kas_desc f p m 0) fun r => r.1 = p ∧ r.2.2 = 0 ∧ m ≤ r.2.1 ∧ r.2.1 ≤ n ∧ Desc lt p r.2.1 := by
  induction f with
  | zero => exact fun m h h0 ha => ⟨rfl, rfl, Nat.le_refl _, Nat.le_of_eq h, ha⟩
  | succ f ih =>
    intro m h h0 ha
    have hm : m < n := h ▸ Nat.lt_add_of_pos_right (Nat.succ_pos f)
    show KW lt n (.ask _ _ _) _
    refine ⟨P.get hm, P.get (pred_lt' hm), ?_⟩
    cases e : lt (p.getD m 0) (p.getD (m - 1) 0) with
    | true =>
      exact (ih (m + 1) ((Nat.add_right_comm m 1 f).trans h) (Nat.succ_pos m) (ha.snoc O P hm h0 e)).mono fun r ⟨h1, h2, h3, h4, h5⟩ => ⟨h1, h2, Nat.le_of_succ_le h3, h4, h5⟩
    | false =>
      refine ⟨P.get (pred_lt' hm), P.get hm, ?_⟩
      have e' := O.tot _ _ (P.get hm) (P.get (pred_lt' hm)) (fun q => Nat.ne_of_gt (Nat.sub_lt h0 Nat.one_pos) (P.inj hm (pred_lt' hm) q)) e
      rw [e']
      exact ⟨rfl, rfl, Nat.le_refl _, Nat.le_of_lt hm, ha⟩
theorem getD_mirror {p : Array Nat} {j : Nat} (hj : j ≤ p.size) (k : Nat) : (kas_rev p 0 j).getD k 0 = if k < j then p.getD (j - 1 - k) 0 else p.getD k 0 := by
  have := getElem?_mirror_all (xs := p) (i := 0) hj k
  unfold kas_rev
  rw [Array.getD_eq_getD_getElem?, this]
  split <;> rename_i h
  · rw [if_pos h.2, Array.getD_eq_getD_getElem?]; congr 2; rw [Nat.zero_add]
  · rw [if_neg (fun q => h ⟨Nat.zero_le _, q⟩), Array.getD_eq_getD_getElem?]
theorem kas_tail3_ok (O : LtOk lt n) {p : Array Nat} (P : POk n p) {m : Nat} (hm : m ≤ n) (h0 : 0 < m) (hd : Desc lt p m) : KW lt n (kas_tail3 m n p) fun r => 0 < r.1 ∧ r.1 ≤ n ∧ r.2.Perm p ∧ Asc lt r.2 r.1 := by
  unfold kas_tail3
  have hp : (kas_rev p 0 m).Perm p := mirror_perm _ _ _ _
  refine KW.bind ((kas_asc_ok O (P.perm hp) (n - m) m (Nat.add_sub_cancel' hm) h0 ?_).mono fun r ⟨h1, h2, h3, _⟩ => ⟨Nat.lt_of_lt_of_le h0 h1, h2, hp, h3⟩)
  intro i j hij hj
  rw [getD_mirror (by rw [P.sz]; exact hm), getD_mirror (by rw [P.sz]; exact hm), if_pos (Nat.lt_trans hij hj), if_pos hj]
  exact hd _ _ (Nat.sub_lt_sub_left (Nat.lt_of_lt_of_le hij (Nat.le_sub_one_of_lt hj)) hij) (Nat.lt_of_le_of_lt (Nat.sub_le _ _) (Nat.sub_lt h0 Nat.one_pos))
theorem kas_count_ok (O : LtOk lt n) {p : Array Nat} (P : POk n p) (h2 : 2 ≤ n) : KW lt n (kas_count n p) fun r => 0 < r.1 ∧ r.1 ≤ n ∧ r.2.Perm p ∧ Asc lt r.2 r.1 := by
  unfold kas_count
  have hn : 0 < n := Nat.lt_of_lt_of_le (by decide) h2
  refine KW.bind ((kas_asc_ok O P (n - 1) 1 (Nat.add_sub_cancel' (Nat.le_of_succ_le h2)) Nat.one_pos (fun i j h1 h2 => absurd (Nat.lt_of_lt_of_le h1 (Nat.le_of_lt_succ h2)) (Nat.not_lt_zero _))).mono fun m ⟨h1, h3, ha, he⟩ => ?_)
  by_cases hmn : m = n
  · rw [if_pos (by simpa using hmn)]
    exact ⟨h1, h3, Array.Perm.refl _, ha⟩
  · rw [if_neg (by simpa using hmn)]
    have hlt : m < n := Nat.lt_of_le_of_ne h3 hmn
    by_cases hm1 : m > 1
    · rw [if_pos hm1]
      refine ⟨P.get hn, P.get (pred_lt' hlt), ?_⟩
      rw [ha 0 (m - 1) (Nat.sub_pos_of_lt hm1) (Nat.sub_lt h1 Nat.one_pos)]
      exact ⟨h1, h3, Array.Perm.refl _, ha⟩
    · rw [if_neg hm1]
      cases Nat.le_antisymm (Nat.le_of_not_lt hm1) h1
      unfold kas_descPart
      have hd : Desc lt p 2 := by
        intro i j hij hj
        cases Nat.le_antisymm (Nat.le_of_lt_succ hj) (Nat.lt_of_le_of_lt (Nat.zero_le i) hij)
        cases Nat.le_zero.mp (Nat.le_of_lt_succ hij)
        exact he hlt
      refine KW.bind ((kas_desc_ok O P (n - (1 + 1)) (1 + 1) (Nat.add_sub_cancel' h2) (by decide) hd).mono fun r ⟨e1, e2, e3, e4, e5⟩ => ?_)
      rw [e2, e1]
      exact kas_tail3_ok O P e4 (Nat.lt_of_lt_of_le (by decide) e3) e5
theorem kas_place_ok (O : LtOk lt n) {p : Array Nat} (P : POk n p) {k : Nat} (hk : k < n) (ha : Asc lt p k) (f : Nat) : ∀ l r : Nat, l ≤ r → r ≤ k → r ≤ l + f → (∀ j, j < l → lt (p.getD j 0) (p.getD k 0) = true) → (∀ j, r ≤ j → j < k → lt (p.getD k 0) (p.getD j 0) = true) →
    KW lt n (kas_place p k f l r) fun x => x ≤ k ∧ (∀ j, j < x → lt (p.getD j 0) (p.getD k 0) = true) ∧ (∀ j, x ≤ j → j < k → lt (p.getD k 0) (p.getD j 0) = true) := by
  induction f with
  | zero => exact fun l r h1 h2 h3 h4 h5 => ⟨Nat.le_trans h1 h2, h4, fun j hj hjk => h5 j (Nat.le_trans h3 hj) hjk⟩
  | succ f ih =>
    intro l r h1 h2 h3 h4 h5
    unfold kas_place
    by_cases hlr : l ≥ r
    · rw [if_pos hlr]
      exact ⟨Nat.le_trans h1 h2, h4, fun j hj hjk => h5 j (Nat.le_trans hlr hj) hjk⟩
    · rw [if_neg hlr]
      have hq : l ≤ (l + r) / 2 ∧ (l + r) / 2 < r := by omega
      generalize (l + r) / 2 = q at hq
      obtain ⟨q1, q2⟩ := hq
      have hqk : q < k := Nat.lt_of_lt_of_le q2 h2
      have hqn : q < n := Nat.lt_trans hqk hk
      refine ⟨P.get hk, P.get hqn, ?_⟩
      cases e : lt (p.getD k 0) (p.getD q 0) with
      | true =>
        refine ih l q q1 (Nat.le_of_lt hqk) (Nat.le_of_lt_succ (Nat.lt_of_lt_of_le q2 h3)) h4 fun j hj hjk => ?_
        by_cases qe : j = q
        · subst qe; exact e
        · exact O.tr _ _ _ (P.get hk) (P.get hqn) (P.get (Nat.lt_trans hjk hk)) e (ha _ _ (Nat.lt_of_le_of_ne hj (Ne.symm qe)) hjk)
      | false =>
        have e' := O.tot _ _ (P.get hk) (P.get hqn) (fun x => Nat.ne_of_gt hqk (P.inj hk hqn x)) e
        refine ih (q + 1) r q2 h2 (Nat.le_trans h3 (by rw [Nat.add_right_comm]; exact Nat.succ_le_succ (Nat.add_le_add_right q1 f))) (fun j hj => ?_) h5
        by_cases qe : j = q
        · subst qe; exact e'
        · have hjq : j < q := Nat.lt_of_le_of_ne (Nat.le_of_lt_succ hj) qe
          exact O.tr _ _ _ (P.get (Nat.lt_trans hjq hqn)) (P.get hqn) (P.get hk) (ha _ _ hjq hqk) e'
theorem getD_bubble {p : Array Nat} {k l : Nat} (hk : k < p.size) (hl : l ≤ k) (i : Nat) : (bubble p k (k - l)).getD i 0 = if i = l then p.getD k 0 else if l < i ∧ i ≤ k then p.getD (i - 1) 0 else p.getD i 0 := by
  have := getElem?_bubble (xs := p) hk (k - l) (Nat.sub_le ..) i
  simp only [Array.getD_eq_getD_getElem?]
  rw [this, Nat.sub_sub_self hl]
  split
  · rfl
  · split <;> rfl
theorem kas_bin_ok (O : LtOk lt n) (f : Nat) : ∀ (p : Array Nat) (k : Nat), POk n p → k + f = n → Asc lt p k → KW lt n (kas_bin f p k) fun r => r.Perm p ∧ Asc lt r n := by
  induction f with
  | zero => exact fun p k P h ha => ⟨Array.Perm.refl _, (show k = n from h) ▸ ha⟩
  | succ f ih =>
    intro p k P h ha
    show KW lt n (KasT.bind _ _) _
    have hk : k < n := h ▸ Nat.lt_add_of_pos_right (Nat.succ_pos f)
    refine KW.bind ((kas_place_ok O P hk ha k 0 k (Nat.zero_le _) (Nat.le_refl _) (Nat.le_add_left ..) (fun j hj => absurd hj (Nat.not_lt_zero _)) (fun j hj hjk => absurd hjk (Nat.not_lt.mpr hj))).mono fun l ⟨hl, h1, h2⟩ => ?_)
    have hp : (bubble p k (k - l)).Perm p := bubble_perm _ _ _
    refine (ih _ (k + 1) (P.perm hp) ((Nat.add_right_comm k 1 f).trans h) ?_).mono fun r ⟨q1, q2⟩ => ⟨q1.trans hp, q2⟩
    intro i j hij hj
    have hks : k < p.size := by rw [P.sz]; exact hk
    have hjk : j ≤ k := Nat.le_of_lt_succ hj
    have hj1 : j - 1 < k := Nat.lt_of_lt_of_le (Nat.sub_lt (Nat.lt_of_le_of_lt (Nat.zero_le _) hij) Nat.one_pos) hjk
    rw [getD_bubble hks hl, getD_bubble hks hl]
    by_cases q1 : i = l
    · subst q1
      rw [if_pos rfl, if_neg (Nat.ne_of_gt hij), if_pos ⟨hij, hjk⟩]
      exact h2 _ (Nat.le_sub_one_of_lt hij) hj1
    · rw [if_neg q1]
      by_cases q2 : j = l
      · subst q2
        rw [if_pos rfl, if_neg (fun q => Nat.lt_asymm hij q.1)]
        exact h1 _ hij
      · rw [if_neg q2]
        by_cases q3 : l < i
        · rw [if_pos ⟨q3, Nat.le_trans (Nat.le_of_lt hij) hjk⟩, if_pos ⟨Nat.lt_trans q3 hij, hjk⟩]
          exact ha _ _ (Nat.sub_lt_sub_right (Nat.lt_of_le_of_lt (Nat.zero_le _) q3) hij) hj1
        · rw [if_neg (fun q => q3 q.1)]
          by_cases q4 : l < j
          · rw [if_pos ⟨q4, hjk⟩]
            exact ha _ _ (Nat.lt_of_lt_of_le (Nat.lt_of_le_of_ne (Nat.le_of_not_lt q3) q1) (Nat.le_sub_one_of_lt q4)) hj1
          · rw [if_neg (fun q => q4 q.1)]
            exact ha _ _ hij (Nat.lt_of_lt_of_le (Nat.lt_of_le_of_ne (Nat.le_of_not_lt q4) q2) hl)
theorem kas_sort_ok (O : LtOk lt n) (h2 : 2 ≤ n) : KW lt n (kas_sort n) fun r => POk n r ∧ Asc lt r n := by
  unfold kas_sort
  have P := POk.range n
  refine KW.bind ((kas_count_ok O P h2).mono fun r ⟨h1, h3, hp, ha⟩ => ?_)
  split
  · have e : max r.1 1 = r.1 := Nat.max_eq_left h1
    rw [e]
    exact (kas_bin_ok O (n - r.1) r.2 r.1 (P.perm hp) (Nat.add_sub_cancel' h3) ha).mono fun q ⟨q1, q2⟩ => ⟨(P.perm hp).perm q1, q2⟩
  · have e : r.1 = n := by omega
    exact ⟨P.perm hp, by rw [← e]; exact ha⟩
end
end
section
theorem perm_full : ∀ {l m : List Nat}, l.Nodup → (∀ x ∈ l, x ∈ m) → m.length ≤ l.length → l.Perm m
  | [], m, _, _, h => by
    have : m = [] := List.length_eq_zero_iff.mp (by simpa using h)
    rw [this]
  | x :: l, m, nd, hs, h => by
    rw [List.nodup_cons] at nd
    have hx := hs x (.head _)
    have hp := List.perm_cons_erase hx
    refine (List.Perm.cons x (perm_full nd.2 (fun y hy => ?_) ?_)).trans hp.symm
    · have hne : y ≠ x := fun e => nd.1 (by rw [← e]; exact hy)
      exact (List.mem_erase_of_ne hne).mpr (hs y (.tail _ hy))
    · have := hp.length_eq; simp at this h; omega
noncomputable def PR (h : Heap) (v : Value) (x : Int × Int) : Prop := ∃ b t1 t2 n, v = .ref b ∧ IsT h b #[.int x.1 t1, .int x.2 t2] n
theorem plt_iff {x y : Int × Int} : plt x y = true ↔ x.1 < y.1 ∨ (x.1 = y.1 ∧ x.2 < y.2) := by simp [plt]
theorem plt_tot {x y : Int × Int} (h : x ≠ y) (e : plt x y = false) : plt y x = true := by
  have e' : ¬ (x.1 < y.1 ∨ (x.1 = y.1 ∧ x.2 < y.2)) := by intro q; rw [plt_iff.mpr q] at e; cases e
  rw [plt_iff]
  rcases Int.lt_trichotomy x.1 y.1 with q | q | q
  · exact absurd (.inl q) e'
  · rcases Int.lt_trichotomy x.2 y.2 with r | r | r
    · exact absurd (.inr ⟨q, r⟩) e'
    · exact absurd (Prod.ext q r) h
    · exact .inr ⟨q.symm, r⟩
  · exact .inl q
theorem plt_tr {x y z : Int × Int} (h1 : plt x y = true) (h2 : plt y z = true) : plt x z = true := by
  rw [plt_iff] at *
  rcases h1 with h | ⟨e, h⟩ <;> rcases h2 with q | ⟨f, q⟩
  · exact .inl (Int.lt_trans h q)
  · exact .inl (f ▸ h)
  · exact .inl (e ▸ q)
  · exact .inr ⟨e.trans f, Int.lt_trans h q⟩
theorem plt_ir (x : Int × Int) : plt x x = false := by
  cases e : plt x x with
  | false => rfl
  | true => exact ((plt_iff.mp e).elim (Int.lt_irrefl _) fun h => Int.lt_irrefl _ h.2).elim
theorem All2.getD2 {α β : Type} {R : α → β → Prop} {as : List α} {bs : List β} (H : All2 R as bs) : ∀ (i : Nat) (d : α) (e : β), i < as.length → R (as.getD i d) (bs.getD i e) := by
  induction H with
  | nil => intro i d e h; cases h
  | cons x r ih =>
    intro i d e h
    cases i with
    | zero => exact x
    | succ i => exact ih i d e (Nat.lt_of_succ_lt_succ h)
theorem All2.mapIdx {α β : Type} {R : α → β → Prop} {as : List α} {bs : List β} (h : All2 R as bs) (d : α) (e : β) : ∀ {p : List Nat}, (∀ i ∈ p, i < as.length) → All2 R (p.map fun i => as.getD i d) (p.map fun i => bs.getD i e)
  | [], _ => .nil
  | i :: p, hp => .cons (h.getD2 i d e (hp i (.head _))) (All2.mapIdx h d e fun j hj => hp j (.tail _ hj))
section
variable {prog : Program} {w : World} {A : Around} {E : Value → Shared → Prop} {s : Shared}
theorem pair_lt {v u : Value} {x y : Int × Int} {Q : Bool → Shared → Prop} (hv : PR s.heap v x) (hu : PR s.heap u y) (h : Q (plt x y) s) : wpAny (model prog w) A (keyLt' (tuples' true) v u) Q E s := by
  obtain ⟨a, t1, t2, n, rfl, e1⟩ := hv
  obtain ⟨b, u1, u2, n2, rfl, e2⟩ := hu
  refine kat_lt e1 rfl e2 rfl ?_
  show KatLex prog w A true _ Q [(.int x.1 t1, .int y.1 u1), (.int x.2 t2, .int y.2 u2)] 0 s
  refine kat_cons (wpAny_eqBool_int (kat_go (fun q => kat_yes (kat_cons (wpAny_eqBool_int (kat_go (fun q2 => kat_yes (kat_nil ?_)) fun q2 => kat_no ?_)))) fun q => kat_no ?_))
  · have q : x.1 = y.1 := by simpa using q
    have q2 : x.2 = y.2 := by simpa using q2
    have : plt x y = false := by rw [show x = y from Prod.ext q q2]; exact plt_ir y
    rw [this] at h; simpa using h
  · have q : x.1 = y.1 := by simpa using q
    refine kat_one _ _ (PyProof.Rows.lt_int ?_)
    show Q (decide (x.2 < y.2)) s
    have : plt x y = decide (x.2 < y.2) := by unfold plt; simp [q]
    rw [← this]; exact h
  · have q : ¬ x.1 = y.1 := by simpa using q
    refine oneLt_int ?_
    have : plt x y = decide (x.1 < y.1) := by unfold plt; simp [q]
    rw [← this]; exact h
theorem tups_of {h : Heap} {vs : List Value} {xs : List (Int × Int)} (H : All2 (PR h) vs xs) : ∃ fs, KatTups h vs fs ∧ fs.length = xs.length ∧ ∀ v ∈ fs, ∃ i t, v = .int i t := by
  induction H with
  | nil => exact ⟨[], .nil, rfl, fun v hv => by cases hv⟩
  | cons e r ih =>
    obtain ⟨fs, h1, h2, h3⟩ := ih
    obtain ⟨a, t1, t2, n, rfl, e1⟩ := e
    refine ⟨_ :: fs, .cons e1 rfl rfl rfl h1, by simp [h2], fun v hv => ?_⟩
    rcases List.mem_cons.mp hv with rfl | hv
    · exact ⟨_, _, rfl⟩
    · exact h3 v hv
theorem sort_pairs {a : Addr} {vs : List Value} {xs : List (Int × Int)} {n : Nat} {P : PySem.Fin → Shared → Prop} (ho : s.heap.get? a = some (seqObj "list" vs.toArray n))
    (hv : All2 (PR s.heap) vs xs) (h64 : vs.length < 64) (hnd : xs.Nodup)
    (h : ∀ (p : List Nat), (∀ i ∈ p, i < vs.length) → p.Nodup → p.length = vs.length → (p.map fun i => xs.getD i (0, 0)).Pairwise (fun x y => plt x y = true) → P (.done (.ret .none)) { s with heap := sortedHeap s.heap a vs (p.map fun i => vs.getD i Value.none).toArray }) :
    wpAny (model prog w) A (Builtin.«list.sort» ⟨[.ref a], []⟩) P E s := by
  rw [list_sort_plain]
  have ha : a < s.heap.objs.size := Heap.lt_size ho
  refine wpAny_bind (listItems_at ho rfl ?_)
  refine wpAny_bind (listUpdate_at ho rfl ?_ (by rw [List.size_toArray, sizeLine_eq]; omega) (Nat.zero_le _))
  obtain ⟨e1, ho1⟩ : ∃ e1, (s.heap.update a (Obj.mapSeq fun _ => #[])).get? a = some (seqObj "list" #[] e1) := ⟨_, get?_update_seq ho (fun _ => #[])⟩
  refine wpAny_bind (seqEpoch_at ho1 rfl ?_)
  refine wpAny_bind (wpAny_newTuple ?_ (by show vs.length ≤ _; rw [sizeLine_eq]; omega))
  refine wpAny_bind (wpAny_newList ?_ (Nat.zero_le _))
  refine wpAny_holding ?_
  have ho6 : (((s.heap.update a (Obj.mapSeq fun _ => #[])).push (seqObj "tuple" vs.toArray 0)).push (seqObj "list" #[] 0)).get? a = some (seqObj "list" #[] e1) := by
    rw [Heap.get?_push_ne _ _ _ (by rw [size_push', Heap.size_update]; exact Nat.ne_of_lt (Nat.lt_succ_of_lt ha)), Heap.get?_push_ne _ _ _ (by rw [Heap.size_update]; exact Nat.ne_of_lt ha)]
    exact ho1
  show wpAny (model prog w) A _ P E { s with heap := ((s.heap.update a (Obj.mapSeq fun _ => #[])).push (seqObj "tuple" vs.toArray 0)).push (seqObj "list" #[] 0) }
  dsimp only
  have hsz : vs.toArray.size = vs.length := by simp
  have hlen := hv.length
  by_cases h2 : vs.toArray.size < 2
  · rw [if_pos h2, if_pos h2]
    refine wpAny_bind (wpAny_pure ?_)
    rw [StateT.run_pure]
    refine wpAny_bind (wpAny_pure ?_)
    dsimp only
    refine wpAny_bind (seqEpoch_at ho6 rfl ?_)
    refine wpAny_bind (listUpdate_at ho6 rfl ?_ (Nat.zero_le _) (by rw [Array.size_map]; show (pairsOf vs).size ≤ _; rw [pairsOf_size, sizeLine_eq]; omega))
    simp only [bne_self_eq_false, Bool.false_eq_true, if_false]
    have hh := h (List.range vs.length) (fun i hi => by simpa using hi) List.nodup_range (by simp) (by
      rw [List.pairwise_iff_getElem]
      intro i j hi hj hij
      rw [List.length_map, List.length_range] at hj
      rw [hsz] at h2
      exact absurd (Nat.lt_of_lt_of_le (Nat.lt_of_le_of_lt (Nat.zero_le i) hij) (Nat.le_of_lt_succ (Nat.lt_of_lt_of_le hj (Nat.le_of_lt_succ h2)))) (Nat.lt_irrefl 0))
    have e : ((List.range vs.length).map fun i => vs.getD i Value.none) = vs := by
      apply List.ext_getElem
      · simp
      · intro i h1 h2; simp at h1 h2 ⊢; rw [List.getElem?_eq_getElem h1]; rfl
    rw [e] at hh
    refine wpAny_pure ?_
    have e2 : (arrOf (SortSt.mk' general' (vs.toArray.zip vs.toArray) #[] 7 none)).map (·.2) = vs.toArray := by
      show (vs.toArray.zip vs.toArray).map (·.2) = vs.toArray
      apply Array.toList_inj.mp
      simp
      exact List.map_snd_zip (Nat.le_refl _)
    rw [e2]
    exact hh
  · rw [if_neg h2, if_neg h2]
    have h2' : 2 ≤ vs.length := Nat.le_of_not_lt (hsz ▸ h2)
    generalize hH : ((s.heap.update a (Obj.mapSeq fun _ => #[])).push (seqObj "tuple" vs.toArray 0)).push (seqObj "list" #[] 0) = H at *
    have hv' : All2 (PR H) vs xs := hv.imp fun v x ⟨b, t1, t2, n', e, e1⟩ => by
      refine ⟨b, t1, t2, n', e, ?_⟩
      have hb : b ≠ a := by
        rintro rfl
        have := ho.symm.trans e1
        injection this with this; injection this with this; revert this; decide
      have hlt : b < s.heap.objs.size := Heap.lt_size e1
      show H.get? b = _
      rw [← hH, Heap.get?_push_ne _ _ _ (by rw [size_push', Heap.size_update]; exact Nat.ne_of_lt (Nat.lt_succ_of_lt hlt)), Heap.get?_push_ne _ _ _ (by rw [Heap.size_update]; exact Nat.ne_of_lt hlt), Heap.get?_update_other _ _ (Ne.symm hb)]
      exact e1
    obtain ⟨fs, k1, k2, k3⟩ := tups_of hv'
    refine wpAny_bind (kat_kind (s := { s with heap := H }) (T := .type "int") k1 (by omega) (fun v hv => ?_) (by decide) ?_)
    · obtain ⟨i, t, rfl⟩ := k3 v hv; exact Looks.of_pure rfl
    rw [show ((Value.type "int" != Value.type "tuple")) = true by decide]
    let lt : Nat → Nat → Bool := fun i j => plt (xs.getD i (0, 0)) (xs.getD j (0, 0))
    have hinj : ∀ i j, i < vs.length → j < vs.length → i ≠ j → xs.getD i (0, 0) ≠ xs.getD j (0, 0) := fun i j hi hj hij e => by
      have hi' : i < xs.length := hlen ▸ hi
      have hj' : j < xs.length := hlen ▸ hj
      simp [List.getD, hi', hj'] at e
      exact hij ((List.getElem_inj hnd).mp e)
    have O : LtOk lt vs.length := ⟨fun i j hi hj hij e => plt_tot (hinj i j hi hj hij) e, fun i j k _ _ _ h1 h2 => plt_tr h1 h2, fun i _ => plt_ir _⟩
    refine wpAny_bind (wpAny_mono (kat_run (ks := vs) (vs := vs) (κ := tuples' true) (Q := fun st' s' => ∃ p : Array Nat, s' = { s with heap := H } ∧ POk vs.length p ∧ Asc lt p vs.length ∧ arrOf st' = p.map (kas_item (vs.toArray.zip vs.toArray)) ∧ failedOf st' = none)
      (G := fun p s' => s' = { s with heap := H } ∧ POk vs.length p ∧ Asc lt p vs.length) rfl h2' h64 (fun p st' s' a1 a2 a3 a4 => ⟨p, a4.1, a4.2.1, a4.2.2, a2, a3⟩)
      (KW.kas (Q' := fun r => POk vs.length r ∧ Asc lt r vs.length) (fun i j C hi hj hC => ?_) (fun r hr => ⟨rfl, hr.1, hr.2⟩) (kas_sort_ok O h2'))) ?_ fun _ _ e => e)
    · exact pair_lt (hv'.getD2 i _ (0, 0) hi) (hv'.getD2 j _ (0, 0) hj) hC
    · rintro ⟨⟨⟩, st'⟩ s' ⟨p, rfl, hp, hasc, har, hf⟩
      dsimp only
      have hout := kat_snds (ks := vs) (vs := vs) rfl har
      rw [hout]
      have hps : p.size = vs.length := hp.sz
      refine wpAny_bind (seqEpoch_at ho6 rfl ?_)
      refine wpAny_bind (listUpdate_at ho6 rfl ?_ (Nat.zero_le _) (by simp [hps, sizeLine_eq]; omega))
      rw [hf]
      simp only [bne_self_eq_false, Bool.false_eq_true, if_false]
      have hh := h p.toList hp.lt hp.nd (by simp [hps]) (by
        rw [List.pairwise_iff_getElem]
        intro i j hi hj hij
        simp at hi hj
        have := hasc i j hij (by omega)
        simp [Array.getD, hi, hj] at this
        simpa [lt] using this)
      unfold sortedHeap at hh
      rw [hH] at hh
      exact wpAny_pure hh
theorem sorted_pairs {l : Addr} {vs : List Value} {xs : List (Int × Int)} {n : Nat} {Q : Value → Shared → Prop} (hl : IsL s.heap l vs.toArray n) (hv : All2 (PR s.heap) vs xs) (h64 : vs.length < 64) (hnd : xs.Nodup)
    (h : ∀ (p : List Nat), (∀ i ∈ p, i < vs.length) → p.Nodup → p.length = vs.length → (p.map fun i => xs.getD i (0, 0)).Pairwise (fun x y => plt x y = true) → Q (.ref (s.heap.objs.size + 1)) { s with heap := sortedAll s.heap vs (p.map fun i => vs.getD i Value.none).toArray }) :
    wpAny (model prog w) A (call (.builtin "sorted") [.ref l]) Q E s := by
  refine Calls.call_function_entry kind_sorted plain_sorted entry_sorted (args_sorted1 _) ?_
  unfold Builtin.«sorted»
  refine wpAny_bind (m := checkCount "sorted" 1 1 _) (wpAny_pure ?_)
  refine wpAny_bind (collect_list (isList_of hl) ?_ (by rw [sizeLine_eq]; omega))
  refine wpAny_bind (wpAny_newList ?_ (by rw [sizeLine_eq]; omega))
  have hsz : ((s.heap.push (seqObj "list" #[] 0)).update s.heap.objs.size (Obj.mapSeq (· ++ vs.toArray))).objs.size = s.heap.objs.size + 1 := by
    rw [Heap.size_update, size_push']
  have hoL : (((s.heap.push (seqObj "list" #[] 0)).update s.heap.objs.size (Obj.mapSeq (· ++ vs.toArray))).push (seqObj "list" vs.toArray 0)).get? (s.heap.objs.size + 1) = some (seqObj "list" vs.toArray 0) := by
    rw [← hsz]; exact Heap.get?_push_size _ rfl
  have hk : ∀ b o, s.heap.get? b = some o → (((s.heap.push (seqObj "list" #[] 0)).update s.heap.objs.size (Obj.mapSeq (· ++ vs.toArray))).push (seqObj "list" vs.toArray 0)).get? b = some o := fun b o e => by
    have hlt : b < s.heap.objs.size := Heap.lt_size e
    rw [Heap.get?_push_ne _ _ _ (by rw [hsz]; exact Nat.ne_of_lt (Nat.lt_succ_of_lt hlt)), Heap.get?_update_ne _ _ _ _ (Nat.ne_of_lt hlt), Heap.get?_push_ne _ _ _ (Nat.ne_of_lt hlt)]
    exact e
  show wpAny _ _ _ _ _ { s with heap := ((s.heap.push (seqObj "list" #[] 0)).update s.heap.objs.size (Obj.mapSeq (· ++ vs.toArray))).push (seqObj "list" vs.toArray 0) }
  rw [hsz]
  refine wpAny_bind (wpAny_holding (wpAny_call_entry slot_list_sort ⟨_, hoL, rfl⟩ entry_list_sort (sort_pairs (s := { s with heap := ((s.heap.push (seqObj "list" #[] 0)).update s.heap.objs.size (Obj.mapSeq (· ++ vs.toArray))).push (seqObj "list" vs.toArray 0) }) hoL (hv.imp fun v x ⟨b, t1, t2, n', e, e1⟩ => ⟨b, t1, t2, n', e, hk _ _ e1⟩) h64 hnd fun p a1 a2 a3 a4 => ⟨_, rfl, ?_⟩) (args_list_sort _)))
  exact wpAny_pure ⟨_, rfl, h p a1 a2 a3 a4⟩
end
section
variable {c : Cx} {A : Around} {σ : Led} {K : V → Led → Prop}
theorem B_sorted {p : Addr × AObj} {l : Addr} {xs : List (Int × Int)} (hl : (l, AObj.list (xs.map ptup)) ∈ p :: σ) (h64 : xs.length < 64) (hnd : xs.Nodup)
    (h : ∀ (D : Addr) (ys : List (Int × Int)), ys.Perm xs → ys.Pairwise (fun x y => plt x y = true) → K (.ref D) (p :: (D, .list (ys.map ptup)) :: σ)) : WN VR c A (fun vs => call (.builtin "sorted") vs) [.ref l] (p :: σ) K := by
  intro s Q E vs R hvs q
  cases hvs with
  | cons h1 r =>
    cases r; cases h1
    obtain ⟨ws, n, e, hw⟩ := R.ob _ hl
    have hpr : ∀ {ws : List Value} {xs : List (Int × Int)}, All2 (VR c.z s.heap) ws (xs.map ptup) → All2 (PR s.heap) ws xs := by
      intro ws
      induction ws with
      | nil => intro xs h; cases xs with | nil => exact .nil | cons _ _ => cases h
      | cons v ws ih =>
        intro xs h
        cases xs with
        | nil => cases h
        | cons x xs =>
          cases h with
          | cons h1 h2 =>
            obtain ⟨a, vs, n, e1, ⟨_, e2⟩, e3⟩ := h1
            obtain ⟨t1, t2, rfl⟩ := two_ints e3
            exact .cons ⟨a, t1, t2, n, e1, e2⟩ (ih h2)
    have hlen := hw.length
    simp at hlen
    refine sorted_pairs e (hpr hw) (by omega) hnd fun pl a1 a2 a3 a4 => ?_
    have hx : ∀ b o, s.heap.get? b = some o → (sortedAll s.heap ws (pl.map fun i => ws.getD i Value.none).toArray).get? b = some o := fun b o e => sortedAll_old e
    obtain ⟨e', he'⟩ := sortedAll_at s.heap ws (pl.map fun i => ws.getD i Value.none).toArray
    have hw2 : All2 (VR c.z s.heap) (pl.map fun i => ws.getD i Value.none) ((pl.map fun i => xs.getD i (0, 0)).map ptup) := by
      have := hw.mapIdx Value.none (ptup (0, 0)) a1
      have e3 : (pl.map fun i => xs.getD i (0, 0)).map ptup = pl.map fun i => (xs.map ptup).getD i (ptup (0, 0)) := by
        rw [List.map_map]; apply List.map_congr_left; intro i hi
        have : i < xs.length := by have := a1 i hi; omega
        simp [List.getD, this]
      rw [e3]; exact this
    have R' := R.newList (a := s.heap.objs.size + 1) (Xs := (pl.map fun i => xs.getD i (0, 0)).map ptup) (by omega) hx he' (hw2.imp fun _ _ => VR.ext fun _ _ _ _ e => hx _ _ e) s.toks
    refine q _ _ _ _ (h _ _ ?_ a4) rfl (R'.perm (List.Perm.swap ..)) (fun _ _ _ _ e => hx _ _ e)
    have pp : pl.Perm (List.range xs.length) := perm_full a2 (fun i hi => by have := a1 i hi; simp; omega) (by simp; omega)
    have := pp.map fun i => xs.getD i (0, 0)
    have e4 : ((List.range xs.length).map fun i => xs.getD i (0, 0)) = xs := by
      apply List.ext_getElem
      · simp
      · intro i h1 h2; simp at h1 h2 ⊢; rw [List.getElem?_eq_getElem h1]; rfl
    rwa [e4] at this
end
end
section
noncomputable abbrev gP (xs : List P2) (i : Nat) : P2 := xs.getD i (0, 0)
theorem gset {xs : List P2} {i j : Nat} {v : P2} (hi : i < xs.length) : gP (xs.set i v) j = if j = i then v else gP xs j := by
  unfold gP
  rw [List.getD_eq_getElem?_getD, List.getElem?_set, List.getD_eq_getElem?_getD]
  by_cases h : i = j
  · subst h; simp [hi]
  · have : ¬ j = i := fun e => h e.symm
    simp [h, this]
noncomputable def leP (a b : P2) : Prop := plt b a = false
theorem leP_iff {a b : P2} : leP a b ↔ a.1 < b.1 ∨ (a.1 = b.1 ∧ a.2 ≤ b.2) := by
  unfold leP
  rw [Bool.eq_false_iff, Ne, plt_iff]
  constructor
  · intro h
    rcases Int.lt_trichotomy a.1 b.1 with q | q | q
    · exact .inl q
    · exact .inr ⟨q, Int.not_lt.mp fun r => h (.inr ⟨q.symm, r⟩)⟩
    · exact absurd (.inl q) h
  · rintro (h | ⟨e, h⟩) (q | ⟨f, q⟩)
    · exact Int.lt_asymm h q
    · exact absurd f.symm (Int.ne_of_lt h)
    · exact absurd e.symm (Int.ne_of_lt q)
    · exact Int.not_lt.mpr h q
theorem leP_tr {a b d : P2} (h1 : leP a b) (h2 : leP b d) : leP a d := by
  rw [leP_iff] at *
  rcases h1 with h | ⟨e, h⟩ <;> rcases h2 with q | ⟨e2, q⟩
  · exact .inl (Int.lt_trans h q)
  · exact .inl (by rw [← e2]; exact h)
  · exact .inl (by rw [e]; exact q)
  · exact .inr ⟨e.trans e2, Int.le_trans h q⟩
theorem leP_rfl (a : P2) : leP a a := by rw [leP_iff]; exact .inr ⟨rfl, Int.le_refl _⟩
theorem leP_of {a b : P2} (h : plt a b = true) : leP a b := by rw [leP_iff]; rw [plt_iff] at h; exact h.imp id fun ⟨e, q⟩ => ⟨e, Int.le_of_lt q⟩
theorem set2_perm {xs : List P2} {i j : Nat} {v : P2} (hi : i < xs.length) (hj : j < xs.length) (hij : i ≠ j) : ((xs.set i (gP xs j)).set j v).Perm (xs.set i v) := by
  have hj' : j < (xs.set i (gP xs j)).length := by rw [List.length_set]; exact hj
  have e : (xs.set i (gP xs j))[j] = gP xs j := by rw [List.getElem_set_ne hij]; simp [gP, hj]
  rw [List.perm_iff_count]
  intro a
  rw [List.count_set hj', e, List.count_set hi, List.count_set hi, Nat.add_sub_cancel]
noncomputable def par (i : Nat) : Nat := (i - 1) / 2
theorem par_lt {i : Nat} (h : 0 < i) : par i < i := Nat.lt_of_le_of_lt (Nat.div_le_self _ _) (Nat.sub_lt h Nat.one_pos)
theorem par_ne {i : Nat} (h : 0 < i) : par i ≠ i := Nat.ne_of_lt (par_lt h)
theorem sd_perm (x : P2) : ∀ (pos : Nat) (xs : List P2), pos < xs.length → (sd x pos xs).Perm (xs.set pos x) := by
  intro pos
  induction pos using Nat.strongRecOn with
  | ind pos ih =>
    intro xs h
    by_cases h0 : pos = 0
    · subst h0; rw [sd_zero]
    · cases e : plt x (gP xs ((pos - 1) / 2)) with
      | true =>
        rw [sd_up h0 e]
        have hlt := par_lt (Nat.pos_of_ne_zero h0)
        exact (ih _ hlt _ (by rw [List.length_set]; exact Nat.lt_trans hlt h)).trans (set2_perm h (Nat.lt_trans hlt h) (Nat.ne_of_gt hlt))
      | false => rw [sd_stop h0 e]
noncomputable def Heap' (xs : List P2) : Prop := ∀ i, 0 < i → i < xs.length → leP (gP xs (par i)) (gP xs i)
/-- a heap but at pos -/
noncomputable def HeapUp (x : P2) (pos : Nat) (xs : List P2) : Prop :=
  (∀ i, 0 < i → i < xs.length → i ≠ pos → par i ≠ pos → leP (gP xs (par i)) (gP xs i)) ∧ (∀ i, 0 < i → i < xs.length → par i = pos → leP x (gP xs i)) ∧
  (∀ i, 0 < i → i < xs.length → par i = pos → 0 < pos → leP (gP xs (par pos)) (gP xs i))
theorem sd_heap (x : P2) : ∀ (pos : Nat) (xs : List P2), pos < xs.length → HeapUp x pos xs → Heap' (sd x pos xs) := by
  intro pos
  induction pos using Nat.strongRecOn with
  | ind pos ih =>
    intro xs h ⟨a1, a2, a3⟩
    by_cases h0 : pos = 0
    · subst h0
      rw [sd_zero]
      intro i hi hl
      simp only [List.length_set] at hl
      rw [gset h (j := par i), gset h (j := i), if_neg (Nat.ne_of_gt hi)]
      split
      · rename_i e; exact a2 i hi hl e
      · rename_i e; exact a1 i hi hl (Nat.ne_of_gt hi) e
    · have hpos := Nat.pos_of_ne_zero h0
      have hne := par_ne hpos
      cases e : plt x (gP xs ((pos - 1) / 2)) with
      | true =>
        rw [sd_up h0 e]
        have hp : (pos - 1) / 2 = par pos := rfl
        rw [hp] at e ⊢
        have hlt := par_lt hpos
        have hl' : par pos < xs.length := Nat.lt_trans hlt h
        refine ih _ hlt _ (by rw [List.length_set]; exact hl') ⟨fun i hi hl n1 n2 => ?_, fun i hi hl q => ?_, fun i hi hl q hq => ?_⟩
        · simp only [List.length_set] at hl
          rw [gset h, gset h]
          by_cases q1 : i = pos
          · subst q1; exact absurd rfl n2
          · rw [if_neg q1]
            split
            · rename_i q2; exact a3 i hi hl q2 hpos
            · rename_i q2; exact a1 i hi hl q1 q2
        · simp only [List.length_set] at hl
          rw [gset h]
          split
          · exact leP_of e
          · rename_i q1
            exact leP_tr (leP_of e) (q ▸ a1 i hi hl q1 (q ▸ hne))
        · simp only [List.length_set] at hl
          rw [gset h, gset h]
          have hpp : par (par pos) ≠ pos := Nat.ne_of_lt (Nat.lt_trans (par_lt hq) hlt)
          have hpar : leP (gP xs (par (par pos))) (gP xs (par pos)) := a1 (par pos) hq hl' hne hpp
          rw [if_neg hpp]
          split
          · exact hpar
          · rename_i q1
            exact leP_tr hpar (q ▸ a1 i hi hl q1 (q ▸ hne))
      | false =>
        rw [sd_stop h0 e]
        intro i hi hl
        simp only [List.length_set] at hl
        rw [gset h, gset h]
        by_cases q1 : i = pos
        · subst q1
          rw [if_neg hne, if_pos rfl]
          exact e
        · rw [if_neg q1]
          split
          · rename_i q2; exact a2 i hi hl q2
          · rename_i q2; exact a1 i hi hl q1 q2
theorem hpush_perm (xs : List P2) (x : P2) : (hpush xs x).Perm (x :: xs) := by
  unfold hpush
  refine (sd_perm x _ _ (by simp)).trans ?_
  have : (xs ++ [x]).set xs.length x = xs ++ [x] := by simp
  rw [this]
  exact List.perm_append_comm
theorem hpush_heap {xs : List P2} {x : P2} (h : Heap' xs) : Heap' (hpush xs x) := by
  unfold hpush
  have top : ∀ {i}, 0 < i → i < (xs ++ [x]).length → par i = xs.length → False := fun {i} hi hl q => by
    rw [List.length_append] at hl
    exact absurd (q ▸ par_lt hi) (Nat.not_lt.mpr (Nat.le_of_lt_succ hl))
  refine sd_heap x _ _ (by simp) ⟨fun i hi hl n1 n2 => ?_, fun i hi hl q => (top hi hl q).elim, fun i hi hl q _ => (top hi hl q).elim⟩
  rw [List.length_append] at hl
  have : i < xs.length := Nat.lt_of_le_of_ne (Nat.le_of_lt_succ hl) n1
  have e : ∀ {i}, i < xs.length → gP (xs ++ [x]) i = gP xs i := fun {i} this => by simp [gP, List.getElem?_append_left this]
  rw [e this, e (Nat.lt_trans (par_lt hi) this)]; exact h i hi this
theorem su_perm (v : P2) : ∀ (m pos : Nat) (xs : List P2), xs.length - pos = m → pos < xs.length → ((su pos xs).2.set (su pos xs).1 v).Perm (xs.set pos v) ∧ (su pos xs).2.length = xs.length ∧ (su pos xs).1 < xs.length := by
  intro m
  induction m using Nat.strongRecOn with
  | ind m ih =>
    intro pos xs hm h
    by_cases hc : 2 * pos + 1 < xs.length
    · rw [su_go hc]
      have k1 := @kid_gt pos xs
      have k2 := kid_lt hc
      obtain ⟨h1, h2, h3⟩ := ih (xs.length - kid pos xs) (hm ▸ Nat.sub_lt_sub_left h k1) (kid pos xs) (xs.set pos (gP xs (kid pos xs))) (by rw [List.length_set]) (by rw [List.length_set]; exact k2)
      rw [List.length_set] at h2 h3
      exact ⟨h1.trans (set2_perm h k2 (Nat.ne_of_lt k1)), h2, h3⟩
    · rw [su_end hc]
      exact ⟨List.Perm.refl _, rfl, h⟩
noncomputable def HeapDn (pos : Nat) (xs : List P2) : Prop :=
  (∀ i, 0 < i → i < xs.length → i ≠ pos → par i ≠ pos → leP (gP xs (par i)) (gP xs i)) ∧ (∀ i, 0 < i → i < xs.length → par i = pos → 0 < pos → leP (gP xs (par pos)) (gP xs i))
theorem kid_par {pos : Nat} {xs : List P2} : par (kid pos xs) = pos := by unfold kid par; split; (show (2 * pos + 1) / 2 = pos; rw [Nat.mul_add_div (by decide)]; rfl); (show (2 * pos) / 2 = pos; exact Nat.mul_div_cancel_left pos (by decide))
theorem kid_le {pos i : Nat} {xs : List P2} (hi : 0 < i) (hl : i < xs.length) (q : par i = pos) : leP (gP xs (kid pos xs)) (gP xs i) := by
  have hi' : i = 2 * pos + 1 ∨ i = 2 * pos + 2 := by
    have h := Nat.div_add_mod (i - 1) 2
    rw [show (i - 1) / 2 = pos from q] at h
    have e : i = 2 * pos + (i - 1) % 2 + 1 := by rw [h]; exact (Nat.sub_add_cancel hi).symm
    rcases Nat.mod_two_eq_zero_or_one (i - 1) with r | r <;> rw [r] at e
    · exact .inl e
    · exact .inr e
  unfold kid
  split
  · rename_i h
    rcases hi' with rfl | rfl
    · exact h.2
    · exact leP_rfl _
  · rename_i h
    rcases hi' with rfl | rfl
    · exact leP_rfl _
    · have : plt (gP xs (2 * pos + 1)) (gP xs (2 * pos + 2)) = true := by
        cases e : plt (gP xs (2 * pos + 1)) (gP xs (2 * pos + 2)) with
        | true => rfl
        | false => exact absurd ⟨hl, e⟩ h
      exact leP_of this
theorem su_heap : ∀ (m pos : Nat) (xs : List P2), xs.length - pos = m → pos < xs.length → HeapDn pos xs → HeapDn (su pos xs).1 (su pos xs).2 ∧ ¬ 2 * (su pos xs).1 + 1 < (su pos xs).2.length := by
  intro m
  induction m using Nat.strongRecOn with
  | ind m ih =>
    intro pos xs hm h ⟨a1, a2⟩
    by_cases hc : 2 * pos + 1 < xs.length
    · rw [su_go hc]
      have k1 := @kid_gt pos xs
      have k2 := kid_lt hc
      have k3 := @kid_par pos xs
      refine ih (xs.length - kid pos xs) (hm ▸ Nat.sub_lt_sub_left h k1) (kid pos xs) (xs.set pos (gP xs (kid pos xs))) (by rw [List.length_set]) (by rw [List.length_set]; exact k2) ⟨fun i hi hl n1 n2 => ?_, fun i hi hl q _ => ?_⟩
      · simp only [List.length_set] at hl
        rw [gset h, gset h]
        by_cases q1 : i = pos
        · subst q1
          rw [if_neg (par_ne hi), if_pos rfl]
          exact a2 _ (Nat.lt_trans hi k1) k2 k3 hi
        · rw [if_neg q1]
          split
          · rename_i q2; exact kid_le hi hl q2
          · rename_i q2; exact a1 i hi hl q1 q2
      · simp only [List.length_set] at hl
        rw [gset h, gset h, k3, if_pos rfl]
        have : i ≠ pos := Nat.ne_of_gt (Nat.lt_trans k1 (q ▸ par_lt hi))
        rw [if_neg this]
        have := a1 i hi hl this (q ▸ Nat.ne_of_gt k1)
        rwa [q] at this
    · rw [su_end hc]
      exact ⟨⟨a1, a2⟩, hc⟩
theorem sup_perm {xs : List P2} (h : xs ≠ []) : (sup xs).Perm xs := by
  have h0 : 0 < xs.length := List.length_pos_iff.mpr h
  unfold sup
  obtain ⟨p1, p2, p3⟩ := su_perm (gP xs 0) _ 0 xs rfl h0
  refine (sd_perm _ _ _ (by rw [List.length_set, p2]; exact p3)).trans ?_
  have : ((su 0 xs).2.set (su 0 xs).1 (gP xs 0)).set (su 0 xs).1 (gP xs 0) = (su 0 xs).2.set (su 0 xs).1 (gP xs 0) := by simp
  rw [this]
  refine p1.trans ?_
  have : xs.set 0 (gP xs 0) = xs := by
    cases xs with
    | nil => exact absurd rfl h
    | cons a l => simp [gP]
  rw [this]
theorem sup_heap {xs : List P2} (h : xs ≠ []) (ha : ∀ i, 0 < i → i < xs.length → par i ≠ 0 → leP (gP xs (par i)) (gP xs i)) : Heap' (sup xs) := by
  have h0 : 0 < xs.length := List.length_pos_iff.mpr h
  unfold sup
  obtain ⟨p1, p2, p3⟩ := su_perm (gP xs 0) _ 0 xs rfl h0
  obtain ⟨⟨b1, b2⟩, b3⟩ := su_heap _ 0 xs rfl h0 ⟨fun i hi hl _ n2 => ha i hi hl n2, fun i _ _ _ h => absurd h (Nat.lt_irrefl _)⟩
  have hl' : (su 0 xs).1 < (su 0 xs).2.length := p2.symm ▸ p3
  have low : ∀ {i}, 0 < i → i < (su 0 xs).2.length → par i = (su 0 xs).1 → False := fun {i} hi hl q => b3 (by
    refine Nat.lt_of_le_of_lt ?_ hl
    rw [← q]
    exact Nat.le_trans (Nat.succ_le_succ (Nat.mul_div_le (i - 1) 2)) (Nat.le_of_eq (Nat.sub_add_cancel hi)))
  refine sd_heap _ _ _ (by rw [List.length_set]; exact hl') ⟨fun i hi hl n1 n2 => ?_, fun i hi hl q => ?_, fun i hi hl q hq => ?_⟩
  · simp only [List.length_set] at hl
    rw [gset hl', gset hl', if_neg n1, if_neg n2]
    exact b1 i hi hl n1 n2
  · rw [List.length_set] at hl; exact (low hi hl q).elim
  · rw [List.length_set] at hl; exact (low hi hl q).elim
theorem heap_min {xs : List P2} (h : Heap' xs) : ∀ i, i < xs.length → leP (gP xs 0) (gP xs i) := by
  intro i
  induction i using Nat.strongRecOn with
  | ind i ih =>
    intro hl
    by_cases h0 : i = 0
    · subst h0; exact leP_rfl _
    · have hi := Nat.pos_of_ne_zero h0
      exact leP_tr (ih (par i) (par_lt hi) (Nat.lt_trans (par_lt hi) hl)) (h i hi hl)
theorem hpop_perm {xs : List P2} (h : xs ≠ []) : ((hpop xs).1 :: (hpop xs).2).Perm xs := by
  unfold hpop
  have h0 : 0 < xs.length := List.length_pos_iff.mpr h
  by_cases h1 : xs.length = 1
  · rw [if_pos h1]
    obtain ⟨a, rfl⟩ := List.length_eq_one_iff.mp h1
    simp
  · rw [if_neg h1]
    have hd : xs.dropLast.length = xs.length - 1 := by simp
    have hne : xs.dropLast.set 0 (gP xs (xs.length - 1)) ≠ [] := by intro e; have := congrArg List.length e; simp at this; omega
    refine ((sup_perm hne).cons _).trans ?_
    match xs, h1, h0 with
    | a :: b :: l, _, _ =>
      have e1 : (a :: b :: l).dropLast.set 0 (gP (a :: b :: l) ((a :: b :: l).length - 1)) = gP (a :: b :: l) ((a :: b :: l).length - 1) :: (b :: l).dropLast := by simp
      rw [e1]
      have e2 : gP (a :: b :: l) ((a :: b :: l).length - 1) = (b :: l).getLast (by simp) := by
        rw [List.getLast_eq_getElem]; simp [gP]
      rw [e2]
      show ((a :: (b :: l).getLast _ :: (b :: l).dropLast)).Perm (a :: b :: l)
      refine List.Perm.cons a ?_
      have := List.dropLast_concat_getLast (l := b :: l) (by simp)
      calc _ = [(b :: l).getLast (by simp)] ++ (b :: l).dropLast := rfl
        _ |>.Perm ((b :: l).dropLast ++ [(b :: l).getLast (by simp)]) := List.perm_append_comm
        _ = b :: l := this
theorem hpop_ok {xs : List P2} (h : xs ≠ []) (hh : Heap' xs) : ((hpop xs).1 :: (hpop xs).2).Perm xs ∧ Heap' (hpop xs).2 ∧ (hpop xs).1 = gP xs 0 := by
  refine ⟨hpop_perm h, ?_⟩
  unfold hpop
  have h0 : 0 < xs.length := List.length_pos_iff.mpr h
  by_cases h1 : xs.length = 1
  · rw [if_pos h1]
    obtain ⟨a, rfl⟩ := List.length_eq_one_iff.mp h1
    exact ⟨fun i hi hl => by simp at hl, rfl⟩
  · rw [if_neg h1]
    have hd : xs.dropLast.length = xs.length - 1 := by simp
    have hl0 : 0 < xs.dropLast.length := by omega
    have hne : xs.dropLast.set 0 (gP xs (xs.length - 1)) ≠ [] := by intro e; have := congrArg List.length e; simp at this; omega
    refine ⟨sup_heap hne fun i hi hl n => ?_, rfl⟩
    · simp only [List.length_set, hd] at hl
      rw [gset hl0, gset hl0, if_neg n, if_neg (by omega)]
      have hp : par i < xs.length - 1 := by unfold par; omega
      have e1 : gP xs.dropLast i = gP xs i := by unfold gP; rw [List.getD_eq_getElem?_getD, List.getD_eq_getElem?_getD, List.getElem?_dropLast, if_pos hl]
      have e2 : gP xs.dropLast (par i) = gP xs (par i) := by unfold gP; rw [List.getD_eq_getElem?_getD, List.getD_eq_getElem?_getD, List.getElem?_dropLast, if_pos hp]
      rw [e1, e2]
      exact hh i hi (by omega)
end
local macro_rules | `(tactic| walk_at "go") => `(tactic| first
  | with_reducible first | refine WT_nil ?_ | refine WT_one ?_ | refine C_seq ?_ | refine C_sne ?_
  | ((with_reducible show W1 _ _ _ (storeName _ _) _ _ _); refine' W_storeC ?hu ?_ (by rfl) (by rfl); (case hu => walk_at "at"))
  | ((with_reducible show WF _ _ (exec (Stmt.AugAssign (Expr.Name _ _) _ _ _) _) _ _); refine WF_AugName ?_)
  | ((with_reducible show WF _ _ (exec (Stmt.Assign [Expr.Tuple _ _ _] _ _) _) _ _); refine WF_AssignTup ?_)
  | ((with_reducible show W2 _ _ _ (binaryOp Operator.Mult) (V.int _) (V.int _) _ _); first
    | refine O_mul (IntMulOk.of_right (by decide)) ?_
    | refine O_mul (IntMulOk.of_left (by decide)) ?_)
  | ((with_reducible show Mine.W _ _ (eval (Expr.Call (Expr.Name _ _) _ _ _) _) _ _); refine W_CallT (by walk_at "at") (by walk_at "at") ?_))
local macro_rules | `(tactic| walk_at "go") => `(tactic| ((with_reducible show Mine.W _ _ (eval (Expr.Name _ _) _) _ _); refine' W_cell ?hC ?_ (by rfl) (by rfl); (case hC => walk_at "at")))
local macro_rules | `(tactic| walk_at "go") => `(tactic| ((with_reducible show Mine.W _ _ (eval (Expr.Name _ _) _) _ _); refine W_loc (by walk_at "at") ?_))
theorem map_getE {α β : Type} {f : α → β} {l : List α} {i : Nat} {X : β} (h : (l.map f)[i]? = some X) : ∃ k, l[i]? = some k ∧ X = f k := by
  rw [List.getElem?_map] at h
  cases hb : l[i]? with
  | none => rw [hb] at h; cases h
  | some b => rw [hb] at h; cases h; exact ⟨b, rfl, rfl⟩
noncomputable def nats (l : List Nat) : List Int := l.map fun (k : Nat) => (k : Int)
theorem law_octets_spec {c : Cx} {A : Around} {σ : Led} {K : V → Led → Prop} {x : Str} (hh : A.handled = none) (hA : A.depth < 890) (ha : x.cps.all (· < 128) = true) (hn : x.cps.size < 100000)
    (h : K (.bytes (x.cps.toList.map fun k => k.toUInt8)) σ) :
    WN VR c A (fun vs => call (.ref 177) vs) [.str x] σ K := by
  refine W_def (names := ["word"]) (others := []) [(Str.ofString "word", some (.str x))]
    (c.inK 177 _ rfl) ⟨_, _, _, c.inK 176 _ rfl, rfl, rfl⟩ (fun s vs _ => binds1 (fun _ => BindsTo.of_eq rfl) vs) rfl rfl (by decide +kernel) rfl (by decide) (by omega) rfl rfl rfl ?_
  intro L A' a1 a2 a3
  repeat walk_at "gi"
  refine W_CompF (need := fun _ => True) (items := x.cps.toList.map fun k => V.str ⟨#[k]⟩) [(Str.ofString ".0", .local), (Str.ofString "sign", .local), (Str.ofString "ord", .globalImplicit)] [] [(Str.ofString ".0", none), (Str.ofString "sign", none)]
    (fun i ys ρ τ => ys = (nats (x.cps.toList.take i)).map V.int ∧ ρ = [(Str.ofString "word", some (.str x))] ∧ τ = σ) (fun _ _ _ => trivial) (fun _ _ _ _ _ => trivial) (by simp; omega) rfl rfl rfl rfl (by decide +kernel) (by decide) (by decide +kernel) ?_ ?_ ?_
  · repeat walk_at "gi"
    exact ⟨(It_str (by rw [a3]; exact hh) ha).at trivial, _, _, rfl, by simp [nats], rfl, rfl⟩
  · rintro JC mC C D i X ys ρ τ p hi ⟨rfl, rfl, rfl⟩
    obtain ⟨k, hk, rfl⟩ := map_getE hi
    repeat walk_at "gi"
    refine B_ord ?_
    refine CompF.mk' (Sub.refl _) rfl (mC _ _ _ _ ⟨?_, rfl, rfl⟩)
    rw [List.take_add_one, hk]; simp [nats]
  · rintro D ys ρ τ ⟨rfl, rfl, rfl⟩
    have e0 : x.cps.toList.take ((x.cps.toList.map fun k => V.str ⟨#[k]⟩).length) = x.cps.toList := by rw [List.length_map, List.take_length]
    rw [e0]
    repeat walk_at "gi"
    refine B_bytes (ns := nats x.cps.toList) (by rw [a3]; exact hh) (by walk_at "at") ?_ ?_ ?_
    · intro n hn
      obtain ⟨a, ha', rfl⟩ := List.mem_map.mp hn
      have ha' : a ∈ x.cps := by simpa using ha'
      rw [Array.all_eq_true'] at ha
      have := ha a ha'
      simp at this
      omega
    · simp [nats]; omega
    · repeat walk_at "gi"
      refine Ret.ret' (Sub.skip (Sub.skip (Sub.refl _))) ?_
      have e : byteL (nats x.cps.toList) = x.cps.toList.map fun k => k.toUInt8 := by
        unfold byteL nats; rw [List.map_map]; exact List.map_congr_left fun a _ => by simp
      rw [e]; exact h
theorem fd_ok {a b : Int} (hb : b.natAbs < 2 ^ 64) : Builtin.divisionGoesByPylong a b = false := by
  have : ¬ ((if (b == 0) = true then 0 else b.natAbs.log2 / 30 + 1) > 300) := by
    have hl : b.natAbs.log2 < 64 ∨ b.natAbs = 0 := by
      by_cases h0 : b.natAbs = 0
      · exact .inr h0
      · exact .inl ((Nat.log2_lt h0).mpr hb)
    split
    · omega
    · rcases hl with h | h
      · omega
      · simp [h]
  unfold Builtin.divisionGoesByPylong
  simp only [this, decide_false, Bool.false_and]
theorem B_tlen {c : Cx} {A : Around} {σ : Led} {K : V → Led → Prop} {l : List At} (hn : l.length ≤ 1000000) (h : K (.int l.length) σ) : WN VR c A (fun vs => call (.builtin "len") vs) [.tup l] σ K := by
  intro s Q E vs R hvs q
  cases hvs with
  | cons h1 r =>
    cases r
    obtain ⟨a, vs, n, rfl, ⟨_, e2⟩, e3⟩ := h1
    have hlen := e3.length
    refine len_tuple (items := vs.toArray) ⟨_, e2, rfl, n, rfl⟩ (by simp; omega) (q _ _ _ _ h ⟨s.toks + 1, by simp [hlen]⟩ (R.toks _) (Ext.refl _))
/-- the signs of the law's alphabet -/
noncomputable def signsL (p q : Nat) : List Nat := (Str.ofString "ABCDEFGHIJKLMNOPQRSTUVWXYZabcdefghijklmnopqrstuvwxyz0123456789").cps.toList ++ [p] ++ [q]
noncomputable def numL (a b d : Int) : Int := ((0 * 256 + a) * 256 + b) * 256 + d
noncomputable def sgn (p q : Nat) (n : Int) (e : Nat) : Nat := (signsL p q).getD ((n.fdiv (64 ^ e)).fmod 64).toNat 0
noncomputable def writtenL (a b d : Int) (p q : Nat) : List Nat := [3, 2, 1, 0].map fun e => sgn p q (numL a b d) e
theorem ab_len : (Str.ofString "ABCDEFGHIJKLMNOPQRSTUVWXYZabcdefghijklmnopqrstuvwxyz0123456789").length = 62 := by decide +kernel
theorem ab_len' : (Str.ofString "ABCDEFGHIJKLMNOPQRSTUVWXYZabcdefghijklmnopqrstuvwxyz0123456789").cps.toList.length = 62 := by decide +kernel
theorem law_written_spec {c : Cx} {A : Around} {σ : Led} {K : V → Led → Prop} {a b d : Int} {p q : UInt8} (hh : A.handled = none) (hA : A.depth < 890)
    (ha : 0 ≤ a ∧ a < 256) (hb : 0 ≤ b ∧ b < 256) (hd : 0 ≤ d ∧ d < 256)
    (h : K (.str (S (writtenL a b d p.toNat q.toNat))) σ) :
    WN VR c A (fun vs => call (.ref 182) vs) [.tup [.int a, .int b, .int d], .bytes [p, q]] σ K := by
  refine W_defC (names := ["octets", "pair"]) [(Str.ofString "octets", some (.tup [.int a, .int b, .int d])), (Str.ofString "pair", some (.bytes [p, q])), (Str.ofString "octet", none), (Str.ofString "spare", none), (Str.ofString "word", none)]
    (fun L => [(Str.ofString "count", L + 1 + 1 + 1), (Str.ofString "number", L + 1 + 1), (Str.ofString "signs", L + 1)]) (fun L τ => (L + 1 + 1 + 1, .cell none) :: (L + 1 + 1, .cell none) :: (L + 1, .cell none) :: τ)
    (c.inK 182 _ rfl) ⟨_, _, _, c.inK 181 _ rfl, rfl, rfl⟩ (fun s vs _ => binds2 (fun _ _ => BindsTo.of_eq rfl) vs) rfl rfl (fun _ => rfl) (fun _ _ => rfl) (by decide +kernel) (by decide +kernel) (by decide +kernel) (cells_in ["count", "number", "signs"] (fun _ => rfl) (by decide +kernel)) (by omega) rfl rfl rfl ?_
  intro L A' a1 a2 a3
  repeat walk_at "gi"
  refine O_bitem (by simp) (by decide) rfl ?_
  repeat walk_at "gi"
  refine B_chr (by omega) (by have := p.toNat_lt; omega) ?_
  refine O_sadd (by rw [len_S, ab_len]; simp) ?_
  repeat walk_at "gi"
  refine O_bitem (by simp) (by decide) rfl ?_
  repeat walk_at "gi"
  refine B_chr (by omega) (by have := q.toNat_lt; omega) ?_
  refine O_sadd (by rw [len_S, len_S, S_list, List.length_append, ab_len']; simp) ?_
  rw [S_list, S_list]
  repeat walk_at "gi"
  refine WF_For (items := [At.int a, .int b, .int d].map atV) (need := fun _ => True)
    (fun i ρ τ => ∃ o, ρ = [(Str.ofString "octets", some (.tup [.int a, .int b, .int d])), (Str.ofString "pair", some (.bytes [p, q])), (Str.ofString "octet", o), (Str.ofString "spare", none), (Str.ofString "word", none)] ∧
      τ = (L + 1 + 1 + 1, .cell none) :: (L + 1 + 1, .cell (some (.int (([a, b, d].take i).foldl (fun n o => n * 256 + o) 0)))) :: (L + 1, .cell (some (.str (S (signsL p.toNat q.toNat))))) :: σ)
    (fun _ _ _ => trivial) ?_ (fun _ _ _ _ => trivial) ?_ ?_
  · repeat walk_at "gi"
    exact ⟨(It_tuple (by rw [a3]; exact hh)).at trivial, _, _, rfl, none, rfl, by simp [signsL, S]⟩
  · rintro JF mF i X ρ τ pp hi ⟨o, rfl, rfl⟩
    obtain ⟨x, hx, rfl⟩ : ∃ x, [a, b, d][i]? = some x ∧ X = .int x := by
      match i, hi with
      | 0, hi => exact ⟨a, rfl, by simpa [atV] using hi.symm⟩
      | 1, hi => exact ⟨b, rfl, by simpa [atV] using hi.symm⟩
      | 2, hi => exact ⟨d, rfl, by simpa [atV] using hi.symm⟩
      | i + 3, hi => simp at hi
    repeat walk_at "gi"
    refine TurnI.next' (Sub.refl _) (mF _ _ _ ⟨_, rfl, ?_⟩)
    rw [List.take_add_one, hx]; simp
  · rintro ρ τ ⟨o, rfl, rfl⟩
    have e : ([a, b, d].take (List.map atV [At.int a, .int b, .int d]).length).foldl (fun n o => n * 256 + o) 0 = numL a b d := by simp [numL]
    rw [e]
    repeat walk_at "gi"
    refine B_tlen (by simp) ?_
    repeat walk_at "gi"
    rw [show ((0 : Int) - (([At.int a, .int b, .int d].length : Nat) : Int)).fmod 3 = 0 from rfl]
    refine O_pow (by decide) (by decide) (by decide) ?_
    rw [show (256 : Int) ^ (0 : Int).toNat = 1 from rfl]
    repeat walk_at "gi"
    refine B_tlen (by simp) ?_
    repeat walk_at "gi"
    refine O_fdiv (by decide) (fd_ok (by decide)) ?_
    rw [show ((([At.int a, .int b, .int d].length : Nat) : Int) + 0).fdiv 3 = 1 by simp only [List.length_cons, List.length_nil]; decide]
    repeat walk_at "gi"
    rw [show (1 : Int) * 4 = 4 from rfl, show numL a b d * 1 = numL a b d by omega]
    with_reducible refine W_MethH "str.join" ?_ ?g1 ?g2 ?g3 ?g4
    case g4 => rfl
    case g3 => trace "g3"; rfl
    case g2 => trace "g2"; rfl
    case g1 => trace "g1"; rfl
    repeat walk_at "gi"
    refine ⟨Meth.str F.slot_str_join F.type_str_join, ?_⟩
    repeat walk_at "gi"
    refine W_CompF (need := fun _ => True) (items := (span 0 4).map V.int)
      [(Str.ofString ".0", .local), (Str.ofString "j", .local), (Str.ofString "count", .cell), (Str.ofString "number", .cell), (Str.ofString "signs", .cell)]
      [(Str.ofString "signs", L + 1), (Str.ofString "number", L + 1 + 1), (Str.ofString "count", L + 1 + 1 + 1)] [(Str.ofString ".0", none), (Str.ofString "j", none)]
      (fun i ys ρ τ => ys = (([3, 2, 1, 0].take i).map fun e => S [sgn p.toNat q.toNat (numL a b d) e]).map V.str ∧ ρ = [(Str.ofString "octets", some (.tup [.int a, .int b, .int d])), (Str.ofString "pair", some (.bytes [p, q])), (Str.ofString "octet", o), (Str.ofString "spare", some (.int 0)), (Str.ofString "word", none)] ∧
        ∃ r, τ = (r, rangeE 0 4) :: (L + 1 + 1 + 1, .cell (some (.int 4))) :: (L + 1 + 1, .cell (some (.int (numL a b d)))) :: (L + 1, .cell (some (.str (S (signsL p.toNat q.toNat))))) :: σ)
      (fun _ _ _ => trivial) (fun _ _ _ _ _ => trivial) (by simp [span]) rfl rfl rfl rfl (by decide +kernel) (by decide) (by decide +kernel) ?_ ?_ ?_
    · repeat walk_at "gi"
      refine B_range1 fun r => ?_
      exact ⟨It_range (by rw [a3]; exact hh) (by decide) (by decide) (by decide) (by decide) (.tail _ (.head _)), _, _, rfl, rfl, rfl, r, rfl⟩
    · rintro JC mC C D i X ys ρ τ pp hi ⟨rfl, rfl, r, rfl⟩
      obtain ⟨e, he, hX, he4⟩ : ∃ e : Nat, [3, 2, 1, 0][i]? = some e ∧ X = .int (4 - 1 - (e : Int)) ∧ e < 4 := by
        match i, hi with
        | 0, hi => exact ⟨3, rfl, by simpa [span] using hi.symm, by decide⟩
        | 1, hi => exact ⟨2, rfl, by simpa [span] using hi.symm, by decide⟩
        | 2, hi => exact ⟨1, rfl, by simpa [span] using hi.symm, by decide⟩
        | 3, hi => exact ⟨0, rfl, by simpa [span] using hi.symm, by decide⟩
        | i + 4, hi => simp [span] at hi
      subst hX
      repeat walk_at "gi"
      rw [show (4 : Int) - 1 - (4 - 1 - (e : Int)) = (e : Int) by omega]
      refine O_pow (by omega) (by omega) (by decide) ?_
      rw [Int.toNat_natCast]
      have hp : 0 < (64 : Int) ^ e := Int.pow_pos (by decide)
      have hp2 : ((64 : Int) ^ e).natAbs < 2 ^ 64 := by
        match e, he4 with
        | 0, _ => decide
        | 1, _ => decide
        | 2, _ => decide
        | 3, _ => decide
      refine O_fdiv (by omega) (fd_ok hp2) ?_
      repeat walk_at "gi"
      have hb : 0 ≤ ((numL a b d).fdiv (64 ^ e)).fmod 64 ∧ ((numL a b d).fdiv (64 ^ e)).fmod 64 < 64 := by
        rw [Int.fmod_eq_emod_of_nonneg _ (by decide)]; omega
      have hlt : (((numL a b d).fdiv (64 ^ e)).fmod 64).toNat < (signsL p.toNat q.toNat).length := by
        unfold signsL; rw [List.length_append, List.length_append, ab_len']; simp; omega
      refine O_sitem (d := sgn p.toNat q.toNat (numL a b d) e) hb.1 (by omega) (by rw [S_list]; unfold sgn; simp [List.getD, hlt]) ?_
      refine CompF.mk' (Sub.refl _) rfl (mC _ _ _ _ ⟨?_, rfl, r, rfl⟩)
      rw [List.take_add_one, he]; simp
    · rintro D ys ρ τ ⟨rfl, rfl, r, rfl⟩
      repeat walk_at "gi"
      refine B_join (ys := [3, 2, 1, 0].map fun e => S [sgn p.toNat q.toNat (numL a b d) e]) (z := S (writtenL a b d p.toNat q.toNat)) (by simp [span]) ?_ ?_ ?_
      · exact joinOk_S _ (by simp [len_S])
      · rw [join_S]; simp [S_list, writtenL, List.flatten]
      repeat walk_at "gi"
      with_reducible refine W_sliceS ?_ ?ht
      case ht => intro _ _; rfl
      repeat walk_at "gi"
      refine ⟨_, _, S (writtenL a b d p.toNat q.toNat), rfl, rfl, by rw [len_S]; simp [writtenL], by simp [writtenL, S]; rfl, ?_⟩
      repeat walk_at "gi"
      refine O_smul1 (z := S []) ⟨by decide, fun h => absurd h (by decide), fun h => absurd h (by decide)⟩ (by decide +kernel) ?_
      refine O_sadd (by rw [len_S, len_S]; simp [writtenL]) ?_
      rw [S_list, S_list, List.append_nil]
      repeat walk_at "gi"
      refine Ret.ret' (Sub.skip (Sub.skip (Sub.skip (Sub.skip (Sub.skip (Sub.skip (Sub.refl _))))))) h
noncomputable def esc1 (k : Nat) : List Nat := if k = 34 ∨ k = 92 then [92, k] else [k]
noncomputable def esc2 (k : Nat) : List Nat := if k = 34 ∨ k = 92 ∨ k = 32 then [92, k] else [k]
noncomputable def sepL (way : Int) : Nat := [32, 9, 13].getD ((way.fdiv 2).fmod 3).toNat 0
noncomputable def spelledL (w : List Nat) (way : Int) : List Nat := if way.fmod 2 = 0 then [34] ++ (w.map esc1).flatten ++ [34] else (w.map esc2).flatten ++ [sepL way]
theorem in_q1 (k : Nat) : (!(Builtin.Str.occurrences (Str.ofString "\"\\") (S [k]) 0 (Str.ofString "\"\\").length 1).isEmpty) = decide (k = 34 ∨ k = 92) := by
  rw [show S [k] = ⟨#[k]⟩ from rfl, StrLaws.found_one, show (Str.ofString "\"\\").cps.toList = [34, 92] by decide +kernel]
  simp
theorem in_q2 (k : Nat) : (!(Builtin.Str.occurrences (Str.ofString "\"\\ ") (S [k]) 0 (Str.ofString "\"\\ ").length 1).isEmpty) = decide (k = 34 ∨ k = 92 ∨ k = 32) := by
  rw [show S [k] = ⟨#[k]⟩ from rfl, StrLaws.found_one, show (Str.ofString "\"\\ ").cps.toList = [34, 92, 32] by decide +kernel]
  simp
theorem bs1 : (Str.ofString "\\").cps.toList = [92] := by decide +kernel
theorem bsl1 : (Str.ofString "\\").length = 1 := by decide +kernel
theorem sum_le {l : List Nat} {f : Nat → List Nat} (hf : ∀ k, (f k).length ≤ 2) : ((l.map fun k => S (f k)).map fun s => s.length).sum ≤ 2 * l.length := by
  induction l with
  | nil => simp
  | cons x l ih => have := hf x; simp [len_S] at ih ⊢; omega
theorem flat_le {l : List Nat} {f : Nat → List Nat} (hf : ∀ k, (f k).length ≤ 2) : (l.map f).flatten.length ≤ 2 * l.length := by
  induction l with
  | nil => simp
  | cons x l ih => have := hf x; simp at ih ⊢; omega
theorem esc1_le (k : Nat) : (esc1 k).length ≤ 2 := by unfold esc1; split <;> simp
theorem esc2_le (k : Nat) : (esc2 k).length ≤ 2 := by unfold esc2; split <;> simp
inductive S1J (x : List Nat) (way : Int) (σ : Led) (i : Nat) (ys : List V) (ρ : List (Str × Option V)) (τ : Led) : Prop
  | mk  (_ : ys = ((x.take i).map fun k => S (esc1 k)).map V.str) (_ : ρ = [(Str.ofString "word", some (.str (S x))), (Str.ofString "way", some (.int way))]) (_ : τ = σ)
inductive S2J (x : List Nat) (way : Int) (σ : Led) (i : Nat) (ys : List V) (ρ : List (Str × Option V)) (τ : Led) : Prop
  | mk  (_ : ys = ((x.take i).map fun k => S (esc2 k)).map V.str) (_ : ρ = [(Str.ofString "word", some (.str (S x))), (Str.ofString "way", some (.int way))]) (_ : τ = σ)
theorem law_spelled_spec {c : Cx} {A : Around} {σ : Led} {K : V → Led → Prop} {x : List Nat} {way : Int} (hh : A.handled = none) (hA : A.depth < 890) (ha : ∀ k ∈ x, k < 128) (hn : x.length < 100000)
    (h : K (.str (S (spelledL x way))) σ) :
    WN VR c A (fun vs => call (.ref 187) vs) [.str (S x), .int way] σ K := by
  have ha' : (S x).cps.all (· < 128) = true := by simp [S]; exact ha
  refine W_def (names := ["word", "way"]) (others := []) [(Str.ofString "word", some (.str (S x))), (Str.ofString "way", some (.int way))]
    (c.inK 187 _ rfl) ⟨_, _, _, c.inK 186 _ rfl, rfl, rfl⟩ (fun s vs _ => binds2 (fun _ _ => BindsTo.of_eq rfl) vs) rfl rfl (by decide +kernel) rfl (by decide) (by omega) rfl rfl rfl ?_
  intro L A' a1 a2 a3
  repeat walk_at "gi"
  refine ⟨fun hz => ?_, fun hz => ?_⟩
  · repeat walk_at "gi"
    with_reducible refine W_MethH "str.join" ?_ ?g1 ?g2 ?g3 ?g4
    case g4 => rfl
    case g3 => rfl
    case g2 => rfl
    case g1 => rfl
    repeat walk_at "gi"
    refine ⟨Meth.str F.slot_str_join F.type_str_join, ?_⟩
    repeat walk_at "gi"
    refine W_CompF (need := fun _ => True) (items := (S x).cps.toList.map fun k => V.str ⟨#[k]⟩) [(Str.ofString ".0", .local), (Str.ofString "sign", .local)] [] [(Str.ofString ".0", none), (Str.ofString "sign", none)]
      (S1J x way σ) (fun _ _ _ => trivial) (fun _ _ _ _ _ => trivial) (by simp [S]; omega) rfl rfl rfl rfl (by decide +kernel) (by decide) (by decide +kernel) ?_ ?_ ?_
    · repeat walk_at "gi"
      exact ⟨(It_str (by rw [a3]; exact hh) ha').at trivial, _, _, rfl, by simp, rfl, rfl⟩
    · rintro JC mC C D i X ys ρ τ p hi ⟨rfl, rfl, rfl⟩
      obtain ⟨k, hk, rfl⟩ := map_getE hi
      rw [S_list] at hk
      repeat walk_at "gi"
      refine C_sin (in_q1 k) ?_
      refine T_bool ?_
      refine ⟨fun hz' => ?_, fun hz' => ?_⟩
      · repeat walk_at "gi"
        refine O_sadd (by rw [show (⟨#[k]⟩ : Str) = S [k] from rfl, len_S, bsl1]; simp) ?_
        rw [show (⟨#[k]⟩ : Str) = S [k] from rfl, S_list, bs1]
        refine CompF.mk' (Sub.refl _) rfl (mC _ _ _ _ ⟨?_, rfl, rfl⟩)
        rw [List.take_add_one, hk]
        simp at hz'
        simp [esc1, hz']
      · repeat walk_at "gi"
        refine CompF.mk' (Sub.refl _) rfl (mC _ _ _ _ ⟨?_, rfl, rfl⟩)
        rw [List.take_add_one, hk]
        simp at hz'
        simp [esc1, hz', S]
    · rintro D ys ρ τ ⟨rfl, rfl, rfl⟩
      rw [List.length_map, S_list, List.take_length]
      repeat walk_at "gi"
      refine B_join (z := S (x.map esc1).flatten) (by walk_at "at") (joinOk_S _ (Nat.le_trans (sum_le esc1_le) (by omega))) (by rw [join_S, List.map_map]; congr 1) ?_
      have hf := flat_le (l := x) esc1_le
      refine O_sadd (by rw [len_S, show (Str.ofString "\"").length = 1 by decide +kernel]; omega) ?_
      rw [S_list, show (Str.ofString "\"").cps.toList = [34] by decide +kernel]
      repeat walk_at "gi"
      refine O_sadd (by rw [len_S, show (Str.ofString "\"").length = 1 by decide +kernel]; simp at hf ⊢; omega) ?_
      rw [S_list, show (Str.ofString "\"").cps.toList = [34] by decide +kernel]
      repeat walk_at "gi"
      refine Ret.ret' (Sub.skip (Sub.skip (Sub.refl _))) ?_
      have : way.fmod 2 = 0 := by simpa using hz
      simpa [spelledL, this] using h
  · have hway : ¬ way.fmod 2 = 0 := by simpa using hz
    repeat walk_at "gi"
    with_reducible refine W_MethH "str.join" ?_ ?g1 ?g2 ?g3 ?g4
    case g4 => rfl
    case g3 => rfl
    case g2 => rfl
    case g1 => rfl
    repeat walk_at "gi"
    refine ⟨Meth.str F.slot_str_join F.type_str_join, ?_⟩
    repeat walk_at "gi"
    refine W_CompF (need := fun _ => True) (items := (S x).cps.toList.map fun k => V.str ⟨#[k]⟩) [(Str.ofString ".0", .local), (Str.ofString "sign", .local)] [] [(Str.ofString ".0", none), (Str.ofString "sign", none)]
      (S2J x way σ) (fun _ _ _ => trivial) (fun _ _ _ _ _ => trivial) (by simp [S]; omega) rfl rfl rfl rfl (by decide +kernel) (by decide) (by decide +kernel) ?_ ?_ ?_
    · repeat walk_at "gi"
      exact ⟨(It_str (by rw [a3]; exact hh) ha').at trivial, _, _, rfl, by simp, rfl, rfl⟩
    · rintro JC mC C D i X ys ρ τ p hi ⟨rfl, rfl, rfl⟩
      obtain ⟨k, hk, rfl⟩ := map_getE hi
      rw [S_list] at hk
      repeat walk_at "gi"
      refine C_sin (in_q2 k) ?_
      refine T_bool ?_
      refine ⟨fun hz' => ?_, fun hz' => ?_⟩
      · repeat walk_at "gi"
        refine O_sadd (by rw [show (⟨#[k]⟩ : Str) = S [k] from rfl, len_S, bsl1]; simp) ?_
        rw [show (⟨#[k]⟩ : Str) = S [k] from rfl, S_list, bs1]
        refine CompF.mk' (Sub.refl _) rfl (mC _ _ _ _ ⟨?_, rfl, rfl⟩)
        rw [List.take_add_one, hk]
        simp at hz'
        simp [esc2, hz']
      · repeat walk_at "gi"
        refine CompF.mk' (Sub.refl _) rfl (mC _ _ _ _ ⟨?_, rfl, rfl⟩)
        rw [List.take_add_one, hk]
        simp at hz'
        simp [esc2, hz', S]
    · rintro D ys ρ τ ⟨rfl, rfl, rfl⟩
      rw [List.length_map, S_list, List.take_length]
      repeat walk_at "gi"
      refine B_join (z := S (x.map esc2).flatten) (by walk_at "at") (joinOk_S _ (Nat.le_trans (sum_le esc2_le) (by omega))) (by rw [join_S, List.map_map]; congr 1) ?_
      have hf := flat_le (l := x) esc2_le
      repeat walk_at "gi"
      refine W_List ?_
      repeat walk_at "gi"
      refine ⟨by simp, _, _, rfl, fun T => ?_⟩
      repeat walk_at "gi"
      refine O_fdiv (by decide) (fd_ok (by decide)) ?_
      repeat walk_at "gi"
      have hb : 0 ≤ (way.fdiv 2).fmod 3 ∧ (way.fdiv 2).fmod 3 < 3 := by
        rw [Int.fmod_eq_emod_of_nonneg _ (by decide)]; omega
      refine O_item (X := .str (S [sepL way])) (.tail _ (.head _)) hb.1 (by omega) ?_ ?_
      · have h3 : (way.fdiv 2).fmod 3 = 0 ∨ (way.fdiv 2).fmod 3 = 1 ∨ (way.fdiv 2).fmod 3 = 2 := by omega
        unfold sepL
        rcases h3 with e | e | e <;> rw [e]
        · exact congrArg (fun s => some (V.str s)) (show Str.ofString " " = S [32] by decide +kernel)
        · exact congrArg (fun s => some (V.str s)) (show Str.ofString "\t" = S [9] by decide +kernel)
        · exact congrArg (fun s => some (V.str s)) (show Str.ofString "\r" = S [13] by decide +kernel)
      refine O_sadd (by rw [len_S, len_S]; simp at hf ⊢; omega) ?_
      rw [S_list, S_list]
      repeat walk_at "gi"
      refine Ret.ret' (Sub.skip (Sub.skip (Sub.skip (Sub.refl _)))) ?_
      simpa [spelledL, hway] using h
noncomputable abbrev Letter := Int × Int × Int
noncomputable def ltup (l : Letter) : V := .tup [.int l.1, .int l.2.1, .int l.2.2]
noncomputable def stp (ls : List Letter) (j : Int) : Int := (ls.getD j.toNat (0, 0, 0)).1
noncomputable def fac (ls : List Letter) (j : Int) : Int := (ls.getD j.toNat (0, 0, 0)).2.1
noncomputable def smd (ls : List Letter) (j : Int) : Int := (ls.getD j.toNat (0, 0, 0)).2.2
theorem letter_at {ls : List Letter} {j : Int} (h0 : 0 ≤ j) (h1 : j < ls.length) : (ls.map ltup)[j.toNat]? = some (.tup [.int (stp ls j), .int (fac ls j), .int (smd ls j)]) := by
  have : j.toNat < ls.length := by omega
  simp [stp, fac, smd, List.getD, this, ltup]
noncomputable def targetsM (ls : List Letter) (n : Nat) : List Int := ((span 1 n).filter fun j => (fac ls j).fmod 2 == 0).map fun j => (stp ls j).fmod j
noncomputable def takenM (ls : List Letter) (n : Nat) : List Int := (span 0 n).filter fun j => (targetsM ls n).contains j && (fac ls j).fmod 2 == 1
theorem span_get {a b : Int} {i : Nat} {j : Int} (h : (span a b)[i]? = some j) : a ≤ j ∧ j < b := by
  unfold span at h
  rw [List.getElem?_map] at h
  cases hb : (List.range (b - a).toNat)[i]? with
  | none => rw [hb] at h; cases h
  | some k =>
    rw [hb] at h; cases h; simp only
    have := List.mem_range.mp (List.mem_of_getElem? hb)
    omega
theorem span_len (a b : Int) : (span a b).length = (b - a).toNat := by simp [span]
inductive K1J (ls : List Letter) (n : Nat) (L l : Addr) (pp : Addr × AObj) (σ : Led) (i : Nat) (ys : List V) (ρ : List (Str × Option V)) (τ : Led) : Prop
  | mk  (_ : ys = ((((span 1 n).take i).filter fun j => (fac ls j).fmod 2 == 0).map fun j => (stp ls j).fmod j).map V.int) (_ : ρ = [(Str.ofString "until", some (.int n))]) (_ : ∃ r, τ = (r, rangeE 1 n) :: (L + 1 + 1, .cell none) :: (L + 1, .cell (some (.ref l))) :: pp :: σ)
inductive K2J (ls : List Letter) (n : Nat) (L l : Addr) (pp : Addr × AObj) (σ : Led) (D r : Addr) (i : Nat) (ys : List V) (ρ : List (Str × Option V)) (τ : Led) : Prop
  | mk  (_ : ys = (((span 0 n).take i).filter fun j => (targetsM ls n).contains j && (fac ls j).fmod 2 == 1).map V.int) (_ : ρ = [(Str.ofString "until", some (.int n))]) (_ : ∃ r', τ = (r', rangeE 0 n) :: (D, .list ((targetsM ls n).map V.int)) :: (r, rangeE 1 n) :: (L + 1 + 1, .cell (some (.ref D))) :: (L + 1, .cell (some (.ref l))) :: pp :: σ)
theorem law_taken_spec {c : Cx} {A : Around} {pp : Addr × AObj} {σ : Led} {K : V → Led → Prop} {ls : List Letter} {l : Addr} {n : Nat} (hh : A.handled = none) (hA : A.depth < 890) (hl : (l, AObj.list (ls.map ltup)) ∈ pp :: σ) (hn : n ≤ ls.length) (hlen : ls.length ≤ 1000)
    (h : ∀ D, K (.ref D) (pp :: (D, .list ((takenM ls n).map V.int)) :: σ)) :
    WN VR c A (fun vs => call (.ref 206) vs) [.ref l, .int n] (pp :: σ) K := by
  refine W_defC (names := ["letters", "until"]) [(Str.ofString "until", some (.int n))]
    (fun L => [(Str.ofString "targets", L + 1 + 1), (Str.ofString "letters", L + 1)]) (fun L τ => (L + 1 + 1, .cell none) :: (L + 1, .cell (some (.ref l))) :: τ)
    (c.inK 206 _ rfl) ⟨_, _, _, c.inK 205 _ rfl, rfl, rfl⟩ (fun s vs _ => binds2 (fun _ _ => BindsTo.of_eq rfl) vs) rfl rfl (fun _ => rfl) (fun _ _ => rfl) (by decide +kernel) (by decide +kernel) (by decide +kernel) (cells_in ["targets", "letters"] (fun _ => rfl) (by decide +kernel)) (by omega) rfl rfl rfl ?_
  intro L A' a1 a2 a3
  repeat walk_at "gi"
  refine W_CompF (need := fun _ => True) (items := (span 1 n).map V.int)
      [(Str.ofString ".0", .local), (Str.ofString "j", .local), (Str.ofString "letters", .cell)]
      [(Str.ofString "letters", L + 1)] [(Str.ofString ".0", none), (Str.ofString "j", none)]
      (K1J ls n L l pp σ)
      (fun _ _ _ => trivial) (fun _ _ _ _ _ => trivial) (by simp [span]; omega) rfl rfl rfl rfl (by decide +kernel) (by decide) (by decide +kernel) ?_ ?_ ?_
  · repeat walk_at "gi"
    refine B_range2 fun r => ?_
    exact ⟨It_range (by rw [a3]; exact hh) (by decide) (by decide) (by omega) (by omega) (.tail _ (.head _)), _, _, rfl, by simp, rfl, r, rfl⟩
  · rintro JC mC C D i X ys ρ τ p hi ⟨rfl, rfl, r, rfl⟩
    obtain ⟨j, hj, rfl⟩ := map_getE hi
    have hb := span_get hj
    repeat walk_at "gi"
    refine O_item (.tail _ (.tail _ (.tail _ (.tail _ (.tail _ (.tail _ (.tail _ hl))))))) (by omega) (by omega) (letter_at (by omega) (by omega)) ?_
    repeat walk_at "gi"
    refine O_titem (j := 1) rfl (by decide) rfl ?_
    repeat walk_at "gi"
    have ts := take_succ_filter (fun j => (fac ls j).fmod 2 == 0) (span 1 n) i j hj
    refine ⟨fun hz => ?_, fun hz => ?_⟩
    · repeat walk_at "gi"
      refine O_item (.tail _ (.tail _ (.tail _ (.tail _ (.tail _ (.tail _ (.tail _ hl))))))) (by omega) (by omega) (letter_at (by omega) (by omega)) ?_
      repeat walk_at "gi"
      refine O_titem (j := 0) rfl (by decide) rfl ?_
      repeat walk_at "gi"
      refine O_mod (by omega) ?_
      refine CompF.mk' (Sub.refl _) rfl (mC _ _ _ _ ⟨?_, rfl, r, rfl⟩)
      rw [ts]; simp at hz; simp [hz]
    · refine CompF.mk' (Sub.refl _) rfl (mC _ _ _ _ ⟨?_, rfl, r, rfl⟩)
      rw [ts]; simp at hz; simp [hz]
  · rintro D ys ρ τ ⟨rfl, rfl, r, rfl⟩
    rw [List.length_map, List.take_length]
    repeat walk_at "gi"
    refine W_CompF (need := fun _ => True) (items := (span 0 n).map V.int)
      [(Str.ofString ".0", .local), (Str.ofString "j", .local), (Str.ofString "letters", .cell), (Str.ofString "targets", .cell)]
      [(Str.ofString "targets", L + 1 + 1), (Str.ofString "letters", L + 1)] [(Str.ofString ".0", none), (Str.ofString "j", none)]
      (K2J ls n L l pp σ D r)
      (fun _ _ _ => trivial) (fun _ _ _ _ _ => trivial) (by simp [span]; omega) rfl rfl rfl rfl (by decide +kernel) (by decide) (by decide +kernel) ?_ ?_ ?_
    · repeat walk_at "gi"
      refine B_range1 fun r' => ?_
      exact ⟨It_range (by rw [a3]; exact hh) (by decide) (by decide) (by omega) (by omega) (.tail _ (.head _)), _, _, rfl, by simp, rfl, r', rfl⟩
    · rintro JC mC C D' i X ys ρ τ p hi ⟨rfl, rfl, r', rfl⟩
      obtain ⟨j, hj, rfl⟩ := map_getE hi
      have hb := span_get hj
      have ts := take_succ_filter (fun j => (targetsM ls n).contains j && (fac ls j).fmod 2 == 1) (span 0 n) i j hj
      repeat walk_at "gi"
      refine' C_inI ?hq ?_
      case hq => walk_at "at"
      repeat walk_at "gi"
      refine ⟨fun hz => ?_, fun hz => ?_⟩
      · repeat walk_at "gi"
        refine O_item (.tail _ (.tail _ (.tail _ (.tail _ (.tail _ (.tail _ (.tail _ (.tail _ (.tail _ hl))))))))) (by omega) (by omega) (letter_at (by omega) (by omega)) ?_
        repeat walk_at "gi"
        refine O_titem (j := 1) rfl (by decide) rfl ?_
        repeat walk_at "gi"
        refine ⟨fun hz' => ?_, fun hz' => ?_⟩
        · repeat walk_at "gi"
          refine CompF.mk' (Sub.refl _) rfl (mC _ _ _ _ ⟨?_, rfl, r', rfl⟩)
          rw [ts]; rw [hz, hz']; simp
        · repeat walk_at "gi"
          refine CompF.mk' (Sub.refl _) rfl (mC _ _ _ _ ⟨?_, rfl, r', rfl⟩)
          rw [ts]; rw [hz, hz']; simp
      · repeat walk_at "gi"
        refine CompF.mk' (Sub.refl _) rfl (mC _ _ _ _ ⟨?_, rfl, r', rfl⟩)
        rw [ts]; rw [hz]; simp
    · rintro D' ys ρ τ ⟨rfl, rfl, r', rfl⟩
      rw [List.length_map, List.take_length]
      repeat walk_at "gi"
      refine Ret.ret' ?_ (h D')
      refine Sub.skip ?_
      refine Sub.pick (p := pp) (.tail (.tail (.tail (.tail (.tail (.tail .head)))))) ?_
      refine Sub.pick .head ?_
      exact Sub.skip (Sub.skip (Sub.skip (Sub.skip (Sub.skip (Sub.refl _)))))
noncomputable def pairsM (ls : List Letter) (n : Nat) : List P2 := ((span 0 n).filter fun j => (fac ls j).fmod 2 == 1).map fun j => (stp ls j, j)
noncomputable def newM (ls : List Letter) (n s : Nat) : List P2 := (pairsM ls n).filter fun p => decide ((s : Int) ≤ p.2) || ((takenM ls n).contains p.2 && !(takenM ls s).contains p.2)
noncomputable def undoneM (ls : List Letter) (n s : Nat) : List P2 := (pairsM ls n).filter fun p => decide (p.2 < (s : Int)) && (!(takenM ls s).contains p.2 && (!(newM ls n s).isEmpty && !plt p (minP (newM ls n s))))
noncomputable def dueM (ls : List Letter) (n : Nat) : List P2 := (pairsM ls n).filter fun p => !(takenM ls n).contains p.2
noncomputable def toldStep (ls : List Letter) (vb : Int × Int) (p : P2) : Int × Int := (vb.1 + smd ls p.2 * vb.2, vb.2 * fac ls p.2)
noncomputable def toldV (ls : List Letter) (due : List P2) : Int × Int := due.reverse.foldl (toldStep ls) (0, 1)
theorem pairsM_mem {ls : List Letter} {n : Nat} {p : P2} (h : p ∈ pairsM ls n) : 0 ≤ p.2 ∧ p.2 < n ∧ p.1 = stp ls p.2 := by
  unfold pairsM at h
  obtain ⟨j, hj, rfl⟩ := List.mem_map.mp h
  have hj := (List.mem_filter.mp hj).1
  obtain ⟨i, hi⟩ := List.getElem?_of_mem hj
  have := span_get hi
  exact ⟨this.1, this.2, rfl⟩
theorem span_nodup (a b : Int) : (span a b).Nodup := by
  unfold span
  refine List.Pairwise.map _ (fun x y h e => ?_) List.nodup_range
  have : (x : Int) = y := by omega
  exact h (by omega)
theorem pairsM_nodup (ls : List Letter) (n : Nat) : (pairsM ls n).Nodup := by
  unfold pairsM
  refine List.Pairwise.map _ (fun x y h e => h ?_) ((span_nodup 0 n).filter _)
  exact (Prod.mk.inj e).2
theorem bits_small {x : Int} (h0 : 0 ≤ x) (h1 : x < 256) : Builtin.Int.intBits x ≤ 64 := by
  unfold Builtin.Int.intBits
  split
  · omega
  · rename_i h
    have : x.natAbs.log2 < 64 := (Nat.log2_lt (by simpa using h)).mpr (by omega)
    omega
structure LsOk (ls : List Letter) : Prop where
  f : ∀ j : Int, 0 ≤ j → j < ls.length → 0 ≤ fac ls j ∧ fac ls j < 256
  s : ∀ j : Int, 0 ≤ j → j < ls.length → 0 ≤ smd ls j ∧ smd ls j < 256
theorem comp_in {α β : Type} {f : α → Bool} {g : α → β} {xs : List α} {i : Nat} {j : α} (hj : xs[i]? = some j) (h : f j = true) : ((xs.take i).filter f).map g ++ [g j] = ((xs.take (i + 1)).filter f).map g := by
  rw [take_succ_filter f xs i j hj, h, if_pos rfl, List.map_append]; rfl
theorem comp_out {α β : Type} {f : α → Bool} {g : α → β} {xs : List α} {i : Nat} {j : α} (hj : xs[i]? = some j) (h : f j = false) : ((xs.take i).filter f).map g = ((xs.take (i + 1)).filter f).map g := by
  rw [take_succ_filter f xs i j hj, h, if_neg (by decide), List.append_nil]
inductive T1J (ls : List Letter) (n s : Nat) (H T L l : Addr) (pp : Addr × AObj) (σ : Led) (i : Nat) (ys : List V) (ρ : List (Str × Option V)) (τ : Led) : Prop
  | mk  (_ : ys = ((((span 0 n).take i).filter fun j => (fac ls j).fmod 2 == 1).map fun j => (stp ls j, j)).map ptup) (_ : ρ = [(Str.ofString "until", some (.int n)), (Str.ofString "pairs", none), (Str.ofString "undone", none), (Str.ofString "due", none), (Str.ofString "value", none), (Str.ofString "behind", none), (Str.ofString "stamp", none), (Str.ofString "place", none)]) (_ : ∃ r, τ = (r, rangeE 0 n) :: (H, .list ((takenM ls s).map V.int)) :: (T, .list ((takenM ls n).map V.int)) :: (L + 1 + 1 + 1 + 1 + 1, .cell none) :: (L + 1 + 1 + 1 + 1, .cell (some (.ref H))) :: (L + 1 + 1 + 1, .cell (some (.ref T))) :: (L + 1 + 1, .cell (some (.int s))) :: (L + 1, .cell (some (.ref l))) :: pp :: σ)
inductive T2J (ls : List Letter) (n s : Nat) (H T L l : Addr) (pp : Addr × AObj) (σ : Led) (P r : Addr) (i : Nat) (ys : List V) (ρ : List (Str × Option V)) (τ : Led) : Prop
  | mk  (_ : ys = (((pairsM ls n).take i).filter fun p => decide ((s : Int) ≤ p.2) || ((takenM ls n).contains p.2 && !(takenM ls s).contains p.2)).map ptup) (_ : ρ = [(Str.ofString "until", some (.int n)), (Str.ofString "pairs", some (.ref P)), (Str.ofString "undone", none), (Str.ofString "due", none), (Str.ofString "value", none), (Str.ofString "behind", none), (Str.ofString "stamp", none), (Str.ofString "place", none)]) (_ : τ = (P, .list ((pairsM ls n).map ptup)) :: (r, rangeE 0 n) :: (H, .list ((takenM ls s).map V.int)) :: (T, .list ((takenM ls n).map V.int)) :: (L + 1 + 1 + 1 + 1 + 1, .cell none) :: (L + 1 + 1 + 1 + 1, .cell (some (.ref H))) :: (L + 1 + 1 + 1, .cell (some (.ref T))) :: (L + 1 + 1, .cell (some (.int s))) :: (L + 1, .cell (some (.ref l))) :: pp :: σ)
inductive T3J (ls : List Letter) (n s : Nat) (H T L l : Addr) (pp : Addr × AObj) (σ : Led) (P r W : Addr) (i : Nat) (ys : List V) (ρ : List (Str × Option V)) (τ : Led) : Prop
  | mk  (_ : ys = (((pairsM ls n).take i).filter fun p => decide (p.2 < (s : Int)) && (!(takenM ls s).contains p.2 && (!(newM ls n s).isEmpty && !plt p (minP (newM ls n s))))).map ptup) (_ : ρ = [(Str.ofString "until", some (.int n)), (Str.ofString "pairs", some (.ref P)), (Str.ofString "undone", none), (Str.ofString "due", none), (Str.ofString "value", none), (Str.ofString "behind", none), (Str.ofString "stamp", none), (Str.ofString "place", none)]) (_ : τ = (W, .list ((newM ls n s).map ptup)) :: (P, .list ((pairsM ls n).map ptup)) :: (r, rangeE 0 n) :: (H, .list ((takenM ls s).map V.int)) :: (T, .list ((takenM ls n).map V.int)) :: (L + 1 + 1 + 1 + 1 + 1, .cell (some (.ref W))) :: (L + 1 + 1 + 1 + 1, .cell (some (.ref H))) :: (L + 1 + 1 + 1, .cell (some (.ref T))) :: (L + 1 + 1, .cell (some (.int s))) :: (L + 1, .cell (some (.ref l))) :: pp :: σ)
inductive T4J (ls : List Letter) (n s : Nat) (H T L l : Addr) (pp : Addr × AObj) (σ : Led) (P r W U : Addr) (i : Nat) (ys : List V) (ρ : List (Str × Option V)) (τ : Led) : Prop
  | mk  (_ : ys = (((pairsM ls n).take i).filter fun p => !(takenM ls n).contains p.2).map ptup) (_ : ρ = [(Str.ofString "until", some (.int n)), (Str.ofString "pairs", some (.ref P)), (Str.ofString "undone", some (.ref U)), (Str.ofString "due", none), (Str.ofString "value", none), (Str.ofString "behind", none), (Str.ofString "stamp", none), (Str.ofString "place", none)]) (_ : τ = (U, .list ((undoneM ls n s).map ptup)) :: (W, .list ((newM ls n s).map ptup)) :: (P, .list ((pairsM ls n).map ptup)) :: (r, rangeE 0 n) :: (H, .list ((takenM ls s).map V.int)) :: (T, .list ((takenM ls n).map V.int)) :: (L + 1 + 1 + 1 + 1 + 1, .cell (some (.ref W))) :: (L + 1 + 1 + 1 + 1, .cell (some (.ref H))) :: (L + 1 + 1 + 1, .cell (some (.ref T))) :: (L + 1 + 1, .cell (some (.int s))) :: (L + 1, .cell (some (.ref l))) :: pp :: σ)
set_option maxHeartbeats 4000000 in
theorem law_told_spec {c : Cx} {A : Around} {pp : Addr × AObj} {σ : Led} {K : V → Led → Prop} {ls : List Letter} {l : Addr} {n s : Nat} (hh : A.handled = none) (hA : A.depth < 880) (hU : A.units < 8000) (hl : (l, AObj.list (ls.map ltup)) ∈ pp :: σ)
    (hn : n ≤ ls.length) (hs : s ≤ n) (hlen : ls.length ≤ 60) (ok : LsOk ls)
    (h : ∀ D due, due.Perm (dueM ls n) → due.Pairwise (fun x y => plt x y = true) → K (.tup [.int (((toldV ls due).1 + (toldV ls due).2).fmod 256), .int (undoneM ls n s).length, .ref D]) (pp :: (D, .list (due.map ptup)) :: σ)) :
    WN VR c A (fun vs => call (.ref 211) vs) [.ref l, .int n, .int s] (pp :: σ) K := by
  refine W_defC (names := ["letters", "until", "since"]) [(Str.ofString "until", some (.int n)), (Str.ofString "pairs", none), (Str.ofString "undone", none), (Str.ofString "due", none), (Str.ofString "value", none), (Str.ofString "behind", none), (Str.ofString "stamp", none), (Str.ofString "place", none)]
    (fun L => [(Str.ofString "new", L + 1 + 1 + 1 + 1 + 1), (Str.ofString "ahead", L + 1 + 1 + 1 + 1), (Str.ofString "taken", L + 1 + 1 + 1), (Str.ofString "since", L + 1 + 1), (Str.ofString "letters", L + 1)])
    (fun L τ => (L + 1 + 1 + 1 + 1 + 1, .cell none) :: (L + 1 + 1 + 1 + 1, .cell none) :: (L + 1 + 1 + 1, .cell none) :: (L + 1 + 1, .cell (some (.int s))) :: (L + 1, .cell (some (.ref l))) :: τ)
    (c.inK 211 _ rfl) ⟨_, _, _, c.inK 210 _ rfl, rfl, rfl⟩ (fun s vs _ => binds3 (fun _ _ _ => BindsTo.of_eq rfl) vs) rfl rfl (fun _ => rfl) (fun _ _ => rfl) (by decide +kernel) (by decide +kernel) (by decide +kernel) (cells_in ["new", "ahead", "taken", "since", "letters"] (fun _ => rfl) (by decide +kernel)) (by omega) rfl rfl rfl ?_
  intro L A' a1 a2 a3
  have hlN : n ≤ 60 := by omega
  repeat walk_at "gi"
  refine law_taken_spec (ls := ls) (by rw [a3]; exact hh) (by omega) (by repeat (first | exact hl | refine List.mem_cons_of_mem _ ?_)) hn (by omega) fun T => ?_
  repeat walk_at "gi"
  refine law_taken_spec (ls := ls) (by rw [a3]; exact hh) (by omega) (by repeat (first | exact hl | refine List.mem_cons_of_mem _ ?_)) (by omega) (by omega) fun H => ?_
  repeat walk_at "gi"
  have hLs : ∀ (τ : Led), (l, AObj.list (ls.map ltup)) ∈ τ ++ (pp :: σ) := fun τ => List.mem_append_right _ hl
  refine WF_AssignCompF (need := fun _ => True) (items := (span 0 n).map V.int)
      [(Str.ofString ".0", .local), (Str.ofString "j", .local), (Str.ofString "letters", .cell)]
      [(Str.ofString "letters", L + 1)] [(Str.ofString ".0", none), (Str.ofString "j", none)]
      (T1J ls n s H T L l pp σ)
      (fun _ _ _ => trivial) (fun _ _ _ _ _ => trivial) (by simp [span]; omega) rfl rfl rfl rfl (by decide +kernel) (by decide) (by decide +kernel) rfl ?_ ?_ ?_ rfl
  · repeat walk_at "gi"
    refine B_range1 fun r => ?_
    exact ⟨It_range (by rw [a3]; exact hh) (by decide) (by decide) (by omega) (by omega) (.tail _ (.head _)), _, _, rfl, by simp, rfl, r, rfl⟩
  · rintro JC mC C D i X ys ρ τ p hi ⟨rfl, rfl, r, rfl⟩
    obtain ⟨j, hj, rfl⟩ := map_getE hi
    have hb := span_get hj
    have ts := take_succ_filter (fun j => (fac ls j).fmod 2 == 1) (span 0 n) i j hj
    repeat walk_at "gi"
    refine O_item (by repeat (first | exact hl | refine List.mem_cons_of_mem _ ?_)) (by omega) (by omega) (letter_at (by omega) (by omega)) ?_
    repeat walk_at "gi"
    refine O_titem (j := 1) rfl (by decide) rfl ?_
    repeat walk_at "gi"
    refine ⟨fun hz => ?_, fun hz => ?_⟩
    · repeat walk_at "gi"
      refine W_Tuple ?_
      repeat walk_at "gi"
      refine O_item (by repeat (first | exact hl | refine List.mem_cons_of_mem _ ?_)) (by omega) (by omega) (letter_at (by omega) (by omega)) ?_
      repeat walk_at "gi"
      refine O_titem (j := 0) rfl (by decide) rfl ?_
      repeat walk_at "gi"
      refine ⟨[.int (stp ls j), .int j], rfl, by simp, ?_⟩
      refine CompF.mk' (Sub.refl _) rfl (mC _ _ _ _ ⟨?_, rfl, r, rfl⟩)
      rw [ts]; simp at hz; simp [hz, ptup]
    · refine CompF.mk' (Sub.refl _) rfl (mC _ _ _ _ ⟨?_, rfl, r, rfl⟩)
      rw [ts]; simp at hz; simp [hz]
  · rintro P ys ρ τ ⟨rfl, rfl, r, rfl⟩
    rw [List.length_map, List.take_length]
    refine ⟨_, by walk_at "at", ?_⟩
    rw [show (((span 0 n).filter fun j => (fac ls j).fmod 2 == 1).map fun j => (stp ls j, j)) = pairsM ls n from rfl]
    have hpl : (pairsM ls n).length ≤ n := by
      unfold pairsM; rw [List.length_map]; refine Nat.le_trans (List.length_filter_le ..) ?_; simp [span]
    repeat walk_at "gi"
    refine W_CompF (need := fun σ => (P, AObj.list ((pairsM ls n).map ptup)) ∈ σ) (items := (pairsM ls n).map ptup)
      [(Str.ofString ".0", .local), (Str.ofString "pair", .local), (Str.ofString "ahead", .cell), (Str.ofString "since", .cell), (Str.ofString "taken", .cell)]
      [(Str.ofString "taken", L + 1 + 1 + 1), (Str.ofString "since", L + 1 + 1), (Str.ofString "ahead", L + 1 + 1 + 1 + 1)] [(Str.ofString ".0", none), (Str.ofString "pair", none)]
      (T2J ls n s H T L l pp σ P r)
      (fun _ _ h => .tail _ h) (fun _ _ _ _ ⟨_, _, e⟩ => e ▸ .head _) (by simp; omega) rfl rfl rfl rfl (by decide +kernel) (by decide) (by decide +kernel) ?_ ?_ ?_
    · repeat walk_at "gi"
      exact ⟨(It_list (by rw [a3]; exact hh)).at (.tail _ (.head _)), _, _, rfl, by simp, rfl, rfl⟩
    · rintro JC mC C D i X ys ρ τ p hi ⟨hys, hρ, hτ⟩
      have hm0 : (T, AObj.list ((takenM ls n).map V.int)) ∈ τ := by rw [hτ]; walk_at "at"
      have hm1 : (H, AObj.list ((takenM ls s).map V.int)) ∈ τ := by rw [hτ]; walk_at "at"
      have hm2 : (L + 1 + 1, AObj.cell (some (.int s))) ∈ τ := by rw [hτ]; walk_at "at"
      have hm3 : (L + 1 + 1 + 1, AObj.cell (some (.ref T))) ∈ τ := by rw [hτ]; walk_at "at"
      have hm4 : (L + 1 + 1 + 1 + 1, AObj.cell (some (.ref H))) ∈ τ := by rw [hτ]; walk_at "at"
      obtain ⟨j, hj, rfl⟩ := map_getE hi
      have ts := take_succ_filter (fun p => decide ((s : Int) ≤ p.2) || ((takenM ls n).contains p.2 && !(takenM ls s).contains p.2)) (pairsM ls n) i j hj
      repeat walk_at "gi"
      refine O_titem (l := [.int j.1, .int j.2]) (j := 1) rfl (by decide) rfl ?_
      repeat walk_at "gi"
      refine ⟨fun hz => ?_, fun hz => ?_⟩
      · repeat walk_at "gi"
        refine CompF.mk' (Sub.refl _) rfl (mC _ _ _ _ ⟨?_, hρ, hτ⟩)
        rw [hys]
        first | exact comp_in hj (by rw [hz]; rfl) | exact comp_out hj (by rw [hz]; rfl)
      · repeat walk_at "gi"
        refine O_titem (l := [.int j.1, .int j.2]) (j := 1) rfl (by decide) rfl ?_
        repeat walk_at "gi"
        refine' C_inI ?hq ?_
        case hq => walk_at "at"
        repeat walk_at "gi"
        refine ⟨fun hz2 => ?_, fun hz2 => ?_⟩
        · repeat walk_at "gi"
          refine O_titem (l := [.int j.1, .int j.2]) (j := 1) rfl (by decide) rfl ?_
          repeat walk_at "gi"
          refine' C_notInI ?hq ?_
          case hq => walk_at "at"
          repeat walk_at "gi"
          refine ⟨fun hz3 => ?_, fun hz3 => ?_⟩
          · repeat walk_at "gi"
            refine CompF.mk' (Sub.refl _) rfl (mC _ _ _ _ ⟨?_, hρ, hτ⟩)
            rw [hys]
            first | exact comp_in hj (by rw [hz, hz2, hz3]; rfl) | exact comp_out hj (by rw [hz, hz2, hz3]; rfl)
          · repeat walk_at "gi"
            refine CompF.mk' (Sub.refl _) rfl (mC _ _ _ _ ⟨?_, hρ, hτ⟩)
            rw [hys]
            first | exact comp_in hj (by rw [hz, hz2, hz3]; rfl) | exact comp_out hj (by rw [hz, hz2, hz3]; rfl)
        · repeat walk_at "gi"
          refine CompF.mk' (Sub.refl _) rfl (mC _ _ _ _ ⟨?_, hρ, hτ⟩)
          rw [hys]
          first | exact comp_in hj (by rw [hz, hz2]; rfl) | exact comp_out hj (by rw [hz, hz2]; rfl)
    · rintro W ys ρ τ ⟨rfl, rfl, rfl⟩
      rw [List.length_map, List.take_length]
      rw [show ((pairsM ls n).filter fun p => decide ((s : Int) ≤ p.2) || ((takenM ls n).contains p.2 && !(takenM ls s).contains p.2)) = newM ls n s from rfl]
      have hnl : (newM ls n s).length ≤ n := Nat.le_trans (List.length_filter_le ..) hpl
      repeat walk_at "gi"
      refine WF_AssignCompF (need := fun σ => (P, AObj.list ((pairsM ls n).map ptup)) ∈ σ) (items := (pairsM ls n).map ptup)
        [(Str.ofString ".0", .local), (Str.ofString "pair", .local), (Str.ofString "min", .globalImplicit), (Str.ofString "ahead", .cell), (Str.ofString "new", .cell), (Str.ofString "since", .cell)]
        [(Str.ofString "since", L + 1 + 1), (Str.ofString "new", L + 1 + 1 + 1 + 1 + 1), (Str.ofString "ahead", L + 1 + 1 + 1 + 1)] [(Str.ofString ".0", none), (Str.ofString "pair", none)]
        (T3J ls n s H T L l pp σ P r W)
        (fun _ _ h => .tail _ h) (fun _ _ _ _ ⟨_, _, e⟩ => e ▸ .tail _ (.head _)) (by simp; omega) rfl rfl rfl rfl (by decide +kernel) (by decide) (by decide +kernel) rfl ?_ ?_ ?_ rfl
      · repeat walk_at "gi"
        exact ⟨(It_list (by rw [a3]; exact hh)).at (.tail _ (.tail _ (.head _))), _, _, rfl, by simp, rfl, rfl⟩
      · rintro JC mC C D i X ys ρ τ p hi ⟨hys, hρ, hτ⟩
        have hm0 : (H, AObj.list ((takenM ls s).map V.int)) ∈ τ := by rw [hτ]; walk_at "at"
        have hm1 : (W, AObj.list ((newM ls n s).map ptup)) ∈ τ := by rw [hτ]; walk_at "at"
        have hm2 : (L + 1 + 1, AObj.cell (some (.int s))) ∈ τ := by rw [hτ]; walk_at "at"
        have hm3 : (L + 1 + 1 + 1 + 1, AObj.cell (some (.ref H))) ∈ τ := by rw [hτ]; walk_at "at"
        have hm4 : (L + 1 + 1 + 1 + 1 + 1, AObj.cell (some (.ref W))) ∈ τ := by rw [hτ]; walk_at "at"
        obtain ⟨j, hj, rfl⟩ := map_getE hi
        have ts := take_succ_filter (fun p => decide (p.2 < (s : Int)) && (!(takenM ls s).contains p.2 && (!(newM ls n s).isEmpty && !plt p (minP (newM ls n s))))) (pairsM ls n) i j hj
        repeat walk_at "gi"
        refine O_titem (l := [.int j.1, .int j.2]) (j := 1) rfl (by decide) rfl ?_
        repeat walk_at "gi"
        refine ⟨fun hz => ?_, fun hz => ?_⟩
        · repeat walk_at "gi"
          refine O_titem (l := [.int j.1, .int j.2]) (j := 1) rfl (by decide) rfl ?_
          repeat walk_at "gi"
          refine' C_notInI ?hq ?_
          case hq => walk_at "at"
          repeat walk_at "gi"
          refine ⟨fun hz2 => ?_, fun hz2 => ?_⟩
          · repeat walk_at "gi"
            refine W_List ?_
            repeat walk_at "gi"
            refine ⟨by simp, _, _, rfl, fun N => ?_⟩
            refine' C_neNil (xs := (newM ls n s).map ptup) ?hq1 ?hq2 (by omega) ?_
            case hq1 => walk_at "at"
            case hq2 => walk_at "at"
            repeat walk_at "gi"
            refine ⟨fun hz3 => ?_, fun hz3 => ?_⟩
            · have hne : newM ls n s ≠ [] := by simpa using hz3
              repeat walk_at "gi"
              refine' B_min (by rw [a3]; exact hh) (by omega) ?hq hne ?_
              case hq => walk_at "at"
              repeat walk_at "gi"
              refine C_tge (by omega) ?_
              repeat walk_at "gi"
              refine ⟨fun hz4 => ?_, fun hz4 => ?_⟩
              · repeat walk_at "gi"
                refine CompF.mk' (Sub.pick .head (Sub.skip (Sub.refl _))) rfl (mC _ _ _ _ ⟨?_, hρ, hτ⟩)
                rw [hys]; have hz3' : (newM ls n s).isEmpty = false := by simpa using hz3
                first | exact comp_in hj (by rw [hz, hz2, hz3', hz4]; rfl) | exact comp_out hj (by rw [hz, hz2, hz3', hz4]; rfl)
              · repeat walk_at "gi"
                refine CompF.mk' (Sub.pick .head (Sub.skip (Sub.refl _))) rfl (mC _ _ _ _ ⟨?_, hρ, hτ⟩)
                rw [hys]; have hz3' : (newM ls n s).isEmpty = false := by simpa using hz3
                first | exact comp_in hj (by rw [hz, hz2, hz3', hz4]; rfl) | exact comp_out hj (by rw [hz, hz2, hz3', hz4]; rfl)
            · repeat walk_at "gi"
              refine CompF.mk' (Sub.pick .head (Sub.skip (Sub.refl _))) rfl (mC _ _ _ _ ⟨?_, hρ, hτ⟩)
              rw [hys]; have hz3' : (newM ls n s).isEmpty = true := by simpa using hz3
              first | exact comp_in hj (by rw [hz, hz2, hz3']; rfl) | exact comp_out hj (by rw [hz, hz2, hz3']; rfl)
          · repeat walk_at "gi"
            refine CompF.mk' (Sub.refl _) rfl (mC _ _ _ _ ⟨?_, hρ, hτ⟩)
            rw [hys]
            first | exact comp_in hj (by rw [hz, hz2]; rfl) | exact comp_out hj (by rw [hz, hz2]; rfl)
        · repeat walk_at "gi"
          refine CompF.mk' (Sub.refl _) rfl (mC _ _ _ _ ⟨?_, hρ, hτ⟩)
          rw [hys]
          first | exact comp_in hj (by rw [hz]; rfl) | exact comp_out hj (by rw [hz]; rfl)
      · rintro U ys ρ τ ⟨rfl, rfl, rfl⟩
        rw [List.length_map, List.take_length]
        refine ⟨_, by walk_at "at", ?_⟩
        rw [show ((pairsM ls n).filter fun p => decide (p.2 < (s : Int)) && (!(takenM ls s).contains p.2 && (!(newM ls n s).isEmpty && !plt p (minP (newM ls n s))))) = undoneM ls n s from rfl]
        repeat walk_at "gi"
        refine W_CompF (need := fun σ => (P, AObj.list ((pairsM ls n).map ptup)) ∈ σ) (items := (pairsM ls n).map ptup)
          [(Str.ofString ".0", .local), (Str.ofString "pair", .local), (Str.ofString "taken", .cell)]
          [(Str.ofString "taken", L + 1 + 1 + 1)] [(Str.ofString ".0", none), (Str.ofString "pair", none)]
          (T4J ls n s H T L l pp σ P r W U)
          (fun _ _ h => .tail _ h) (fun _ _ _ _ ⟨_, _, e⟩ => e ▸ .tail _ (.tail _ (.head _))) (by simp; omega) rfl rfl rfl rfl (by decide +kernel) (by decide) (by decide +kernel) ?_ ?_ ?_
        · repeat walk_at "gi"
          exact ⟨(It_list (by rw [a3]; exact hh)).at (.tail _ (.tail _ (.tail _ (.head _)))), _, _, rfl, by simp, rfl, rfl⟩
        · rintro JC mC C D i X ys ρ τ p hi ⟨hys, hρ, hτ⟩
          have hm0 : (T, AObj.list ((takenM ls n).map V.int)) ∈ τ := by rw [hτ]; walk_at "at"
          have hm1 : (L + 1 + 1 + 1, AObj.cell (some (.ref T))) ∈ τ := by rw [hτ]; walk_at "at"
          obtain ⟨j, hj, rfl⟩ := map_getE hi
          have ts := take_succ_filter (fun p => !(takenM ls n).contains p.2) (pairsM ls n) i j hj
          repeat walk_at "gi"
          refine O_titem (l := [.int j.1, .int j.2]) (j := 1) rfl (by decide) rfl ?_
          repeat walk_at "gi"
          refine' C_notInI ?hq ?_
          case hq => walk_at "at"
          repeat walk_at "gi"
          refine ⟨fun hz => ?_, fun hz => ?_⟩
          · repeat walk_at "gi"
            refine CompF.mk' (Sub.refl _) rfl (mC _ _ _ _ ⟨?_, hρ, hτ⟩)
            rw [hys]; rw [ts, hz]; simp
          · repeat walk_at "gi"
            refine CompF.mk' (Sub.refl _) rfl (mC _ _ _ _ ⟨?_, hρ, hτ⟩)
            rw [hys]; rw [ts, hz]; simp
        · rintro Vd ys ρ τ ⟨rfl, rfl, rfl⟩
          rw [List.length_map, List.take_length]
          rw [show ((pairsM ls n).filter fun p => !(takenM ls n).contains p.2) = dueM ls n from rfl]
          have hdl : (dueM ls n).length ≤ n := Nat.le_trans (List.length_filter_le ..) hpl
          repeat walk_at "gi"
          refine B_sorted (.tail _ (.head _)) (by omega) ((pairsM_nodup ls n).filter _) fun D due hp hw => ?_
          have hdl2 : due.length ≤ n := by rw [hp.length_eq]; exact hdl
          have hdm : ∀ p ∈ due, 0 ≤ p.2 ∧ p.2 < n := fun p hp' => by
            have := pairsM_mem (List.mem_filter.mp (hp.mem_iff.mp hp')).1
            exact ⟨this.1, this.2.1⟩
          repeat walk_at "gi"
          refine WF_ForL (by rw [a3]; exact hh) ?_
          with_reducible refine W_sliceRev ?_ ?ht
          case ht => intro _ _; rfl
          repeat walk_at "gi"
          refine ⟨_, _, rfl, rfl, by walk_at "at", by simp; omega, _, _, rfl, fun F => ?_⟩
          refine ⟨F, (due.map ptup).reverse, (fun i ρ τ => ∃ o1 o2, ρ = [(Str.ofString "until", some (.int n)), (Str.ofString "pairs", some (.ref P)), (Str.ofString "undone", some (.ref U)), (Str.ofString "due", some (.ref D)), (Str.ofString "value", some (.int ((due.reverse.take i).foldl (toldStep ls) (0, 1)).1)), (Str.ofString "behind", some (.int ((due.reverse.take i).foldl (toldStep ls) (0, 1)).2)), (Str.ofString "stamp", o1), (Str.ofString "place", o2)] ∧
            τ = (F, .list (due.map ptup).reverse) :: (D, .list (due.map ptup)) :: (Vd, .list ((dueM ls n).map ptup)) :: (U, .list ((undoneM ls n s).map ptup)) :: (W, .list ((newM ls n s).map ptup)) :: (P, .list ((pairsM ls n).map ptup)) :: (r, rangeE 0 n) :: (H, .list ((takenM ls s).map V.int)) :: (T, .list ((takenM ls n).map V.int)) :: (L + 1 + 1 + 1 + 1 + 1, .cell (some (.ref W))) :: (L + 1 + 1 + 1 + 1, .cell (some (.ref H))) :: (L + 1 + 1 + 1, .cell (some (.ref T))) :: (L + 1 + 1, .cell (some (.int s))) :: (L + 1, .cell (some (.ref l))) :: pp :: σ), rfl, ⟨_, _, rfl, none, none, rfl, rfl⟩, ?_, ?_, ?_⟩
          · rintro i ρ τ ⟨o1, o2, rfl, rfl⟩; exact .head _
          · rintro JF mF i X ρ τ p hi ⟨o1, o2, rfl, rfl⟩
            rw [← List.map_reverse] at hi
            obtain ⟨j, hj, rfl⟩ := map_getE hi
            have hjm := hdm j (List.mem_reverse.mp (List.mem_of_getElem? hj))
            have hf := ok.f j.2 hjm.1 (by omega)
            have hs' := ok.s j.2 hjm.1 (by omega)
            refine W_assignTup2 (P := .int j.1) (P' := .int j.2) (by rw [a3]; exact hh) (by walk_at "at") (by walk_at "at") ?_
            repeat walk_at "gi"
            refine O_item (by repeat (first | exact hl | refine List.mem_cons_of_mem _ ?_)) (by show (0 : Int) ≤ j.2; omega) (by show j.2 < 2 ^ 63; omega) (letter_at hjm.1 (by omega)) ?_
            repeat walk_at "gi"
            refine O_titem (j := 2) rfl (by decide) rfl ?_
            repeat walk_at "gi"
            refine O_mul (IntMulOk.of_left (bits_small hs'.1 hs'.2)) ?_
            repeat walk_at "gi"
            refine O_item (by repeat (first | exact hl | refine List.mem_cons_of_mem _ ?_)) (by show (0 : Int) ≤ j.2; omega) (by show j.2 < 2 ^ 63; omega) (letter_at hjm.1 (by omega)) ?_
            repeat walk_at "gi"
            refine O_titem (j := 1) rfl (by decide) rfl ?_
            repeat walk_at "gi"
            refine O_mul (IntMulOk.of_right (bits_small hf.1 hf.2)) ?_
            repeat walk_at "gi"
            refine TurnI.next' (Sub.refl _) (mF _ _ _ ⟨some (.int j.1), some (.int j.2), ?_, rfl⟩)
            rw [List.take_add_one, hj, List.foldl_append]; rfl
          · rintro ρ τ ⟨o1, o2, rfl, rfl⟩
            have e : due.reverse.take ((due.map ptup).reverse.length) = due.reverse := List.take_of_length_le (by simp)
            rw [e]
            repeat walk_at "gi"
            refine W_Tuple ?_
            repeat walk_at "gi"
            refine B_len (by walk_at "at") (by
              have : (undoneM ls n s).length ≤ n := Nat.le_trans (List.length_filter_le ..) hpl
              simp; omega) ?_
            repeat walk_at "gi"
            refine ⟨[.int (((toldV ls due).1 + (toldV ls due).2).fmod 256), .int (undoneM ls n s).length, .ref D], by simp [atV, toldV], by simp, ?_⟩
            repeat walk_at "gi"
            refine Ret.ret' ?_ (h D due hp hw)
            refine Sub.skip ?_
            refine Sub.pick (p := pp) (.tail (.tail (.tail (.tail (.tail (.tail (.tail (.tail (.tail (.tail (.tail (.tail (.tail (.tail .head)))))))))))))) ?_
            refine Sub.pick (.tail .head) ?_
            exact Sub.skip (Sub.skip (Sub.skip (Sub.skip (Sub.skip (Sub.skip (Sub.skip (Sub.skip (Sub.skip (Sub.skip (Sub.skip (Sub.skip (Sub.skip (Sub.refl _)))))))))))))
structure WS where
  letters : List Letter
  void : List Int
  waiting : List P2
  done : List P2
  value : Int
noncomputable def wordM (st : WS) (L : Letter) : WS :=
  if L.2.1.fmod 2 == 1 then ⟨st.letters ++ [L], st.void, hpush st.waiting (L.1, st.letters.length), st.done, st.value⟩
  else if decide ((0 : Int) < st.letters.length) && ((fac (st.letters ++ [L]) (L.1.fmod st.letters.length)).fmod 2 == 1 && !st.void.contains (L.1.fmod st.letters.length)) then
    ⟨st.letters ++ [L], st.void ++ [L.1.fmod st.letters.length], hpush st.waiting (stp (st.letters ++ [L]) (L.1.fmod st.letters.length), L.1.fmod st.letters.length), st.done, st.value⟩
  else ⟨st.letters ++ [L], st.void, st.waiting, st.done, st.value⟩
noncomputable def unB (f : Int) : Int := (f * (2 - f * f)) * (2 - f * (f * (2 - f * f)))
noncomputable def unV (ls : List Letter) (v p : Int) : Int := ((v - smd ls p) * unB (fac ls p)).fmod 256
noncomputable def lastP (xs : List P2) : P2 := gP xs (xs.length - 1)
noncomputable def undoM (ls : List Letter) : Nat → Int → Int → List P2 → List P2 → Int × Int × List P2 × List P2
  | 0, v, u, d, w => (v, u, d, w)
  | n + 1, v, u, d, w => if !w.isEmpty && !plt (lastP d) (gP w 0) then undoM ls n (unV ls v (lastP d).2) (u + 1) d.dropLast (hpush w (lastP d)) else (v, u, d, w)
noncomputable def reV (ls : List Letter) (v p : Int) : Int := (v * fac ls p + smd ls p).fmod 256
noncomputable def redoM (ls : List Letter) (void : List Int) : Nat → Int → List P2 → List P2 → Int × List P2
  | 0, v, d, w => (v, d)
  | n + 1, v, d, w => if void.contains (hpop w).1.2 then redoM ls void n v d (hpop w).2 else redoM ls void n (reV ls v (hpop w).1.2) (d ++ [(hpop w).1]) (hpop w).2
noncomputable def afterWords (st : WS) (Ls : List Letter) : WS := Ls.foldl wordM st
noncomputable def undoOf (st : WS) : Int × Int × List P2 × List P2 := undoM st.letters st.done.length st.value 0 st.done st.waiting
noncomputable def redoOf (st : WS) : Int × List P2 := redoM st.letters st.void (undoOf st).2.2.2.length (undoOf st).1 (undoOf st).2.2.1 (undoOf st).2.2.2
noncomputable def settle (st : WS) : WS := ⟨st.letters, st.void, [], (redoOf st).2, (redoOf st).1⟩
noncomputable abbrev Entry := Int × Int × List P2
noncomputable def entryOf (st : WS) : Entry := ((redoOf st).1, (undoOf st).2.1, (redoOf st).2)
noncomputable def runM : WS → List (List Letter) → List Entry
  | _, [] => []
  | st, Ls :: r => entryOf (afterWords st Ls) :: runM (settle (afterWords st Ls)) r
noncomputable def stateM (st : WS) (rows : List (List Letter)) : WS := rows.foldl (fun st Ls => settle (afterWords st Ls)) st
theorem runM_snoc : ∀ (rows : List (List Letter)) (st : WS) (Ls : List Letter), runM st (rows ++ [Ls]) = runM st rows ++ [entryOf (afterWords (stateM st rows) Ls)]
  | [], st, Ls => rfl
  | r :: rows, st, Ls => by
    show entryOf _ :: runM _ (rows ++ [Ls]) = _
    rw [runM_snoc rows]; rfl
theorem stateM_snoc (rows : List (List Letter)) (st : WS) (Ls : List Letter) : stateM st (rows ++ [Ls]) = settle (afterWords (stateM st rows) Ls) := by
  unfold stateM; rw [List.foldl_append]; rfl
noncomputable def ws0 : WS := ⟨[], [], [], [], 1⟩
noncomputable def In (n : Nat) (xs : List P2) : Prop := ∀ p ∈ xs, 0 ≤ p.2 ∧ p.2 < n
structure WSok (st : WS) : Prop where
  d : In st.letters.length st.done
  w : In st.letters.length st.waiting
  n : st.waiting.length + st.done.length ≤ st.letters.length
  vd : st.void.length ≤ st.letters.length
  v : 0 ≤ st.value ∧ st.value < 256
  ls : LsOk st.letters
theorem fmod_range (a : Int) {b : Int} (h : 0 < b) : 0 ≤ a.fmod b ∧ a.fmod b < b := by
  rw [Int.fmod_eq_emod_of_nonneg _ (by omega)]; exact ⟨Int.emod_nonneg _ (by omega), Int.emod_lt_of_pos _ h⟩
theorem In.push {n : Nat} {xs : List P2} {x : P2} (h : In n xs) (hx : 0 ≤ x.2 ∧ x.2 < n) : In n (hpush xs x) := fun p hp => by
  rcases List.mem_cons.mp ((hpush_perm xs x).mem_iff.mp hp) with rfl | hp
  · exact hx
  · exact h p hp
theorem In.mono {n m : Nat} {xs : List P2} (h : In n xs) (hm : n ≤ m) : In m xs := fun p hp => ⟨(h p hp).1, by have := (h p hp).2; omega⟩
theorem In.pop {n : Nat} {xs : List P2} (h : In n xs) (hne : xs ≠ []) : (0 ≤ (hpop xs).1.2 ∧ (hpop xs).1.2 < n) ∧ In n (hpop xs).2 :=
  ⟨h _ ((hpop_perm hne).mem_iff.mp (.head _)), fun p hp => h p ((hpop_perm hne).mem_iff.mp (.tail _ hp))⟩
theorem hpush_len (xs : List P2) (x : P2) : (hpush xs x).length = xs.length + 1 := by rw [(hpush_perm xs x).length_eq]; rfl
theorem hpop_len {xs : List P2} (h : xs ≠ []) : (hpop xs).2.length + 1 = xs.length := by rw [← (hpop_perm h).length_eq]; rfl
theorem lastP_mem {xs : List P2} (h : xs ≠ []) : lastP xs ∈ xs := by
  have h0 : 0 < xs.length := List.length_pos_iff.mpr h
  unfold lastP gP
  rw [List.getD_eq_getElem?_getD, List.getElem?_eq_getElem (by omega)]
  exact List.getElem_mem _
theorem LsOk.snoc {ls : List Letter} {L : Letter} (h : LsOk ls) (h1 : 0 ≤ L.2.1 ∧ L.2.1 < 256) (h2 : 0 ≤ L.2.2 ∧ L.2.2 < 256) : LsOk (ls ++ [L]) := by
  constructor
  · intro j h0 hl
    simp at hl
    unfold fac
    by_cases q : j.toNat < ls.length
    · have := h.f j h0 (by omega)
      unfold fac at this
      simp [List.getElem?_append_left q] at this ⊢; exact this
    · have e : j.toNat = ls.length := by omega
      rw [e]; simp; exact h1
  · intro j h0 hl
    simp at hl
    unfold smd
    by_cases q : j.toNat < ls.length
    · have := h.s j h0 (by omega)
      unfold smd at this
      simp [List.getElem?_append_left q] at this ⊢; exact this
    · have e : j.toNat = ls.length := by omega
      rw [e]; simp; exact h2
theorem WSok.word {st : WS} {L : Letter} (h : WSok st) (h1 : 0 ≤ L.2.1 ∧ L.2.1 < 256) (h2 : 0 ≤ L.2.2 ∧ L.2.2 < 256) : WSok (wordM st L) ∧ (wordM st L).letters = st.letters ++ [L] := by
  have hl : (st.letters ++ [L]).length = st.letters.length + 1 := by simp
  unfold wordM
  split
  · refine ⟨⟨?_, ?_, ?_, ?_, h.v, h.ls.snoc h1 h2⟩, rfl⟩
    · show In (st.letters ++ [L]).length st.done; rw [hl]; exact h.d.mono (by omega)
    · show In (st.letters ++ [L]).length _; rw [hl]; exact (h.w.mono (by omega)).push ⟨by show (0 : Int) ≤ (st.letters.length : Int); omega, by show (st.letters.length : Int) < _; omega⟩
    · show (hpush _ _).length + st.done.length ≤ (st.letters ++ [L]).length; rw [hpush_len, hl]; have := h.n; omega
    · show st.void.length ≤ (st.letters ++ [L]).length; rw [hl]; have := h.vd; omega
  · split
    · rename_i hc
      simp only [Bool.and_eq_true, decide_eq_true_eq] at hc
      have hr := fmod_range L.1 hc.1
      refine ⟨⟨?_, ?_, ?_, ?_, h.v, h.ls.snoc h1 h2⟩, rfl⟩
      · show In (st.letters ++ [L]).length st.done; rw [hl]; exact h.d.mono (by omega)
      · show In (st.letters ++ [L]).length _; rw [hl]; exact (h.w.mono (by omega)).push ⟨hr.1, by have := hr.2; show L.1.fmod st.letters.length < _; omega⟩
      · show (hpush _ _).length + st.done.length ≤ (st.letters ++ [L]).length; rw [hpush_len, hl]; have := h.n; omega
      · show (st.void ++ [_]).length ≤ (st.letters ++ [L]).length; rw [hl]; have := h.vd; simp; omega
    · refine ⟨⟨?_, ?_, ?_, ?_, h.v, h.ls.snoc h1 h2⟩, rfl⟩
      · show In (st.letters ++ [L]).length st.done; rw [hl]; exact h.d.mono (by omega)
      · show In (st.letters ++ [L]).length st.waiting; rw [hl]; exact h.w.mono (by omega)
      · show st.waiting.length + st.done.length ≤ (st.letters ++ [L]).length; rw [hl]; have := h.n; omega
      · show st.void.length ≤ (st.letters ++ [L]).length; rw [hl]; have := h.vd; omega
theorem undoM_ok {ls : List Letter} : ∀ (n : Nat) (v u : Int) (d w : List P2), n = d.length → In ls.length d → In ls.length w → 0 ≤ v ∧ v < 256 →
    In ls.length (undoM ls n v u d w).2.2.1 ∧ In ls.length (undoM ls n v u d w).2.2.2 ∧ (undoM ls n v u d w).2.2.2.length + (undoM ls n v u d w).2.2.1.length = w.length + d.length ∧ 0 ≤ (undoM ls n v u d w).1 ∧ (undoM ls n v u d w).1 < 256
  | 0, v, u, d, w, hn, hd, hw, hv => ⟨hd, hw, rfl, hv⟩
  | n + 1, v, u, d, w, hn, hd, hw, hv => by
    unfold undoM
    split
    · have hne : d ≠ [] := by rintro rfl; simp at hn
      obtain ⟨a1, a2, a3, a4⟩ := undoM_ok n (unV ls v (lastP d).2) (u + 1) d.dropLast (hpush w (lastP d)) (by simp; omega) (fun p hp => hd p (List.dropLast_subset _ hp)) (hw.push (hd _ (lastP_mem hne))) (fmod_range _ (by decide))
      refine ⟨a1, a2, ?_, a4⟩
      rw [a3, hpush_len]; simp; omega
    · exact ⟨hd, hw, rfl, hv⟩
theorem redoM_ok {ls : List Letter} {void : List Int} : ∀ (n : Nat) (v : Int) (d w : List P2), n = w.length → In ls.length d → In ls.length w → 0 ≤ v ∧ v < 256 →
    In ls.length (redoM ls void n v d w).2 ∧ (redoM ls void n v d w).2.length ≤ w.length + d.length ∧ 0 ≤ (redoM ls void n v d w).1 ∧ (redoM ls void n v d w).1 < 256
  | 0, v, d, w, hn, hd, hw, hv => ⟨hd, by show d.length ≤ _; omega, hv⟩
  | n + 1, v, d, w, hn, hd, hw, hv => by
    have hne : w ≠ [] := by rintro rfl; simp at hn
    have hp := hw.pop hne
    have hl := hpop_len hne
    unfold redoM
    split
    · obtain ⟨a1, a2, a3⟩ := redoM_ok (void := void) n v d (hpop w).2 (by omega) hd hp.2 hv
      exact ⟨a1, by omega, a3⟩
    · obtain ⟨a1, a2, a3⟩ := redoM_ok (void := void) n (reV ls v (hpop w).1.2) (d ++ [(hpop w).1]) (hpop w).2 (by omega) (fun p hp' => by
        rcases List.mem_append.mp hp' with h | h
        · exact hd p h
        · simp at h; subst h; exact hp.1) hp.2 (fmod_range _ (by decide))
      exact ⟨a1, by simp at a2; omega, a3⟩
theorem WSok.settle {st : WS} (h : WSok st) : WSok (settle st) := by
  obtain ⟨a1, a2, a3, a4⟩ := undoM_ok st.done.length st.value 0 st.done st.waiting rfl h.d h.w h.v
  obtain ⟨b1, b2, b3⟩ := redoM_ok (void := st.void) (undoOf st).2.2.2.length (undoOf st).1 (undoOf st).2.2.1 (undoOf st).2.2.2 rfl a1 a2 a4
  refine ⟨b1, (fun p hp => by cases hp), ?_, h.vd, b3, h.ls⟩
  show ([] : List P2).length + (redoOf st).2.length ≤ st.letters.length
  have := h.n
  unfold undoOf at b2
  unfold redoOf undoOf
  simp only [List.length_nil]
  omega
theorem WSok.zero : WSok ws0 := ⟨(fun p hp => by cases hp), (fun p hp => by cases hp), by decide, by decide, by decide, ⟨(fun j h0 h1 => by simp [ws0] at h1; omega), (fun j h0 h1 => by simp [ws0] at h1; omega)⟩⟩
/-- a word and its three octets -/
noncomputable abbrev Wd := List Nat × UInt8 × UInt8 × UInt8
noncomputable def letterW (w : Wd) : Letter := ((w.2.1.toNat : Int), (w.2.2.1.toNat : Int), (w.2.2.2.toNat : Int))
noncomputable def oct (w : Wd) : List UInt8 := w.1.map fun k => k.toUInt8
structure DecW (w : Wd) (alt : List UInt8) : Prop where
  asc : ∀ k ∈ w.1, k < 128
  len : w.1.length < 1000
  hv : ∀ b ∈ decT (oct w) alt, b64v (b.toNat : Int) < 64
  h0 : (decAll (decI (oct w) alt)).2.1 = 0
  val : decB (oct w) alt = [w.2.1, w.2.2.1, w.2.2.2]
noncomputable def entV (a : Addr) (e : Entry) : V := .tup [.int e.1, .int e.2.1, .ref a]
/-- the log's entries, their lists -/
structure LogOk (das : List Addr) (es : List Entry) (lg : List V) (dl : Led) : Prop where
  len : das.length = es.length
  lg : lg = List.zipWith entV das es
  pl : ∀ p ∈ dl, ∃ xs, p.2 = AObj.list xs
  dl : ∀ x ∈ das.zip es, (x.1, AObj.list (x.2.2.2.map ptup)) ∈ dl
theorem LogOk.nil : LogOk [] [] [] [] := ⟨rfl, rfl, (fun p hp => by cases hp), fun x hx => by cases hx⟩
theorem LogOk.snoc {das : List Addr} {es : List Entry} {lg : List V} {dl : Led} (h : LogOk das es lg dl) (a : Addr) (e : Entry) : LogOk (das ++ [a]) (es ++ [e]) (lg ++ [entV a e]) ((a, .list (e.2.2.map ptup)) :: dl) := by
  refine ⟨by simp [h.len], by rw [h.lg, List.zipWith_append h.len]; rfl, fun p hp => ?_, fun x hx => ?_⟩
  · rcases List.mem_cons.mp hp with rfl | hp
    · exact ⟨_, rfl⟩
    · exact h.pl p hp
  rw [List.zip_append h.len] at hx
  rcases List.mem_append.mp hx with hx | hx
  · exact .tail _ (h.dl x hx)
  · simp at hx; subst hx; exact .head _
theorem bits_le {x : Int} (h : x.natAbs < 2 ^ 64) : Builtin.Int.intBits x ≤ 64 := by
  unfold Builtin.Int.intBits
  split
  · omega
  · rename_i h'
    have : x.natAbs.log2 < 64 := (Nat.log2_lt (by simpa using h')).mpr h
    omega
theorem pick_mid {p : Addr × AObj} {σ : Led} : ∀ (dl : Led), Pick p (dl ++ (p :: σ)) (dl ++ σ)
  | [] => .head
  | _ :: dl => .tail (pick_mid dl)
theorem back_bound {f : Int} (h0 : 0 ≤ f) (h1 : f < 256) : (f * (2 - f * f)).natAbs < 2 ^ 64 := by
  have a : 0 ≤ f * f := Int.mul_nonneg h0 h0
  have b : f * f ≤ 255 * 255 := Int.mul_le_mul (by omega) (by omega) h0 (by omega)
  rw [Int.natAbs_mul]
  have : f.natAbs * (2 - f * f).natAbs ≤ 255 * 65025 := Nat.mul_le_mul (by omega) (by omega)
  omega
theorem undo_stop {ls : List Letter} {n : Nat} {v u : Int} {d w : List P2} (h : w.isEmpty = true ∨ n = 0 ∨ plt (lastP d) (gP w 0) = true) : undoM ls n v u d w = (v, u, d, w) := by
  cases n with
  | zero => rfl
  | succ n =>
    unfold undoM
    rw [if_neg]
    rcases h with h | h | h
    · simp [h]
    · cases h
    · rw [h]; simp
theorem undo_go {ls : List Letter} {n : Nat} {v u : Int} {d w : List P2} (h1 : w.isEmpty = false) (h2 : plt (lastP d) (gP w 0) = false) : undoM ls (n + 1) v u d w = undoM ls n (unV ls v (lastP d).2) (u + 1) d.dropLast (hpush w (lastP d)) := by
  show (if _ then _ else _) = _
  rw [if_pos (by rw [h1, h2]; rfl)]
theorem redo_void {ls : List Letter} {void : List Int} {n : Nat} {v : Int} {d w : List P2} (h : void.contains (hpop w).1.2 = true) : redoM ls void (n + 1) v d w = redoM ls void n v d (hpop w).2 := by
  show (if _ then _ else _) = _
  rw [if_pos h]
theorem redo_go {ls : List Letter} {void : List Int} {n : Nat} {v : Int} {d w : List P2} (h : void.contains (hpop w).1.2 = false) : redoM ls void (n + 1) v d w = redoM ls void n (reV ls v (hpop w).1.2) (d ++ [(hpop w).1]) (hpop w).2 := by
  show (if _ then _ else _) = _
  rw [if_neg (by rw [h]; decide)]
inductive WkJ (Rt LL LV LW LD LG : Addr) (alt : List UInt8) (rows : List (List Wd)) (pp : Addr × AObj) (σ : Led) (i : Nat) (ρ : List (Str × Option V)) (τ : Led) : Prop
  | mk (o0 o1 o2 o3 o4 o5 o6 o7 o8 : Option V) (st : WS) (das : List Addr) (dl : Led) (lg : List V) (_ : st = stateM ws0 ((rows.take i).map fun ws => ws.map letterW)) (_ : LogOk das (runM ws0 ((rows.take i).map fun ws => ws.map letterW)) lg dl) (_ : WSok st) (_ : st.waiting = []) (_ : st.letters.length = (rows.take i).flatten.length) (_ : ρ = [(Str.ofString "rows", some (.ref Rt)), (Str.ofString "pair", some (.bytes alt)), (Str.ofString "letters", some (.ref LL)), (Str.ofString "void", some (.ref LV)), (Str.ofString "waiting", some (.ref LW)), (Str.ofString "done", some (.ref LD)), (Str.ofString "value", some (.int st.value)), (Str.ofString "log", some (.ref LG)), (Str.ofString "words", o0), (Str.ofString "word", o1), (Str.ofString "octets", o2), (Str.ofString "first", o3), (Str.ofString "place", o4), (Str.ofString "undone", o5), (Str.ofString "stamp", o6), (Str.ofString "factor", o7), (Str.ofString "back", o8)]) (_ : τ = (LG, .list lg) :: (LD, .list (st.done.map ptup)) :: (LW, .list (st.waiting.map ptup)) :: (LV, .list (st.void.map V.int)) :: (LL, .list (st.letters.map ltup)) :: (dl ++ (pp :: σ)))
inductive WdJ (Rt LL LV LW LD LG : Addr) (ri : Addr) (alt : List UInt8) (ws : List Wd) (st : WS) (lg : List V) (dl : Led) (pp : Addr × AObj) (σ : Led) (p : Addr × AObj) (k : Nat) (ρ : List (Str × Option V)) (τ : Led) : Prop
  | mk (o1 o2 o3 o4 o5 o6 o7 o8 : Option V) (st2 : WS) (_ : st2 = afterWords st ((ws.take k).map letterW)) (_ : WSok st2) (_ : st2.letters.length = st.letters.length + min k ws.length) (_ : ρ = [(Str.ofString "rows", some (.ref Rt)), (Str.ofString "pair", some (.bytes alt)), (Str.ofString "letters", some (.ref LL)), (Str.ofString "void", some (.ref LV)), (Str.ofString "waiting", some (.ref LW)), (Str.ofString "done", some (.ref LD)), (Str.ofString "value", some (.int st2.value)), (Str.ofString "log", some (.ref LG)), (Str.ofString "words", some (.ref ri)), (Str.ofString "word", o1), (Str.ofString "octets", o2), (Str.ofString "first", o3), (Str.ofString "place", o4), (Str.ofString "undone", o5), (Str.ofString "stamp", o6), (Str.ofString "factor", o7), (Str.ofString "back", o8)]) (_ : τ = p :: (LG, .list lg) :: (LD, .list (st2.done.map ptup)) :: (LW, .list (st2.waiting.map ptup)) :: (LV, .list (st2.void.map V.int)) :: (LL, .list (st2.letters.map ltup)) :: (dl ++ (pp :: σ)))
inductive UnJ (Rt LL LV LW LD LG : Addr) (ri : Addr) (alt : List UInt8) (st2 : WS) (lg : List V) (dl : Led) (pp : Addr × AObj) (σ : Led) (p : Addr × AObj) (o1 o2 o3 : Option V) (ρ : List (Str × Option V)) (τ : Led) : Prop
  | mk (o4 o6 o7 o8 : Option V) (v u : Int) (d w : List P2) (_ : undoOf st2 = (v, u, d, w)) (_ : In st2.letters.length d) (_ : In st2.letters.length w) (_ : (0 ≤ v ∧ v < 256)) (_ : ρ = [(Str.ofString "rows", some (.ref Rt)), (Str.ofString "pair", some (.bytes alt)), (Str.ofString "letters", some (.ref LL)), (Str.ofString "void", some (.ref LV)), (Str.ofString "waiting", some (.ref LW)), (Str.ofString "done", some (.ref LD)), (Str.ofString "value", some (.int v)), (Str.ofString "log", some (.ref LG)), (Str.ofString "words", some (.ref ri)), (Str.ofString "word", o1), (Str.ofString "octets", o2), (Str.ofString "first", o3), (Str.ofString "place", o4), (Str.ofString "undone", some (.int u)), (Str.ofString "stamp", o6), (Str.ofString "factor", o7), (Str.ofString "back", o8)]) (_ : τ = p :: (LG, .list lg) :: (LD, .list (d.map ptup)) :: (LW, .list (w.map ptup)) :: (LV, .list (st2.void.map V.int)) :: (LL, .list (st2.letters.map ltup)) :: (dl ++ (pp :: σ)))
inductive UwJ (Rt LL LV LW LD LG : Addr) (ri : Addr) (alt : List UInt8) (st2 : WS) (lg : List V) (dl : Led) (pp : Addr × AObj) (σ : Led) (p : Addr × AObj) (o1 o2 o3 : Option V) (m : Nat) (ρ : List (Str × Option V)) (τ : Led) : Prop
  | mk (o4 o6 o7 o8 : Option V) (v u : Int) (d w : List P2) (_ : m = d.length) (_ : undoM st2.letters m v u d w = undoOf st2) (_ : In st2.letters.length d) (_ : In st2.letters.length w) (_ : (0 ≤ v ∧ v < 256)) (_ : w.length + d.length ≤ 60) (_ : ρ = [(Str.ofString "rows", some (.ref Rt)), (Str.ofString "pair", some (.bytes alt)), (Str.ofString "letters", some (.ref LL)), (Str.ofString "void", some (.ref LV)), (Str.ofString "waiting", some (.ref LW)), (Str.ofString "done", some (.ref LD)), (Str.ofString "value", some (.int v)), (Str.ofString "log", some (.ref LG)), (Str.ofString "words", some (.ref ri)), (Str.ofString "word", o1), (Str.ofString "octets", o2), (Str.ofString "first", o3), (Str.ofString "place", o4), (Str.ofString "undone", some (.int u)), (Str.ofString "stamp", o6), (Str.ofString "factor", o7), (Str.ofString "back", o8)]) (_ : τ = p :: (LG, .list lg) :: (LD, .list (d.map ptup)) :: (LW, .list (w.map ptup)) :: (LV, .list (st2.void.map V.int)) :: (LL, .list (st2.letters.map ltup)) :: (dl ++ (pp :: σ)))
inductive ReJ (Rt LL LV LW LD LG : Addr) (ri : Addr) (alt : List UInt8) (st2 : WS) (lg : List V) (dl : Led) (pp : Addr × AObj) (σ : Led) (p : Addr × AObj) (o1 o2 o3 : Option V) (u : Int) (o7 o8 : Option V) (ρ : List (Str × Option V)) (τ : Led) : Prop
  | mk (o4 o6 : Option V) (_ : ρ = [(Str.ofString "rows", some (.ref Rt)), (Str.ofString "pair", some (.bytes alt)), (Str.ofString "letters", some (.ref LL)), (Str.ofString "void", some (.ref LV)), (Str.ofString "waiting", some (.ref LW)), (Str.ofString "done", some (.ref LD)), (Str.ofString "value", some (.int (redoOf st2).1)), (Str.ofString "log", some (.ref LG)), (Str.ofString "words", some (.ref ri)), (Str.ofString "word", o1), (Str.ofString "octets", o2), (Str.ofString "first", o3), (Str.ofString "place", o4), (Str.ofString "undone", some (.int u)), (Str.ofString "stamp", o6), (Str.ofString "factor", o7), (Str.ofString "back", o8)]) (_ : (redoOf st2).2.length ≤ 60) (_ : τ = p :: (LG, .list lg) :: (LD, .list ((redoOf st2).2.map ptup)) :: (LW, .list (([] : List P2).map ptup)) :: (LV, .list (st2.void.map V.int)) :: (LL, .list (st2.letters.map ltup)) :: (dl ++ (pp :: σ)))
inductive RwJ (Rt LL LV LW LD LG : Addr) (ri : Addr) (alt : List UInt8) (st2 : WS) (lg : List V) (dl : Led) (pp : Addr × AObj) (σ : Led) (p : Addr × AObj) (o1 o2 o3 : Option V) (u : Int) (o7 o8 : Option V) (m : Nat) (ρ : List (Str × Option V)) (τ : Led) : Prop
  | mk (o4 o6 : Option V) (v : Int) (d w : List P2) (_ : m = w.length) (_ : redoM st2.letters st2.void m v d w = redoOf st2) (_ : In st2.letters.length d) (_ : In st2.letters.length w) (_ : (0 ≤ v ∧ v < 256)) (_ : w.length + d.length ≤ 60) (_ : ρ = [(Str.ofString "rows", some (.ref Rt)), (Str.ofString "pair", some (.bytes alt)), (Str.ofString "letters", some (.ref LL)), (Str.ofString "void", some (.ref LV)), (Str.ofString "waiting", some (.ref LW)), (Str.ofString "done", some (.ref LD)), (Str.ofString "value", some (.int v)), (Str.ofString "log", some (.ref LG)), (Str.ofString "words", some (.ref ri)), (Str.ofString "word", o1), (Str.ofString "octets", o2), (Str.ofString "first", o3), (Str.ofString "place", o4), (Str.ofString "undone", some (.int u)), (Str.ofString "stamp", o6), (Str.ofString "factor", o7), (Str.ofString "back", o8)]) (_ : τ = p :: (LG, .list lg) :: (LD, .list (d.map ptup)) :: (LW, .list (w.map ptup)) :: (LV, .list (st2.void.map V.int)) :: (LL, .list (st2.letters.map ltup)) :: (dl ++ (pp :: σ)))
theorem oct_is (w : Wd) : ((S w.1).cps.toList.map fun k => k.toUInt8) = oct w := by rw [S_list]; rfl
theorem octets_spec {c : Cx} {A : Around} {σ : Led} {K : V → Led → Prop} {x : Str} {l : List UInt8} (e : (x.cps.toList.map fun k => k.toUInt8) = l) (hh : A.handled = none) (hA : A.depth < 890) (ha : x.cps.all (· < 128) = true) (hn : x.cps.size < 100000)
    (h : K (.bytes l) σ) : WN VR c A (fun vs => call (.ref 177) vs) [.str x] σ K := by subst e; exact law_octets_spec hh hA ha hn h
theorem decode_spec {c : Cx} {A : Around} {σ : Led} {K : V → Led → Prop} {l alt r : List UInt8} (e : decB l alt = r) (hh : A.handled = none) (hA : A.depth < 870) (hl : l.length < 1000) (ha : alt.length = 2)
    (hv : ∀ b ∈ decT l alt, b64v (b.toNat : Int) < 64) (h0 : (decAll (decI l alt)).2.1 = 0) (h : K (.bytes r) σ) :
    WN VR c A (fun vs => call (.ref 130) vs) [.bytes l, .bytes alt] σ K := by subst e; exact b64decode_spec hh hA hl ha hv h0 h
set_option maxHeartbeats 16000000 in
theorem law_worked_spec {c : Cx} {A : Around} {pp : Addr × AObj} {σ : Led} {K : V → Led → Prop} {Rt : Addr} {ra : List Addr} {rows : List (List Wd)} {alt : List UInt8} (hh : A.handled = none) (hA : A.depth < 860) (hU : A.units < 8000)
    (hR : (Rt, AObj.list (ra.map V.ref)) ∈ pp :: σ) (hra : ra.length = rows.length) (hrow : ∀ x ∈ ra.zip rows, (x.1, AObj.list (x.2.map fun w => V.str (S w.1))) ∈ pp :: σ)
    (ha : alt.length = 2) (hdec : ∀ ws ∈ rows, ∀ w ∈ ws, DecW w alt) (hlen : rows.flatten.length ≤ 60) (hrl : rows.length ≤ 60)
    (h : ∀ G das dl lg, LogOk das (runM ws0 (rows.map fun ws => ws.map letterW)) lg dl → K (.ref G) (pp :: (G, .list lg) :: (dl ++ σ))) :
    WN VR c A (fun vs => call (.ref 201) vs) [.ref Rt, .bytes alt] (pp :: σ) K := by
  refine W_def (names := ["rows", "pair"]) (others := ["letters", "void", "waiting", "done", "value", "log", "words", "word", "octets", "first", "place", "undone", "stamp", "factor", "back"]) [(Str.ofString "rows", some (.ref Rt)), (Str.ofString "pair", some (.bytes alt)), (Str.ofString "letters", none), (Str.ofString "void", none), (Str.ofString "waiting", none), (Str.ofString "done", none), (Str.ofString "value", none), (Str.ofString "log", none), (Str.ofString "words", none), (Str.ofString "word", none), (Str.ofString "octets", none), (Str.ofString "first", none), (Str.ofString "place", none), (Str.ofString "undone", none), (Str.ofString "stamp", none), (Str.ofString "factor", none), (Str.ofString "back", none)]
    (c.inK 201 _ rfl) ⟨_, _, _, c.inK 200 _ rfl, rfl, rfl⟩ (fun s vs _ => binds2 (fun _ _ => BindsTo.of_eq rfl) vs) rfl rfl (by decide +kernel) rfl (by decide) (by omega) rfl rfl rfl ?_
  intro L A' a1 a2 a3
  repeat walk_at "gi"
  refine W_List ?_
  repeat walk_at "gi"
  refine ⟨by simp, _, _, rfl, fun LL => ?_⟩
  repeat walk_at "gi"
  refine W_List ?_
  repeat walk_at "gi"
  refine ⟨by simp, _, _, rfl, fun LV => ?_⟩
  repeat walk_at "gi"
  refine W_List ?_
  repeat walk_at "gi"
  refine ⟨by simp, _, _, rfl, fun LW => ?_⟩
  repeat walk_at "gi"
  refine W_List ?_
  repeat walk_at "gi"
  refine ⟨by simp, _, _, rfl, fun LD => ?_⟩
  repeat walk_at "gi"
  refine W_List ?_
  repeat walk_at "gi"
  refine ⟨by simp, _, _, rfl, fun LG => ?_⟩
  repeat walk_at "gi"
  refine WF_For (items := ra.map V.ref) (need := fun σ => (Rt, AObj.list (ra.map V.ref)) ∈ σ)
    (WkJ Rt LL LV LW LD LG alt rows pp σ)
    (fun _ _ h => .tail _ h) ?_ ?_ ?_ ?_
  · repeat walk_at "gi"
    refine ⟨(It_list (by rw [a3]; exact hh)).at (.tail _ (by repeat (first | exact hR | refine List.mem_cons_of_mem _ ?_))), _, _, rfl, none, none, none, none, none, none, none, none, none, ws0, [], [], [], rfl, LogOk.nil, WSok.zero, rfl, rfl, rfl, rfl⟩
  · rintro i ρ τ ⟨o0, o1, o2, o3, o4, o5, o6, o7, o8, st, das, dl, lg, e1, e2, e3, e4, e5, rfl, rfl⟩
    repeat (first | exact List.mem_append_right _ hR | refine List.mem_cons_of_mem _ ?_)
  · rintro JF mF i X ρ τ p hi ⟨o0, o1, o2, o3, o4, o5, o6, o7, o8, st, das, dl, lg, e1, e2, e3, e4, e5, rfl, rfl⟩
    obtain ⟨ri, hri, rfl⟩ := map_getE hi
    obtain ⟨ws, hws⟩ : ∃ ws, rows[i]? = some ws := by
      have hlt : i < rows.length := by rw [← hra]; exact (List.getElem?_eq_some_iff.mp hri).1
      exact ⟨rows[i], List.getElem?_eq_getElem hlt⟩
    have hmem : (ri, ws) ∈ ra.zip rows := by
      have : (ra.zip rows)[i]? = some (ri, ws) := by rw [List.getElem?_zip_eq_some]; exact ⟨hri, hws⟩
      exact List.mem_of_getElem? this
    have hwl := hrow _ hmem
    have hwr : ws ∈ rows := List.mem_of_getElem? hws
    have hfl : (rows.take (i + 1)).flatten.length = (rows.take i).flatten.length + ws.length := by
      rw [List.take_add_one, hws]; simp
    have hfl2 : (rows.take (i + 1)).flatten.length ≤ 60 := Nat.le_trans (by
      have := List.take_append_drop (i + 1) rows
      have e : rows.flatten = (rows.take (i + 1)).flatten ++ (rows.drop (i + 1)).flatten := by rw [← List.flatten_append, this]
      rw [e, List.length_append]; exact Nat.le_add_right _ _) hlen
    repeat walk_at "gi"
    refine WF_For (items := ws.map fun w => V.str (S w.1)) (need := fun σ => (ri, AObj.list (ws.map fun (w : Wd) => V.str (S w.1))) ∈ σ)
      (WdJ Rt LL LV LW LD LG ri alt ws st lg dl pp σ p)
      (fun _ _ h => .tail _ h) ?_ ?_ ?_ ?_
    · repeat walk_at "gi"
      refine ⟨(It_list (by rw [a3]; exact hh)).at (by repeat (first | exact List.mem_append_right _ hwl | refine List.mem_cons_of_mem _ ?_)), _, _, rfl, o1, o2, o3, o4, o5, o6, o7, o8, st, rfl, e3, by simp, rfl, rfl⟩
    · rintro k ρ τ ⟨o1, o2, o3, o4, o5, o6, o7, o8, st2, f1, f2, f3, rfl, rfl⟩
      repeat (first | exact List.mem_append_right _ hwl | refine List.mem_cons_of_mem _ ?_)
    · rintro JF mF k X ρ τ p2 hk ⟨o1, o2, o3, o4, o5, o6, o7, o8, st2, f1, f2, f3, rfl, rfl⟩
      obtain ⟨w, hw, rfl⟩ := map_getE hk
      have hwm : w ∈ ws := List.mem_of_getElem? hw
      have dec := hdec ws hwr w hwm
      have hkl : k < ws.length := (List.getElem?_eq_some_iff.mp hw).1
      have f3' : st2.letters.length = st.letters.length + k := by omega
      have hll : st2.letters.length < 60 := by omega
      have hfin : afterWords st ((ws.take (k + 1)).map letterW) = wordM st2 (letterW w) := by
        rw [List.take_add_one, hw, f1]; simp [afterWords]
      obtain ⟨w1, w2⟩ := f2.word (L := letterW w) ⟨by show (0 : Int) ≤ (w.2.2.1.toNat : Int); omega, by have := w.2.2.1.toNat_lt; show (w.2.2.1.toNat : Int) < 256; omega⟩ ⟨by show (0 : Int) ≤ (w.2.2.2.toNat : Int); omega, by have := w.2.2.2.toNat_lt; show (w.2.2.2.toNat : Int) < 256; omega⟩
      have hlw : (wordM st2 (letterW w)).letters.length = st.letters.length + min (k + 1) ws.length := by rw [w2]; simp; omega
      have hvl := f2.vd
      have hwn := f2.n
      repeat walk_at "gi"
      refine octets_spec (oct_is w) (by rw [a3]; exact hh) (by omega) (by have := dec.asc; simp [S]; exact this) (by have := dec.len; simp [S]; omega) ?_
      repeat walk_at "gi"
      refine decode_spec dec.val (by rw [a3]; exact hh) (by omega) (by have := dec.len; simp [oct]; omega) ha dec.hv dec.h0 ?_
      repeat walk_at "gi"
      refine O_bitem (by simp) (by decide) rfl ?_
      repeat walk_at "gi"
      refine' B_lenE (List.length_map _).symm ?hq ?hn ?_
      case hq => walk_at "at"
      case hn => omega
      repeat walk_at "gi"
      refine W_Meth "list.append" ?_
      repeat walk_at "gi"
      refine ⟨Meth.list (by walk_at "at") F.slot_list_append F.type_list_append, ?_⟩
      repeat walk_at "gi"
      refine W_Tuple ?_
      repeat walk_at "gi"
      refine O_bitem (by simp) (by decide) rfl ?_
      repeat walk_at "gi"
      refine O_bitem (by simp) (by decide) rfl ?_
      repeat walk_at "gi"
      refine ⟨[.int (w.2.1.toNat : Int), .int (w.2.2.1.toNat : Int), .int (w.2.2.2.toNat : Int)], rfl, by simp, ?_⟩
      repeat walk_at "gi"
      refine' B_appendE (ys := (st2.letters ++ [letterW w]).map ltup) List.map_append ?hp ?h0 ?_
      case hp => walk_at "at"
      case h0 => rw [List.length_map]; omega
      refine ⟨rfl, ?_⟩
      repeat walk_at "gi"
      refine O_bitem (by simp) (by decide) rfl ?_
      repeat walk_at "gi"
      refine ⟨fun hz => ?_, fun hz => ?_⟩
      · have hz' : ((letterW w).2.1.fmod 2 == 1) = true := hz
        repeat walk_at "gi"
        refine W_Tuple ?_
        repeat walk_at "gi"
        refine ⟨[.int (w.2.1.toNat : Int), .int st2.letters.length], rfl, by simp, ?_⟩
        repeat walk_at "gi"
        refine' heappush_spec (x := ((letterW w).1, (st2.letters.length : Int))) ?h1 ?h2 ?h3 ?hp ?_
        case hp => walk_at "at"
        case h1 => omega
        case h2 => omega
        case h3 => omega
        refine ⟨rfl, ?_⟩
        repeat walk_at "gi"
        have hst : wordM st2 (letterW w) = ⟨st2.letters ++ [letterW w], st2.void, hpush st2.waiting ((letterW w).1, st2.letters.length), st2.done, st2.value⟩ := by unfold wordM; rw [if_pos hz']
        refine TurnI.next' (Sub.refl _) (mF _ _ _ ⟨some (.str (S w.1)), some (.bytes [w.2.1, w.2.2.1, w.2.2.2]), some (.int (w.2.1.toNat : Int)), some (.int st2.letters.length), o5, o6, o7, o8, _, (hfin.trans hst).symm, hst ▸ w1, hst ▸ hlw, rfl, rfl⟩)
      · have hz' : ((letterW w).2.1.fmod 2 == 1) = false := hz
        repeat walk_at "gi"
        refine ⟨fun hy => ?_, fun hy => ?_⟩
        · have hpos : 0 < (st2.letters.length : Int) := by simpa using hy
          repeat walk_at "gi"
          refine O_mod (by omega) ?_
          have hr := fmod_range (w.2.1.toNat : Int) hpos
          refine' O_item ?hl hr.1 (by omega) (letter_at (ls := st2.letters ++ [letterW w]) hr.1 (by rw [List.length_append]; simp; omega)) ?_
          case hl => walk_at "at"
          repeat walk_at "gi"
          refine O_titem (j := 1) rfl (by decide) rfl ?_
          repeat walk_at "gi"
          have hy' : decide ((0 : Int) < st2.letters.length) = true := by simpa using hpos
          refine ⟨fun hx => ?_, fun hx => ?_⟩
          · have hx' : ((fac (st2.letters ++ [letterW w]) ((letterW w).1.fmod st2.letters.length)).fmod 2 == 1) = true := hx
            repeat walk_at "gi"
            refine O_mod (by omega) ?_
            repeat walk_at "gi"
            refine' C_notInI ?hq ?_
            case hq => walk_at "at"
            repeat walk_at "gi"
            refine ⟨fun hv => ?_, fun hv => ?_⟩
            · have hv' : (!st2.void.contains ((letterW w).1.fmod st2.letters.length)) = true := hv
              repeat walk_at "gi"
              refine W_Meth "list.append" ?_
              repeat walk_at "gi"
              refine ⟨Meth.list (by walk_at "at") F.slot_list_append F.type_list_append, ?_⟩
              repeat walk_at "gi"
              refine O_mod (by omega) ?_
              repeat walk_at "gi"
              refine' B_appendE (ys := (st2.void ++ [(letterW w).1.fmod st2.letters.length]).map V.int) List.map_append ?hp ?h0 ?_
              case hp => walk_at "at"
              case h0 => rw [List.length_map]; omega
              refine ⟨rfl, ?_⟩
              repeat walk_at "gi"
              refine W_Tuple ?_
              repeat walk_at "gi"
              refine O_mod (by omega) ?_
              repeat walk_at "gi"
              refine' O_item ?hl hr.1 (by omega) (letter_at (ls := st2.letters ++ [letterW w]) hr.1 (by rw [List.length_append]; simp; omega)) ?_
              case hl => walk_at "at"
              repeat walk_at "gi"
              refine O_titem (j := 0) rfl (by decide) rfl ?_
              repeat walk_at "gi"
              refine O_mod (by omega) ?_
              repeat walk_at "gi"
              refine ⟨[.int (stp (st2.letters ++ [letterW w]) ((letterW w).1.fmod st2.letters.length)), .int ((letterW w).1.fmod st2.letters.length)], rfl, by simp, ?_⟩
              repeat walk_at "gi"
              refine' heappush_spec (x := (stp (st2.letters ++ [letterW w]) ((letterW w).1.fmod st2.letters.length), (letterW w).1.fmod st2.letters.length)) ?h1 ?h2 ?h3 ?hp ?_
              case hp => walk_at "at"
              case h1 => omega
              case h2 => omega
              case h3 => omega
              refine ⟨rfl, ?_⟩
              repeat walk_at "gi"
              have hst : wordM st2 (letterW w) = ⟨st2.letters ++ [letterW w], st2.void ++ [(letterW w).1.fmod st2.letters.length], hpush st2.waiting (stp (st2.letters ++ [letterW w]) ((letterW w).1.fmod st2.letters.length), (letterW w).1.fmod st2.letters.length), st2.done, st2.value⟩ := by
                unfold wordM
                rw [hz', show (decide ((0 : Int) < st2.letters.length) && ((fac (st2.letters ++ [letterW w]) ((letterW w).1.fmod st2.letters.length)).fmod 2 == 1 && !st2.void.contains ((letterW w).1.fmod st2.letters.length))) = true by rw [hy', hx', hv']; rfl]
                rfl
              refine TurnI.next' (Sub.refl _) (mF _ _ _ ⟨some (.str (S w.1)), some (.bytes [w.2.1, w.2.2.1, w.2.2.2]), some (.int (w.2.1.toNat : Int)), some (.int st2.letters.length), o5, o6, o7, o8, _, (hfin.trans hst).symm, hst ▸ w1, hst ▸ hlw, rfl, rfl⟩)
            · have hv' : (!st2.void.contains ((letterW w).1.fmod st2.letters.length)) = false := hv
              repeat walk_at "gi"
              have hst : wordM st2 (letterW w) = ⟨st2.letters ++ [letterW w], st2.void, st2.waiting, st2.done, st2.value⟩ := by
                unfold wordM
                rw [hz', show (decide ((0 : Int) < st2.letters.length) && ((fac (st2.letters ++ [letterW w]) ((letterW w).1.fmod st2.letters.length)).fmod 2 == 1 && !st2.void.contains ((letterW w).1.fmod st2.letters.length))) = false by rw [hy', hx', hv']; rfl]
                rfl
              refine TurnI.next' (Sub.refl _) (mF _ _ _ ⟨some (.str (S w.1)), some (.bytes [w.2.1, w.2.2.1, w.2.2.2]), some (.int (w.2.1.toNat : Int)), some (.int st2.letters.length), o5, o6, o7, o8, _, (hfin.trans hst).symm, hst ▸ w1, hst ▸ hlw, rfl, rfl⟩)
          · have hx' : ((fac (st2.letters ++ [letterW w]) ((letterW w).1.fmod st2.letters.length)).fmod 2 == 1) = false := hx
            repeat walk_at "gi"
            have hst : wordM st2 (letterW w) = ⟨st2.letters ++ [letterW w], st2.void, st2.waiting, st2.done, st2.value⟩ := by
              unfold wordM
              rw [hz', show (decide ((0 : Int) < st2.letters.length) && ((fac (st2.letters ++ [letterW w]) ((letterW w).1.fmod st2.letters.length)).fmod 2 == 1 && !st2.void.contains ((letterW w).1.fmod st2.letters.length))) = false by rw [hy', hx']; rfl]
              rfl
            refine TurnI.next' (Sub.refl _) (mF _ _ _ ⟨some (.str (S w.1)), some (.bytes [w.2.1, w.2.2.1, w.2.2.2]), some (.int (w.2.1.toNat : Int)), some (.int st2.letters.length), o5, o6, o7, o8, _, (hfin.trans hst).symm, hst ▸ w1, hst ▸ hlw, rfl, rfl⟩)
        · have hy' : decide ((0 : Int) < st2.letters.length) = false := by simpa using hy
          repeat walk_at "gi"
          have hst : wordM st2 (letterW w) = ⟨st2.letters ++ [letterW w], st2.void, st2.waiting, st2.done, st2.value⟩ := by
            unfold wordM
            rw [hz', show (decide ((0 : Int) < st2.letters.length) && ((fac (st2.letters ++ [letterW w]) ((letterW w).1.fmod st2.letters.length)).fmod 2 == 1 && !st2.void.contains ((letterW w).1.fmod st2.letters.length))) = false by rw [hy']; rfl]
            rfl
          refine TurnI.next' (Sub.refl _) (mF _ _ _ ⟨some (.str (S w.1)), some (.bytes [w.2.1, w.2.2.1, w.2.2.2]), some (.int (w.2.1.toNat : Int)), some (.int st2.letters.length), o5, o6, o7, o8, _, (hfin.trans hst).symm, hst ▸ w1, hst ▸ hlw, rfl, rfl⟩)
    · rintro ρ τ ⟨o1, o2, o3, o4, o5, o6, o7, o8, st2, f1, f2, f3, rfl, rfl⟩
      have f1' : st2 = afterWords st (ws.map letterW) := by rw [f1, List.length_map, List.take_length]
      have f3' : st2.letters.length = st.letters.length + ws.length := by rw [f3, List.length_map]; omega
      clear f1 f3
      repeat walk_at "gi"
      have hd0 := f2.d
      have hw0 := f2.w
      have hv0 := f2.v
      have hn0 := f2.n
      have hvl := f2.vd
      have hll : st2.letters.length ≤ 60 := by omega
      have hoks := f2.ls
      have hJoin : ∀ v u d w, undoOf st2 = (v, u, d, w) → w.length + d.length ≤ 60 := fun v u d w e => by
        obtain ⟨_, _, q3, _⟩ := undoM_ok st2.done.length st2.value 0 st2.done st2.waiting rfl hd0 hw0 hv0
        have q3 : (undoOf st2).2.2.2.length + (undoOf st2).2.2.1.length = _ := q3
        rw [e] at q3
        show w.length + d.length ≤ 60
        simp only at q3
        omega
      refine WF_joinS (UnJ Rt LL LV LW LD LG ri alt st2 lg dl pp σ p o1 o2 o3) (fun JM mM => ?_) ?_
      · refine WF_WhileS (UwJ Rt LL LV LW LD LG ri alt st2 lg dl pp σ p o1 o2 o3)
          st2.done.length ⟨o4, o6, o7, o8, st2.value, 0, st2.done, st2.waiting, rfl, rfl, hd0, hw0, hv0, by omega, rfl, rfl⟩ ?_
        rintro JW mW m ρ τ ⟨o4, o6, o7, o8, v, u, d, w, rfl, hu, hd, hw, hv, hwd, rfl, rfl⟩
        repeat walk_at "gi"
        refine W_List ?_
        repeat walk_at "gi"
        refine ⟨by simp, _, _, rfl, fun N1 => ?_⟩
        refine' C_neNil (xs := w.map ptup) ?hq1 ?hq2 (by omega) ?_
        case hq1 => walk_at "at"
        case hq2 => walk_at "at"
        repeat walk_at "gi"
        refine ⟨fun hz => ?_, fun hz => ?_⟩
        · have hwe : w.isEmpty = false := by simpa using hz
          repeat walk_at "gi"
          refine W_List ?_
          repeat walk_at "gi"
          refine ⟨by simp, _, _, rfl, fun N2 => ?_⟩
          refine' C_neNil (xs := d.map ptup) ?hq1 ?hq2 (by omega) ?_
          case hq1 => walk_at "at"
          case hq2 => walk_at "at"
          repeat walk_at "gi"
          refine ⟨fun hz2 => ?_, fun hz2 => ?_⟩
          · have hde : d.isEmpty = false := by simpa using hz2
            have hdn : d ≠ [] := by simpa using hde
            have hd1 : 0 < d.length := List.length_pos_iff.mpr hdn
            have hwn : w ≠ [] := by simpa using hwe
            have hw1 : 0 < w.length := List.length_pos_iff.mpr hwn
            repeat walk_at "gi"
            refine' O_last ?hl rfl ?hlt (X := ptup (lastP d)) ?hx ?_
            case hl => walk_at "at"
            case hlt => rw [List.length_map]; omega
            case hx => rw [List.length_map]; exact map_get (i := d.length - 1) (by omega)
            repeat walk_at "gi"
            refine' O_item ?hl (by decide) (by decide) (X := ptup (gP w 0)) ?hx ?_
            case hl => walk_at "at"
            case hx => exact map_get (i := 0) hw1
            refine C_tge (by omega) ?_
            repeat walk_at "gi"
            refine ⟨fun hz3 => ?_, fun hz3 => ?_⟩
            · have hp : plt (lastP d) (gP w 0) = false := by simpa using hz3
              have hlm := hd _ (lastP_mem hdn)
              have hf := hoks.f _ hlm.1 hlm.2
              have hs := hoks.s _ hlm.1 hlm.2
              repeat walk_at "gi"
              refine W_Meth "list.pop" ?_
              repeat walk_at "gi"
              refine ⟨Meth.list (by walk_at "at") F.slot_list_pop F.type_list_pop, ?_⟩
              repeat walk_at "gi"
              refine' B_popE (xs := d.map ptup) (ys := d.dropLast.map ptup) (X := ptup (lastP d)) (List.map_dropLast ..) ?hp ?h0 ?hx ?_
              case hp => walk_at "at"
              case h0 => rw [List.length_map]; omega
              case hx => rw [List.length_map]; exact map_get (i := d.length - 1) (by omega)
              refine W_assignTup2 (P := .int (lastP d).1) (P' := .int (lastP d).2) (by rw [a3]; exact hh) (by walk_at "at") (by walk_at "at") ?_
              repeat walk_at "gi"
              refine' O_item ?hl (by show (0 : Int) ≤ (lastP d).2; exact hlm.1) (by show (lastP d).2 < 2 ^ 63; omega) (letter_at (ls := st2.letters) hlm.1 hlm.2) ?_
              case hl => walk_at "at"
              repeat walk_at "gi"
              refine O_titem (j := 1) rfl (by decide) rfl ?_
              repeat walk_at "gi"
              refine O_mul (IntMulOk.of_left (bits_small hf.1 hf.2)) ?_
              repeat walk_at "gi"
              refine O_mul (IntMulOk.of_left (bits_small hf.1 hf.2)) ?_
              repeat walk_at "gi"
              refine O_mul (IntMulOk.of_left (bits_small hf.1 hf.2)) ?_
              repeat walk_at "gi"
              refine O_mul (IntMulOk.of_left (bits_le (back_bound hf.1 hf.2))) ?_
              repeat walk_at "gi"
              refine' O_item ?hl (by show (0 : Int) ≤ (lastP d).2; exact hlm.1) (by show (lastP d).2 < 2 ^ 63; omega) (letter_at (ls := st2.letters) hlm.1 hlm.2) ?_
              case hl => walk_at "at"
              repeat walk_at "gi"
              refine O_titem (j := 2) rfl (by decide) rfl ?_
              repeat walk_at "gi"
              refine O_mul (IntMulOk.of_left (bits_le (by omega))) ?_
              repeat walk_at "gi"
              refine W_Tuple ?_
              repeat walk_at "gi"
              refine ⟨[.int (lastP d).1, .int (lastP d).2], rfl, by simp, ?_⟩
              repeat walk_at "gi"
              refine' heappush_spec (x := lastP d) ?h1 ?h2 ?h3 ?hp ?_
              case hp => walk_at "at"
              case h1 => omega
              case h2 => omega
              case h3 => omega
              refine ⟨rfl, ?_⟩
              repeat walk_at "gi"
              refine TurnS.next' (d.length - 1) (by omega) (Sub.pick .head (Sub.skip (Sub.skip (Sub.refl _)))) (mW _ _ _ ⟨some (.int (lastP d).2), some (.int (lastP d).1), some (.int (fac st2.letters (lastP d).2)), some (.int (fac st2.letters (lastP d).2 * (2 - fac st2.letters (lastP d).2 * fac st2.letters (lastP d).2) * (2 - fac st2.letters (lastP d).2 * (fac st2.letters (lastP d).2 * (2 - fac st2.letters (lastP d).2 * fac st2.letters (lastP d).2))))), unV st2.letters v (lastP d).2, u + 1, d.dropLast, hpush w (lastP d), by simp, ?_, fun q hq => hd q (List.dropLast_subset _ hq), hw.push hlm, fmod_range _ (by decide), by rw [hpush_len]; simp; omega, rfl, rfl⟩)
              rw [← hu]
              obtain ⟨m, hm⟩ : ∃ m, d.length = m + 1 := ⟨d.length - 1, by omega⟩
              rw [hm, undo_go hwe hp]; rfl
            · have hp : plt (lastP d) (gP w 0) = true := by simpa using hz3
              repeat walk_at "gi"
              refine MeetS.here (Sub.pick .head (Sub.skip (Sub.skip (Sub.refl _)))) (mM _ _ ⟨o4, o6, o7, o8, v, u, d, w, ?_, hd, hw, hv, rfl, rfl⟩)
              rw [← hu]; exact undo_stop (.inr (.inr hp))
          · have hde : d.length = 0 := by simpa using hz2
            repeat walk_at "gi"
            refine MeetS.here (Sub.pick .head (Sub.skip (Sub.skip (Sub.refl _)))) (mM _ _ ⟨o4, o6, o7, o8, v, u, d, w, ?_, hd, hw, hv, rfl, rfl⟩)
            rw [← hu]; exact undo_stop (.inr (.inl hde))
        · have hwe : w.isEmpty = true := by simpa using hz
          repeat walk_at "gi"
          refine MeetS.here (Sub.pick .head (Sub.skip (Sub.refl _))) (mM _ _ ⟨o4, o6, o7, o8, v, u, d, w, ?_, hd, hw, hv, rfl, rfl⟩)
          rw [← hu]; exact undo_stop (.inl hwe)
      · rintro ρ τ ⟨o4, o6, o7, o8, v, u, d, w, hu, hd, hw, hv, rfl, rfl⟩
        have hwd := hJoin v u d w hu
        repeat walk_at "gi"
        have hro : redoOf st2 = redoM st2.letters st2.void w.length v d w := by unfold redoOf; rw [hu]
        refine WF_joinS (ReJ Rt LL LV LW LD LG ri alt st2 lg dl pp σ p o1 o2 o3 u o7 o8) (fun JM mM => ?_) ?_
        · refine WF_WhileS (RwJ Rt LL LV LW LD LG ri alt st2 lg dl pp σ p o1 o2 o3 u o7 o8)
            w.length ⟨o4, o6, v, d, w, rfl, hro.symm, hd, hw, hv, hwd, rfl, rfl⟩ ?_
          rintro JW mW m ρ τ ⟨o4, o6, v, d, w, rfl, hr, hd, hw, hv, hwd, rfl, rfl⟩
          repeat walk_at "gi"
          refine W_List ?_
          repeat walk_at "gi"
          refine ⟨by simp, _, _, rfl, fun N1 => ?_⟩
          refine' C_neNil (xs := w.map ptup) ?hq1 ?hq2 (by omega) ?_
          case hq1 => walk_at "at"
          case hq2 => walk_at "at"
          repeat walk_at "gi"
          refine ⟨fun hz => ?_, fun hz => ?_⟩
          · have hwe : w.isEmpty = false := by simpa using hz
            have hwn : w ≠ [] := by simpa using hwe
            have hw1 : 0 < w.length := List.length_pos_iff.mpr hwn
            have hpm := hw.pop hwn
            have hpl := hpop_len hwn
            have hf := hoks.f _ hpm.1.1 hpm.1.2
            have hs := hoks.s _ hpm.1.1 hpm.1.2
            obtain ⟨m, hm⟩ : ∃ m, w.length = m + 1 := ⟨w.length - 1, by omega⟩
            have hm' : (hpop w).2.length = m := by omega
            repeat walk_at "gi"
            refine' heappop_spec (xs := w) ?h1 ?h2 hw1 ?h3 ?hp ?_
            case hp => walk_at "at"
            case h1 => omega
            case h2 => omega
            case h3 => omega
            refine W_assignTup2 (P := .int (hpop w).1.1) (P' := .int (hpop w).1.2) (by rw [a3]; exact hh) (by walk_at "at") (by walk_at "at") ?_
            repeat walk_at "gi"
            refine' C_notInI (x := (hpop w).1.2) ?hq ?_
            case hq => walk_at "at"
            repeat walk_at "gi"
            refine ⟨fun hx => ?_, fun hx => ?_⟩
            · have hx' : st2.void.contains (hpop w).1.2 = false := by simpa using hx
              repeat walk_at "gi"
              refine' O_item ?hl (by show (0 : Int) ≤ (hpop w).1.2; exact hpm.1.1) (by show (hpop w).1.2 < 2 ^ 63; omega) (letter_at (ls := st2.letters) hpm.1.1 hpm.1.2) ?_
              case hl => walk_at "at"
              repeat walk_at "gi"
              refine O_titem (j := 1) rfl (by decide) rfl ?_
              repeat walk_at "gi"
              refine O_mul (IntMulOk.of_right (bits_small hf.1 hf.2)) ?_
              repeat walk_at "gi"
              refine' O_item ?hl (by show (0 : Int) ≤ (hpop w).1.2; exact hpm.1.1) (by show (hpop w).1.2 < 2 ^ 63; omega) (letter_at (ls := st2.letters) hpm.1.1 hpm.1.2) ?_
              case hl => walk_at "at"
              repeat walk_at "gi"
              refine O_titem (j := 2) rfl (by decide) rfl ?_
              repeat walk_at "gi"
              refine W_Meth "list.append" ?_
              repeat walk_at "gi"
              refine ⟨Meth.list (by walk_at "at") F.slot_list_append F.type_list_append, ?_⟩
              repeat walk_at "gi"
              refine W_Tuple ?_
              repeat walk_at "gi"
              refine ⟨[.int (hpop w).1.1, .int (hpop w).1.2], rfl, by simp, ?_⟩
              repeat walk_at "gi"
              refine' B_appendE (ys := (d ++ [(hpop w).1]).map ptup) List.map_append ?hp ?h0 ?_
              case hp => walk_at "at"
              case h0 => rw [List.length_map]; omega
              refine ⟨rfl, ?_⟩
              repeat walk_at "gi"
              refine TurnS.next' m (by omega) (Sub.pick .head (Sub.skip (Sub.refl _))) (mW _ _ _ ⟨some (.int (hpop w).1.2), some (.int (hpop w).1.1), reV st2.letters v (hpop w).1.2, d ++ [(hpop w).1], (hpop w).2, hm'.symm, ?_, ?_, hpm.2, fmod_range _ (by decide), by simp; omega, rfl, rfl⟩)
              · rw [← hr, hm, redo_go hx']
              · intro q hq
                rcases List.mem_append.mp hq with hq | hq
                · exact hd q hq
                · simp at hq; subst hq; exact hpm.1
            · have hx' : st2.void.contains (hpop w).1.2 = true := by simpa using hx
              repeat walk_at "gi"
              refine TurnS.next' m (by omega) (Sub.pick .head (Sub.skip (Sub.refl _))) (mW _ _ _ ⟨some (.int (hpop w).1.2), some (.int (hpop w).1.1), v, d, (hpop w).2, hm'.symm, ?_, hd, hpm.2, hv, by omega, rfl, rfl⟩)
              rw [← hr, hm, redo_void hx']
          · have hwe : w = [] := by simpa using hz
            subst hwe
            have hr : (v, d) = redoOf st2 := hr
            repeat walk_at "gi"
            refine MeetS.here (Sub.pick .head (Sub.skip (Sub.refl _))) (mM _ _ ⟨o4, o6, ?_, ?_, ?_⟩)
            · rw [← hr]
            · rw [← hr]; show d.length ≤ 60; simp at hwd; exact hwd
            · rw [← hr]
        · rintro ρ τ ⟨o4, o6, rfl, hrl, rfl⟩
          repeat walk_at "gi"
          refine W_Meth "list.append" ?_
          repeat walk_at "gi"
          refine ⟨Meth.list (by walk_at "at") F.slot_list_append F.type_list_append, ?_⟩
          repeat walk_at "gi"
          refine W_Tuple ?_
          repeat walk_at "gi"
          refine' B_listL ?hl ?hn fun Cp => ?_
          case hl => walk_at "at"
          case hn => rw [List.length_map]; omega
          repeat walk_at "gi"
          refine ⟨[.int (redoOf st2).1, .int u, .ref Cp], rfl, by simp, ?_⟩
          repeat walk_at "gi"
          have hlg : lg.length ≤ 60 := by
            rw [e2.lg, List.length_zipWith]
            have : (runM ws0 ((rows.take i).map fun ws => ws.map letterW)).length = (rows.take i).length := by
              have key : ∀ (r : List (List Letter)) (s : WS), (runM s r).length = r.length := by
                intro r
                induction r with
                | nil => intro s; rfl
                | cons a r ih => intro s; show (_ :: _ : List Entry).length = _; simp [ih]
              rw [key]; simp
            have h3 : (rows.take i).length ≤ 60 := by simp; omega
            omega
          refine' B_append ?hp ?h0 ?_
          case hp => walk_at "at"
          case h0 => omega
          refine ⟨rfl, ?_⟩
          repeat walk_at "gi"
          have hent : entryOf st2 = ((redoOf st2).1, u, (redoOf st2).2) := by unfold entryOf; rw [hu]
          have hrun : runM ws0 ((rows.take (i + 1)).map fun ws => ws.map letterW) = runM ws0 ((rows.take i).map fun ws => ws.map letterW) ++ [entryOf st2] := by
            rw [List.take_add_one, hws]
            simp only [Option.toList_some, List.map_append, List.map_cons, List.map_nil]
            rw [runM_snoc, ← e1, f1']
          have hstate : stateM ws0 ((rows.take (i + 1)).map fun ws => ws.map letterW) = settle st2 := by
            rw [List.take_add_one, hws]
            simp only [Option.toList_some, List.map_append, List.map_cons, List.map_nil]
            rw [stateM_snoc, ← e1, f1']
          have hlog := e2.snoc Cp (entryOf st2)
          rw [← hrun, hent] at hlog
          refine TurnI.next' (ρ := _) (τ := _) ?_ (mF _ _ _ ⟨some (.ref ri), o1, o2, o3, o4, some (.int u), o6, o7, o8, settle st2, das ++ [Cp], _, _, hstate.symm, hlog, f2.settle, rfl, ?_, rfl, rfl⟩)
          · refine Sub.pick .head ?_
            refine Sub.pick (.tail .head) ?_
            refine Sub.pick (.tail .head) ?_
            refine Sub.pick (.tail .head) ?_
            refine Sub.pick (.tail .head) ?_
            refine Sub.pick (.tail .head) ?_
            refine Sub.pick (.tail .head) ?_
            exact Sub.refl _
          · show st2.letters.length = _
            rw [hfl, f3', e5]
  · rintro ρ τ ⟨o0, o1, o2, o3, o4, o5, o6, o7, o8, st, das, dl, lg, e1, e2, e3, e4, e5, rfl, rfl⟩
    have ht : rows.take ((ra.map V.ref).length) = rows := by rw [List.length_map, hra, List.take_length]
    rw [ht] at e1 e2
    repeat walk_at "gi"
    refine Ret.ret' ?_ (h LG das dl lg e2)
    refine Sub.skip ?_
    refine Sub.pick (p := pp) (.tail (.tail (.tail (.tail (.tail (pick_mid _)))))) ?_
    refine Sub.pick .head ?_
    exact Sub.skip (Sub.skip (Sub.skip (Sub.skip (Sub.refl _))))
local macro_rules | `(tactic| walk_at "go") => `(tactic| first
  | ((with_reducible show WF _ _ (exec (Stmt.Assign [Expr.Attribute _ _ _] _ _) _) _ _); refine WF_AttrAssign ?_)
  | ((with_reducible show WF _ _ (exec (Stmt.AugAssign (Expr.Attribute _ _ _) _ _ _) _) _ _); refine WF_AttrAug ?_)
  | ((with_reducible show Mine.W _ _ (loadName _ _) _ _); refine W_ld (by walk_at "at") ?_)
  | ((with_reducible show Mine.W _ _ (eval (Expr.Attribute _ _ _) _) _ _); refine W_attr ?_)
  | ((with_reducible show W1 _ _ _ (fun v => getAttr v _ _) _ _ _); refine' G_own ?hx ?hd (own_of _ (by walk_at "at")) rfl (by intro _ h; cases h) ?_; (case hx => walk_at "at"); (case hd => walk_at "at"))
  | ((with_reducible show W2 _ _ _ (inplaceOp Operator.Add) (V.int _) (V.int _) _ _); refine O_iadd ?_))
noncomputable abbrev wsS : Str := "\n\t\r "
noncomputable abbrev lexA (n : Int) (F Lp : Addr) : List (Str × V) := [("lineno", .int n), ("instream", .ref F), ("whitespace", .str wsS), ("pushback", .ref Lp)]
set_option maxHeartbeats 4000000 in
theorem init_spec {c : Cx} {A : Around} {pp : Addr × AObj} {σ : Led} {K : V → Led → Prop} {x dx F : Addr} (hA : A.depth < 900) (h : ∀ Lp, K .none (pp :: (x, .obj (instObj CLex dx)) :: (dx, attrE c.z (lexA 1 F Lp)) :: (Lp, .list []) :: σ))
    {s : Shared} {R : Result → Shared → Prop} {vs : List Value} (R0 : Rep c (pp :: (x, .obj (instObj CLex dx)) :: (dx, attrE c.z []) :: σ) s) (hvs : LR c.z s.heap vs [.ref x, .ref F])
    (q : ∀ v X σ' s', K X σ' → VR c.z s'.heap v X → Rep c σ' s' → Ext c.z s.heap s'.heap → R (.ok (.ret v)) s') :
    codeAny (model c.prog c.w) A (.call (.ref 144) ⟨vs, []⟩) R s := by
  refine W_defX (names := ["self", "fp"]) (others := []) [(Str.ofString "self", some (.ref x)), (Str.ofString "fp", some (.ref F))]
    (fun s R => R.keep _ _ (c.inK 144 _ rfl)) (fun s R => ⟨_, _, _, _, rfl, R.keep _ _ (c.inK 143 _ rfl), rfl, rfl⟩) (fun s vs _ => binds2 (fun _ _ => BindsTo.of_eq rfl) vs) rfl rfl (by decide +kernel) rfl (by decide) (by omega) rfl rfl rfl ?_ R0 hvs q
  intro L A' a1 a2 a3
  repeat walk_at "gi"
  refine' S_own (ρ' := [("lineno", .int 1)]) ?hx ?hu (x_lineno _) ?hr ?hl ?_
  case hx => walk_at "at"
  case hu => walk_at "at"
  case hr => rfl
  case hl => simp
  repeat walk_at "gi"
  refine' S_own (ρ' := [("lineno", .int 1), ("instream", .ref F)]) ?hx ?hu (x_instream _) ?hr ?hl ?_
  case hx => walk_at "at"
  case hu => walk_at "at"
  case hr => rfl
  case hl => simp
  repeat walk_at "gi"
  refine' S_own (ρ' := [("lineno", .int 1), ("instream", .ref F), ("whitespace", .str wsS)]) ?hx ?hu (x_whitespace _) ?hr ?hl ?_
  case hx => walk_at "at"
  case hu => walk_at "at"
  case hr => rfl
  case hl => simp
  repeat walk_at "gi"
  refine W_List ?_
  repeat walk_at "gi"
  refine ⟨by simp, _, _, rfl, fun Lp => ?_⟩
  repeat walk_at "gi"
  refine' S_own (ρ' := lexA 1 F Lp) ?hx ?hu (x_pushback _) ?hr ?hl ?_
  case hx => walk_at "at"
  case hu => walk_at "at"
  case hr => rfl
  case hl => simp
  repeat walk_at "gi"
  exact Ret.next' (by walk_at "sub") (h Lp)
theorem w_tc (a : Addr) (l : List Value) : (Code.builtin "type.__call__" ⟨.ref a :: l, []⟩).weight = 1 := by kernel_rfl
theorem x_keep (c : Cx) : keepIn (KF c.w.params) (.ref 168) = true := by kernel_rfl
theorem new_lexer {c : Cx} {A : Around} {pp : Addr × AObj} {σ : Led} {K : V → Led → Prop} {F : Addr} (hA : A.depth < 800)
    (h : ∀ x dx Lp, K (.ref x) (pp :: (x, .obj (instObj CLex dx)) :: (dx, attrE c.z (lexA 1 F Lp)) :: (Lp, .list []) :: σ)) :
    WN VR c A (fun vs => call (.ref CLex) vs) [.ref F] (pp :: σ) K := by
  intro s Q E vs R hvs q
  refine wpAny_call ?_
  obtain ⟨hh, g, d, t, os⟩ := s
  refine make_core (makes_of R.kin (x_mk c)) (looks_findIn R.kin (x_init c)) (fun self => bind_fn R.kin self (x_t144 c)) (.inl rfl) ?_
  have R1 := R.add (a := hh.objs.size) (ao := attrE c.z []) (h' := hh.push emptyDict) (Nat.le_refl _) (fun b o e => Heap.get?_push_of_some _ e) (OR.attr_mk (Heap.get?_push_size _ rfl) ⟨[], 0, rfl, .nil⟩) t
  have e1 : (hh.push emptyDict).objs.size = hh.objs.size + 1 := Heap.size_push _ _
  have R2 := R1.add (a := hh.objs.size + 1) (ao := .obj (instObj CLex hh.objs.size)) (h' := (hh.push emptyDict).push (instObj CLex hh.objs.size)) (Nat.le_of_eq e1) (fun b o e => Heap.get?_push_of_some _ e) ⟨by rw [← e1]; exact Heap.get?_push_size _ rfl, fun e => by cases e⟩ t
  have R3 := R2.perm (σ' := pp :: (hh.objs.size + 1, .obj (instObj CLex hh.objs.size)) :: (hh.objs.size, attrE c.z []) :: σ) (List.perm_middle (l₁ := [_, _])).symm
  have x0 : Ext c.z hh ((hh.push emptyDict).push (instObj CLex hh.objs.size)) := (Ext.push _).trans (Ext.push _)
  refine init_spec (K := fun X σ' => X = .none ∧ ∃ Lp, σ' = pp :: (hh.objs.size + 1, .obj (instObj CLex hh.objs.size)) :: (hh.objs.size, attrE c.z (lexA 1 F Lp)) :: (Lp, .list []) :: σ) (show A.depth + Code.weight (.builtin "type.__call__" ⟨.ref CLex :: vs, []⟩) < 900 by rw [w_tc]; omega) (fun Lp => ⟨rfl, Lp, rfl⟩) R3 (.cons rfl (hvs.imp fun _ _ => VR.ext x0)) fun v X σ' s' ⟨hX, Lp, hσ⟩ hv R' x' => ?_
  subst hX hσ
  exact ⟨hv, q _ _ _ _ (h _ _ Lp) rfl R' (x0.trans x')⟩
noncomputable abbrev chV (k : Nat) : V := .str (S [k])
/-- the lexer's turning parts: the signs to come, the line -/
noncomputable abbrev lexL (c : Cx) (dx F Lp Ls : Addr) (n : Int) (l : List Nat) (σ : Led) : Led := (Ls, .list (l.map chV)) :: (dx, attrE c.z (lexA n F Lp)) :: σ
structure Lex (c : Cx) (x dx F Lp Ls d g : Addr) (fdS : FuncData) (σ : Led) : Prop where
  hx : (x, AObj.obj (instObj CLex dx)) ∈ σ
  hF : (F, AObj.obj (fnO (some d) fdS)) ∈ σ
  hd : (d, attrE c.z [("read", .ref g)]) ∈ σ
  hp : (Lp, AObj.list []) ∈ σ
  rd : ∀ (A : Around) (pre : Led) (n : Int) (l : List Nat) (K : V → Led → Prop), A.depth < 900 → A.units < 8900 → l.length < 100000 → K (.str (S (l.take 1))) (pre ++ lexL c dx F Lp Ls n (l.drop 1) σ) →
    WN VR c A (fun vs => call (.ref g) vs) [.int 1] (pre ++ lexL c dx F Lp Ls n l σ) K
  kg : ∃ o fd, (g, AObj.obj o) ∈ σ ∧ o.data = .func fd
noncomputable def nl (l : List Nat) : Int := if l.head? = some 10 then 1 else 0
theorem Upd.app {a : Addr} {o o' : AObj} {σ σ' : Led} (u : Upd a o o' σ σ') : ∀ pre : Led, Upd a o o' (pre ++ σ) (pre ++ σ')
  | [] => u
  | _ :: r => .tail (Upd.app u r)
theorem S_beq (a b : List Nat) : (((S a).cps.toList == (S b).cps.toList)) = (a == b) := by simp [S]
set_option maxHeartbeats 8000000 in
theorem read_char_spec {c : Cx} {A : Around} {K : V → Led → Prop} {x dx F Lp Ls d g : Addr} {fdS : FuncData} {σ pre : Led} {n : Int} {l : List Nat} (H : Lex c x dx F Lp Ls d g fdS σ) (hA : A.depth < 850) (hU : A.units < 8600) (hl : l.length < 100000)
    (h : K (.str (S (l.take 1))) (pre ++ lexL c dx F Lp Ls (n + nl l) (l.drop 1) σ))
    {s : Shared} {R : Result → Shared → Prop} {vs : List Value} (R0 : Rep c (pre ++ lexL c dx F Lp Ls n l σ) s) (hvs : LR c.z s.heap vs [.ref x])
    (q : ∀ v X σ' s', K X σ' → VR c.z s'.heap v X → Rep c σ' s' → Ext c.z s.heap s'.heap → R (.ok (.ret v)) s') :
    codeAny (model c.prog c.w) A (.call (.ref 151) ⟨vs, []⟩) R s := by
  have mem : ∀ {p : Addr × AObj} {n' : Int} {l' : List Nat}, p ∈ σ → p ∈ pre ++ lexL c dx F Lp Ls n' l' σ := fun h => List.mem_append_right _ (.tail _ (.tail _ h))
  refine W_defX (names := ["self"]) (others := ["ch"]) [(Str.ofString "self", some (.ref x)), (Str.ofString "ch", none)]
    (fun s R => R.keep _ _ (c.inK 151 _ rfl)) (fun s R => ⟨_, _, _, _, rfl, R.keep _ _ (c.inK 150 _ rfl), rfl, rfl⟩) (fun s vs _ => binds1 (fun _ => BindsTo.of_eq rfl) vs) rfl rfl (by decide +kernel) rfl (by decide) (by omega) rfl rfl rfl ?_ R0 hvs q
  intro L A' a1 a2 a3
  repeat walk_at "gi"
  obtain ⟨og, fdg, hg1, hg2⟩ := H.kg
  refine W_MethV ?_ rfl rfl rfl rfl
  repeat walk_at "gi"
  refine G_own (.tail _ (mem H.hx)) (.tail _ (List.mem_append_right _ (.tail _ (.head _)))) (x_instream _) rfl (by intro _ h; cases h) ?_
  refine ⟨_, _, MethV.fnattr (.tail _ (mem H.hF)) (.tail _ (mem H.hd)) rfl fn_read, ?_⟩
  repeat walk_at "gi"
  refine ⟨Keeps.led (.tail _ (mem hg1)) hg2, ?_⟩
  refine H.rd A' (_ :: pre) n l _ (by omega) (by omega) hl ?_
  repeat walk_at "gi"
  have e : ((S (List.take 1 l)).cps.toList == (Str.ofString "\n").cps.toList) = (l.head? == some 10) := by
    show (List.take 1 l == [10]) = _
    cases l with
    | nil => rfl
    | cons a r => simp
  rw [e]
  by_cases hh : l.head? = some 10
  · rw [show (l.head? == some 10) = true by simp [hh]]
    have e2 : nl l = 1 := by unfold nl; rw [if_pos hh]
    rw [e2] at h
    refine If.of_true ?_
    repeat walk_at "gi"
    refine G_own (.tail _ (mem H.hx)) (.tail _ (List.mem_append_right _ (.tail _ (.head _)))) (x_lineno _) rfl (by intro _ h; cases h) ?_
    repeat walk_at "gi"
    refine' S_own (ρ' := lexA (n + 1) F Lp) (.tail _ (mem H.hx)) ?hu (x_lineno _) ?hr ?hl ?_
    case hu => exact .tail (Upd.app (.tail .head) pre)
    case hr => rfl
    case hl => simp
    repeat walk_at "gi"
    exact Ret.ret' (Sub.skip (Sub.refl _)) h
  · rw [show (l.head? == some 10) = false by simp [hh]]
    have e2 : nl l = 0 := by unfold nl; rw [if_neg hh]
    rw [e2, Int.add_zero] at h
    refine If.of_false ?_
    repeat walk_at "gi"
    exact Ret.ret' (Sub.skip (Sub.refl _)) h
section
theorem slot_ci_next : Slot "callable_iterator" "__next__" "callable_iterator.__next__" :=
  .of (owner := "callable_iterator") (n := "__next__") (by rw [typeLookup_type, builtinLookup_eq_fast]; kernel_rfl) (by decide +kernel) (by decide +kernel) (by decide +kernel)
    (by first | exact .inl (by decide +kernel) | exact .inr (by decide +kernel)) (by rw [isSubtype_type]; kernel_rfl)
theorem slot_ci_iter : Slot "callable_iterator" "__iter__" "callable_iterator.__iter__" :=
  .of (owner := "callable_iterator") (n := "__iter__") (by rw [typeLookup_type, builtinLookup_eq_fast]; kernel_rfl) (by decide +kernel) (by decide +kernel) (by decide +kernel)
    (by first | exact .inl (by decide +kernel) | exact .inr (by decide +kernel)) (by rw [isSubtype_type]; kernel_rfl)
theorem entry_ci_iter : entryFor table "callable_iterator.__iter__" = some Builtin.«dict_keyiterator.__iter__» :=
  entryFor_alias (id' := "dict_keyiterator.__iter__") (by kernel_rfl) (by kernel_rfl) (by decide +kernel) (by kernel_rfl)
theorem entry_ci_next : entryFor table "callable_iterator.__next__" = some Builtin.«callable_iterator.__next__» := entryFor_of_fast (by kernel_rfl)
theorem args_ci_iter (a : Value) : argsOk "callable_iterator.__iter__" ⟨[a], []⟩ := by unfold argsOk; kernel_rfl
theorem args_ci_next (a : Value) : argsOk "callable_iterator.__next__" ⟨[a], []⟩ := by unfold argsOk; kernel_rfl
theorem args_iter2 (a b : Value) : argsOk "iter" ⟨[a, b], []⟩ := by unfold argsOk; kernel_rfl
theorem meth_call : typeLookup (.type "method") "__call__" = pure (some (.builtin "method.__call__")) := by rw [typeLookup_type, builtinLookup_eq_fast]; kernel_rfl
noncomputable abbrev ciO (m : Addr) (t : Tok) : Obj := { cls := .type "callable_iterator", data := .fields #[.ref m, .str "" t, .bool false] }
noncomputable abbrev ciE (m : Addr) : AObj := .any fun _ o => ∃ t, o = ciO m t
section
variable {c : Cx} {A : Around} {σ : Led} {env : Env} {K : V → Led → Prop}
theorem B_iter2 {m f x : Addr} {p : Addr × AObj} (hm : (m, methE f x) ∈ p :: σ) (h : ∀ I, K (.ref I) (p :: (I, ciE m) :: σ)) : WN VR c A (fun vs => call (.builtin "iter") vs) [.ref m, .str ""] (p :: σ) K := by
  intro s Q E vs R hvs q
  obtain ⟨v1, v2, rfl, h1, h2⟩ : ∃ v1 v2, vs = [v1, v2] ∧ VR c.z s.heap v1 (.ref m) ∧ VR c.z s.heap v2 (.str "") := by
    cases hvs with | cons h1 h2 => cases h2 with | cons h2 h3 => cases h3; exact ⟨_, _, rfl, h1, h2⟩
  cases h1
  obtain ⟨t, rfl⟩ := h2
  have hmo := (R.ob _ hm).1
  have L0 : Looks (model c.prog c.w) s.heap (typeOf (.ref m)) (.type "method") := (Looks.ld hmo).andThen .now
  refine call_function_entry (by decide +kernel) (by decide +kernel) kdk_entry_iter (args_iter2 _ _) ?_
  unfold Builtin.«iter»
  refine wpAny_bind (m := someArgs "iter" 1 2 _) (wpAny_of_eq (a := [Value.ref m, .str "" t]) (by first | rfl | kernel_rfl!) ?_)
  dsimp only
  unfold specialOf
  refine wpAny_bind (wpAny_bind (L0.here ((Looks.of_pure meth_call).here ?_)))
  rw [if_neg (by simp)]
  refine wpAny_bind (wpAny_rule (wpAny_bind (wpAny_newObj_type ?_ (by size_fits))))
  have R' := R.add (a := s.heap.objs.size) (ao := ciE m) (h' := s.heap.push (ciO m t)) (Nat.le_refl _) (fun b o e => Heap.get?_push_of_some _ e) (show OR c.z _ _ (.any _) from ⟨_, Heap.get?_push_size _ rfl, (fun e => by injection e with e; revert e; decide), fun _ _ => ⟨t, rfl⟩⟩) s.toks
  exact wpAny_pure ⟨_, rfl, q _ _ _ _ (h _) rfl (R'.perm (.swap ..)) (Ext.push _)⟩
theorem callBorrowed_eq (f : Value) (pos : List Value) : callBorrowed f pos = (call f pos).keep [borrowed] := by
  unfold callBorrowed call runValue run
  show Sem.call _ _ _ _ _ = Sem.call _ _ _ _ _
  congr 1
  funext r
  rcases r with e | (v | _ | _ | _) <;> rfl
theorem meth_borrows {m f x : Addr} {s : Shared} {E : Value → Shared → Prop} {Q : Bool → Shared → Prop} {of : Obj} {fd : FuncData} (hm : s.heap.get? m = some (methodObj (.ref f) (.ref x))) (hf : s.heap.get? f = some of) (hd : of.data = .func fd) (h : Q true s) :
    wpAny (model c.prog c.w) A (borrowsExactly (.ref m)) Q E s := by
  unfold borrowsExactly
  refine wpAny_bind (wpAny_load hm ?_)
  dsimp only
  rw [if_pos (by decide)]
  refine wpAny_bind (wpAny_load hf ?_)
  rw [hd]
  exact wpAny_pure h
theorem N_item {x dx F Lp Ls d g m I : Addr} {fdS : FuncData} {pre : Led} {n : Int} {a : Nat} {r : List Nat} {K : Option V → Led → Prop} (H : Lex c x dx F Lp Ls d g fdS σ) (hA : A.depth < 800) (hU : A.units < 8500) (hl : r.length < 90000) (hI : (I, ciE m) ∈ pre) (hm : (m, methE 151 x) ∈ pre)
    (h : K (some (chV a)) (pre ++ lexL c dx F Lp Ls (n + if a = 10 then 1 else 0) r σ)) : WO c A (pyNext (.ref I)) (pre ++ lexL c dx F Lp Ls n (a :: r) σ) K := by
  intro s Q E R q
  obtain ⟨o, ho, hc, hP⟩ := R.ob _ (List.mem_append_left _ hI)
  obtain ⟨t, rfl⟩ := hP _ (Ext.refl _)
  have hT : s.TypeIs (.ref I) "callable_iterator" := ⟨_, ho, rfl⟩
  unfold pyNext
  refine wpAny_bind (wpAny_attempt (wpAny_callSpecial?_slot (name := Str.ofString "__next__") hT slot_ci_next (wpAny_call_entry slot_ci_next hT entry_ci_next ?_ (args_ci_next _))))
  show wpAny _ _ (field (.ref I) 2 >>= _) _ _ s
  refine wpAny_bind (wpAny_field ho rfl (x := .bool false) rfl ?_)
  rw [if_neg (by decide)]
  show wpAny _ _ (field (.ref I) 0 >>= _) _ _ s
  refine wpAny_bind (wpAny_field ho rfl (x := .ref m) rfl ?_)
  refine wpAny_bind (wpAny_attempt ?_)
  unfold callOutOfASlot
  have hmo := (R.ob _ (List.mem_append_left _ hm)).1
  refine wpAny_bind (meth_borrows hmo (R.keep _ _ (c.inK 151 _ rfl)) rfl ?_)
  rw [if_pos rfl, callBorrowed_eq]
  refine Calls.wpAny_keep (wpAny_call (method_call hmo ?_))
  refine read_char_spec (K := fun X σ' => X = chV a ∧ σ' = pre ++ lexL c dx F Lp Ls (n + if a = 10 then 1 else 0) r σ) H (by show A.depth < 850; omega) (by show A.units + 1 < 8600; omega) (by simp; omega) ⟨rfl, ?_⟩ R (.cons rfl .nil) ?_
  · unfold nl; simp
  intro v X σ' s' ⟨hX, hσ⟩ hv R' x'
  subst hX hσ
  obtain ⟨tv, rfl⟩ := hv
  obtain ⟨o', ho', hc', hP'⟩ := R'.ob _ (List.mem_append_left _ hI)
  obtain ⟨t', rfl⟩ := hP' _ (Ext.refl _)
  dsimp only
  refine wpAny_bind (wpAny_field ho' rfl (x := .bool false) rfl ?_)
  rw [if_neg (by decide)]
  refine wpAny_bind (wpAny_field ho' rfl (x := .str "" t') rfl ?_)
  refine wpAny_bind (wpAny_holding (eqBool_str ?_))
  have hne : ((Str.ofString "") == S [a]) = false := beq_eq_false_iff_ne.mpr fun e => by
    have := congrArg (fun s : Str => s.cps.size) e
    revert this; show (0 : Nat) = 1 → False; decide
  rw [if_pos (by show (!((Str.ofString "") == S [a])) = true; rw [hne]; rfl)]
  exact wpAny_pure ⟨_, rfl, wpAny_pure (q _ (some (chV a)) _ _ h ⟨tv, rfl⟩ R' x')⟩
theorem Pick.app {p : Addr × AObj} : ∀ {a a' : Led} {b : Led}, Pick p a a' → Pick p (a ++ b) (a' ++ b)
  | _, _, _, .head => .head
  | _, _, _, .tail h => .tail (Pick.app h)
theorem N_end {x dx F Lp Ls d g m I : Addr} {fdS : FuncData} {pre pre' : Led} {n : Int} {K : Option V → Led → Prop} (H : Lex c x dx F Lp Ls d g fdS σ) (hA : A.depth < 800) (hU : A.units < 8500) (hh : A.handled = none) (hI : Pick (I, ciE m) pre pre') (hm : (m, methE 151 x) ∈ pre)
    (h : K none (pre' ++ lexL c dx F Lp Ls n [] σ)) : WO c A (pyNext (.ref I)) (pre ++ lexL c dx F Lp Ls n [] σ) K := by
  intro s Q E R q
  obtain ⟨o, ho, hc, hP⟩ := R.ob _ (List.mem_append_left _ hI.keys)
  obtain ⟨t, rfl⟩ := hP _ (Ext.refl _)
  have hT : s.TypeIs (.ref I) "callable_iterator" := ⟨_, ho, rfl⟩
  unfold pyNext
  refine wpAny_bind (wpAny_attempt (wpAny_callSpecial?_slot (name := Str.ofString "__next__") hT slot_ci_next (wpAny_call_entry slot_ci_next hT entry_ci_next ?_ (args_ci_next _))))
  show wpAny _ _ (field (.ref I) 2 >>= _) _ _ s
  refine wpAny_bind (wpAny_field ho rfl (x := .bool false) rfl ?_)
  rw [if_neg (by decide)]
  show wpAny _ _ (field (.ref I) 0 >>= _) _ _ s
  refine wpAny_bind (wpAny_field ho rfl (x := .ref m) rfl ?_)
  refine wpAny_bind (wpAny_attempt ?_)
  unfold callOutOfASlot
  have hmo := (R.ob _ (List.mem_append_left _ hm)).1
  refine wpAny_bind (meth_borrows hmo (R.keep _ _ (c.inK 151 _ rfl)) rfl ?_)
  rw [if_pos rfl, callBorrowed_eq]
  refine Calls.wpAny_keep (wpAny_call (method_call hmo ?_))
  refine read_char_spec (K := fun X σ' => X = .str (S []) ∧ σ' = pre ++ lexL c dx F Lp Ls n [] σ) H (by show A.depth < 850; omega) (by show A.units + 1 < 8600; omega) (by simp) ⟨rfl, ?_⟩ R (.cons rfl .nil) ?_
  · unfold nl; simp
  intro v X σ' s' ⟨hX, hσ⟩ hv R' x'
  subst hX hσ
  obtain ⟨tv, rfl⟩ := hv
  obtain ⟨o', ho', hc', hP'⟩ := R'.ob _ (List.mem_append_left _ hI.keys)
  obtain ⟨t', rfl⟩ := hP' _ (Ext.refl _)
  dsimp only
  refine wpAny_bind (wpAny_field ho' rfl (x := .bool false) rfl ?_)
  rw [if_neg (by decide)]
  refine wpAny_bind (wpAny_field ho' rfl (x := .str "" t') rfl ?_)
  refine wpAny_bind (wpAny_holding (eqBool_str ?_))
  have heq : ((Str.ofString "") == S []) = true := by decide
  rw [if_neg (by show ¬ (!((Str.ofString "") == S [])) = true; rw [heq]; decide)]
  have hmo' := (R'.ob _ (List.mem_append_left _ hm)).1
  refine wpAny_bind (wpAny_rule (wpAny_bind ?_))
  refine wpAny_bind (wpAny_field ho' rfl (x := .ref m) rfl ?_)
  refine wpAny_bind ?_
  unfold slotLetsGo
  refine wpAny_bind (meth_borrows hmo' (R'.keep _ _ (c.inK 151 _ rfl)) rfl ?_)
  rw [if_pos rfl]
  refine wpAny_pure ?_
  refine wpAny_bind (wpAny_setField ho' rfl (by simp) ?_)
  have k1 : Heap.SameBut I s'.heap (s'.heap.update I (Obj.mapFields (·.setIfInBounds 0 .none))) := Heap.SameBut.update ..
  have g1 := Heap.get?_update_self (Obj.mapFields (·.setIfInBounds 0 .none)) ho' rfl
  generalize s'.heap.update I (Obj.mapFields (·.setIfInBounds 0 .none)) = h1 at k1 g1 ⊢
  refine wpAny_bind (wpAny_setField g1 rfl (by simp) ?_)
  have k2 : Heap.SameBut I h1 (h1.update I (Obj.mapFields (·.setIfInBounds 1 .none))) := Heap.SameBut.update ..
  have g2 := Heap.get?_update_self (Obj.mapFields (·.setIfInBounds 1 .none)) g1 rfl
  generalize h1.update I (Obj.mapFields (·.setIfInBounds 1 .none)) = h2 at k2 g2 ⊢
  refine wpAny_setField g2 rfl (by simp) ?_
  have k3 : Heap.SameBut I h2 (h2.update I (Obj.mapFields (·.setIfInBounds 2 (.bool true)))) := Heap.SameBut.update ..
  generalize h2.update I (Obj.mapFields (·.setIfInBounds 2 (.bool true))) = h3 at k3 ⊢
  have hx : Heap.ExtBut I s'.heap h3 := fun b o hb e => (k3.2 b hb).trans ((k2.2 b hb).trans ((k1.2 b hb).trans e))
  show wpAny _ _ (newExc (.type "StopIteration") [] >>= _) _ _ _
  refine wpAny_bind ?_
  simp only [newExc, newTuple]
  refine wpAny_bind (wpAny_newObj_type ?_ (by size_fits))
  refine wpAny_bind (m := firstArgMember _ _) (wpAny_of_eq (a := Value.none) (by first | rfl | (simp only [firstArgMember]; rfl)) ?_)
  refine wpAny_newObj_type ?_ (by size_fits)
  simp only [raiseNew]
  refine wpAny_bind (wpAny_handled ?_)
  rw [show A.in1.handled = none from hh]
  refine wpAny_bind (wpAny_pure (wpAny_throw ?_))
  refine wpAny_bind (wpAny_isInstance (T := "StopIteration") (b := true) ⟨_, Heap.get?_push_size _ rfl, rfl⟩ isSubtype_stop ?_)
  obtain ⟨R3, x3⟩ := R'.gone (Pick.app hI) ((hx.push _).push _) s'.toks
  exact wpAny_pure (q none none _ _ h trivial R3 (x'.trans x3))
theorem P_self {I m : Addr} (hI : (I, ciE m) ∈ σ) (h : K (.ref I) σ) : W1 VR c A pyIter (.ref I) σ K := by
  intro s Q E v R hv q
  cases hv
  obtain ⟨o, ho, hc, hP⟩ := R.ob _ hI
  obtain ⟨t, rfl⟩ := hP _ (Ext.refl _)
  have hT : s.TypeIs (.ref I) "callable_iterator" := ⟨_, ho, rfl⟩
  refine wpAny_pyIter_slot hT slot_ci_iter (wpAny_call_entry slot_ci_iter hT entry_ci_iter ?_ (args_ci_iter _))
  show wpAny _ _ (ret (.ref I)) _ _ s
  exact wpAny_pure ⟨_, rfl, "callable_iterator", _, hT, slot_ci_next.lookup, q _ _ _ _ h rfl R (Ext.refl _)⟩
theorem read_char_W {x dx F Lp Ls d g : Addr} {fdS : FuncData} {pre : Led} {n : Int} {l : List Nat} (H : Lex c x dx F Lp Ls d g fdS σ) (hA : A.depth < 850) (hU : A.units < 8600) (hl : l.length < 100000)
    (h : K (.str (S (l.take 1))) (pre ++ lexL c dx F Lp Ls (n + nl l) (l.drop 1) σ)) : WN VR c A (fun vs => call (.ref 151) vs) [.ref x] (pre ++ lexL c dx F Lp Ls n l σ) K := fun s Q E vs R hvs q =>
  wpAny_call (read_char_spec H hA hU hl h R hvs fun v X σ' s' hk hv R' x' => q _ _ _ _ hk hv R' x')
end
end
noncomputable def isW (a : Nat) : Bool := a == 10 || a == 9 || a == 13 || a == 32
noncomputable abbrev nlA (a : Nat) : Int := if a = 10 then 1 else 0
inductive Quo : List Nat → Int → List Nat → List Nat → Int → Prop
  | close {r n} : Quo (34 :: r) n [] r n
  | esc {b r n t r' n'} : Quo r (n + nlA b) t r' n' → Quo (92 :: b :: r) n (b :: t) r' n'
  | one {a r n t r' n'} : a ≠ 34 → a ≠ 92 → Quo r (n + nlA a) t r' n' → Quo (a :: r) n (a :: t) r' n'
inductive Bare : List Nat → Int → List Nat → List Nat → Int → Prop
  | close {a r n} : isW a = true → Bare (a :: r) n [] r (n + nlA a)
  | esc {b r n t r' n'} : Bare r (n + nlA b) t r' n' → Bare (92 :: b :: r) n (b :: t) r' n'
  | one {a r n t r' n'} : isW a = false → a ≠ 92 → Bare r (n + nlA a) t r' n' → Bare (a :: r) n (a :: t) r' n'
inductive Tok : List Nat → Int → List Nat → List Nat → Int → Prop
  | ws {a r n t r' n'} : isW a = true → Tok r (n + nlA a) t r' n' → Tok (a :: r) n t r' n'
  | quo {r n t r' n'} : Quo r n t r' n' → Tok (34 :: r) n t r' n'
  | bare {a r n t r' n'} : isW a = false → a ≠ 34 → a ≠ 92 → Bare r (n + nlA a) t r' n' → Tok (a :: r) n (a :: t) r' n'
  | bareE {b r n t r' n'} : Bare r (n + nlA b) t r' n' → Tok (92 :: b :: r) n (b :: t) r' n'
  | done {n} : Tok [] n [] [] n
theorem Tok.cons_ws {a r n t r' n'} (h : Tok (a :: r) n t r' n') (hw : isW a = true) : Tok r (n + nlA a) t r' n' := by
  cases h with
  | ws _ h => exact h
  | quo _ => cases hw
  | bare h _ _ _ => rw [h] at hw; cases hw
  | bareE _ => cases hw
theorem Tok.cons_q {r n t r' n'} (h : Tok (34 :: r) n t r' n') : Quo r n t r' n' := by
  cases h with
  | ws h _ => cases h
  | quo h => exact h
  | bare _ h _ _ => exact absurd rfl h
theorem Tok.cons_b {a r n t r' n'} (h : Tok (a :: r) n t r' n') (hw : isW a = false) (ha : a ≠ 34) :
    (a ≠ 92 ∧ ∃ t2, t = a :: t2 ∧ Bare r (n + nlA a) t2 r' n') ∨ (a = 92 ∧ ∃ b r2 t2, r = b :: r2 ∧ t = b :: t2 ∧ Bare r2 (n + nlA b) t2 r' n') := by
  cases h with
  | ws h _ => rw [hw] at h; cases h
  | quo h => exact absurd rfl ha
  | bare _ _ h2 h3 => exact .inl ⟨h2, _, rfl, h3⟩
  | bareE h => exact .inr ⟨rfl, _, _, _, rfl, rfl, h⟩
theorem Quo.inv {l n t r' n'} (h : Quo l n t r' n') : (∃ r, l = 34 :: r ∧ t = [] ∧ r' = r ∧ n' = n) ∨ (∃ b r t2, l = 92 :: b :: r ∧ t = b :: t2 ∧ Quo r (n + nlA b) t2 r' n') ∨ (∃ a r t2, l = a :: r ∧ a ≠ 34 ∧ a ≠ 92 ∧ t = a :: t2 ∧ Quo r (n + nlA a) t2 r' n') := by
  cases h with
  | close => exact .inl ⟨_, rfl, rfl, rfl, rfl⟩
  | esc h => exact .inr (.inl ⟨_, _, _, rfl, rfl, h⟩)
  | one h1 h2 h => exact .inr (.inr ⟨_, _, _, rfl, h1, h2, rfl, h⟩)
theorem Bare.inv {l n t r' n'} (h : Bare l n t r' n') : (∃ a r, l = a :: r ∧ isW a = true ∧ t = [] ∧ r' = r ∧ n' = n + nlA a) ∨ (∃ b r t2, l = 92 :: b :: r ∧ t = b :: t2 ∧ Bare r (n + nlA b) t2 r' n') ∨ (∃ a r t2, l = a :: r ∧ isW a = false ∧ a ≠ 92 ∧ t = a :: t2 ∧ Bare r (n + nlA a) t2 r' n') := by
  cases h with
  | close h => exact .inl ⟨_, _, rfl, h, rfl, rfl, rfl⟩
  | esc h => exact .inr (.inl ⟨_, _, _, rfl, rfl, h⟩)
  | one h1 h2 h => exact .inr (.inr ⟨_, _, _, rfl, h1, h2, rfl, h⟩)
theorem Quo.len {l n t r' n'} (h : Quo l n t r' n') : t.length + r'.length ≤ l.length := by
  induction h <;> simp <;> omega
theorem Bare.len {l n t r' n'} (h : Bare l n t r' n') : t.length + r'.length ≤ l.length := by
  induction h <;> simp <;> omega
theorem Tok.len {l n t r' n'} (h : Tok l n t r' n') : t.length + r'.length ≤ l.length := by
  induction h with
  | ws _ _ ih => simp; omega
  | quo h => have := h.len; simp; omega
  | bare _ _ _ h => have := h.len; simp; omega
  | bareE h => have := h.len; simp; omega
  | done => simp
theorem ofE : (Str.ofString "").cps.toList = [] := by decide +kernel
theorem in_ws (k : Nat) : (!(Builtin.Str.occurrences wsS (S [k]) 0 wsS.length 1).isEmpty) = isW k := by
  rw [show S [k] = ⟨#[k]⟩ from rfl, StrLaws.found_one, show wsS.cps.toList = [10, 9, 13, 32] by decide +kernel]
  unfold isW
  simp
  rw [Bool.eq_iff_iff]
  simp [or_assoc]
theorem eq_S {tk : Str} {t : List Nat} (h : tk.cps.toList = t) : tk = S t := by cases tk; subst h; simp [S]
theorem seqS (a : Nat) (x : Str) (b : Nat) (h : x.cps.toList = [b]) : ((S [a]).cps.toList == x.cps.toList) = decide (a = b) := by
  rw [h, Bool.eq_iff_iff]; simp [S]
inductive TkJ (L0 : Addr) (sc0 : Scope) (x I m : Addr) (c : Cx) (dx F Lp Ls : Addr) (pre σ : Led) (t r' : List Nat) (n' : Int) (l : List Nat) (k : Nat) (τ : Led) : Prop
  | mk (o : Option V) (n1 : Int) (l1 : List Nat) (_ : k = l1.length) (_ : l1.length ≤ l.length) (_ : Tok l1 n1 t r' n') (_ : τ = (L0, .ns sc0 [(Str.ofString "self", some (.ref x)), (Str.ofString "token", some (.str "")), (Str.ofString "fiter", some (.ref I)), (Str.ofString "ch", o)]) :: (I, ciE m) :: (m, methE 151 x) :: (pre ++ lexL c dx F Lp Ls n1 l1 σ))
inductive TqJ (L0 : Addr) (sc0 : Scope) (x I m : Addr) (c : Cx) (dx F Lp Ls : Addr) (pre σ : Led) (t r' : List Nat) (n' : Int) (r : List Nat) (k : Nat) (τ : Led) : Prop
  | mk (o : Option V) (n2 : Int) (l2 : List Nat) (tk : Str) (t2 : List Nat) (_ : k = l2.length) (_ : l2.length ≤ r.length) (_ : Quo l2 n2 t2 r' n') (_ : tk.cps.toList ++ t2 = t) (_ : τ = (L0, .ns sc0 [(Str.ofString "self", some (.ref x)), (Str.ofString "token", some (.str tk)), (Str.ofString "fiter", some (.ref I)), (Str.ofString "ch", o)]) :: (((I, ciE m) :: (m, methE 151 x) :: pre).append (lexL c dx F Lp Ls n2 l2 σ)))
inductive TmJ (x I m : Addr) (c : Cx) (dx F Lp Ls : Addr) (pre σ : Led) (t r' : List Nat) (n' : Int) (r : List Nat) (ρ : List (Str × Option V)) (τ : Led) : Prop
  | mk (b : Nat) (n2 : Int) (r2 t2 : List Nat) (_ : r2.length ≤ r.length) (_ : t = b :: t2) (_ : Bare r2 n2 t2 r' n') (_ : ρ = [(Str.ofString "self", some (.ref x)), (Str.ofString "token", some (.str "")), (Str.ofString "fiter", some (.ref I)), (Str.ofString "ch", some (chV b))]) (_ : τ = (((I, ciE m) :: (m, methE 151 x) :: pre).append (lexL c dx F Lp Ls n2 r2 σ)))
inductive TbJ (L0 : Addr) (sc0 : Scope) (x I m : Addr) (c : Cx) (dx F Lp Ls : Addr) (pre σ : Led) (t r' : List Nat) (n' : Int) (r : List Nat) (k : Nat) (τ : Led) : Prop
  | mk (o : Option V) (n2 : Int) (l2 : List Nat) (tk : Str) (t3 : List Nat) (_ : k = l2.length) (_ : l2.length ≤ r.length) (_ : Bare l2 n2 t3 r' n') (_ : tk.cps.toList ++ t3 = t) (_ : τ = (L0, .ns sc0 [(Str.ofString "self", some (.ref x)), (Str.ofString "token", some (.str tk)), (Str.ofString "fiter", some (.ref I)), (Str.ofString "ch", o)]) :: (((I, ciE m) :: (m, methE 151 x) :: pre).append (lexL c dx F Lp Ls n2 l2 σ)))
set_option maxHeartbeats 16000000 in
theorem get_token_spec {c : Cx} {A : Around} {K : V → Led → Prop} {x dx F Lp Ls d g : Addr} {fdS : FuncData} {σ pre : Led} {n n' : Int} {l t r' : List Nat} (H : Lex c x dx F Lp Ls d g fdS σ) (hT : Tok l n t r' n') (hh : A.handled = none) (hA : A.depth < 750) (hU : A.units < 8400) (hl : l.length < 80000)
    (h : K (.str (S t)) (pre ++ lexL c dx F Lp Ls n' r' σ)) : WN VR c A (fun vs => call (.ref 158) vs) [.ref x] (pre ++ lexL c dx F Lp Ls n l σ) K := by
  intro s Q E vs R0 hvs q
  refine wpAny_call ?_
  have mem : ∀ {p : Addr × AObj} {n' : Int} {l' : List Nat}, p ∈ σ → p ∈ pre ++ lexL c dx F Lp Ls n' l' σ := fun h => List.mem_append_right _ (.tail _ (.tail _ h))
  refine W_defX (K := K) (names := ["self"]) (others := ["token", "fiter", "ch"]) [(Str.ofString "self", some (.ref x)), (Str.ofString "token", none), (Str.ofString "fiter", none), (Str.ofString "ch", none)]
    (fun s R => R.keep _ _ (c.inK 158 _ rfl)) (fun s R => ⟨_, _, _, _, rfl, R.keep _ _ (c.inK 157 _ rfl), rfl, rfl⟩) (fun s vs _ => binds1 (fun _ => BindsTo.of_eq rfl) vs) rfl rfl (by decide +kernel) rfl (by decide) (by omega) rfl rfl rfl ?_ R0 hvs fun v X σ' s' hk hv R' x' => q _ _ _ _ hk hv R' x'
  intro L A' a1 a2 a3
  repeat walk_at "gi"
  refine WB_val ?_
  repeat walk_at "gi"
  refine G_own (.tail _ (mem H.hx)) (.tail _ (List.mem_append_right _ (.tail _ (.head _)))) (x_pushback _) rfl (by intro _ h; cases h) ?_
  refine T_list (.tail _ (mem H.hp)) (by simp) ?_
  repeat walk_at "gi"
  rw [show (!([] : List V).isEmpty) = false from rfl]
  repeat walk_at "gi"
  refine G_meth (f := 151) (.tail _ (mem H.hx)) (.tail _ (List.mem_append_right _ (.tail _ (.head _)))) (x_rc _) (x_t151 _) rfl (x_frc _) fun m => ?_
  repeat walk_at "gi"
  refine B_iter2 (.tail _ (.head _)) fun I => ?_
  repeat walk_at "gi"
  refine WF_ForG (fun _ => rfl) (fun _ _ => rfl) ?_
  repeat walk_at "gi"
  refine P_self (.tail _ (.head _)) ?_
  refine ⟨_, fun _ _ _ e => e, (TkJ _ _ x I m c dx F Lp Ls pre σ t r' n' l), l.length, ⟨none, n, l, rfl, Nat.le_refl _, hT, rfl⟩, ?_⟩
  rintro JG mG k τ ⟨o, n1, l1, hk, hle, hT1, rfl⟩
  cases l1 with
  | nil =>
    cases hT1
    refine N_end (pre := _ :: (I, ciE m) :: (m, methE 151 x) :: pre) (pre' := _ :: (m, methE 151 x) :: pre) H (by omega) (by omega) (by rw [a3]; exact hh) (.tail .head) (List.mem_cons_of_mem _ (List.mem_cons_of_mem _ List.mem_cons_self)) ?_
    repeat walk_at "gi"
    rw [show (Str.ofString "") = S [] by decide]
    exact Ret.ret' (.skip (.skip (Sub.refl _))) h
  | cons a r =>
    refine N_item (pre := _ :: (I, ciE m) :: (m, methE 151 x) :: pre) H (by omega) (by omega) (by simp at hle; omega) (List.mem_cons_of_mem _ List.mem_cons_self) (List.mem_cons_of_mem _ (List.mem_cons_of_mem _ List.mem_cons_self)) ?_
    repeat walk_at "gi"
    have hM : ∀ {fr p : Addr × AObj} {n : Int} {l : List Nat}, p ∈ σ → p ∈ fr :: (((I, ciE m) :: (m, methE 151 x) :: pre).append (lexL c dx F Lp Ls n l σ)) := fun h => List.mem_cons_of_mem _ (List.mem_append_right _ (.tail _ (.tail _ h)))
    have hD : ∀ {fr : Addr × AObj} {n : Int} {l : List Nat}, (dx, attrE c.z (lexA n F Lp)) ∈ fr :: (((I, ciE m) :: (m, methE 151 x) :: pre).append (lexL c dx F Lp Ls n l σ)) := List.mem_cons_of_mem _ (List.mem_append_right _ (.tail _ (.head _)))
    have q1 : (Str.ofString "\"").cps.toList = [34] := by decide +kernel
    have q2 : (Str.ofString "\\").cps.toList = [92] := by decide +kernel
    refine G_own (hM H.hx) hD (x_whitespace _) rfl (by intro _ h; cases h) ?_
    refine C_sin (in_ws a) ?_
    repeat walk_at "gi"
    by_cases hw : isW a = true
    · rw [hw]
      have hT2 : Tok r (n1 + nlA a) t r' n' := hT1.cons_ws hw
      repeat walk_at "gi"
      exact Turn.cont' ⟨r.length, by simp [hk], mG _ _ ⟨_, _, r, rfl, by simp at hle; omega, hT2, rfl⟩⟩
    · rw [show isW a = false by simpa using hw]
      repeat walk_at "gi"
      rw [seqS a _ 34 q1]
      by_cases ha : a = 34
      · subst ha
        have hQ : Quo r n1 t r' n' := hT1.cons_q
        rw [show decide (34 = 34) = true from rfl, show (n1 + if (34 : Nat) = 10 then (1 : Int) else 0) = n1 by simp]
        repeat walk_at "gi"
        refine WF_ForG (fun _ => rfl) (fun _ _ => rfl) ?_
        repeat walk_at "gi"
        refine P_self (.tail _ (.head _)) ?_
        refine ⟨_, fun _ _ _ e => e, (TqJ _ _ x I m c dx F Lp Ls pre σ t r' n' r), r.length, ⟨_, n1, r, _, t, rfl, Nat.le_refl _, hQ, ?_, rfl⟩, ?_⟩
        · rw [ofE]; rfl
        rintro JG mG k2 τ ⟨o2, n2, l2, tk, t2, hk2, hle2, hQ2, hacc, rfl⟩
        have hb : tk.cps.size + t2.length ≤ 80000 := by
          have e : tk.cps.size + t2.length = t.length := by rw [← hacc]; simp
          have := hT.len; omega
        simp at hle
        rcases hQ2.inv with ⟨r3, rfl, rfl, rfl, rfl⟩ | ⟨b, r3, t3, rfl, rfl, hQ3⟩ | ⟨a3', r3, t3, rfl, h34, h92, rfl, hQ3⟩
        · simp at hle2
          refine N_item (pre := _ :: (I, ciE m) :: (m, methE 151 x) :: pre) H (by omega) (by omega) (by omega) (List.mem_cons_of_mem _ List.mem_cons_self) (List.mem_cons_of_mem _ (List.mem_cons_of_mem _ List.mem_cons_self)) ?_
          repeat walk_at "gi"
          rw [seqS 34 _ 34 q1, show decide (34 = 34) = true from rfl]
          repeat walk_at "gi"
          rw [show tk = S t from eq_S (by rw [← hacc]; simp)]
          rw [show (n' + if (34 : Nat) = 10 then (1 : Int) else 0) = n' by simp]
          exact Ret.ret' (.skip (.skip (.skip (Sub.refl _)))) h
        · simp at hle2
          refine N_item (pre := _ :: (I, ciE m) :: (m, methE 151 x) :: pre) H (by omega) (by omega) (by simp; omega) (List.mem_cons_of_mem _ List.mem_cons_self) (List.mem_cons_of_mem _ (List.mem_cons_of_mem _ List.mem_cons_self)) ?_
          rw [show (n2 + if (92 : Nat) = 10 then (1 : Int) else 0) = n2 by simp]
          repeat walk_at "gi"
          rw [seqS 92 _ 34 q1, show decide (92 = 34) = false from rfl]
          repeat walk_at "gi"
          rw [seqS 92 _ 92 q2, show decide (92 = 92) = true from rfl]
          repeat walk_at "gi"
          refine W_MethV ?_ rfl rfl rfl rfl
          repeat walk_at "gi"
          refine ⟨_, _, MethV.inst (hM H.hx) hD (x_rc _) (x_t151 _) rfl, ?_⟩
          repeat walk_at "gi"
          refine ⟨k_fn _ rfl rfl _, ?_⟩
          refine read_char_W (pre := _ :: (I, ciE m) :: (m, methE 151 x) :: pre) H (by omega) (by omega) (by simp; omega) ?_
          repeat walk_at "gi"
          refine' O_siadd ?hn ?_
          case hn => show tk.cps.size + 1 ≤ _; simp at hb; omega
          repeat walk_at "gi"
          refine Turn.next' ⟨r3.length, by simp [hk2] <;> omega, mG _ _ ⟨_, n2 + nl (b :: r3), r3, _, t3, rfl, by omega, by simpa [nl] using hQ3, ?_, rfl⟩⟩
          rw [← hacc]; simp [S]
        · simp at hle2
          refine N_item (pre := _ :: (I, ciE m) :: (m, methE 151 x) :: pre) H (by omega) (by omega) (by omega) (List.mem_cons_of_mem _ List.mem_cons_self) (List.mem_cons_of_mem _ (List.mem_cons_of_mem _ List.mem_cons_self)) ?_
          repeat walk_at "gi"
          rw [seqS a3' _ 34 q1, show decide (a3' = 34) = false by simpa using h34]
          repeat walk_at "gi"
          rw [seqS a3' _ 92 q2, show decide (a3' = 92) = false by simpa using h92]
          repeat walk_at "gi"
          refine' O_siadd ?hn ?_
          case hn => show tk.cps.size + 1 ≤ _; simp at hb; omega
          repeat walk_at "gi"
          refine Turn.next' ⟨r3.length, by simp [hk2], mG _ _ ⟨_, _, r3, _, t3, rfl, by omega, hQ3, ?_, rfl⟩⟩
          rw [← hacc]; simp [S]
      · rw [show decide (a = 34) = false by simpa using ha]
        repeat walk_at "go"
        have hB := hT1.cons_b (by simpa using hw) ha
        refine WF_join (TmJ x I m c dx F Lp Ls pre σ t r' n' r) (fun JM mM => ?_) ?_
        · repeat walk_at "gi"
          rw [seqS a _ 92 q2]
          rcases hB with ⟨h92, t2, ht, hB⟩ | ⟨rfl, b, r2, t2, rfl, ht, hB⟩
          · rw [show decide (a = 92) = false by simpa using h92]
            repeat walk_at "gi"
            exact Meet.here (mM _ _ ⟨a, _, r, t2, Nat.le_refl _, ht, hB, rfl, rfl⟩)
          · rw [show decide (92 = 92) = true from rfl]
            rw [show (n1 + if (92 : Nat) = 10 then (1 : Int) else 0) = n1 by simp]
            repeat walk_at "gi"
            refine W_MethV ?_ rfl rfl rfl rfl
            repeat walk_at "gi"
            refine ⟨_, _, MethV.inst (hM H.hx) hD (x_rc _) (x_t151 _) rfl, ?_⟩
            repeat walk_at "gi"
            refine ⟨k_fn _ rfl rfl _, ?_⟩
            refine read_char_W (pre := _ :: (I, ciE m) :: (m, methE 151 x) :: pre) H (by omega) (by omega) (by simp at hle ⊢; omega) ?_
            repeat walk_at "gi"
            refine Meet.here (mM _ _ ⟨b, _, r2, t2, by simp, ht, ?_, rfl, rfl⟩)
            simpa [nl] using hB
        · rintro ρ τ ⟨b, n2, r2, t2, hr2, ht, hB2, rfl, rfl⟩
          simp at hle
          repeat walk_at "gi"
          refine' O_siadd ?hn ?_
          case hn => show _ ≤ 1000000; rw [show (Str.ofString "").length = 0 by decide +kernel]; show 0 + 1 ≤ _; omega
          repeat walk_at "gi"
          refine WF_ForG (fun _ => rfl) (fun _ _ => rfl) ?_
          repeat walk_at "gi"
          refine P_self (.tail _ (.head _)) ?_
          refine ⟨_, fun _ _ _ e => e, (TbJ _ _ x I m c dx F Lp Ls pre σ t r' n' r), r2.length, ⟨_, n2, r2, _, t2, rfl, hr2, hB2, ?_, rfl⟩, ?_⟩
          · rw [ofE, ht]; simp [S]
          rintro JG mG k2 τ ⟨o2, n3, l2, tk, t3, hk2, hle2, hQ2, hacc, rfl⟩
          have hb : tk.cps.size + t3.length ≤ 80000 := by
            have e : tk.cps.size + t3.length = t.length := by rw [← hacc]; simp
            have := hT.len; omega
          rcases hQ2.inv with ⟨a4, r3, rfl, hw4, rfl, rfl, rfl⟩ | ⟨b4, r3, t4, rfl, rfl, hQ3⟩ | ⟨a4, r3, t4, rfl, hw4, h92, rfl, hQ3⟩
          · simp at hle2
            refine N_item (pre := _ :: (I, ciE m) :: (m, methE 151 x) :: pre) H (by omega) (by omega) (by omega) (List.mem_cons_of_mem _ List.mem_cons_self) (List.mem_cons_of_mem _ (List.mem_cons_of_mem _ List.mem_cons_self)) ?_
            repeat walk_at "gi"
            refine G_own (hM H.hx) hD (x_whitespace _) rfl (by intro _ h; cases h) ?_
            refine C_sin (in_ws a4) ?_
            rw [hw4]
            repeat walk_at "gi"
            rw [show tk = S t from eq_S (by rw [← hacc]; simp)]
            exact Ret.ret' (.skip (.skip (.skip (Sub.refl _)))) h
          · simp at hle2
            refine N_item (pre := _ :: (I, ciE m) :: (m, methE 151 x) :: pre) H (by omega) (by omega) (by simp; omega) (List.mem_cons_of_mem _ List.mem_cons_self) (List.mem_cons_of_mem _ (List.mem_cons_of_mem _ List.mem_cons_self)) ?_
            rw [show (n3 + if (92 : Nat) = 10 then (1 : Int) else 0) = n3 by simp]
            repeat walk_at "gi"
            refine G_own (hM H.hx) hD (x_whitespace _) rfl (by intro _ h; cases h) ?_
            refine C_sin (in_ws 92) ?_
            rw [show isW 92 = false from rfl]
            repeat walk_at "gi"
            rw [seqS 92 _ 92 q2, show decide (92 = 92) = true from rfl]
            repeat walk_at "gi"
            refine W_MethV ?_ rfl rfl rfl rfl
            repeat walk_at "gi"
            refine ⟨_, _, MethV.inst (hM H.hx) hD (x_rc _) (x_t151 _) rfl, ?_⟩
            repeat walk_at "gi"
            refine ⟨k_fn _ rfl rfl _, ?_⟩
            refine read_char_W (pre := _ :: (I, ciE m) :: (m, methE 151 x) :: pre) H (by omega) (by omega) (by simp; omega) ?_
            repeat walk_at "gi"
            refine' O_siadd ?hn ?_
            case hn => show tk.cps.size + 1 ≤ _; simp at hb; omega
            repeat walk_at "gi"
            refine Turn.next' ⟨r3.length, by simp [hk2] <;> omega, mG _ _ ⟨_, n3 + nl (b4 :: r3), r3, _, t4, rfl, by omega, by simpa [nl] using hQ3, ?_, rfl⟩⟩
            rw [← hacc]; simp [S]
          · simp at hle2
            refine N_item (pre := _ :: (I, ciE m) :: (m, methE 151 x) :: pre) H (by omega) (by omega) (by omega) (List.mem_cons_of_mem _ List.mem_cons_self) (List.mem_cons_of_mem _ (List.mem_cons_of_mem _ List.mem_cons_self)) ?_
            repeat walk_at "gi"
            refine G_own (hM H.hx) hD (x_whitespace _) rfl (by intro _ h; cases h) ?_
            refine C_sin (in_ws a4) ?_
            rw [hw4]
            repeat walk_at "gi"
            rw [seqS a4 _ 92 q2, show decide (a4 = 92) = false by simpa using h92]
            repeat walk_at "gi"
            refine' O_siadd ?hn ?_
            case hn => show tk.cps.size + 1 ≤ _; simp at hb; omega
            repeat walk_at "gi"
            refine Turn.next' ⟨r3.length, by simp [hk2], mG _ _ ⟨_, _, r3, _, t4, rfl, by omega, hQ3, ?_, rfl⟩⟩
            rw [← hacc]; simp [S]
inductive Toks : List Nat → Int → List (List Nat × Int) → Prop
  | done {l n r n'} : Tok l n [] r n' → Toks l n []
  | cons {l n t r n' ts} : Tok l n t r n' → t ≠ [] → Toks r n' ts → Toks l n ((t, n') :: ts)
noncomputable def rowStep (st : Int × List (List (List Nat))) (w : List Nat × Int) : Int × List (List (List Nat)) :=
  if w.2 ≠ st.1 then (w.2, st.2 ++ [[w.1]]) else (st.1, st.2.dropLast ++ [st.2.getLastD [] ++ [w.1]])
noncomputable def rowsM (ts : List (List Nat × Int)) : List (List (List Nat)) := (ts.foldl rowStep (0, [])).2
theorem rowStep_same {st : Int × List (List (List Nat))} {t : List Nat} {n : Int} {rows' : List (List (List Nat))} {r0 : List (List Nat)} (h : n = st.1) (h2 : st.2 = rows' ++ [r0]) : rowStep st (t, n) = (n, rows' ++ [r0 ++ [t]]) := by
  unfold rowStep
  rw [if_neg (by simpa using h), h2]
  simp [← h]
theorem rowStep_new {st : Int × List (List (List Nat))} {t : List Nat} {n : Int} (h : n ≠ st.1) : rowStep st (t, n) = (n, st.2 ++ [[t]]) := by
  unfold rowStep
  rw [if_pos (by simpa using h)]
theorem rows_le : ∀ (ts : List (List Nat × Int)) (st : Int × List (List (List Nat))) (m : Nat), st.2.length ≤ m → (∀ r ∈ st.2, r.length ≤ m) → (ts.foldl rowStep st).2.length ≤ m + ts.length ∧ ∀ r ∈ (ts.foldl rowStep st).2, r.length ≤ m + ts.length
  | [], st, m, h1, h2 => ⟨h1, h2⟩
  | (t, n) :: ts, st, m, h1, h2 => by
    have key : (rowStep st (t, n)).2.length ≤ m + 1 ∧ ∀ r ∈ (rowStep st (t, n)).2, r.length ≤ m + 1 := by
      unfold rowStep
      split
      · refine ⟨by simp; omega, fun r hr => ?_⟩
        rcases List.mem_append.mp hr with hr | hr
        · have := h2 r hr; omega
        · simp at hr; subst hr; simp
      · refine ⟨by simp; omega, fun r hr => ?_⟩
        rcases List.mem_append.mp hr with hr | hr
        · have := h2 r (List.dropLast_subset _ hr); omega
        · simp only [List.mem_singleton] at hr
          subst hr
          have : (st.2.getLastD []).length ≤ m := by
            by_cases hn : st.2 = []
            · rw [hn]; simp
            · have e : st.2.getLastD [] = st.2.getLast hn := by rw [List.getLastD_eq_getLast?, List.getLast?_eq_some_getLast hn]; rfl
              rw [e]; exact h2 _ (List.getLast_mem _)
          simp; simp at this; omega
    have := rows_le ts (rowStep st (t, n)) (m + 1) key.1 key.2
    simp only [List.foldl_cons, List.length_cons]
    rw [show m + (ts.length + 1) = m + 1 + ts.length by omega]
    exact this
theorem code193 (c : Cx) (h : Heap) (hk : Kept c.kp h) : CodeHd h 193 189 :=
  ⟨_, _, _, _, _, _, _, _, _, hk _ _ (c.inK 193 _ rfl), rfl, rfl, rfl, rfl, rfl, rfl, rfl, rfl, by decide⟩
theorem k_lex (c : Cx) (σ : Led) : Keeps c (.ref 168) σ := fun s R => by
  obtain ⟨k, hk, hL⟩ := looks_keep (M := model c.prog c.w) (x_keep c) R.kin
  exact ⟨k, hk.imp id .inl, hL⟩
theorem W_defL {c : Cx} {A : Around} {σ : Led} {K : V → Led → Prop} {a : Addr} {name qual : Str} {params : Arguments} {body : List Stmt} {sc : Scope} {pm ct : Value} {ca : Addr} {names others : List Str} {Xs : List V} {cl : List (Str × Addr)} {oc : Obj} {us : Array Value} {t : PySem.Tok}
    (ρ : List (Str × Option V)) (ho : (a, AObj.obj (fnObj name qual params (.stmts body) sc cl pm ca ct)) ∈ σ) (hc : (ca, AObj.obj oc) ∈ σ) (hd : oc.data = .fields us) (hu : us[1]? = some (.str qual t))
    (hbind : ∀ s vs, LR c.z s.heap vs Xs → BindsTo s ⟨name, qual, params, .stmts body, sc, mainGlobals, cl, .none, .none, .none, pm, none, .ref ca, ct, builtinsNs⟩ ⟨vs, []⟩ (names.zip vs)) (hlen : names.length = Xs.length)
    (hρ : ρ = frame names Xs others) (hnd : (sc.names.map (·.1)).Nodup) (hloc : locs sc = names ++ others) (hcell : ∀ x ∈ sc.names, x.2 ≠ .cell)
    (hroom : A.depth < 1000) (hco : sc.isCoroutine = false) (hgen : sc.isGenerator = false) (hk : sc.kind = .function)
    (h : ∀ L A', A'.depth = A.depth + 1 → A'.units = A.units + 3 → A'.handled = A.handled → WF c A' (execs body (envF sc L cl qual a (.ref ca))) ((L, .ns sc ρ) :: σ) (Ret K)) :
    WN VR c A (fun vs => call (.ref a) vs) Xs σ K := fun s Q E vs R hvs q =>
  wpAny_call (W_defX (K := K) ρ (fun s R => (R.ob _ ho).1) (fun s R => ⟨_, _, _, _, rfl, (R.ob _ hc).1, hd, hu⟩) (fun s vs _ => hbind s vs) hlen hρ hnd hloc hcell hroom hco hgen hk h R hvs fun v X σ' s' hk hv R' x' => q _ _ _ _ hk hv R' x')
theorem withLex {α β : Type} {r : (Addr → Prop) → Heap → α → β → Prop} {c : Cx} {x dx F Lp Ls d g : Addr} {fdS : FuncData} {σ τ : Led} {q : Addr × AObj} {pre : Led} {n : Int} {l : List Nat} {A : Around} {t : Sem α} {K : β → Led → Prop} {ps : Array Value} (H : Lex c x dx F Lp Ls d g fdS σ) (hs : Sub ((189, .obj (tabObj ps)) :: q :: τ) σ)
    (k : ∀ fx fd ps, Lex c x dx F Lp Ls d g fd fx → Sub ((189, .obj (tabObj ps)) :: q :: τ) fx → WG r c A t (pre ++ lexL c dx F Lp Ls n l fx) K) : WG r c A t (pre ++ lexL c dx F Lp Ls n l σ) K := k _ _ _ H hs
theorem signs_S (text : List Nat) : List.map (fun k => V.str (S [k])) (S text).cps.toList = text.map chV := by simp [S]
theorem Sub.app {a b : Led} (h : Sub a b) : ∀ l : Led, Sub (l ++ a) (l ++ b)
  | [] => h
  | _ :: l => .pick .head (Sub.app h l)
inductive RowsL : List Addr → List (List (List Nat)) → Led → Prop
  | nil : RowsL [] [] []
  | snoc {ra rows rl a r} : RowsL ra rows rl → RowsL (ra ++ [a]) (rows ++ [r]) ((a, .list (r.map fun w => V.str (S w))) :: rl)
theorem RowsL.len {ra rows rl} (h : RowsL ra rows rl) : ra.length = rows.length ∧ rl.length = rows.length := by
  induction h with
  | nil => exact ⟨rfl, rfl⟩
  | snoc _ ih => simp [ih]
theorem RowsL.inv {ra rows rl} (h : RowsL ra rows rl) (hn : rows ≠ []) : ∃ ra' a rows' r rl', RowsL ra' rows' rl' ∧ ra = ra' ++ [a] ∧ rows = rows' ++ [r] ∧ rl = (a, .list (r.map fun w => V.str (S w))) :: rl' := by
  cases h with
  | nil => exact absurd rfl hn
  | snoc h => exact ⟨_, _, _, _, _, h, rfl, rfl, rfl⟩
theorem nlA_nonneg (a : Nat) : 0 ≤ nlA a := by unfold nlA; split <;> decide
theorem le_nl (n : Int) (a : Nat) : n ≤ n + nlA a := Int.le_add_of_nonneg_right (nlA_nonneg a)
theorem Quo.mono {l n t r' n'} (h : Quo l n t r' n') : n ≤ n' := by
  induction h with
  | close => exact Int.le_refl _
  | esc _ ih => exact Int.le_trans (le_nl _ _) ih
  | one _ _ _ ih => exact Int.le_trans (le_nl _ _) ih
theorem Bare.mono {l n t r' n'} (h : Bare l n t r' n') : n ≤ n' := by
  induction h with
  | close => exact le_nl _ _
  | esc _ ih => exact Int.le_trans (le_nl _ _) ih
  | one _ _ _ ih => exact Int.le_trans (le_nl _ _) ih
theorem Tok.mono {l n t r' n'} (h : Tok l n t r' n') : n ≤ n' := by
  induction h with
  | ws _ _ ih => exact Int.le_trans (le_nl _ _) ih
  | quo h => exact h.mono
  | bare _ _ _ h => exact Int.le_trans (le_nl _ _) h.mono
  | bareE h => exact Int.le_trans (le_nl _ _) h.mono
  | done => exact Int.le_refl _
/-- a word just read, and what is to come -/
noncomputable def Pend (t : List Nat) (n : Int) (l : List Nat) (ts : List (List Nat × Int)) : Prop := (t = [] ∧ ts = []) ∨ (t ≠ [] ∧ ∃ ts', ts = (t, n) :: ts' ∧ Toks l n ts')
theorem Toks.pend {l n ts} (h : Toks l n ts) : ∃ t r n', Tok l n t r n' ∧ Pend t n' r ts := by
  cases h with
  | done h => exact ⟨_, _, _, h, .inl ⟨rfl, rfl⟩⟩
  | cons h1 h2 h3 => exact ⟨_, _, _, h1, .inr ⟨h2, _, rfl, h3⟩⟩
inductive DwJ (g F x Rt : Addr) (c : Cx) (dx Lp Ls : Addr) (fx : Led) (text : List Nat) (ts : List (List Nat × Int)) (k : Nat) (ρ : List (Str × Option V)) (τ : Led) : Prop
  | mk (t : List Nat) (n : Int) (l : List Nat) (ts1 ts2 : List (List Nat × Int)) (ra : List Addr) (rl : Led) (_ : ts = ts1 ++ ts2) (_ : Pend t n l ts2) (_ : k = ts2.length) (_ : l.length ≤ text.length) (_ : 1 ≤ n) (_ : RowsL ra (ts1.foldl rowStep (0, [])).2 rl) (_ : ((ts1.foldl rowStep (0, [])).2 = [] → (ts1.foldl rowStep (0, [])).1 = 0)) (_ : (ts1.foldl rowStep (0, [])).2.length ≤ ts1.length) (_ : ρ = [(Str.ofString "text", some (V.str (S text))), (Str.ofString "read", some (V.ref g)), (Str.ofString "stream", some (V.ref F)), (Str.ofString "lexer", some (V.ref x)), (Str.ofString "rows", some (V.ref Rt)), (Str.ofString "row", some (V.int (ts1.foldl rowStep (0, [])).1)), (Str.ofString "word", some (.str (S t)))]) (_ : τ = (Rt, .list (ra.map V.ref)) :: (rl ++ lexL c dx F Lp Ls n l fx))
inductive DjJ (g F x Rt : Addr) (c : Cx) (dx Lp Ls : Addr) (fx : Led) (text : List Nat) (ts1 : List (List Nat × Int)) (t : List Nat) (n : Int) (l : List Nat) (ρ : List (Str × Option V)) (τ : Led) : Prop
  | mk (ra' : List Addr) (b : Addr) (rows' : List (List (List Nat))) (r0 : List (List Nat)) (rl' : Led) (_ : RowsL ra' rows' rl') (_ : r0.length ≤ ts1.length) (_ : rows'.length ≤ ts1.length) (_ : rowStep (ts1.foldl rowStep (0, [])) (t, n) = (n, rows' ++ [r0 ++ [t]])) (_ : ρ = [(Str.ofString "text", some (V.str (S text))), (Str.ofString "read", some (V.ref g)), (Str.ofString "stream", some (V.ref F)), (Str.ofString "lexer", some (V.ref x)), (Str.ofString "rows", some (V.ref Rt)), (Str.ofString "row", some (V.int n)), (Str.ofString "word", some (.str (S t)))]) (_ : τ = (Rt, .list ((ra' ++ [b]).map V.ref)) :: (b, .list (r0.map fun w => V.str (S w))) :: (rl' ++ lexL c dx F Lp Ls n l fx))
set_option maxHeartbeats 16000000 in
theorem law_deliveries_spec {c : Cx} {A : Around} {pp : Addr × AObj} {σ : Led} {K : V → Led → Prop} {text : List Nat} {ts : List (List Nat × Int)} (B : BM c) (hh : A.handled = none) (hA : A.depth < 700) (hU : A.units < 8000)
    (hl : text.length < 70000) (hT : Toks text 1 ts) 
    (hts : ts.length < 1000) (h : ∀ Rt ra rl ps, RowsL ra (rowsM ts) rl → K (.ref Rt) (pp :: (Rt, .list (ra.map V.ref)) :: (189, .obj (tabObj ps)) :: (rl ++ σ))) : WN VR c A (fun vs => call (.ref 194) vs) [.str (S text)] (pp :: (189, .obj (tabObj #[])) :: σ) K := by
  refine W_defC (names := ["text"]) [(Str.ofString "text", some (.str (S text))), (Str.ofString "read", none), (Str.ofString "stream", none), (Str.ofString "lexer", none), (Str.ofString "rows", none), (Str.ofString "row", none), (Str.ofString "word", none)]
    (fun L => [(Str.ofString "signs", L + 1)]) (fun L τ => (L + 1, .cell none) :: τ)
    (c.inK 194 _ rfl) ⟨_, _, _, c.inK 193 _ rfl, rfl, rfl⟩ (fun s vs _ => binds1 (fun _ => BindsTo.of_eq rfl) vs) rfl rfl (fun _ => rfl) (fun _ _ => rfl) (by decide +kernel) (by decide +kernel) (by decide +kernel) (cells_in ["signs"] (fun _ => rfl) (by decide +kernel)) (by omega) rfl rfl rfl ?_
  intro L A' a1 a2 a3
  repeat walk_at "gi"
  refine B_listS (by rw [a3]; exact hh) (by show text.toArray.size ≤ _; simp; omega) fun Ls => ?_
  repeat walk_at "gi"
  refine WF_Def rfl rfl rfl ?_
  refine' WG.subp (σ' := _ :: (189, .obj (tabObj #[])) :: (Ls, _) :: (L + 1, _) :: pp :: σ) ?_ ?hs1
  case hs1 => walk_at "sub"
  refine W_nestFn B (clos := [("signs", L + 1)]) rfl rfl rfl (fun s R => code193 c _ R.keep) trivial rfl (by rintro b h; cases h; rfl) fun g cg og vg tg ctg hg1 hg2 => ?_
  repeat walk_at "gi"
  refine W_Lam rfl ?_
  refine' WG.subp (σ' := _ :: (189, .obj (tabObj _)) :: (g, _) :: (cg, _) :: (Ls, _) :: (L + 1, _) :: pp :: σ) ?_ ?hs2
  case hs2 => walk_at "sub"
  refine W_nestFn B (clos := []) rfl rfl rfl (fun s R => code193 c _ R.keep) trivial rfl (by rintro b h; cases h) fun F cF oF vF tF ctF hF1 hF2 => ?_
  repeat walk_at "gi"
  refine S_fn fn_read fun d => ?_
  repeat walk_at "gi"
  refine W_CallG (by walk_at "at") (g_netrclex _) (k_lex _) ?_
  repeat walk_at "gi"
  refine new_lexer (by omega) fun x dx Lp => ?_
  repeat walk_at "gi"
  refine W_List ?_
  repeat walk_at "gi"
  refine ⟨by simp, _, _, rfl, fun Rt => ?_⟩
  repeat walk_at "gi"
  rw [signs_S]
  refine' WG.subp (σ' := _ :: (Rt, _) :: (Ls, _) :: (dx, _) :: (x, _) :: (F, _) :: (d, _) :: (g, _) :: (cg, _) :: (L + 1, _) :: (Lp, _) :: (189, _) :: pp :: σ) ?_ ?hs9
  case hs9 => walk_at "sub"
  refine' withLex (pre := [_, _]) (x := x) (d := d) (g := g) (n := 1) (l := text) (q := pp) (τ := σ) ?H ?hs10 fun fx fd ps H hfx => ?_
  case hs10 => walk_at "sub"
  case H =>
    refine ⟨by walk_at "at", by walk_at "at", by walk_at "at", by walk_at "at", ?_, _, _, by walk_at "at", rfl⟩
    intro A0 pre n l K0 hA0 hU0 hl0 hK
    refine' W_defL (names := ["count"]) (others := []) [(Str.ofString "count", some (.int 1))] ?hg ?hc hg1 hg2 ?hb ?h1 ?h2 ?h3 ?h4 ?h5 ?h6 ?h7 ?h8 ?h9 ?hh
    case hg => exact List.mem_append_right _ (List.mem_cons_of_mem _ (List.mem_cons_of_mem _ (by walk_at "at")))
    case hc => exact List.mem_append_right _ (List.mem_cons_of_mem _ (List.mem_cons_of_mem _ (by walk_at "at")))
    case hb => exact fun s vs => binds1 (fun _ => BindsTo.of_eq rfl) vs
    case h1 => rfl
    case h2 => rfl
    case h3 => decide +kernel
    case h4 => rfl
    case h5 => decide
    case h6 => omega
    case h7 => rfl
    case h8 => rfl
    case h9 => rfl
    intro L0 A0' b1 b2 b3
    repeat walk_at "gi"
    refine' W_free ?hC ?_ (by rfl) (by rfl)
    case hC => exact List.mem_cons_of_mem _ (List.mem_append_right _ (List.mem_cons_of_mem _ (List.mem_cons_of_mem _ (by walk_at "at"))))
    refine W_List ?_
    repeat walk_at "gi"
    refine ⟨by simp, _, _, rfl, fun Le => ?_⟩
    refine C_neNil (xs := l.map chV) (List.mem_cons_of_mem _ (List.mem_cons_of_mem _ (List.mem_append_right _ List.mem_cons_self))) (List.mem_cons_of_mem _ List.mem_cons_self) (by omega) ?_
    repeat walk_at "gi"
    cases l with
    | nil =>
      rw [show (!(([] : List Nat).map chV).isEmpty) = false from rfl]
      repeat walk_at "gi"
      rw [show (Str.ofString "") = S [] by decide]
      exact Ret.ret' (.skip (.skip (Sub.refl _))) hK
    | cons a r =>
      rw [show (!((a :: r).map chV).isEmpty) = true from rfl]
      repeat walk_at "gi"
      refine W_Meth "list.pop" ?_
      refine' W_free ?hC ?_ (by rfl) (by rfl)
      case hC => exact List.mem_cons_of_mem _ (List.mem_cons_of_mem _ (List.mem_append_right _ (List.mem_cons_of_mem _ (List.mem_cons_of_mem _ (by walk_at "at")))))
      refine ⟨Meth.list (List.mem_cons_of_mem _ (List.mem_cons_of_mem _ (List.mem_append_right _ List.mem_cons_self))) PySem.F.slot_list_pop PySem.F.type_list_pop, ?_⟩
      repeat walk_at "gi"
      refine B_pop0 (.tail (.tail (Upd.app .head pre))) (by simp at hl0 ⊢; omega) ?_
      repeat walk_at "gi"
      exact Ret.ret' (.skip (.skip (Sub.refl _))) hK
  obtain ⟨t0, l0, n0, hk0, hp0⟩ := hT.pend
  refine W_MethV ?_ rfl rfl rfl rfl
  repeat walk_at "gi"
  refine ⟨_, _, MethV.inst (.tail _ (.tail _ (.tail _ (.tail _ H.hx)))) (.tail _ (.tail _ (.tail _ (.head _)))) (x_gt _) (x_t158 _) rfl, ?_⟩
  repeat walk_at "gi"
  refine ⟨k_fn _ rfl rfl _, ?_⟩
  refine get_token_spec (pre := [_, _]) H hk0 (by rw [a3]; exact hh) (by omega) (by omega) (by omega) ?_
  repeat walk_at "gi"
  refine WF_WhileF (DwJ g F x Rt c dx Lp Ls fx text ts) ts.length ⟨t0, n0, l0, [], ts, [], [], rfl, hp0, rfl, by have := hk0.len; omega, hk0.mono, .nil, fun _ => rfl, by simp, rfl, rfl⟩ ?_
  rintro JW mW k ρ τ ⟨t, n, l, ts1, ts2, ra, rl, e1, hp, hk, hle, hn1, hR, hz, hlen, rfl, rfl⟩
  have hts1 : ts1.length ≤ ts.length := by rw [e1]; simp
  have hrl := (rows_le ts1 (0, []) 0 (by simp) (by simp)).2
  rw [Nat.zero_add] at hrl
  repeat walk_at "gi"
  rw [ofE, show (S t).cps.toList = t by simp [S]]
  rcases hp with ⟨rfl, rfl⟩ | ⟨ht, ts3, rfl, hT3⟩
  · rw [show (([] : List Nat) != []) = false from rfl]
    repeat walk_at "gi"
    have e2 : ts1 = ts := by rw [e1]; simp
    subst e2
    refine Ret.ret' (Sub.trans (Sub.of_perm ?_) (Sub.skip (Sub.pick .head (Sub.app (Sub.skip (Sub.skip hfx)) rl)))) (h Rt ra rl ps hR)
    exact (List.perm_middle (l₁ := [(Rt, AObj.list (ra.map V.ref)), (189, AObj.obj (tabObj ps))])).symm.trans (.cons _ ((.cons _ List.perm_middle.symm : List.Perm _ _).trans List.perm_middle.symm))
  · rw [show (t != []) = true by simpa using ht]
    repeat walk_at "go"
    refine WF_joinS (DjJ g F x Rt c dx Lp Ls fx text ts1 t n l) (fun JM mM => ?_) ?_
    · repeat walk_at "gi"
      refine G_own (List.mem_cons_of_mem _ (List.mem_cons_of_mem _ (List.mem_append_right _ (List.mem_cons_of_mem _ (List.mem_cons_of_mem _ H.hx))))) (List.mem_cons_of_mem _ (List.mem_cons_of_mem _ (List.mem_append_right _ (List.mem_cons_of_mem _ List.mem_cons_self)))) (x_lineno _) rfl (by intro _ h; cases h) ?_
      repeat walk_at "gi"
      by_cases hne : n = (ts1.foldl rowStep (0, [])).1
      · rw [show (n != (ts1.foldl rowStep (0, [])).1) = false by simpa using hne]
        have hnn : (ts1.foldl rowStep (0, [])).2 ≠ [] := fun e => by have := hz e; omega
        obtain ⟨ra', b, rows', r0, rl', g1, g2, g3, g4⟩ := hR.inv hnn
        subst g2 g4
        repeat walk_at "gi"
        refine MeetS.here (Sub.refl _) (mM _ _ ⟨ra', b, rows', r0, rl', g1, ?_, ?_, ?_, ?_, rfl⟩)
        · exact hrl _ (by rw [g3]; simp)
        · rw [g3] at hlen; simp at hlen; omega
        · exact rowStep_same hne g3
        · rw [← hne]
      · rw [show (n != (ts1.foldl rowStep (0, [])).1) = true by simpa using hne]
        repeat walk_at "gi"
        refine G_own (List.mem_cons_of_mem _ (List.mem_cons_of_mem _ (List.mem_append_right _ (List.mem_cons_of_mem _ (List.mem_cons_of_mem _ H.hx))))) (List.mem_cons_of_mem _ (List.mem_cons_of_mem _ (List.mem_append_right _ (List.mem_cons_of_mem _ List.mem_cons_self)))) (x_lineno _) rfl (by intro _ h; cases h) ?_
        repeat walk_at "gi"
        refine W_Meth "list.append" ?_
        repeat walk_at "gi"
        refine ⟨Meth.list (by walk_at "at") PySem.F.slot_list_append PySem.F.type_list_append, ?_⟩
        repeat walk_at "gi"
        refine W_List ?_
        repeat walk_at "gi"
        refine ⟨by simp, _, _, rfl, fun Lb => ?_⟩
        repeat walk_at "gi"
        refine' B_append ?hu ?hn ?_
        case hu => walk_at "at"
        case hn => rw [List.length_map, hR.len.1]; omega
        refine ⟨rfl, ?_⟩
        repeat walk_at "gi"
        refine MeetS.here (τ := (Rt, .list ((ra ++ [Lb]).map V.ref)) :: (Lb, .list (([] : List (List Nat)).map fun w => V.str (S w))) :: (rl ++ lexL c dx F Lp Ls n l fx)) ?_ (mM _ _ ⟨ra, Lb, _, [], rl, hR, by simp, hlen, ?_, rfl, rfl⟩)
        · rw [List.map_append]
          exact Sub.pick .head (Sub.pick (.tail .head) (Sub.refl _))
        · exact rowStep_new hne
    · rintro ρ τ ⟨ra', b, rows', r0, rl', hR', hr0, hrl', hst, rfl, rfl⟩
      repeat walk_at "gi"
      refine W_Meth "list.append" ?_
      repeat walk_at "gi"
      refine' O_last (xs := (ra' ++ [b]).map V.ref) (X := .ref b) ?ho rfl ?hn ?hx ?_
      case ho => walk_at "at"
      case hn => simp; rw [hR'.len.1]; omega
      case hx => simp
      refine ⟨Meth.list (by walk_at "at") PySem.F.slot_list_append PySem.F.type_list_append, ?_⟩
      repeat walk_at "gi"
      refine' B_append ?hu ?hn ?_
      case hu => walk_at "at"
      case hn => simp; omega
      refine ⟨rfl, ?_⟩
      repeat walk_at "gi"
      obtain ⟨t', l', n', hk', hp'⟩ := hT3.pend
      refine W_MethV ?_ rfl rfl rfl rfl
      repeat walk_at "gi"
      refine ⟨_, _, MethV.inst (List.mem_cons_of_mem _ (List.mem_cons_of_mem _ (List.mem_cons_of_mem _ (List.mem_append_right _ (List.mem_cons_of_mem _ (List.mem_cons_of_mem _ H.hx)))))) (List.mem_cons_of_mem _ (List.mem_cons_of_mem _ (List.mem_cons_of_mem _ (List.mem_append_right _ (List.mem_cons_of_mem _ List.mem_cons_self))))) (x_gt _) (x_t158 _) rfl, ?_⟩
      repeat walk_at "gi"
      refine ⟨k_fn _ rfl rfl _, ?_⟩
      refine get_token_spec (pre := _ :: (Rt, _) :: (b, _) :: rl') H hk' (by rw [a3]; exact hh) (by omega) (by omega) (by omega) ?_
      repeat walk_at "gi"
      have hfs : (ts1 ++ [(t, n)]).foldl rowStep (0, []) = (n, rows' ++ [r0 ++ [t]]) := by rw [List.foldl_append]; exact hst
      have hR2 : RowsL (ra' ++ [b]) (rows' ++ [r0 ++ [t]]) ((b, .list ((r0 ++ [t]).map fun w => V.str (S w))) :: rl') := .snoc hR'
      rw [List.map_append] at hR2
      refine Turn.nextF ts3.length (by simp [hk]) (mW _ _ _ ⟨t', n', l', ts1 ++ [(t, n)], ts3, ra' ++ [b], _, by simp [e1], hp', rfl, by have := hk'.len; omega, by have := hk'.mono; omega, by rw [hfs]; exact hR2, by rw [hfs]; simp, by rw [hfs]; simp; omega, by rw [hfs], rfl⟩)
section
theorem tb_no_bytes : typeLookup (.type "tuple") "__bytes__" = pure none := by rw [typeLookup_type, builtinLookup_eq_fast]; kernel_rfl
theorem tb_no_index : typeLookup (.type "tuple") "__index__" = pure none := by rw [typeLookup_type, builtinLookup_eq_fast]; kernel_rfl
theorem tb_no_buffer : typeLookup (.type "tuple") "__buffer__" = pure none := by rw [typeLookup_type, builtinLookup_eq_fast]; kernel_rfl
theorem tb_len : typeLookup (.type "tuple") "__len__" = pure (some (.builtin "tuple.__len__")) := by rw [typeLookup_type, builtinLookup_eq_fast]; kernel_rfl
theorem tb_split : splitId "tuple.__len__" = some ("tuple", "__len__") := by decide +kernel
theorem tb_sub : isSubtype (.type "tuple") (.type "list") = pure false := by rw [isSubtype_type]; kernel_rfl
theorem tb_sub2 : isSubtype (.type "tuple") (.type "tuple") = pure true := by rw [isSubtype_type]; kernel_rfl
noncomputable abbrev baO (b : Array UInt8) : Obj := { cls := .type "bytearray", data := .bytearray b }
section
variable {c : Cx} {A : Around} {E : Value → Shared → Prop}
theorem bytes_loop {R : Result → Shared → Prop} {I S : Addr} {cell : Nat → AObj} {ns : List Int} (ok : IterOK c A.in1 I cell (ns.map V.int) (fun _ => True)) (hr : ∀ n ∈ ns, 0 ≤ n ∧ n < 256) (hz : ns.length ≤ 1000000) :
    ∀ (k i : Nat) (σ : Led) (s : Shared), ns.length - i = k → i ≤ ns.length → Rep c ((S, .obj (baO (byteArr (ns.take i)))) :: (I, cell i) :: σ) s →
      (∀ t s', Rep c σ s' → Ext c.z s.heap s'.heap → R (.ok (.ret (.bytes (byteArr ns) t))) s') →
      codeAny (model c.prog c.w) A (.builtin "bytes.__new__.loop" ⟨[.type "bytes", .ref I, .ref S], []⟩) R s := by
  intro k
  induction k with
  | zero =>
    intro i σ s hk hle R0 hR
    have hin : i = ns.length := by omega
    subst hin
    refine codeAny_builtin F.bm_entry_loop ?_
    rw [Around.under_plainId F.bm_plain_loop _]
    show wpAny _ A.in1 (pyNext (.ref I) >>= _) _ _ s
    refine wpAny_bind (ok.done1 trivial (by rw [List.length_map]; exact .tail .head) R0 fun s' R' x' => ?_)
    have hS' := (R'.ob _ (.head _)).1
    refine wpAny_bind ?_
    unfold Builtin.Bytes.payload Builtin.Bytes.payload?
    refine wpAny_bind (wpAny_bind (wpAny_load hS' ?_))
    refine wpAny_pure (wpAny_pure ?_)
    rw [List.take_length]
    refine wpAny_bind (wpAny_mkBytes ?_ (by rw [byteArr_size]; exact len_fit hz))
    show wpAny _ _ (if (Value.type "bytes" == Value.type "bytes") = true then _ else _) _ _ _
    refine bm_if_true (by decide) ?_
    have fin := fun t => hR t _ ((R'.sub (List.sublist_cons_self ..)).toks (s'.toks + 1)) x'
    first
      | exact wpAny_pure (fin _)
      | exact wpAny_bind (wpAny_pure (wpAny_pure (fin _)))
  | succ k ih =>
    intro i σ s hk hle R0 hR
    have hlt : i < ns.length := by omega
    have hn : ns[i]? = some ns[i] := List.getElem?_eq_getElem hlt
    generalize ns[i] = n at hn
    obtain ⟨h0, h1⟩ := hr n (List.mem_of_getElem? hn)
    refine codeAny_builtin F.bm_entry_loop ?_
    rw [Around.under_plainId F.bm_plain_loop _]
    show wpAny _ A.in1 (pyNext (.ref I) >>= _) _ _ s
    refine wpAny_bind (ok.next1 (X := .int n) (by rw [List.getElem?_map, hn]; rfl) trivial (.tail .head) R0 fun v s' hr' R' x' => ?_)
    obtain ⟨t, rfl⟩ := hr'
    have hS' := (R'.ob _ (.head _)).1
    refine wpAny_bind (wpAny_holding (wpAny_of_eq (rfl : asIndex (.int n t) = pure n) ?_))
    refine wpAny_bind (wpAny_letGo ?_)
    refine bm_if_false (by simp only [Bool.or_eq_false_iff, decide_eq_false_iff_not]; omega) ?_
    refine wpAny_bind ?_
    show wpAny _ _ (updateBytearray S (·.push n.toNat.toUInt8)) _ _ _
    unfold updateBytearray
    refine wpAny_bind (wpAny_load hS' ?_)
    show wpAny _ _ (update S (Obj.mapBytearray (·.push n.toNat.toUInt8)) >>= fun _ => lookBehind S) _ _ _
    refine wpAny_bind (wpAny_update hS' ?_)
    have hS₂ : (s'.heap.update S (Obj.mapBytearray (·.push n.toNat.toUInt8))).get? S = some (baO (byteArr (ns.take (i + 1)))) := by
      rw [byteArr_take hn]
      exact Heap.get?_update_self (Obj.mapBytearray (·.push n.toNat.toUInt8)) hS' rfl
    refine wpAny_lookBehind hS₂ ?_ ?_
    · show (if (byteArr (ns.take (i + 1))).size > sizeLine then some "bytearray:memory" else none) = none
      rw [if_neg]
      rw [byteArr_size, List.length_take]
      have := len_fit hz
      omega
    · obtain ⟨R2, x2⟩ := R'.upd (o' := .obj (baO (byteArr (ns.take (i + 1))))) .head (h' := s'.heap.update S (Obj.mapBytearray (·.push n.toNat.toUInt8))) (fun b hb o e => (Heap.get?_update_other _ _ (Ne.symm hb)).trans e) ⟨hS₂, fun e => by injection e with e; revert e; decide⟩ s'.toks
      exact wpAny_pure ⟨plainId_quiet F.bm_plain_loop _, ih (i + 1) σ _ (by omega) hlt R2 fun t s3 R3 x3 => hR t s3 R3 ((x'.trans x2).trans x3)⟩
theorem B_bytesT {σ : Led} {K : V → Led → Prop} {ns : List Int} (hh : A.handled = none) (hr : ∀ n ∈ ns, 0 ≤ n ∧ n < 256) (hz : ns.length ≤ 1000000) (h : K (.bytes (byteL ns)) σ) : WN VR c A (fun vs => call (.type "bytes") vs) [.tup (ns.map At.int)] σ K := by
  intro s Q E vs R hvs q
  obtain ⟨v, rfl, hv⟩ : ∃ v, vs = [v] ∧ VR c.z s.heap v (.tup (ns.map At.int)) := by
    cases hvs with | cons h1 h2 => cases h2; exact ⟨_, rfl, h1⟩
  obtain ⟨a, ws, n, rfl, ⟨hza, hT⟩, hw⟩ := id hv
  have fin : ∀ t s', Rep c σ s' → Ext c.z s.heap s'.heap → Q (.bytes (byteArr ns) t) s' := fun t s' R' x' => q _ (.bytes (byteL ns)) _ _ h ⟨t, rfl⟩ R' x'
  refine callType_codes (Q₁ := fun obj s₁ => s₁.TypeIs obj "bytes" ∧ Q obj s₁) F.bm_called (F.bm_typeCall _) F.entry_object_init ?_ fun obj s₁ h₁ => ⟨h₁.1, F.args_object_init_2 obj _, object_init_meets F.bm_called.init.lookup F.bm_called.made (by decide) c.prog c.w A.in1 _ s₁ ⟨h₁.1, rfl, h₁.2⟩⟩
  refine codeAny_of_tree ?_
  show wpAny _ A.in1.in1 (do checkBuiltinCall "bytes.__new__" ⟨[.type "bytes", .ref a], []⟩; again (.builtin "bytes.__new__" ⟨[.type "bytes", .ref a], []⟩)) _ _ s
  refine wpAny_bind (wpAny_of_eq (F.bm_newCall _) (wpAny_pure ⟨plainId_quiet F.bm_plain _, codeAny_builtin F.bm_entry ?_⟩))
  rw [Around.under_plainId F.bm_plain _]
  have hTy : s.TypeIs (.ref a) "tuple" := ⟨_, hT, rfl⟩
  unfold Builtin.«bytes.__new__»
  refine wpAny_bind (wpAny_of_eq (a := true) rfl ?_)
  refine bm_if_false rfl ?_
  refine wpAny_bind (wpAny_of_eq F.bm_sub ?_)
  refine bm_if_false rfl ?_
  refine wpAny_bind (wpAny_of_eq (F.bm_bind _) ?_)
  refine wpAny_bind (wpAny_of_eq (a := ()) rfl ?_)
  refine wpAny_bind (wpAny_of_eq (a := ()) rfl ?_)
  refine bm_if_false rfl ?_
  refine wpAny_bind (wpAny_specialOf hTy tb_no_bytes ?_)
  refine wpAny_bind (wpAny_bind ?_)
  show wpAny _ _ (load a >>= _) _ _ _
  refine wpAny_bind (wpAny_load hT ?_)
  refine wpAny_pure (wpAny_pure ?_)
  refine bm_if_false rfl ?_
  refine wpAny_bind (wpAny_specialOf hTy tb_no_index ?_)
  refine bm_if_true rfl ?_
  first
    | show wpAny _ _ (Builtin.Bytes.buffer? "bytes.__new__" (.ref a) true >>= _) _ _ _
    | (refine wpAny_bind ?_; show wpAny _ _ (Builtin.Bytes.buffer? "bytes.__new__" (.ref a) true >>= _) _ _ _)
  refine wpAny_bind ?_
  unfold Builtin.Bytes.buffer?
  refine wpAny_bind (wpAny_specialOf hTy tb_no_buffer ?_)
  refine wpAny_bind (wpAny_specialOf hTy tb_no_buffer ?_)
  refine wpAny_pure ?_
  refine wpAny_bind (wpAny_tryCatch ?_)
  refine It_tuple (c := c) (A := A.in1.in1) (l := ns.map At.int) hh σ (fun X σ' => ∃ I cell, X = .ref I ∧ σ' = (I, cell 0) :: σ ∧ IterOK c A.in1.in1 I cell (ns.map V.int) (fun _ => True)) trivial (fun I cell ok => ⟨I, cell, rfl, rfl, by rw [List.map_map] at ok; exact ok⟩) s _ _ (.ref a) R hv fun it X σ₁ s₁ ⟨I, cell, e1, e2, ok⟩ hit R₁ x₁ => ?_
  subst e1 e2
  cases hit
  have hT₁ : s₁.TypeIs (.ref a) "tuple" := ⟨_, x₁ _ _ _ hza hT, rfl⟩
  refine wpAny_bind (wpAny_holding ?_)
  unfold Builtin.Bytes.lengthHint
  refine wpAny_bind (wpAny_specialOf hT₁ tb_len ?_)
  dsimp only
  rw [tb_split]
  dsimp only
  refine wpAny_bind (wpAny_isInstance hT₁ tb_sub2 ?_)
  refine bm_if_false rfl ?_
  refine bm_if_true (by decide +kernel) ?_
  refine wpAny_pure ?_
  refine wpAny_bind ?_
  unfold Builtin.Bytes.newBytearray
  refine wpAny_newObj_type ?_ (Nat.zero_le _)
  have R2 := R₁.add (a := s₁.heap.objs.size) (ao := .obj (baO #[])) (h' := s₁.heap.push (baO #[])) (Nat.le_refl _) (fun b o e => Heap.get?_push_of_some _ e) ⟨Heap.get?_push_size _ rfl, fun e => by injection e with e; revert e; decide⟩ s₁.toks
  have main := bytes_loop (A := A.in1) (R := wants (fun obj s₁ => s₁.TypeIs obj "bytes" ∧ Q obj s₁) E) ok hr hz ns.length 0 σ _ rfl (Nat.zero_le _) R2 fun t s' R' x' => ⟨PySem.W.typeIs_bytes _ _ _, fin t s' R' ((x₁.trans (Ext.push _)).trans x')⟩
  first
    | exact wpAny_pure ⟨plainId_quiet F.bm_plain_loop _, main⟩
    | exact wpAny_pure (wpAny_pure ⟨plainId_quiet F.bm_plain_loop _, main⟩)
end
end
section
section
variable {prog : Program} {w : World} {A : Around} {R : Result → Shared → Prop} {s : Shared}
theorem compTurn_two0 (elt t1 i1 t2 i2 : Expr) (scope : Scope) (pos : Pos) (it acc : Value) (env : Env) :
    compTurn (.ListComp elt [⟨t1, i1, [], 0⟩, ⟨t2, i2, [], 0⟩] scope pos) 0 it acc env = (do
      standAt i1.pos
      match ← pyNext it with
      | none => pure (.done .next)
      | some v =>
        letOwnedTupleGo t1 it v
        assign t1 env v
        let x ← eval i2 env
        standAt i2.pos
        let x ← foldedSetIterable i2 env x
        let _ ← runOwn (.compStart (.ListComp elt [⟨t1, i1, [], 0⟩, ⟨t2, i2, [], 0⟩] scope pos) 1 (← holding [x] (pyIter x)) acc env) env
        again (.compLoop (.ListComp elt [⟨t1, i1, [], 0⟩, ⟨t2, i2, [], 0⟩] scope pos) 0 it acc env)) := by
  rfl
theorem compTurn_two1 (elt t1 i1 t2 i2 : Expr) (scope : Scope) (pos : Pos) (it acc : Value) (env : Env) :
    compTurn (.ListComp elt [⟨t1, i1, [], 0⟩, ⟨t2, i2, [], 0⟩] scope pos) 1 it acc env = (standAt i2.pos >>= fun _ => pyNext it >>= fun r => match r with
      | none => pure (.done .next)
      | some v => letOwnedTupleGo t2 it v >>= fun _ => assign t2 env v >>= fun _ =>
        (eval elt env >>= fun x => call (.builtin "list.append") [acc, x] >>= fun _ => pure ()) >>= fun _ =>
          again (.compLoop (.ListComp elt [⟨t1, i1, [], 0⟩, ⟨t2, i2, [], 0⟩] scope pos) 1 it acc env)) := by rfl
noncomputable abbrev E2 (elt t1 i1 t2 i2 : Expr) (scope : Scope) (pos : Pos) : Expr := .ListComp elt [⟨t1, i1, [], 0⟩, ⟨t2, i2, [], 0⟩] scope pos
theorem loop_two1 {elt t1 i1 t2 i2 : Expr} {scope : Scope} {pos : Pos} {it acc : Value} {env : Env} (I : Nat → Shared → Prop)
    (turn : ∀ n s, I n s → wpAny (model prog w) A (pyNext it) (fun r s₁ => match r with
      | none => R (.ok .next) s₁
      | some v => wpAny (model prog w) A (assign t2 env v) (fun _ s₂ => wpAny (model prog w) A (eval elt env) (fun x s₃ =>
          wpAny (model prog w) A (call (.builtin "list.append") [acc, x]) (fun _ s₄ => ∃ m, m < n ∧ I m s₄) (notedBy (model prog w) A env fun e s' => R (.error e) s') s₃)
          (notedBy (model prog w) A env fun e s' => R (.error e) s') s₂) (notedBy (model prog w) A env fun e s' => R (.error e) s') s₁) (notedBy (model prog w) A env fun e s' => R (.error e) s') s)
    (n : Nat) (h : I n s) (ht : ∀ v, letOwnedTupleGo t2 it v = pure ()) : codeAny (model prog w) A (.compLoop (E2 elt t1 i1 t2 i2 scope pos) 1 it acc env) R s := by
  refine codeAny_loop rfl I (fun n s hI => ?_) n h
  show wpAny _ A ((compTurn (E2 elt t1 i1 t2 i2 scope pos) 1 it acc env).onRaise (fun x => do noteFrame x env; theTreesLotGoes x)) _ _ s
  refine wpAny_noted ?_
  rw [compTurn_two1]
  refine wpAny_bind (wpAny_standAt (wpAny_bind (wpAny_mono (turn n s hI) (fun r s₁ h₁ => ?_) fun _ _ h' => h')))
  cases r with
  | none => exact wpAny_pure h₁
  | some v =>
    refine wpAny_bind (wpAny_of_eq (ht v) ?_)
    exact wpAny_bind (wpAny_mono h₁ (fun _ s₂ h₂ => wpAny_bind (wpAny_bind (wpAny_mono h₂ (fun x s₃ h₃ => wpAny_bind (wpAny_mono h₃ (fun _ s₄ h₄ => wpAny_pure (wpAny_pure ⟨rfl, h₄⟩)) fun _ _ h' => h')) fun _ _ h' => h'))) fun _ _ h' => h')
theorem start_two1 {elt t1 i1 t2 i2 : Expr} {scope : Scope} {pos : Pos} {it acc : Value} {env : Env}
    (h0 : codeAny (model prog w) A (.compLoop (E2 elt t1 i1 t2 i2 scope pos) 1 it acc env) R s)
    (h : wpAny (model prog w) A (pyIter it) (fun it' s' => codeAny (model prog w) A (.compLoop (E2 elt t1 i1 t2 i2 scope pos) 1 it' acc env) R s') (notedBy (model prog w) A env fun x s' => R (.error x) s') s) :
    codeAny (model prog w) A (.compStart (E2 elt t1 i1 t2 i2 scope pos) 1 it acc env) R s := by
  refine codeAny_of_tree ?_
  show wpAny _ _ ((compStart (E2 elt t1 i1 t2 i2 scope pos) 1 it acc env).onRaise (fun x => do noteFrame x env; standAt theWindowsPlace)) _ _ s
  refine wpAny_notedAt ?_
  unfold compStart
  show wpAny _ _ (ask >>= _) _ _ s
  refine wpAny_bind (wpAny_askSetting (wpAny_ite ?_))
  split
  · first
      | exact wpAny_bind (wpAny_pure (wpAny_pure (And.intro rfl h0)))
      | exact wpAny_pure (And.intro rfl h0)
  · first
      | exact wpAny_bind (wpAny_rule (wpAny_bind (wpAny_standAt (wpAny_bind (wpAny_mono h (fun it' s' h' => wpAny_pure (And.intro rfl h')) fun _ _ x => x)))))
      | (refine wpAny_bind (wpAny_rule ?_); show wpAny _ _ (standAt i2.pos >>= _) _ _ s; exact wpAny_bind (wpAny_standAt (wpAny_bind (wpAny_mono h (fun it' s' h' => wpAny_pure (And.intro rfl h')) fun _ _ x => x))))
theorem loop_two0 {elt t1 i1 t2 i2 : Expr} {scope : Scope} {pos : Pos} {it acc : Value} {env : Env} (I : Nat → Shared → Prop)
    (turn : ∀ n s, I n s → wpAny (model prog w) A (pyNext it) (fun r s₁ => match r with
      | none => R (.ok .next) s₁
      | some v => wpAny (model prog w) A (assign t1 env v) (fun _ s₂ => wpAny (model prog w) A (eval i2 env) (fun x s₃ => wpAny (model prog w) A (pyIter x) (fun it2 s₄ =>
          codeAny (model prog w) (A.mark none) (.compStart (E2 elt t1 i1 t2 i2 scope pos) 1 it2 acc env) (fun r s₅ => match r with | .ok _ => ∃ m, m < n ∧ I m s₅ | .error e => cameBackBy (model prog w) A env (notedBy (model prog w) A env fun e s' => R (.error e) s') e s₅) s₄)
          (notedBy (model prog w) A env fun e s' => R (.error e) s') s₃) (notedBy (model prog w) A env fun e s' => R (.error e) s') s₂) (notedBy (model prog w) A env fun e s' => R (.error e) s') s₁) (notedBy (model prog w) A env fun e s' => R (.error e) s') s)
    (n : Nat) (h : I n s) (ht : ∀ v, letOwnedTupleGo t1 it v = pure ()) (hs : ∀ x, foldedSetIterable i2 env x = pure x) : codeAny (model prog w) A (.compLoop (E2 elt t1 i1 t2 i2 scope pos) 0 it acc env) R s := by
  refine codeAny_loop rfl I (fun n s hI => ?_) n h
  show wpAny _ A ((compTurn (E2 elt t1 i1 t2 i2 scope pos) 0 it acc env).onRaise (fun x => do noteFrame x env; theTreesLotGoes x)) _ _ s
  refine wpAny_noted ?_
  rw [compTurn_two0]
  refine wpAny_bind (wpAny_standAt (wpAny_bind (wpAny_mono (turn n s hI) (fun r s₁ h₁ => ?_) fun _ _ h' => h')))
  cases r with
  | none => exact wpAny_pure h₁
  | some v =>
    refine wpAny_bind (wpAny_of_eq (ht v) ?_)
    refine wpAny_bind (wpAny_mono h₁ (fun _ s₂ h₂ => wpAny_bind (wpAny_mono h₂ (fun x s₃ h₃ => ?_) fun _ _ h' => h')) fun _ _ h' => h')
    refine wpAny_bind (wpAny_standAt ?_)
    rw [hs]
    refine wpAny_bind (wpAny_pure (wpAny_bind (wpAny_holding (wpAny_mono h₃ (fun it2 s₄ h₄ => ?_) fun _ _ h' => h'))))
    refine wpAny_bind (wpAny_runOwn (codeAny_mono h₄ fun r s₅ h₅ => ?_))
    cases r with
    | error e => exact h₅
    | ok f => exact wpAny_pure ⟨rfl, h₅⟩
end
end
section
section
variable {c : Cx} {A : Around} {σ : Led} {env : Env} {K : V → Led → Prop}
inductive SlKP (c : Cx) (K : V → Led → Prop) (X Y : V) (σ₂ : Led) : Prop
  | mk (l : Addr) (xs : List V) (k : Int) (e1 : X = .ref l) (e2 : Y = .int k) (h0 : 0 ≤ k) (hs : ∀ s, Rep c σ₂ s → ∃ vs, s.heap.IsList l (List.toArray vs) ∧ All2 (VR c.z s.heap) vs xs) (hn : xs.length ≤ 1000000) (q : Addr × AObj) (τ : Led) (e : σ₂ = q :: τ) (hk : ∀ a, K (.ref a) (q :: (a, .list (xs.take k.toNat)) :: τ))
/-- xs[:k] -/
theorem W_sliceUptoK {value upper : Expr} {p pos : Pos} (h : W c A (eval value env) σ fun X σ₁ => W c A (eval upper env) σ₁ (SlKP c K X))
    (ht : ∀ o r, letTemporaryGo value o r = pure () := by intro _ _; rfl) : W c A (eval (.Subscript value (.Slice none (some upper) none p) pos) env) σ K := by
  intro s Q E R q
  refine wpAny_Subscript_list_slice (h s _ _ R fun o X σ₁ s₁ h₁ ho R₁ x₁ => ?_) ht
  rw [evalPart_none, evalPart_some]
  refine wpAny_pure (h₁ s₁ _ _ R₁ fun i Y σ₂ s₂ ⟨l, xs, k, e1, e2, hk0, hl, hn, pp, τ, e3, hk⟩ hi R₂ x₂ => ?_)
  subst e1 e2 e3
  cases ho
  obtain ⟨t, rfl⟩ := hi
  obtain ⟨ws, e, hw⟩ := hl _ R₂
  have hlen := hw.length
  refine ⟨l, _, none, some k, rfl, e, by rw [List.size_toArray, hlen]; exact len_fit hn, .none, .int _ _, ?_⟩
  have hp : slicePick ws.toArray none (some k) none = (ws.take k.toNat).toArray := by
    obtain ⟨j, rfl⟩ := Int.eq_ofNat_of_zero_le hk0
    by_cases hj : j ≤ ws.length
    · have := slicePick_upto ws.toArray j (by simpa using hj)
      simpa using this
    · have hb : sliceBounds none (some (j : Int)) none ws.toArray.size = sliceBounds none (some ((ws.length : Nat) : Int)) none ws.toArray.size := by
        simp only [sliceBounds, List.size_toArray]
        have h1 : ¬ ((j : Int) < 0) := by omega
        have h2 : ¬ (((ws.length : Nat) : Int) < 0) := by omega
        have h3 : min (j : Int) (ws.length : Int) = (ws.length : Int) := by omega
        simp only [h1, h2, if_false, h3, Int.min_self, Option.getD_none, show (1 : Int) > 0 by decide, if_true]
      have : slicePick ws.toArray none (some (j : Int)) none = slicePick ws.toArray none (some ((ws.length : Nat) : Int)) none := by
        unfold slicePick; rw [hb]
      rw [this, slicePick_upto ws.toArray ws.length (by simp)]
      simp [List.take_of_length_le (Nat.le_of_not_le hj)]
  rw [hp]
  have k2 : ∀ b o, s₂.heap.get? b = some o → ((s₂.heap.push { cls := .type "slice", data := .fields #[.none, .int k t, .none] }).push { cls := .type "list", data := .seq (ws.take k.toNat).toArray }).get? b = some o := fun b o e => Heap.get?_push_of_some _ (Heap.get?_push_of_some _ e)
  have R' := R₂.newList (a := s₂.heap.objs.size + 1) (Xs := xs.take k.toNat) (us := ws.take k.toNat) (n := 0) (by omega) k2 (by
    have := Heap.get?_push_size (s₂.heap.push { cls := .type "slice", data := .fields #[.none, .int k t, .none] }) (o := { cls := .type "list", data := .seq (ws.take k.toNat).toArray }) rfl
    rw [Heap.size_push] at this; exact this) ((hw.take _).imp fun _ _ => VR.ext fun _ _ _ _ e => k2 _ _ e) s₂.toks
  exact q _ _ _ _ (hk _) rfl (R'.perm (List.Perm.swap ..)) ((x₁.trans x₂).trans fun _ _ _ _ e => k2 _ _ e)
end
end
section
theorem Put.has2 {x X} {ρ ρ' : List (Str × Option V)} (H : Put x X ρ ρ') : (x, some X) ∈ ρ' := by
  induction H with
  | head => exact .head _
  | tail _ ih => exact .tail _ ih
section
variable {c : Cx} {A : Around} {σ : Led} {env : Env} {K : V → Led → Prop}
noncomputable abbrev lisE (l : Addr) (i : Nat) : AObj := .any fun _ o => isIter "list_iterator" (.ref l) i o
theorem iterOK_list (hh : A.handled = none) {l I : Addr} {xs : List V} : IterOK c A I (lisE l) xs (fun σ => (l, AObj.list xs) ∈ σ) := by
  constructor
  · intro i σ σ' X K hi hl u hk s Q E R q
    obtain ⟨o, ho, hc, hP⟩ := R.ob _ u.mem
    obtain ⟨hc', hd⟩ := hP _ (Ext.refl _)
    obtain ⟨vs, n, e, hv⟩ := R.ob _ hl
    obtain ⟨v, hv1, hv2⟩ := hv.get _ _ hi
    refine wpAny_pyNext_list_item (l := l) (i := i) ⟨o, ho, hc', hd⟩ (isList_of e) (by simpa using hv1) fun h' hit hs => ?_
    obtain ⟨o', ho', hc2, hd2⟩ := hit
    obtain ⟨R', x⟩ := R.upd u (one_step hs) (show OR c.z _ _ (.any _) from ⟨o', ho', ne_tuple hc2 (by decide), fun _ _ => ⟨hc2, hd2⟩⟩) s.toks
    exact q _ (some _) _ _ hk (hv2.ext x) R' x
  · intro σ σ' K hl u hk s Q E R q
    obtain ⟨o, ho, hc, hP⟩ := R.ob _ u.keys
    obtain ⟨hc', hd⟩ := hP _ (Ext.refl _)
    obtain ⟨vs, n, e, hv⟩ := R.ob _ hl
    refine wpAny_pyNext_list_end (l := l) (i := xs.length) hh ⟨o, ho, hc', hd⟩ (isList_of e) (by simp [hv.length]) fun h' hs => ?_
    obtain ⟨R', x⟩ := R.gone u hs s.toks
    exact q none none _ _ hk trivial R' x
  · intro i σ K hm hk s Q E R q
    obtain ⟨o, ho, hc, hP⟩ := R.ob _ hm
    obtain ⟨hc', hd⟩ := hP _ (Ext.refl _)
    exact wpAny_pyIter_listiter (l := l) (i := i) ⟨o, ho, hc', hd⟩ (q _ _ _ _ hk rfl R (Ext.refl _))
theorem iter_list {l : Addr} {xs : List V} (hl : (l, AObj.list xs) ∈ σ) (hK : ∀ I, K (.ref I) ((I, lisE l 0) :: σ)) : W1 VR c A pyIter (.ref l) σ K := by
  intro s Q E x R hx q
  cases hx
  obtain ⟨vs, n, e, hv⟩ := R.ob _ hl
  refine wpAny_pyIter_list (isList_of e) ?_
  exact q _ _ _ _ (hK s.heap.objs.size) rfl (add_iter R (by decide)) (Ext.push _)
theorem Put.keys0 {x : Str} {X : V} {sc : Scope} {ρ : List (Str × Option V)} (h : Put x X (rho0 sc) ρ) : ρ.map (·.1) = locs sc := by
  rw [h.keys]; unfold rho0; rw [List.map_map]; show (locs sc).map (fun x => x) = _; rw [List.map_id']
/-- ahead of a turn of the inner loop -/
inductive FlatI (c : Cx) (h0 : Heap) (I : Addr) (cell : Nat → AObj) (C D : Addr) (sc : Scope) (p : Addr × AObj) (ys : Nat → List V) (τ : Led) (len n : Nat) (s : Shared) : Prop
  | mk (j : Nat) (hj : j + n = len) (R : Rep c ((C, .ns sc (rho0 sc)) :: (I, cell j) :: p :: (D, .list (ys j)) :: τ) s) (x : Ext c.z h0 s.heap)
inductive FlatO (c : Cx) (h0 : Heap) (I : Addr) (cell : Nat → AObj) (C D : Addr) (sc : Scope) (ys : Nat → List V) (τ : Led) (len n : Nat) (s : Shared) : Prop
  | mk (i : Nat) (hi : i + n = len) (R : Rep c ((C, .ns sc (rho0 sc)) :: (I, cell i) :: (D, .list (ys i)) :: τ) s) (x : Ext c.z h0 s.heap)
theorem flat_inner {x1 x2 : Str} {q1 q2 q3 q4 : Pos} {i1 : Expr} {scope sc : Scope} {pos : Pos} {I D C b : Addr} {p : Addr × AObj} {ys r : List V} {cl : List (Str × Addr)} {R : Result → Shared → Prop} {s : Shared} {τ : Led}
    {f2 : V → List (Str × Option V)} (hh : A.handled = none) (hk : sc.kind = .function) (hp2 : ∀ X, Put x2 X (rho0 sc) (f2 X)) (hd2 : (x2 == ("__debug__" : Str)) = false) (hn : ys.length + r.length ≤ 1000000) (hb : (b, AObj.list r) ∈ τ)
    (R0 : Rep c ((C, .ns sc (rho0 sc)) :: (I, lisE b 0) :: p :: (D, .list ys) :: τ) s)
    (fin : ∀ s', Rep c ((C, .ns sc (rho0 sc)) :: p :: (D, .list (ys ++ r)) :: τ) s' → Ext c.z s.heap s'.heap → R (.ok .next) s') :
    codeAny (model c.prog c.w) A (.compLoop (E2 (.Name x2 q1) (.Name x1 q2) i1 (.Name x2 q3) (.Name x1 q4) scope pos) 1 (.ref I) (.ref D) (envG sc C cl env)) R s := by
  have ok := iterOK_list (c := c) (l := b) (I := I) (xs := r) hh
  refine loop_two1 (FlatI c s.heap I (lisE b) C D sc p (fun j => ys ++ r.take j) τ r.length) ?_ r.length ⟨0, Nat.zero_add _, by simpa using R0, Ext.refl _⟩ (fun _ => rfl)
  rintro n s₁ ⟨j, hj, R₁, x₁⟩
  have hnd : (b, AObj.list r) ∈ (C, AObj.ns sc (rho0 sc)) :: (I, lisE b j) :: p :: (D, .list (ys ++ r.take j)) :: τ := .tail _ (.tail _ (.tail _ (.tail _ hb)))
  cases n with
  | zero =>
    cases (Nat.add_zero j).symm.trans hj
    refine ok.done1 hnd (.tail .head) R₁ fun s₂ R₂ x₂ => fin _ ?_ (x₁.trans x₂)
    rwa [List.take_length] at R₂
  | succ n =>
    have hlt : j < r.length := hj ▸ Nat.lt_add_of_pos_right (Nat.succ_pos n)
    have e : ys ++ r.take j ++ [r[j]] = ys ++ r.take (j + 1) := by rw [List.append_assoc, List.take_append_getElem]
    have hle : (ys ++ r.take j).length ≤ 1000000 := by rw [List.length_append]; exact Nat.le_trans (Nat.add_le_add_left (List.length_take_le' ..) _) hn
    refine ok.next1 (List.getElem?_eq_getElem hlt) hnd (.tail .head) R₁ fun v s₂ hr R₂ x₂ => ?_
    generalize r[j] = X at e hr
    refine W1.got (b := ()) (fun K h => W_assignName (env := envG sc C cl env) (W_store (env := envG sc C cl env) (hp2 X) h hk)) R₂ hr fun _ s₃ _ R₃ x₃ => ?_
    refine WG.got (fun K h => W_loc (env := envG sc C cl env) (hp2 X).has2 h hk hd2) R₃ fun y s₄ hy R₄ x₄ => ?_
    refine R₄.append (.tail (.tail (.tail .head))) hle hy fun s₅ R₅ x₅ => ?_
    rw [e] at R₅
    exact ⟨n, Nat.lt_succ_self _, j + 1, (Nat.add_right_comm j 1 n).trans hj, R₅.turn (OR.forget (Put.keys0 (hp2 _))), (((x₁.trans x₂).trans x₃).trans x₄).trans x₅⟩
theorem flat_outer {x1 x2 : Str} {q1 q2 q3 q4 : Pos} {i1 : Expr} {scope sc : Scope} {pos : Pos} {I D C Rt : Addr} {ra : List Addr} {rows : List (List V)} {cl : List (Str × Addr)} {R : Result → Shared → Prop} {s : Shared} {τ : Led}
    {f1 f2 : V → List (Str × Option V)} (hh : A.handled = none) (hk : sc.kind = .function) (hp1 : ∀ X, Put x1 X (rho0 sc) (f1 X)) (hd1 : (x1 == ("__debug__" : Str)) = false) (hp2 : ∀ X, Put x2 X (rho0 sc) (f2 X)) (hd2 : (x2 == ("__debug__" : Str)) = false)
    (hn : rows.flatten.length ≤ 1000000) (hlen : ra.length = rows.length) (hR : (Rt, AObj.list (ra.map V.ref)) ∈ τ) (hrow : ∀ x ∈ ra.zip rows, (x.1, AObj.list x.2) ∈ τ)
    (R0 : Rep c ((C, .ns sc (rho0 sc)) :: (I, lisE Rt 0) :: (D, .list []) :: τ) s)
    (fin : ∀ s', Rep c ((C, .ns sc (rho0 sc)) :: (D, .list rows.flatten) :: τ) s' → Ext c.z s.heap s'.heap → R (.ok .next) s') :
    codeAny (model c.prog c.w) A (.compLoop (E2 (.Name x2 q1) (.Name x1 q2) i1 (.Name x2 q3) (.Name x1 q4) scope pos) 0 (.ref I) (.ref D) (envG sc C cl env)) R s := by
  have ok := iterOK_list (c := c) (l := Rt) (I := I) (xs := ra.map V.ref) hh
  refine loop_two0 (FlatO c s.heap I (lisE Rt) C D sc (fun i => (rows.take i).flatten) τ ra.length) ?_ ra.length ⟨0, Nat.zero_add _, by simpa using R0, Ext.refl _⟩ (fun _ => rfl) (fun _ => rfl)
  rintro n s₁ ⟨i, hi, R₁, x₁⟩
  have hnd : (Rt, AObj.list (ra.map V.ref)) ∈ (C, AObj.ns sc (rho0 sc)) :: (I, lisE Rt i) :: (D, .list (rows.take i).flatten) :: τ := .tail _ (.tail _ (.tail _ hR))
  cases n with
  | zero =>
    cases (Nat.add_zero i).symm.trans hi
    refine ok.done1 hnd (by rw [List.length_map]; exact .tail .head) R₁ fun s₂ R₂ x₂ => fin _ ?_ (x₁.trans x₂)
    rwa [hlen, List.take_length] at R₂
  | succ n =>
    have hlt : i < ra.length := hi ▸ Nat.lt_add_of_pos_right (Nat.succ_pos n)
    have hlt2 : i < rows.length := hlen ▸ hlt
    have hg : (ra.map V.ref)[i]? = some (.ref ra[i]) := by rw [List.getElem?_map, List.getElem?_eq_getElem hlt]; rfl
    have hb : (ra[i], AObj.list rows[i]) ∈ τ := hrow (ra[i], rows[i]) (by
      rw [List.mem_iff_getElem?]
      exact ⟨i, by rw [List.getElem?_zip_eq_some]; exact ⟨List.getElem?_eq_getElem hlt, List.getElem?_eq_getElem hlt2⟩⟩)
    have et : (rows.take (i + 1)).flatten = (rows.take i).flatten ++ rows[i] := by
      rw [← List.take_append_getElem hlt2, List.flatten_append]; simp
    have hle : (rows.take i).flatten.length + rows[i].length ≤ 1000000 := by
      have h1 : (rows.take (i + 1)).flatten.length + (rows.drop (i + 1)).flatten.length = rows.flatten.length := by rw [← List.length_append, ← List.flatten_append, List.take_append_drop]
      rw [← List.length_append, ← et]; exact Nat.le_trans (Nat.le_add_right ..) (h1 ▸ hn)
    generalize ra[i] = a at hg hb
    generalize rows[i] = row at et hb hle
    refine ok.next1 hg hnd (.tail .head) R₁ fun v s₂ hr R₂ x₂ => ?_
    refine W1.got (b := ()) (fun K h => W_assignName (env := envG sc C cl env) (X := .ref a) (W_store (env := envG sc C cl env) (hp1 (.ref a)) h hk)) R₂ hr fun _ s₃ _ R₃ x₃ => ?_
    refine WG.got (fun K h => W_loc (env := envG sc C cl env) (hp1 (.ref a)).has2 h hk hd1) R₃ fun y s₄ hy R₄ x₄ => ?_
    refine iter_list (σ := (C, .ns sc (f1 (.ref a))) :: (I, lisE Rt (i + 1)) :: (D, .list (rows.take i).flatten) :: τ) (K := fun X σ' => ∃ I2, X = .ref I2 ∧ σ' = (I2, lisE a 0) :: (C, .ns sc (f1 (.ref a))) :: (I, lisE Rt (i + 1)) :: (D, .list (rows.take i).flatten) :: τ) (.tail _ (.tail _ (.tail _ hb))) (fun I2 => ⟨I2, rfl, rfl⟩) s₄ _ _ y R₄ hy fun it2 Y2 σ₅ s₅ ⟨I2, e1, e2⟩ hy2 R₅ x₅ => ?_
    subst e1 e2
    cases hy2
    have R₆ := (R₅.perm (List.Perm.swap _ _ _)).turn (o' := .ns sc (rho0 sc)) (OR.forget (Put.keys0 (hp1 _)))
    have x5 := (((x₁.trans x₂).trans x₃).trans x₄).trans x₅
    refine start_two1 ?_ ?_
    · exact flat_inner (A := A.mark none) (b := a) (r := row) (ys := (rows.take i).flatten) hh hk hp2 hd2 hle hb R₆ fun s' R' x' => ⟨n, Nat.lt_succ_self _, i + 1, (Nat.add_right_comm i 1 n).trans hi, et ▸ R', x5.trans x'⟩
    · exact (iterOK_list (A := A.mark none) (c := c) (l := a) (I := I2) (xs := row) hh).self1 0 (.tail _ (.head _)) R₆ fun s' R' x' =>
        flat_inner (A := A.mark none) (b := a) (r := row) (ys := (rows.take i).flatten) hh hk hp2 hd2 hle hb R' fun s'' R'' x'' => ⟨n, Nat.lt_succ_self _, i + 1, (Nat.add_right_comm i 1 n).trans hi, et ▸ R'', (x5.trans x').trans x''⟩
inductive FlatP (Rt : Addr) (ra : List Addr) (rows : List (List V)) (K : V → Led → Prop) (X : V) (σ₁ : Led) : Prop
  | mk (e1 : X = .ref Rt) (hR : (Rt, AObj.list (ra.map V.ref)) ∈ σ₁) (hrow : ∀ x ∈ ra.zip rows, (x.1, AObj.list x.2) ∈ σ₁) (q : Addr × AObj) (τ : Led) (e2 : σ₁ = q :: τ) (hK : ∀ D, K (.ref D) (q :: (D, .list rows.flatten) :: τ))
theorem W_Flat {x1 x2 : Str} {q1 q2 q3 q4 : Pos} {iter : Expr} {scope : Scope} {pos : Pos} {Rt : Addr} {ra : List Addr} {rows : List (List V)}
    (ns : List (Str × NameKind)) (cl : List (Str × Addr)) (f1 f2 : V → List (Str × Option V)) (hh : A.handled = none)
    (hns : relabel scope env = scG scope ns) (hcl : closureFor scope env = pure cl) (hk : scope.kind = .function)
    (hnn : (ns.map (·.1)).Nodup) (hcell : ∀ x ∈ scope.names, x.2 ≠ .cell) (hnd : (scope.names.map (·.1)).Nodup)
    (hp1 : ∀ X, Put x1 X (rho0 (scG scope ns)) (f1 X)) (hd1 : (x1 == ("__debug__" : Str)) = false) (hp2 : ∀ X, Put x2 X (rho0 (scG scope ns)) (f2 X)) (hd2 : (x2 == ("__debug__" : Str)) = false)
    (hn : rows.flatten.length ≤ 1000000) (hlen : ra.length = rows.length)
    (h : W c A (eval iter env) σ (FlatP Rt ra rows K))
    (hs : ∀ x, foldedSetIterable iter env x = pure x := by intro _; rfl) :
    W c A (eval (E2 (.Name x2 q1) (.Name x1 q2) iter (.Name x2 q3) (.Name x1 q4) scope pos) env) σ K := by
  intro s Q E R q
  rw [eval_ListComp]
  have hnames : ∀ x ∈ scope.names, x.2 = .local → scope.names.lookup x.1 = some .local := fun x hx e => lookup_of_mem hnd (by rw [← e]; exact hx)
  refine wpAny_comprehension_free rfl hs hcl hk hnames (h s _ _ R fun x X σ₁ s₁ ⟨e1, hR, hrow, qq, τ, e2, hK⟩ hx R₁ x₁ => ?_)
  subst e1 e2
  refine iter_list (K := fun X σ' => ∃ I, X = .ref I ∧ σ' = (I, lisE Rt 0) :: qq :: τ) hR (fun I => ⟨I, rfl, rfl⟩) s₁ _ _ x R₁ hx fun y Y σ₂ s₂ ⟨I, e1, e2⟩ hy R₂ x₂ => ?_
  subst e1 e2
  cases hy
  refine wpAny_newObj_type ?_ (by size_fits)
  have R₃ := R₂.add (a := s₂.heap.objs.size) (ao := .list []) (h' := s₂.heap.push { cls := .type "list", data := .seq #[] }) (Nat.le_refl _) (fun b o e => Heap.get?_push_of_some _ e) (show OR c.z _ _ (.list _) from ⟨[], _, Heap.get?_push_size _ rfl, .nil⟩) s₂.toks
  refine wpAny_newFunctionEnv hcell (fun x hx => by cases hx) (fun h' hn' hs' => ?_) hk
  have hk' : ∀ b o, (s₂.heap.push { cls := .type "list", data := .seq #[] }).get? b = some o → h'.get? b = some o := fun b o e => hs'.extBut b o (Nat.ne_of_lt (Heap.lt_size e)) (Heap.get?_push_of_some _ e)
  have R₄ := R₃.add (ao := .ns (scG scope ns) (rho0 (scG scope ns))) (h' := h') (Nat.le_refl _) hk' (OR.fresh hnn hn') (s₂.toks + ([] : List (Str × Value)).length)
  have x4 : Ext c.z s.heap h' := ((x₁.trans x₂).trans (Ext.push _)).trans (fun _ _ _ _ e => hk' _ _ e)
  rw [hns]
  generalize hC : (s₂.heap.push { cls := .type "list", data := .seq #[] }).objs.size = C at *
  generalize hD : s₂.heap.objs.size = D at *
  have loop : ∀ s₅, Rep c ((C, .ns (scG scope ns) (rho0 (scG scope ns))) :: (I, lisE Rt 0) :: (D, .list []) :: qq :: τ) s₅ → Ext c.z s.heap s₅.heap → codeAny (model c.prog c.w) A (.compLoop (E2 (.Name x2 q1) (.Name x1 q2) iter (.Name x2 q3) (.Name x1 q4) scope pos) 0 (.ref I) (.ref D) (envG (scG scope ns) C cl env)) (compPost (model c.prog c.w) A E none Q (.ref D) C) s₅ := fun s₅ R₅ x₅ =>
    flat_outer hh hk hp1 hd1 hp2 hd2 hn hlen hR hrow R₅ fun s' R' x' => by
      obtain ⟨_, _, m, hm, _⟩ := R'.ob _ (.head _)
      refine ⟨m, hm, fun h' hs' => ?_⟩
      obtain ⟨R'', x''⟩ := R'.gone (.head) hs'.extBut s'.toks
      exact q _ _ _ _ (hK D) rfl (R''.perm (List.Perm.swap ..)) ((x₅.trans x').trans x'')
  have R₄' := R₄.perm (List.Perm.cons _ (List.Perm.swap ..))
  exact codeAny_compStart_list (loop _ R₄' x4) ((iterOK_list (A := A) (c := c) (l := Rt) (I := I) (xs := ra.map V.ref) hh).self1 0 (.tail _ (.head _)) R₄' fun s' R' x' => loop _ R' (x4.trans x'))
end
end
section
noncomputable def zipO (f : Value) (TI TO : Addr) : Obj := { cls := .type "zip", dict := none, data := .fields #[f, .bool false, .bool false, .ref TI, .ref TO], slots := #[] }
noncomputable abbrev zipE (TI TO i1 i2 : Addr) : AObj := .any fun h o => o = zipO .none TI TO ∧ IsPair h TI (.ref i1) (.ref i2) ∧ IsPair h TO .none .none
section
variable {c : Cx} {A : Around} {σ : Led} {env : Env} {K : V → Led → Prop}
theorem Rep.oldz {s : Shared} (R : Rep c σ s) {a : Addr} (ha : s.heap.objs.size ≤ a) : ¬ c.z a := fun q => by
  obtain ⟨_, e⟩ := (R.zs _ q).1
  exact absurd (Heap.lt_size e) (Nat.not_lt.mpr ha)
theorem OR.lis {z : Addr → Prop} {h : Heap} {I l : Addr} {i : Nat} (x : h.IsListIter I l i) : OR z h I (lisE l i) := by
  obtain ⟨o, ho, hc, hd⟩ := x
  exact ⟨o, ho, ne_tuple hc (by decide), fun _ _ => ⟨hc, hd⟩⟩
theorem OR.lis' {z : Addr → Prop} {h : Heap} {I l : Addr} {i : Nat} (x : OR z h I (lisE l i)) : h.IsListIter I l i := by
  obtain ⟨o, ho, _, hP⟩ := x
  obtain ⟨hc, hd⟩ := hP _ (Ext.refl _)
  exact ⟨o, ho, hc, hd⟩
theorem B_zip {p : Addr × AObj} {l1 l2 : Addr} {xs ys : List V} (h1 : (l1, AObj.list xs) ∈ p :: σ) (h2 : (l2, AObj.list ys) ∈ p :: σ)
    (h : ∀ Z TI TO i1 i2, (∀ o, ¬ c.kp TO o) → ¬ c.z TI → ¬ c.z TO → K (.ref Z) (p :: (Z, zipE TI TO i1 i2) :: (i1, lisE l1 0) :: (i2, lisE l2 0) :: σ)) :
    WN VR c A (fun vs => call (.type "zip") vs) [.ref l1, .ref l2] (p :: σ) K := by
  intro s Q E vs R hvs q
  cases hvs with
  | cons g1 r =>
    cases r with
    | cons g2 r =>
      cases r; cases g1; cases g2
      obtain ⟨ws1, n1, e1, hw1⟩ := R.ob _ h1
      obtain ⟨ws2, n2, e2, hw2⟩ := R.ob _ h2
      refine call_zip_2 (isList_of e1) (isList_of e2) fun h' a1 a2 a3 a4 a5 a6 k => ?_
      have z2 := R.oldz (a := s.heap.objs.size + 2) (by omega)
      have z3 := R.oldz (a := s.heap.objs.size + 3) (by omega)
      have R' := R.addMany (h' := h') (τ := [(s.heap.objs.size + 4, zipE (s.heap.objs.size + 2) (s.heap.objs.size + 3) s.heap.objs.size (s.heap.objs.size + 1)), (s.heap.objs.size, lisE l1 0), (s.heap.objs.size + 1, lisE l2 0)]) k
        (fun p hp => by
          simp only [List.mem_cons, List.not_mem_nil, or_false] at hp
          rcases hp with rfl | rfl | rfl <;> dsimp only <;> omega)
        (fun p hp => by
          simp only [List.mem_cons, List.not_mem_nil, or_false] at hp
          rcases hp with rfl | rfl | rfl
          · exact ⟨_, a1, ne_tuple (T := "zip") rfl (by decide), fun h'' x => ⟨rfl, x _ _ _ z2 a2, x _ _ _ z3 a3⟩⟩
          · exact OR.lis a4
          · exact OR.lis a5) (by simp) s.toks
      have pp : List.Perm (p :: [(s.heap.objs.size + 4, zipE (s.heap.objs.size + 2) (s.heap.objs.size + 3) s.heap.objs.size (s.heap.objs.size + 1)), (s.heap.objs.size, lisE l1 0), (s.heap.objs.size + 1, lisE l2 0)] ++ σ) ([(s.heap.objs.size + 4, zipE (s.heap.objs.size + 2) (s.heap.objs.size + 3) s.heap.objs.size (s.heap.objs.size + 1)), (s.heap.objs.size, lisE l1 0), (s.heap.objs.size + 1, lisE l2 0)] ++ p :: σ) := List.perm_middle.symm
      exact q _ _ _ _ (h _ _ _ _ _ (R.fresh (by omega)).1 z2 z3) rfl (R'.perm pp) fun _ _ _ _ e => k _ _ e
end
/-- more objects kept -/
noncomputable def moreK (c : Cx) (P : Addr → Obj → Prop) : Cx :=
  { c with kp := fun b o => c.kp b o ∨ P b o, inK := fun a o e => .inl (c.inK a o e), lim := fun h k => c.lim h fun b o e => k b o (.inl e), g := fun h k => c.g h fun b o e => k b o (.inl e), b := fun h k => c.b h fun b o e => k b o (.inl e) }
noncomputable def addZ (c : Cx) (t : Addr) : Cx := { c with z := fun a => c.z a ∨ a = t }
theorem Rep.moreK {c : Cx} {P : Addr → Obj → Prop} {σ : Led} {s : Shared} (R : Rep c σ s) (h1 : ∀ b o, P b o → s.heap.get? b = some o) (h2 : ∀ p ∈ σ, ∀ o, ¬ P p.1 o) : Rep (moreK c P) σ s :=
  ⟨fun b o e => e.elim (R.keep b o) (h1 b o), R.gens, R.os, R.ob, R.zs, fun p hp o e => e.elim (R.fr p hp o) (h2 p hp o), R.nd⟩
theorem Rep.lessK {c : Cx} {P : Addr → Obj → Prop} {σ : Led} {s : Shared} (R : Rep (Mine.moreK c P) σ s) : Rep c σ s :=
  ⟨fun b o e => R.keep b o (.inl e), R.gens, R.os, R.ob, R.zs, fun p hp o e => R.fr p hp o (.inl e), R.nd⟩
/-- an entry that tells nothing of the heap -/
noncomputable def Pl : AObj → Prop
  | .any P => ∀ h h' o, P h o → P h' o
  | _ => True
theorem VR.addZ {z : Addr → Prop} {h : Heap} {t : Addr} (ht : IsPair h t .none .none) {v : Value} {X : V} (e : VR z h v X) : VR (fun a => z a ∨ a = t) h v X := by
  cases X with
  | none => exact e
  | bool _ => exact e
  | int _ => exact e
  | str _ => exact e
  | bytes _ => exact e
  | ref _ => exact e
  | con _ => exact e
  | tup l =>
    obtain ⟨a, vs, n, e1, e2, e3⟩ := e
    refine ⟨a, vs, n, e1, ⟨fun q => q.elim e2.1 fun q => ?_, e2.2⟩, e3⟩
    subst q
    have := ht.symm.trans e2.2
    have h1 : vs = [.none, .none] := by
      injection this with this
      injection this with _ _ hd _
      injection hd with hd _
      have := congrArg Array.toList hd
      simpa using this.symm
    subst h1
    cases e3 with
    | cons g _ =>
      rename_i X _ _
      cases X with
      | int i => obtain ⟨_, g⟩ := g; cases g
      | ref b => cases g
theorem VR.dropZ {z z' : Addr → Prop} {h : Heap} (hz : ∀ a, z a → z' a) {v : Value} : ∀ {X : V}, VR z' h v X → VR z h v X
  | .none, e => e | .bool _, e => e | .int _, e => e | .str _, e => e | .bytes _, e => e | .ref _, e => e | .con _, e => e
  | .tup l, ⟨a, vs, n, e1, e2, e3⟩ => ⟨a, vs, n, e1, ⟨fun q => e2.1 (hz _ q), e2.2⟩, e3⟩
theorem OR.addZ {z : Addr → Prop} {h : Heap} {t a : Addr} (ht : IsPair h t .none .none) {ao : AObj} (hp : Pl ao) (H : OR z h a ao) : OR (fun a => z a ∨ a = t) h a ao := by
  cases ao with
  | list l => obtain ⟨vs, n, e1, e2⟩ := H; exact ⟨vs, n, e1, e2.imp fun _ _ => VR.addZ ht⟩
  | ns => obtain ⟨n1, n2, m, e, e3⟩ := H; exact ⟨n1, n2, m, e, fun p hp V hV => let ⟨v, q1, q2⟩ := e3 p hp V hV; ⟨v, q1, q2.addZ ht⟩⟩
  | cell v =>
    cases v with
    | none => exact H
    | some V => obtain ⟨v, e, e3⟩ := H; exact ⟨v, e, e3.addZ ht⟩
  | obj o' => exact H
  | any P => obtain ⟨o', e1, e2, e3⟩ := H; exact ⟨o', e1, e2, fun h' y => hp _ _ _ (e3 h (Ext.refl _))⟩
theorem Ext.more {z z' : Addr → Prop} (hz : ∀ a, z a → z' a) {h h' : Heap} (x : Ext z h h') : Ext z' h h' := fun a i n q e => x a i n (fun q' => q (hz _ q')) e
theorem OR.dropZ {z z' : Addr → Prop} (hz : ∀ a, z a → z' a) {h : Heap} {a : Addr} {ao : AObj} (H : OR z' h a ao) : OR z h a ao := by
  cases ao with
  | list l => obtain ⟨vs, n, e1, e2⟩ := H; exact ⟨vs, n, e1, e2.imp fun _ _ => VR.dropZ hz⟩
  | ns => obtain ⟨n1, n2, m, e, e3⟩ := H; exact ⟨n1, n2, m, e, fun p hp V hV => let ⟨v, q1, q2⟩ := e3 p hp V hV; ⟨v, q1, q2.dropZ hz⟩⟩
  | cell v =>
    cases v with
    | none => exact H
    | some V => obtain ⟨v, e, e3⟩ := H; exact ⟨v, e, e3.dropZ hz⟩
  | obj o' => exact H
  | any P => obtain ⟨o', e1, e2, e3⟩ := H; exact ⟨o', e1, e2, fun h' y => e3 h' (y.more hz)⟩
theorem Rep.addZ {c : Cx} {t : Addr} {σ : Led} {s : Shared} (R : Rep c σ s) (ht : IsPair s.heap t .none .none) (hp : ∀ p ∈ σ, Pl p.2) : Rep (Mine.addZ c t) σ s :=
  ⟨R.keep, R.gens, R.os, fun p h => OR.addZ ht (hp p h) (R.ob p h), fun a q => q.elim (R.zs a) fun q => by
    subst q
    exact ⟨⟨_, ht⟩, fun p h e => (R.ob p h).notTup (items := #[.none, .none]) (n := 0) (by rw [e]; exact ht)⟩, R.fr, R.nd⟩
theorem Rep.multi {c : Cx} {pre pre' τ : Led} {s : Shared} {h' : Heap} {t : Addr} (R : Rep c (pre ++ τ) s) (hk : pre'.map (·.1) = pre.map (·.1)) (hz : c.z t) (hkp : ∀ o, ¬ c.kp t o)
    (hp : ∀ b o, (∀ p ∈ pre, p.1 ≠ b) → b ≠ t → s.heap.get? b = some o → h'.get? b = some o) (ht : ∃ o, h'.get? t = some o) (hn : ∀ p ∈ pre', OR c.z h' p.1 p.2) : Rep c (pre' ++ τ) { s with heap := h' } ∧ Ext c.z s.heap h' := by
  have hkey : ∀ p ∈ pre', ∃ q ∈ pre, q.1 = p.1 := fun p h => by
    have : p.1 ∈ pre.map (·.1) := hk ▸ List.mem_map_of_mem (f := (·.1)) h
    obtain ⟨q, h1, h2⟩ := List.mem_map.mp this
    exact ⟨q, h1, h2⟩
  have hx : Ext c.z s.heap h' := fun b i n hb e => hp b _ (fun p h q => (R.ob p (List.mem_append_left _ h)).notTup (q ▸ e)) (fun q => hb (q ▸ hz)) e
  have hnd := R.nd
  rw [List.map_append, List.nodup_append] at hnd
  refine ⟨⟨fun b o e => hp b o (fun p h q => R.fr p (List.mem_append_left _ h) o (q ▸ e)) (fun q => hkp o (q ▸ e)) (R.keep b o e), R.gens, R.os, fun p h => ?_, fun a q => ⟨?_, fun p h => ?_⟩, fun p h => ?_, ?_⟩, hx⟩
  · rcases List.mem_append.mp h with h | h
    · exact hn p h
    · obtain ⟨o, e⟩ := (R.ob p (List.mem_append_right _ h)).is
      refine (R.ob p (List.mem_append_right _ h)).same ((hp _ _ (fun q hq e' => ?_) (fun q => ?_) e).trans e.symm) hx
      · exact hnd.2.2 _ (List.mem_map_of_mem (f := (·.1)) hq) _ (List.mem_map_of_mem (f := (·.1)) h) e'
      · exact (R.zs t hz).2 p (List.mem_append_right _ h) q
  · by_cases hat : a = t
    · subst hat; exact ht
    · obtain ⟨o, e⟩ := (R.zs a q).1
      exact ⟨o, hp a o (fun p h => (R.zs a q).2 p (List.mem_append_left _ h)) hat e⟩
  · rcases List.mem_append.mp h with h | h
    · obtain ⟨q', h1, h2⟩ := hkey p h
      rw [← h2]; exact (R.zs a q).2 q' (List.mem_append_left _ h1)
    · exact (R.zs a q).2 p (List.mem_append_right _ h)
  · rcases List.mem_append.mp h with h | h
    · obtain ⟨q', h1, h2⟩ := hkey p h
      rw [← h2]; exact R.fr q' (List.mem_append_left _ h1)
    · exact R.fr p (List.mem_append_right _ h)
  · rw [List.map_append, hk, ← List.map_append]; exact R.nd
theorem Rep.leave {c : Cx} {pre τ : Led} {s : Shared} {h' : Heap} {t : Addr} (R : Rep (Mine.addZ c t) (pre ++ τ) s) (hz : ¬ c.z t) (hkp : ∀ o, ¬ c.kp t o)
    (hp : ∀ b o, (∀ p ∈ pre, p.1 ≠ b) → b ≠ t → s.heap.get? b = some o → h'.get? b = some o) : Rep c τ { s with heap := h' } ∧ Ext (Mine.addZ c t).z s.heap h' := by
  have hx : Ext (Mine.addZ c t).z s.heap h' := fun b i n hb e => hp b _ (fun p h q => (R.ob p (List.mem_append_left _ h)).notTup (q ▸ e)) (fun q => hb (.inr q)) e
  have hnd := R.nd
  rw [List.map_append, List.nodup_append] at hnd
  refine ⟨⟨fun b o e => hp b o (fun p h q => R.fr p (List.mem_append_left _ h) o (q ▸ e)) (fun q => hkp o (q ▸ e)) (R.keep b o e), R.gens, R.os, fun p h => ?_, fun a q => ⟨?_, fun p h => ?_⟩, fun p h => R.fr p (List.mem_append_right _ h), hnd.2.1⟩, hx⟩
  · obtain ⟨o, e⟩ := (R.ob p (List.mem_append_right _ h)).is
    refine OR.dropZ (z' := (Mine.addZ c t).z) (fun a q => .inl q) ((R.ob p (List.mem_append_right _ h)).same ((hp _ _ (fun q hq e' => ?_) (fun q => ?_) e).trans e.symm) hx)
    · exact hnd.2.2 _ (List.mem_map_of_mem (f := (·.1)) hq) _ (List.mem_map_of_mem (f := (·.1)) h) e'
    · exact (R.zs t (.inr rfl)).2 p (List.mem_append_right _ h) q
  · obtain ⟨o, e⟩ := (R.zs a (.inl q)).1
    exact ⟨o, hp a o (fun p h => (R.zs a (.inl q)).2 p (List.mem_append_left _ h)) (fun e => hz (e ▸ q)) e⟩
  · exact (R.zs a (.inl q)).2 p (List.mem_append_right _ h)
end
section
theorem Rep.ne {c : Cx} {a b : Led} {p q : Addr × AObj} {s : Shared} (R : Rep c (p :: b) s) (h : q ∈ b) : q.1 ≠ p.1 := fun e => by
  have := R.nd
  rw [List.map_cons, List.nodup_cons] at this
  exact this.1 (e ▸ List.mem_map_of_mem (f := (·.1)) h)
theorem Rep.notPair {c : Cx} {σ : Led} {s : Shared} {p : Addr × AObj} {t : Addr} {a b : Value} (R : Rep c σ s) (h : p ∈ σ) (ht : IsPair s.heap t a b) : p.1 ≠ t := fun e =>
  (R.ob p h).notTup (items := #[a, b]) (n := 0) (by rw [e]; exact ht)
theorem zip_apart {c : Cx} {s : Shared} {i1 i2 Z TI TO l1 l2 : Addr} {e1 e2 e3 : AObj} {xs ys : List V} {x y a b : Value} {τ : Led} (R : Rep c ((i1, e1) :: (i2, e2) :: (Z, e3) :: τ) s) (m1 : (l1, AObj.list xs) ∈ τ) (m2 : (l2, AObj.list ys) ∈ τ)
    (hTI : IsPair s.heap TI x y) (hTO : IsPair s.heap TO a b) (hne : TI ≠ TO) : ZipApart Z TI TO i1 i2 l1 l2 := by
  have r1 : Rep c ((i2, e2) :: (Z, e3) :: τ) s := R.sub (List.sublist_cons_self _ _)
  have r2 : Rep c ((Z, e3) :: τ) s := r1.sub (List.sublist_cons_self _ _)
  have n1 : ∀ q ∈ (i2, e2) :: (Z, e3) :: τ, q.1 ≠ i1 := fun q h => Rep.ne (a := τ) (p := (i1, e1)) R h
  have n2 : ∀ q ∈ (Z, e3) :: τ, q.1 ≠ i2 := fun q h => Rep.ne (a := τ) (p := (i2, e2)) r1 h
  have n3 : ∀ q ∈ τ, q.1 ≠ Z := fun q h => Rep.ne (a := τ) (p := (Z, e3)) r2 h
  exact {
    TIz := fun e => R.notPair (p := (Z, e3)) (.tail _ (.tail _ (.head _))) hTI e.symm
    TOz := fun e => R.notPair (p := (Z, e3)) (.tail _ (.tail _ (.head _))) hTO e.symm
    i1z := fun e => n1 (Z, e3) (.tail _ (.head _)) e.symm
    i2z := fun e => n2 (Z, e3) (.head _) e.symm
    TITO := hne
    TIi1 := fun e => R.notPair (p := (i1, e1)) (.head _) hTI e.symm
    TIi2 := fun e => R.notPair (p := (i2, e2)) (.tail _ (.head _)) hTI e.symm
    TOi1 := fun e => R.notPair (p := (i1, e1)) (.head _) hTO e.symm
    TOi2 := fun e => R.notPair (p := (i2, e2)) (.tail _ (.head _)) hTO e.symm
    i12 := fun e => n1 (i2, e2) (.head _) e.symm
    l1z := n3 _ m1
    l1TO := R.notPair (p := (l1, .list xs)) (.tail _ (.tail _ (.tail _ m1))) hTO
    l1i1 := n1 _ (.tail _ (.tail _ m1))
    l1i2 := n2 _ (.tail _ m1)
    l2z := n3 _ m2
    l2TO := R.notPair (p := (l2, .list ys)) (.tail _ (.tail _ (.tail _ m2))) hTO
    l2i1 := n1 _ (.tail _ (.tail _ m2))
    l2i2 := n2 _ (.tail _ m2) }
noncomputable abbrev EZ (elt : Expr) (x1 x2 : Str) (q1 q2 : Pos) (kt : Nat) (tp : Pos) (iter : Expr) (scope : Scope) (pos : Pos) : Expr := .ListComp elt [⟨.Tuple [.Name x1 q1, .Name x2 q2] kt tp, iter, [], 0⟩] scope pos
section
variable {c : Cx} {A : Around} {σ : Led} {env : Env} {K : V → Led → Prop}
/-- behind a turn over zip -/
inductive ZipT (sc : Scope) (C D : Addr) (p1 p2 p3 : Addr × AObj) (J : Nat → List V → Led → Prop) (i : Nat) (ys ys' : List V) (σ : Led) : Prop
  | mk' {τ : Led} {ρ : List (Str × Option V)} (hs : Sub ((C, .ns sc ρ) :: p1 :: p2 :: p3 :: (D, .list ys) :: τ) σ) (hρ : ρ.map (·.1) = locs sc) (hJ : J i ys' τ)
/-- the heap ahead of a turn over zip -/
inductive ZipI (c : Cx) (h0 : Heap) (i1 i2 l1 l2 Z TI TO C D : Addr) (sc : Scope) (J : Nat → List V → Led → Prop) (len n : Nat) (s : Shared) : Prop
  | mk (i : Nat) (ys : List V) (τ : Led) (ta tb : Value) (hin : i + n = len) (hys : ys.length ≤ i) (hj : J i ys τ) (R : Rep c ((i1, lisE l1 i) :: (i2, lisE l2 i) :: (Z, .obj (zipO .none TI TO)) :: (C, .ns sc (rho0 sc)) :: (D, .list ys) :: τ) s)
    (hTI : IsPair s.heap TI (.ref i1) (.ref i2)) (hTO : IsPair s.heap TO ta tb) (hx : Ext c.z h0 s.heap)
theorem zip_loop {elt iter : Expr} {x1 x2 : Str} {q1 q2 : Pos} {kt : Nat} {tp : Pos} {scope sc : Scope} {pos : Pos} {Z TI TO i1 i2 l1 l2 D C : Addr} {as bs : List Int} {cl : List (Str × Addr)} {R : Result → Shared → Prop} {s : Shared} {τ : Led}
    {g : Int → List (Str × Option V)} {f : Int → Int → List (Str × Option V)} (J : Nat → List V → Led → Prop) (hh : A.handled = none) (hk : sc.kind = .function) (hp1 : ∀ a, Put x1 (.int a) (rho0 sc) (g a)) (hp2 : ∀ a b, Put x2 (.int b) (g a) (f a b))
    (hJ : ∀ i ys τ, J i ys τ → (l1, AObj.list (as.map V.int)) ∈ τ ∧ (l2, AObj.list (bs.map V.int)) ∈ τ) (hlen : bs.length ≤ as.length) (hn : bs.length ≤ 1000000)
    (hne : TI ≠ TO) (hzI : ¬ c.z TI) (hzO : ¬ c.z TO) (hkO : ∀ o, ¬ c.kp TO o)
    (turn : ∀ (c' : Cx) i a b ys τ p1 p2 p3, as[i]? = some a → bs[i]? = some b → J i ys τ → W c' A (eval elt (envG sc C cl env)) ((C, .ns sc (f a b)) :: p1 :: p2 :: p3 :: (D, .list ys) :: τ) (fun Y σ₄ => ZipT sc C D p1 p2 p3 J (i + 1) ys (ys ++ [Y]) σ₄))
    (R0 : Rep (addZ c TO) ((i1, lisE l1 0) :: (i2, lisE l2 0) :: (Z, .obj (zipO .none TI TO)) :: (C, .ns sc (rho0 sc)) :: (D, .list []) :: τ) s) (h0 : J 0 [] τ) (hTI : IsPair s.heap TI (.ref i1) (.ref i2)) (hTO : IsPair s.heap TO .none .none)
    (fin : ∀ ys τ s', J bs.length ys τ → Rep c ((C, .ns sc (rho0 sc)) :: (D, .list ys) :: τ) s' → Ext (addZ c TO).z s.heap s'.heap → R (.ok .next) s') :
    codeAny (model c.prog c.w) A (.compLoop (EZ elt x1 x2 q1 q2 kt tp iter scope pos) 0 (.ref Z) (.ref D) (envG sc C cl env)) R s := by
  refine LCp.codeAny_compLoop_pair (ZipI (addZ c TO) s.heap i1 i2 l1 l2 Z TI TO C D sc J bs.length) ?_ bs.length ⟨0, [], τ, _, _, Nat.zero_add _, Nat.le_refl _, h0, R0, hTI, hTO, Ext.refl _⟩
  rintro n s₁ ⟨i, ys, τ, ta, tb, hin, hys, hj, R₁, hTI₁, hTO₁, x₁⟩
  obtain ⟨m1, m2⟩ := hJ _ _ _ hj
  have apart := zip_apart R₁ (.tail _ (.tail _ m1)) (.tail _ (.tail _ m2)) hTI₁ hTO₁ hne
  obtain ⟨hz₁, _⟩ := R₁.ob _ (.tail _ (.tail _ (.head _)))
  have hi1 := OR.lis' (R₁.ob _ (.head _))
  have hi2 := OR.lis' (R₁.ob _ (.tail _ (.head _)))
  obtain ⟨ws1, n1, e1, hw1⟩ := R₁.ob _ (.tail _ (.tail _ (.tail _ (.tail _ (.tail _ m1)))))
  obtain ⟨ws2, n2, e2, hw2⟩ := R₁.ob _ (.tail _ (.tail _ (.tail _ (.tail _ (.tail _ m2)))))
  have hb4 : ∀ b, (∀ p ∈ [(i1, lisE l1 i), (i2, lisE l2 i), (Z, AObj.obj (zipO .none TI TO))], p.1 ≠ b) → b ≠ Z ∧ b ≠ i1 ∧ b ≠ i2 := fun b h => ⟨fun e => h _ (.tail _ (.tail _ (.head _))) e.symm, fun e => h _ (.head _) e.symm, fun e => h _ (.tail _ (.head _)) e.symm⟩
  have R₁' : Rep (addZ c TO) ([(i1, lisE l1 i), (i2, lisE l2 i), (Z, AObj.obj (zipO .none TI TO))] ++ ((C, .ns sc (rho0 sc)) :: (D, .list ys) :: τ)) s₁ := R₁
  cases n with
  | zero =>
    have hi : i = bs.length := by omega
    subst hi
    refine wpAny_pyNext_zip_end hh apart hz₁ hTI₁ hTO₁ hi1 hi2 (isList_of e1) (isList_of e2) (.inr ?_) fun h' hk' => ?_
    · have := hw2.length; simp at this; simp [this]
    · obtain ⟨R₂, x₂⟩ := R₁'.leave hzO hkO (h' := h') fun b o hb ht e => hk' b o (hb4 b hb).1 ht (hb4 b hb).2.1 (hb4 b hb).2.2 e
      exact fin _ _ _ hj R₂ (x₁.trans x₂)
  | succ n =>
    have hlt : i < bs.length := by omega
    have hlt1 : i < as.length := by omega
    obtain ⟨va, hva, ga⟩ := hw1.get i (.int as[i]) (by simp [hlt1])
    obtain ⟨vb, hvb, gb⟩ := hw2.get i (.int bs[i]) (by simp [hlt])
    refine wpAny_pyNext_zip_item apart hz₁ hTI₁ hTO₁ hi1 hi2 (isList_of e1) (isList_of e2) (by simpa using hva) (by simpa using hvb) fun h₂ a1 a2 a3 a4 a5 a6 hk' => ?_
    obtain ⟨R₂, x₂⟩ := R₁'.multi (h' := h₂) (pre' := [(i1, lisE l1 (i + 1)), (i2, lisE l2 (i + 1)), (Z, AObj.obj (zipO (rawInt s₁.heap.objs.size) TI TO))]) rfl (t := TO) (.inr rfl) hkO (fun b o hb ht e => hk' b o (hb4 b hb).1 ht (hb4 b hb).2.1 (hb4 b hb).2.2 e) ⟨_, a2⟩ (fun p hp => by
      simp only [List.mem_cons, List.not_mem_nil, or_false] at hp
      rcases hp with rfl | rfl | rfl
      · exact OR.lis a3
      · exact OR.lis a4
      · exact ⟨a1, ne_tuple (T := "zip") rfl (by decide)⟩)
    have hzT : ¬ (addZ c TO).z s₁.heap.objs.size := R₁.newz
    have hTI₂ : IsPair h₂ TI (.ref i1) (.ref i2) := x₂ TI #[.ref i1, .ref i2] 0 (fun q => q.elim hzI hne) hTI₁
    refine wpAny_letOwnedTupleGo_zip a1 fun h₃ hz₃ hs₃ => ?_
    have R₂' : Rep (addZ c TO) ((Z, AObj.obj (zipO (rawInt s₁.heap.objs.size) TI TO)) :: (i1, lisE l1 (i + 1)) :: (i2, lisE l2 (i + 1)) :: (C, .ns sc (rho0 sc)) :: (D, .list ys) :: τ) { s₁ with heap := h₂ } := R₂.perm (List.Perm.symm (List.perm_middle (l₁ := [(i1, lisE l1 (i + 1)), (i2, lisE l2 (i + 1))])))
    obtain ⟨R₃, x₃⟩ := R₂'.upd (h' := h₃) (o' := .obj (zipO .none TI TO)) .head (fun b hb o e => (hs₃.2 b hb).trans e) (show OR _ _ _ (.obj _) from ⟨hz₃, ne_tuple (T := "zip") rfl (by decide)⟩) s₁.toks
    have hTO₃ : IsPair h₃ TO va vb := hs₃.extBut _ _ apart.TOz a2
    have hTI₃ : IsPair h₃ TI (.ref i1) (.ref i2) := hs₃.extBut _ _ apart.TIz hTI₂
    have R₃' : Rep (addZ c TO) ((C, .ns sc (rho0 sc)) :: (i1, lisE l1 (i + 1)) :: (i2, lisE l2 (i + 1)) :: (Z, .obj (zipO .none TI TO)) :: (D, .list ys) :: τ) { s₁ with heap := h₃ } := R₃.perm (by
      refine (List.perm_middle (l₁ := [(i1, lisE l1 (i + 1)), (i2, lisE l2 (i + 1)), (Z, AObj.obj (zipO .none TI TO))])).symm.trans ?_
      exact (List.perm_middle (l₁ := [(i1, lisE l1 (i + 1)), (i2, lisE l2 (i + 1))])))
    have R₄ := R₃'.moreK (P := fun b o => b = TO ∧ o = { cls := .type "tuple", data := .seq #[va, vb] }) (by rintro b o ⟨rfl, rfl⟩; exact hTO₃) (by rintro p hp o ⟨e, _⟩; exact (R₃'.zs TO (.inr rfl)).2 p hp e)
    have hv : VR (addZ c TO).z h₃ (.ref s₁.heap.objs.size) (.tup [.int as[i], .int bs[i]]) := ⟨_, [va, vb], 0, rfl, ⟨hzT, x₃ _ _ _ hzT a5⟩, .cons ga (.cons gb .nil)⟩
    refine W_assignTup2 (c := moreK (addZ c TO) fun b o => b = TO ∧ o = { cls := .type "tuple", data := .seq #[va, vb] }) (env := envG sc C cl env) (P := .int as[i]) (P' := .int bs[i]) (K := fun _ σ' => σ' = (C, .ns sc (f as[i] bs[i])) :: (i1, lisE l1 (i + 1)) :: (i2, lisE l2 (i + 1)) :: (Z, .obj (zipO .none TI TO)) :: (D, .list ys) :: τ) hh (hp1 _) (hp2 _ _) rfl hk { s₁ with heap := h₃ } _ _ (.ref s₁.heap.objs.size) R₄ hv fun _ _ σ₅ s₅ e₅ _ R₅ x₅ => ?_
    subst e₅
    refine turn (moreK (addZ c TO) fun b o => b = TO ∧ o = { cls := .type "tuple", data := .seq #[va, vb] }) i as[i] bs[i] ys τ (i1, lisE l1 (i + 1)) (i2, lisE l2 (i + 1)) (Z, .obj (zipO .none TI TO)) (List.getElem?_eq_getElem hlt1) (List.getElem?_eq_getElem hlt) hj s₅ _ _ R₅ fun y Y σ₆ s₆ ⟨hsub, hρ, hj'⟩ hy R₆ x₆ => ?_
    refine (R₆.subp hsub).append (.tail (.tail (.tail (.tail .head)))) (by omega) hy fun s₇ R₇ x₇ => ?_
    have hTO₇ : IsPair s₇.heap TO va vb := R₇.keep TO _ (.inr ⟨rfl, rfl⟩)
    have x37 : Ext (addZ c TO).z h₃ s₇.heap := (x₅.trans x₆).trans x₇
    refine ⟨n, Nat.lt_succ_self _, i + 1, ys ++ [Y], _, _, _, by omega, by rw [List.length_append]; exact Nat.succ_le_succ hys, hj', ?_, x37 TI #[.ref i1, .ref i2] 0 (fun q => q.elim hzI hne) hTI₃, hTO₇, ((x₁.trans x₂).trans x₃).trans x37⟩
    refine ((R₇.lessK.turn (OR.forget hρ)).perm ?_)
    exact (List.perm_middle (l₁ := [(i1, lisE l1 (i + 1)), (i2, lisE l2 (i + 1)), (Z, AObj.obj (zipO .none TI TO))]))
inductive ZipP (c' : Cx) (J : Addr → Addr → Nat → List V → Led → Prop) (X : V) (σ₁ : Led) : Prop
  | mk (Z TI TO i1 i2 l1 l2 : Addr) (q : Addr × AObj) (τ : Led) (e1 : X = .ref Z) (e2 : σ₁ = q :: (Z, zipE TI TO i1 i2) :: (i1, lisE l1 0) :: (i2, lisE l2 0) :: τ) (hk : ∀ o, ¬ c'.kp TO o) (h1 : ¬ c'.z TI) (h2 : ¬ c'.z TO) (hp : ∀ p ∈ q :: τ, Pl p.2) (h0 : J l1 l2 0 [] (q :: τ))
theorem W_ZipComp {elt iter : Expr} {x1 x2 : Str} {q1 q2 : Pos} {kt : Nat} {tp : Pos} {scope : Scope} {pos : Pos} {as bs : List Int}
    (ns : List (Str × NameKind)) (cl : List (Str × Addr)) (g : Int → List (Str × Option V)) (f : Int → Int → List (Str × Option V)) (J : Addr → Addr → Nat → List V → Led → Prop) (hh : A.handled = none)
    (hns : relabel scope env = scG scope ns) (hcl : closureFor scope env = pure cl) (hk : scope.kind = .function)
    (hnn : (ns.map (·.1)).Nodup) (hcell : ∀ x ∈ scope.names, x.2 ≠ .cell) (hnd : (scope.names.map (·.1)).Nodup)
    (hp1 : ∀ a, Put x1 (.int a) (rho0 (scG scope ns)) (g a)) (hp2 : ∀ a b, Put x2 (.int b) (g a) (f a b))
    (hJ : ∀ l1 l2 i ys τ, J l1 l2 i ys τ → (l1, AObj.list (as.map V.int)) ∈ τ ∧ (l2, AObj.list (bs.map V.int)) ∈ τ) (hlen : bs.length ≤ as.length) (hn : bs.length ≤ 1000000)
    (h : ∀ c' : Cx, W c' A (eval iter env) σ (ZipP c' J))
    (turn : ∀ (c' : Cx) C D l1 l2 i a b ys τ p1 p2 p3, as[i]? = some a → bs[i]? = some b → J l1 l2 i ys τ → W c' A (eval elt (envG (scG scope ns) C cl env)) ((C, .ns (scG scope ns) (f a b)) :: p1 :: p2 :: p3 :: (D, .list ys) :: τ) (fun Y σ₄ => ZipT (scG scope ns) C D p1 p2 p3 (J l1 l2) (i + 1) ys (ys ++ [Y]) σ₄))
    (fin : ∀ D l1 l2 ys τ, J l1 l2 bs.length ys τ → ∃ p τ', τ = p :: τ' ∧ K (.ref D) (p :: (D, .list ys) :: τ'))
    (hs : ∀ x, foldedSetIterable iter env x = pure x := by intro _; rfl) :
    W c A (eval (EZ elt x1 x2 q1 q2 kt tp iter scope pos) env) σ K := by
  intro s Q E R q
  rw [eval_ListComp]
  have hnames : ∀ x ∈ scope.names, x.2 = .local → scope.names.lookup x.1 = some .local := fun x hx e => lookup_of_mem hnd (by rw [← e]; exact hx)
  have Rk := R.moreK (P := fun b o => s.heap.get? b = some o ∧ ∃ items n, IsT s.heap b items n) (fun b o e => e.1) (fun p hp o ⟨_, items, n, e⟩ => (R.ob p hp).notTup e)
  refine wpAny_comprehension_free rfl hs hcl hk hnames (h (moreK c fun b o => s.heap.get? b = some o ∧ ∃ items n, IsT s.heap b items n) s _ _ Rk fun x X σ₁ s₁ ⟨Z, TI, TO, i1, i2, l1, l2, qq, τ, e1, e2, hkO, hzI, hzO, hpl, h0⟩ hx R₁ x₁ => ?_)
  subst e1 e2
  cases hx
  obtain ⟨oz, hz, _, hP⟩ := R₁.ob (Z, zipE TI TO i1 i2) (.tail _ (.head _))
  obtain ⟨rfl, hTI, hTO⟩ := hP _ (Ext.refl _)
  have R₁' := R₁.lessK
  refine wpAny_pyIter_zip hz ?_
  refine wpAny_newObj_type ?_ (by size_fits)
  have R₃ := R₁'.add (a := s₁.heap.objs.size) (ao := .list []) (h' := s₁.heap.push { cls := .type "list", data := .seq #[] }) (Nat.le_refl _) (fun b o e => Heap.get?_push_of_some _ e) (show OR c.z _ _ (.list _) from ⟨[], _, Heap.get?_push_size _ rfl, .nil⟩) s₁.toks
  refine wpAny_newFunctionEnv hcell (fun x hx => by cases hx) (fun h' hn' hs' => ?_) hk
  have hk' : ∀ b o, (s₁.heap.push { cls := .type "list", data := .seq #[] }).get? b = some o → h'.get? b = some o := fun b o e => hs'.extBut b o (Nat.ne_of_lt (Heap.lt_size e)) (Heap.get?_push_of_some _ e)
  have R₄ := R₃.add (ao := .ns (scG scope ns) (rho0 (scG scope ns))) (h' := h') (Nat.le_refl _) hk' (OR.fresh hnn hn') (s₁.toks + ([] : List (Str × Value)).length)
  have k1 : ∀ b o, s₁.heap.get? b = some o → h'.get? b = some o := fun b o e => hk' _ _ (Heap.get?_push_of_some _ e)
  rw [hns]
  generalize hC : (s₁.heap.push { cls := .type "list", data := .seq #[] }).objs.size = C at *
  generalize hD : s₁.heap.objs.size = D at *
  have hTI' : IsPair h' TI (.ref i1) (.ref i2) := k1 _ _ hTI
  have hTO' : IsPair h' TO .none .none := k1 _ _ hTO
  have hne : TI ≠ TO := fun e => by subst e; have := hTI'.symm.trans hTO'; injection this with this; injection this with _ _ hd _; injection hd with hd _; cases hd
  have hz' : h'.get? Z = some (zipO .none TI TO) := k1 _ _ hz
  have R₅ : Rep c ((Z, .obj (zipO .none TI TO)) :: (C, .ns (scG scope ns) (rho0 (scG scope ns))) :: (D, .list []) :: qq :: (i1, lisE l1 0) :: (i2, lisE l2 0) :: τ) _ := (R₄.perm (by
    refine (List.perm_middle (l₁ := [(C, AObj.ns (scG scope ns) (rho0 (scG scope ns))), (D, AObj.list []), qq])).symm)).turn fun _ => ⟨hz', ne_tuple (T := "zip") rfl (by decide)⟩
  have hlp : ∀ l i, Pl (lisE l i) := fun l i _ _ _ e => e
  have R₆ := R₅.addZ hTO' (fun p hp => by
    simp only [List.mem_cons] at hp
    rcases hp with rfl | rfl | rfl | rfl | rfl | rfl | hp
    · trivial
    · trivial
    · trivial
    · exact hpl _ (.head _)
    · exact hlp _ _
    · exact hlp _ _
    · exact hpl _ (.tail _ hp))
  have R₇ : Rep (addZ c TO) ((i1, lisE l1 0) :: (i2, lisE l2 0) :: (Z, .obj (zipO .none TI TO)) :: (C, .ns (scG scope ns) (rho0 (scG scope ns))) :: (D, .list []) :: qq :: τ) _ := R₆.perm
    (List.Perm.trans (.cons _ (List.perm_middle (l₁ := [(Z, AObj.obj (zipO .none TI TO)), (C, AObj.ns (scG scope ns) (rho0 (scG scope ns))), (D, AObj.list []), qq])).symm) (List.perm_middle (l₁ := [(Z, AObj.obj (zipO .none TI TO)), (C, AObj.ns (scG scope ns) (rho0 (scG scope ns))), (D, AObj.list []), qq])).symm)
  have x7 : Ext (addZ c TO).z s.heap h' := fun a i n hza e => k1 _ _ (x₁ a i n (fun q => hza (.inl q)) e)
  have hzI' : ¬ c.z TI := hzI
  have hzO' : ¬ c.z TO := hzO
  have hkO' : ∀ o, ¬ c.kp TO o := fun o e => hkO o (.inl e)
  have loop : ∀ s₅, Rep (addZ c TO) ((i1, lisE l1 0) :: (i2, lisE l2 0) :: (Z, .obj (zipO .none TI TO)) :: (C, .ns (scG scope ns) (rho0 (scG scope ns))) :: (D, .list []) :: qq :: τ) s₅ → IsPair s₅.heap TI (.ref i1) (.ref i2) → IsPair s₅.heap TO .none .none → Ext (addZ c TO).z s.heap s₅.heap →
      codeAny (model c.prog c.w) A (.compLoop (EZ elt x1 x2 q1 q2 kt tp iter scope pos) 0 (.ref Z) (.ref D) (envG (scG scope ns) C cl env)) (compPost (model c.prog c.w) A E none Q (.ref D) C) s₅ := fun s₅ R₅ t1 t2 x₅ =>
    zip_loop (J l1 l2) hh hk hp1 hp2 (hJ l1 l2) hlen hn hne hzI' hzO' hkO' (fun c' i a b ys τ p1 p2 p3 ha hb hj => turn c' C D l1 l2 i a b ys τ p1 p2 p3 ha hb hj) R₅ h0 t1 t2 fun ys τ' s' hj R' x' => by
      obtain ⟨_, _, m, hm, _⟩ := R'.ob _ (.head _)
      refine ⟨m, hm, fun h'' hs'' => ?_⟩
      obtain ⟨R'', x''⟩ := R'.gone (.head) hs''.extBut s'.toks
      obtain ⟨p, τ'', rfl, hK⟩ := fin D l1 l2 ys τ' hj
      refine q _ _ _ _ hK rfl (R''.perm (List.Perm.swap ..)) fun a i n hza e => ?_
      have hat : a ≠ TO := fun q => hkO _ (.inr ⟨q ▸ e, i, n, q ▸ e⟩)
      exact x'' _ _ _ hza ((x₅.trans x') a i n (fun q => q.elim hza hat) e)
  exact codeAny_compStart_list (loop _ R₇ hTI' hTO' x7) (wpAny_pyIter_zip hz' (loop _ R₇ hTI' hTO' x7))
end
end
section
noncomputable def numsM (sc : List Int) : List Int := sc.take 7 ++ [13, 2, 24]
noncomputable def alts : List (UInt8 × UInt8) := [(43, 47), (34, 32), (92, 34), (32, 92), (45, 95)]
noncomputable def altM (ns : List Int) : UInt8 × UInt8 := alts.getD (ns.sum.fmod 5).toNat (0, 0)
noncomputable def letterM (k : Int) (x : Int) : Letter :=
  if (x.fdiv 8).fmod 4 = 3 then ((x.fdiv 32).fmod 256, (x.fdiv 4).fmod 128 * 2, (x.fdiv 2 + k).fmod 256)
  else (x.fmod 8 * 36 + 3, (x.fdiv 32 + k).fmod 128 * 2 + 1, (x.fdiv 4 + 11 * k + 1).fmod 256)
noncomputable def numAt (ns : List Int) (k : Nat) : Int := ns.getD k 0
noncomputable def letAt (ns : List Int) (k : Nat) : Letter := letterM k (numAt ns k)
noncomputable def wordAt (ns : List Int) (k : Nat) : List Nat := writtenL (letAt ns k).1 (letAt ns k).2.1 (letAt ns k).2.2 (altM ns).1.toNat (altM ns).2.toNat
noncomputable def nlAt (ns : List Int) (k : Nat) : Nat := ((numAt ns k + k).fmod 3).toNat
noncomputable def endAt (ns : List Int) (k : Nat) : Bool := decide (0 < (numAt ns k + k).fmod 3) || ((k : Int) == (ns.length : Int) - 1)
noncomputable def lettersM (ns : List Int) (i : Nat) : List Letter := (List.range i).map (letAt ns)
noncomputable def writtenM (ns : List Int) (i : Nat) : List (List Nat) := (List.range i).map (wordAt ns)
noncomputable def endsM (ns : List Int) (i : Nat) : List Int := ((List.range i).filter (endAt ns)).map fun (k : Nat) => (k : Int) + 1
noncomputable def textM (ns : List Int) (i : Nat) : List Nat := ((List.range i).map fun k => spelledL (wordAt ns k) ((numAt ns k).fdiv 2) ++ List.replicate (nlAt ns k) 10).flatten
end
section
theorem fm_range (a : Int) {b : Int} (h : 0 < b) : 0 ≤ a.fmod b ∧ a.fmod b < b := by
  rw [Int.fmod_eq_emod_of_nonneg _ (by omega)]; exact ⟨Int.emod_nonneg _ (by omega), Int.emod_lt_of_pos _ h⟩
theorem letterM_ok (k x : Int) : (0 ≤ (letterM k x).1 ∧ (letterM k x).1 < 256) ∧ (0 ≤ (letterM k x).2.1 ∧ (letterM k x).2.1 < 256) ∧ (0 ≤ (letterM k x).2.2 ∧ (letterM k x).2.2 < 256) := by
  unfold letterM
  have h1 := fm_range (x.fdiv 32) (b := 256) (by decide)
  have h2 := fm_range (x.fdiv 4) (b := 128) (by decide)
  have h3 := fm_range (x.fdiv 2 + k) (b := 256) (by decide)
  have h4 := fm_range x (b := 8) (by decide)
  have h5 := fm_range (x.fdiv 32 + k) (b := 128) (by decide)
  have h6 := fm_range (x.fdiv 4 + 11 * k + 1) (b := 256) (by decide)
  split
  · refine ⟨⟨?_, ?_⟩, ⟨?_, ?_⟩, ⟨?_, ?_⟩⟩ <;> dsimp only <;> omega
  · refine ⟨⟨?_, ?_⟩, ⟨?_, ?_⟩, ⟨?_, ?_⟩⟩ <;> dsimp only <;> omega
theorem letAt_pos {ns : List Int} {i : Nat} (h : ((((numAt ns i).fdiv 8).fmod 4) == 3) = true) :
    [V.int (((numAt ns i).fdiv 32).fmod 256), V.int (((numAt ns i).fdiv 4).fmod 128 * 2), V.int (((numAt ns i).fdiv 2 + (i : Int)).fmod 256)] = [At.int (letAt ns i).1, At.int (letAt ns i).2.1, At.int (letAt ns i).2.2].map atV := by
  have h' : ((numAt ns i).fdiv 8).fmod 4 = 3 := by simpa using h
  simp only [letAt, letterM, if_pos h', List.map, atV]
theorem letAt_neg {ns : List Int} {i : Nat} (h : ((((numAt ns i).fdiv 8).fmod 4) == 3) = false) :
    [V.int ((numAt ns i).fmod 8 * 36 + 3), V.int (((numAt ns i).fdiv 32 + (i : Int)).fmod 128 * 2 + 1), V.int (((numAt ns i).fdiv 4 + 11 * (i : Int) + 1).fmod 256)] = [At.int (letAt ns i).1, At.int (letAt ns i).2.1, At.int (letAt ns i).2.2].map atV := by
  have h' : ¬ ((numAt ns i).fdiv 8).fmod 4 = 3 := by simpa using h
  simp only [letAt, letterM, if_neg h', List.map, atV]
theorem wordAt_len (ns : List Int) (k : Nat) : (wordAt ns k).length = 4 := rfl
theorem altM_lt (ns : List Int) : (altM ns).1.toNat < 128 ∧ (altM ns).2.toNat < 128 := by
  unfold altM alts
  have h := fm_range ns.sum (b := 5) (by decide)
  generalize ns.sum.fmod 5 = z at h
  obtain ⟨j, rfl⟩ := Int.eq_ofNat_of_zero_le h.1
  have : j < 5 := by omega
  match j, this with
  | 0, _ => decide
  | 1, _ => decide
  | 2, _ => decide
  | 3, _ => decide
  | 4, _ => decide
theorem signsL_small (p q : Nat) (hp : p < 128) (hq : q < 128) : ∀ c ∈ signsL p q, c < 128 := by
  intro c hc
  unfold signsL at hc
  rw [List.append_assoc] at hc
  rcases List.mem_append.mp hc with hc | hc
  · have : ∀ c ∈ (Str.ofString "ABCDEFGHIJKLMNOPQRSTUVWXYZabcdefghijklmnopqrstuvwxyz0123456789").cps.toList, c < 128 := by decide +kernel
    exact this c hc
  · simp at hc; omega
theorem getD_mem {l : List Nat} {i : Nat} (hl : 0 < l.length) : l.getD i 0 ∈ l ∨ l.getD i 0 = 0 := by
  rw [List.getD_eq_getElem?_getD]
  cases h : l[i]? with
  | none => right; rfl
  | some x => left; exact List.mem_of_getElem? h
theorem wordAt_small (ns : List Int) (k : Nat) : ∀ c ∈ wordAt ns k, c < 128 := by
  intro c hc
  unfold wordAt writtenL at hc
  obtain ⟨e, _, rfl⟩ := List.mem_map.mp hc
  unfold sgn
  rcases getD_mem (l := signsL (altM ns).1.toNat (altM ns).2.toNat) (i := ((numL (letAt ns k).1 (letAt ns k).2.1 (letAt ns k).2.2).fdiv (64 ^ e)).fmod 64 |>.toNat) (by unfold signsL; simp) with h | h
  · exact signsL_small _ _ (altM_lt ns).1 (altM_lt ns).2 _ h
  · rw [h]; decide
theorem flat_le2 {l : List Nat} {f : Nat → List Nat} (hf : ∀ k, (f k).length ≤ 2) : (l.map f).flatten.length ≤ 2 * l.length := by
  induction l with
  | nil => simp
  | cons x l ih => have := hf x; simp at ih ⊢; omega
theorem spelledL_len (w : List Nat) (way : Int) : (spelledL w way).length ≤ 2 * w.length + 2 := by
  unfold spelledL
  have h1 := flat_le2 (l := w) (f := esc1) (fun k => by unfold esc1; split <;> simp)
  have h2 := flat_le2 (l := w) (f := esc2) (fun k => by unfold esc2; split <;> simp)
  split
  · simp only [List.length_append, List.length_cons, List.length_nil]; omega
  · simp only [List.length_append, List.length_cons, List.length_nil]; omega
theorem nlAt_le (ns : List Int) (k : Nat) : nlAt ns k ≤ 2 := by
  have := fm_range (numAt ns k + k) (b := 3) (by decide)
  unfold nlAt; omega
theorem textM_succ (ns : List Int) (i : Nat) : textM ns (i + 1) = textM ns i ++ (spelledL (wordAt ns i) ((numAt ns i).fdiv 2) ++ List.replicate (nlAt ns i) 10) := by
  unfold textM; rw [List.range_succ]; simp
theorem textM_len (ns : List Int) (i : Nat) : (textM ns i).length ≤ 12 * i := by
  induction i with
  | zero => simp [textM]
  | succ i ih =>
    rw [textM_succ]
    have h1 := spelledL_len (wordAt ns i) ((numAt ns i).fdiv 2)
    have h2 := nlAt_le ns i
    rw [wordAt_len] at h1
    simp only [List.length_append, List.length_replicate]; omega
theorem lettersM_succ (ns : List Int) (i : Nat) : lettersM ns (i + 1) = lettersM ns i ++ [letAt ns i] := by unfold lettersM; rw [List.range_succ]; simp
theorem writtenM_succ (ns : List Int) (i : Nat) : writtenM ns (i + 1) = writtenM ns i ++ [wordAt ns i] := by unfold writtenM; rw [List.range_succ]; simp
theorem endsM_succ (ns : List Int) (i : Nat) : endsM ns (i + 1) = endsM ns i ++ (if endAt ns i then [(i : Int) + 1] else []) := by
  unfold endsM; rw [List.range_succ, List.filter_append, List.map_append]
  congr 1
  by_cases h : endAt ns i = true
  · simp [h]
  · simp [h]
end
section
/-- the three octets of a letter -/
noncomputable abbrev octs (l : Letter) : List UInt8 := byteL [l.1, l.2.1, l.2.2]
/-- a writing's place in the signs -/
noncomputable def idx (n : Int) (e : Nat) : Nat := ((n.fdiv (64 ^ e)).fmod 64).toNat
theorem idx_lt (n : Int) (e : Nat) : idx n e < 64 := by
  have := fm_range (n.fdiv (64 ^ e)) (b := 64) (by decide)
  exact (Int.toNat_lt this.1).mpr this.2
theorem byte_back {x : Int} (h : 0 ≤ x ∧ x < 256) : ((x.toNat.toUInt8.toNat : Nat) : Int) = x := by
  have : x.toNat.toUInt8.toNat = x.toNat % 256 := by simp
  rw [this, Nat.mod_eq_of_lt ((Int.toNat_lt h.1).mpr h.2)]; exact Int.toNat_of_nonneg h.1
theorem enc3 (a b d : Int) : encAll [a, b, d] =
    ([b64c ((0 * 256 + a) % 65536 / 2 ^ 2 % 64), b64c ((((0 * 256 + a) % 65536) * 256 + b) % 65536 / 2 ^ 4 % 64),
      b64c ((((((0 * 256 + a) % 65536) * 256 + b) % 65536) * 256 + d) % 65536 / 2 ^ 6 % 64), b64c ((((((0 * 256 + a) % 65536) * 256 + b) % 65536) * 256 + d) % 65536 / 2 ^ 0 % 64)],
      ((((0 * 256 + a) % 65536) * 256 + b) % 65536 * 256 + d) % 65536, 0) := by
  unfold encAll
  simp only [List.foldl, encStep]
  rw [encW_go (lb := 0 + 8) (by decide), encW_end (lb := 0 + 8 - 6) (by decide)]
  dsimp only
  rw [encW_go (lb := 0 + 8 - 6 + 8) (by decide), encW_end (lb := 0 + 8 - 6 + 8 - 6) (by decide)]
  dsimp only
  rw [encW_go (lb := 0 + 8 - 6 + 8 - 6 + 8) (by decide), encW_go (lb := 0 + 8 - 6 + 8 - 6 + 8 - 6) (by decide), encW_end (lb := 0 + 8 - 6 + 8 - 6 + 8 - 6 - 6) (by decide)]
  rfl
theorem fd_div (a : Int) {b : Int} (h : 0 < b) : a.fdiv b = a / b := Int.fdiv_eq_ediv_of_nonneg _ (by omega)
theorem fm_mod (a : Int) {b : Int} (h : 0 < b) : a.fmod b = a % b := Int.fmod_eq_emod_of_nonneg _ (by omega)
theorem b64c_idx {k : Int} {n : Int} {e : Nat} (h : k = (n.fdiv (64 ^ e)).fmod 64) : b64c k = ((b64s.getD (idx n e) 0).toNat : Int) := by unfold b64c idx; rw [h]
theorem nA {x d : Nat} (h : d < 256) : (x * 256 + d) / 256 = x := by
  rw [Nat.mul_comm, Nat.mul_add_div (by decide), Nat.div_eq_of_lt h, Nat.add_zero]
theorem nM (x k m : Nat) (h : k * (64 * m) = 65536) : x % 65536 / k % 64 = x / k % 64 := by
  rw [← h, Nat.mod_mul_right_div_self, Nat.mod_mod_of_dvd _ ⟨m, rfl⟩]
theorem nD {x d : Nat} (k : Nat) (h : d < 256) : (x * 256 + d) / (256 * k) = x / k := by rw [← Nat.div_div_eq_div_mul, nA h]
theorem nE {a b d : Nat} (ha : a < 256) (hb : b < 256) (hd : d < 256) :
    (0 * 256 + a) % 65536 / 4 % 64 = (((0 * 256 + a) * 256 + b) * 256 + d) / 262144 % 64 ∧
    ((0 * 256 + a) % 65536 * 256 + b) % 65536 / 16 % 64 = (((0 * 256 + a) * 256 + b) * 256 + d) / 4096 % 64 ∧
    (((0 * 256 + a) % 65536 * 256 + b) % 65536 * 256 + d) % 65536 / 64 % 64 = (((0 * 256 + a) * 256 + b) * 256 + d) / 64 % 64 ∧
    (((0 * 256 + a) % 65536 * 256 + b) % 65536 * 256 + d) % 65536 / 1 % 64 = (((0 * 256 + a) * 256 + b) * 256 + d) / 1 % 64 := by
  have h1 : (0 * 256 + a) % 65536 = a := by rw [Nat.zero_mul, Nat.zero_add]; exact Nat.mod_eq_of_lt (Nat.lt_trans ha (by decide))
  have h2 : (a * 256 + b) % 65536 = a * 256 + b := Nat.mod_eq_of_lt (Nat.lt_of_lt_of_le (Nat.add_lt_add_left hb _) (Nat.succ_mul a 256 ▸ Nat.mul_le_mul_right 256 ha))
  rw [h1, h2, nM _ 64 16 rfl, nM _ 1 1024 rfl, Nat.zero_mul, Nat.zero_add]
  exact ⟨by rw [nD 1024 hd, nD 4 hb], by rw [nD 16 hd], rfl, rfl⟩
theorem nG (x k j : Nat) : x / k % j * k + x % k = x % (k * j) := by
  have := Nat.div_add_mod' (x % (k * j)) k
  rwa [Nat.mod_mul_right_div_self, Nat.mod_mod_of_dvd _ ⟨j, rfl⟩] at this
theorem nB {x d : Nat} (h : d < 256) : (x * 256 + d) % 256 = d := by rw [Nat.mul_comm, Nat.mul_add_mod, Nat.mod_eq_of_lt h]
/-- three octets of four signs -/
theorem nF {a b d : Nat} (ha : a < 256) (hb : b < 256) (hd : d < 256) :
    (((0 * 256 + a) * 256 + b) * 256 + d) / 262144 % 64 * 4 + (((0 * 256 + a) * 256 + b) * 256 + d) / 4096 % 64 / 16 = a ∧
    (((0 * 256 + a) * 256 + b) * 256 + d) / 4096 % 64 % 16 * 16 + (((0 * 256 + a) * 256 + b) * 256 + d) / 64 % 64 / 4 = b ∧
    (((0 * 256 + a) * 256 + b) * 256 + d) / 64 % 64 % 4 * 64 + (((0 * 256 + a) * 256 + b) * 256 + d) / 1 % 64 = d := by
  rw [Nat.zero_mul, Nat.zero_add, nD 1024 hd, nD 4 hb, nD 16 hd]
  refine ⟨?_, ?_, ?_⟩
  · rw [Nat.mod_mul_right_div_self _ 16 4, Nat.div_div_eq_div_mul, nA hb, nG a 4 64]; exact Nat.mod_eq_of_lt ha
  · rw [Nat.mod_mod_of_dvd (b := 64) (c := 16) _ ⟨4, rfl⟩, Nat.mod_mul_right_div_self _ 4 16, Nat.div_div_eq_div_mul, nA hd, nG _ 16 16, nB hb]
  · rw [Nat.mod_mod_of_dvd (b := 64) (c := 4) _ ⟨16, rfl⟩, Nat.div_one, nG _ 64 4, nB hd]
theorem of_nat {a : Int} (h : 0 ≤ a ∧ a < 256) : ∃ n : Nat, a = n ∧ n < 256 := ⟨a.toNat, (Int.toNat_of_nonneg h.1).symm, (Int.toNat_lt h.1).mpr h.2⟩
theorem enc3_idx {a b d : Int} (ha : 0 ≤ a ∧ a < 256) (hb : 0 ≤ b ∧ b < 256) (hd : 0 ≤ d ∧ d < 256) :
    (encAll [a, b, d]).1 = [3, 2, 1, 0].map fun e => ((b64s.getD (idx (numL a b d) e) 0).toNat : Int) := by
  obtain ⟨a, rfl, ka⟩ := of_nat ha
  obtain ⟨b, rfl, kb⟩ := of_nat hb
  obtain ⟨d, rfl, kd⟩ := of_nat hd
  obtain ⟨h3, h2, h1, h0⟩ := nE ka kb kd
  have t : ∀ (e : Nat) (k : Int), k = numL a b d / 64 ^ e % 64 → b64c k = ((b64s.getD (idx (numL a b d) e) 0).toNat : Int) := fun e k h => b64c_idx (by rw [fm_mod _ (by decide), fd_div _ (Int.pow_pos (by decide))]; exact h)
  rw [enc3]
  simp only [List.map]
  exact congr (congrArg List.cons (t 3 _ (congrArg Int.ofNat h3))) (congr (congrArg List.cons (t 2 _ (congrArg Int.ofNat h2))) (congr (congrArg List.cons (t 1 _ (congrArg Int.ofNat h1))) (congrArg (fun z => [z]) (t 0 _ (congrArg Int.ofNat h0)))))
theorem octs_map {l : Letter} (h : (0 ≤ l.1 ∧ l.1 < 256) ∧ (0 ≤ l.2.1 ∧ l.2.1 < 256) ∧ (0 ≤ l.2.2 ∧ l.2.2 < 256)) : ((octs l).map fun b => (b.toNat : Int)) = [l.1, l.2.1, l.2.2] := by
  unfold octs byteL
  simp only [List.map]
  rw [byte_back h.1, byte_back h.2.1, byte_back h.2.2]
theorem letAt_ok (ns : List Int) (k : Nat) : (0 ≤ (letAt ns k).1 ∧ (letAt ns k).1 < 256) ∧ (0 ≤ (letAt ns k).2.1 ∧ (letAt ns k).2.1 < 256) ∧ (0 ≤ (letAt ns k).2.2 ∧ (letAt ns k).2.2 < 256) := letterM_ok _ _
theorem enc_zero (ns : List Int) (k : Nat) : (encAll ((octs (letAt ns k)).map fun b => (b.toNat : Int))).2.2 = 0 := by
  rw [octs_map (letAt_ok ns k), enc3]
/-- sign by sign: there and back -/
noncomputable def tr2 (a b c d k : UInt8) : UInt8 := if b = k then d else if a = k then c else k
theorem mtab2 (a b c d k x : UInt8) : (BT.mtab [a, b] [c, d]).getD k.toNat x = tr2 a b c d k := by
  have h1 : k.toNat < 256 := k.toNat_lt
  have h0 : ((Array.range 256).map (·.toUInt8))[k.toNat]? = some k := by
    rw [Array.getElem?_map, Array.getElem?_range, if_pos h1]; simp
  have e : ∀ u : UInt8, (u.toNat = k.toNat) = (u = k) := fun u => propext UInt8.toNat_inj
  unfold BT.mtab
  rw [List.zip_cons_cons, List.zip_cons_cons, List.zip_nil_left, List.foldl_cons, List.foldl_cons, List.foldl_nil]
  rw [Array.getD_eq_getD_getElem?, Array.getElem?_setIfInBounds, Array.getElem?_setIfInBounds, h0, Array.size_setIfInBounds, Array.size_map, Array.size_range]
  unfold tr2
  simp only [e, a.toNat_lt, b.toNat_lt, if_true]
  split
  · rfl
  · split <;> rfl
noncomputable def signOk (p q : UInt8) : Bool := (List.range 64).all fun i =>
  (tr2 43 47 p q (b64s.getD i 0) == ((signsL p.toNat q.toNat).getD i 0).toUInt8) &&
  (tr2 p q 43 47 ((signsL p.toNat q.toNat).getD i 0).toUInt8 == b64s.getD i 0) &&
  (b64v ((b64s.getD i 0).toNat : Int) == (i : Int)) && ((signsL p.toNat q.toNat).getD i 0 != 10) && ((signsL p.toNat q.toNat).getD i 0 != 9) && ((signsL p.toNat q.toNat).getD i 0 != 13)
theorem alts_ok : (alts.all fun a => signOk a.1 a.2) = true := by decide +kernel
theorem altM_mem (ns : List Int) : altM ns ∈ alts := by
  unfold altM alts
  have h := fm_range ns.sum (b := 5) (by decide)
  generalize ns.sum.fmod 5 = z at h
  obtain ⟨j, rfl⟩ := Int.eq_ofNat_of_zero_le h.1
  have : j < 5 := by omega
  exact (by decide : ∀ j : Fin 5, alts.getD j.val (0, 0) ∈ alts) ⟨j, this⟩
structure SignOk (p q : UInt8) (i : Nat) : Prop where
  enc : (BT.mtab [43, 47] [p, q]).getD (b64s.getD i 0).toNat (b64s.getD i 0) = ((signsL p.toNat q.toNat).getD i 0).toUInt8
  dec : (BT.mtab [p, q] [43, 47]).getD ((signsL p.toNat q.toNat).getD i 0).toUInt8.toNat ((signsL p.toNat q.toNat).getD i 0).toUInt8 = b64s.getD i 0
  v : b64v ((b64s.getD i 0).toNat : Int) = (i : Int)
  n10 : (signsL p.toNat q.toNat).getD i 0 ≠ 10
  n9 : (signsL p.toNat q.toNat).getD i 0 ≠ 9
  n13 : (signsL p.toNat q.toNat).getD i 0 ≠ 13
theorem signs_ok (ns : List Int) {i : Nat} (hi : i < 64) : SignOk (altM ns).1 (altM ns).2 i := by
  have h := List.all_eq_true.mp alts_ok _ (altM_mem ns)
  have h2 := List.all_eq_true.mp h i (List.mem_range.mpr hi)
  simp only [Bool.and_eq_true, beq_iff_eq, bne_iff_ne] at h2
  obtain ⟨⟨⟨⟨⟨h1, h2⟩, h3⟩, h4⟩, h5⟩, h6⟩ := h2
  exact ⟨(mtab2 ..).trans h1, (mtab2 ..).trans h2, h3, h4, h5, h6⟩
theorem byteL_nat {α : Type} (l : List α) (f : α → UInt8) : byteL (l.map fun i => ((f i).toNat : Int)) = l.map f := by
  unfold byteL
  rw [List.map_map]
  refine List.map_congr_left fun i _ => ?_
  simp
theorem wordAt_eq (ns : List Int) (k : Nat) : wordAt ns k = [3, 2, 1, 0].map fun e => (signsL (altM ns).1.toNat (altM ns).2.toNat).getD (idx (numL (letAt ns k).1 (letAt ns k).2.1 (letAt ns k).2.2) e) 0 := rfl
theorem enc_law (ns : List Int) (k : Nat) : encB (octs (letAt ns k)) [(altM ns).1, (altM ns).2] = (wordAt ns k).map fun k => k.toUInt8 := by
  have ok := letAt_ok ns k
  unfold encB
  rw [octs_map ok, enc3_idx ok.1 ok.2.1 ok.2.2, byteL_nat, wordAt_eq]
  unfold BT.trans
  rw [List.map_map, List.map_map]
  refine List.map_congr_left fun e _ => ?_
  have := (signs_ok ns (idx_lt (numL (letAt ns k).1 (letAt ns k).2.1 (letAt ns k).2.2) e)).enc
  rw [Function.comp_apply, Function.comp_apply]
  exact this
/-- a written word, read -/
noncomputable abbrev wdAt (ns : List Int) (k : Nat) : Wd := (wordAt ns k, (letAt ns k).1.toNat.toUInt8, (letAt ns k).2.1.toNat.toUInt8, (letAt ns k).2.2.toNat.toUInt8)
theorem letterW_wdAt (ns : List Int) (k : Nat) : letterW (wdAt ns k) = letAt ns k := by
  have ok := letAt_ok ns k
  unfold letterW
  dsimp only
  rw [byte_back ok.1, byte_back ok.2.1, byte_back ok.2.2]
theorem decT_wdAt (ns : List Int) (k : Nat) : decT (oct (wdAt ns k)) [(altM ns).1, (altM ns).2] = [3, 2, 1, 0].map fun e => b64s.getD (idx (numL (letAt ns k).1 (letAt ns k).2.1 (letAt ns k).2.2) e) 0 := by
  unfold decT BT.trans oct
  show List.map _ (List.map _ (wordAt ns k)) = _
  rw [wordAt_eq, List.map_map, List.map_map]
  refine List.map_congr_left fun e _ => ?_
  have := (signs_ok ns (idx_lt (numL (letAt ns k).1 (letAt ns k).2.1 (letAt ns k).2.2) e)).dec
  rw [Function.comp_apply, Function.comp_apply]
  exact this
theorem idx_val (n : Int) (e : Nat) : (idx n e : Int) = n / 64 ^ e % 64 := by
  refine (Int.toNat_of_nonneg (fm_range (n.fdiv (64 ^ e)) (b := 64) (by decide)).1).trans ?_
  rw [fm_mod _ (by decide), fd_div _ (Int.pow_pos (by decide))]
theorem dec4 (a b c d : Int) (x y z w : Int) (ha : b64v a = x) (hb : b64v b = y) (hc : b64v c = z) (hd : b64v d = w) :
    decAll [a, b, c, d] = ([x * 4 + y / 16, y % 16 * 16 + z / 4, z % 4 * 64 + w], 0, 0) := by
  subst ha hb hc hd
  rfl
theorem DecW_wdAt (ns : List Int) (k : Nat) : DecW (wdAt ns k) [(altM ns).1, (altM ns).2] := by
  have ok := letAt_ok ns k
  have hv : ∀ e, b64v ((b64s.getD (idx (numL (letAt ns k).1 (letAt ns k).2.1 (letAt ns k).2.2) e) 0).toNat : Int) = (idx (numL (letAt ns k).1 (letAt ns k).2.1 (letAt ns k).2.2) e : Int) := fun e => (signs_ok ns (idx_lt _ e)).v
  have hd : decAll (decI (oct (wdAt ns k)) [(altM ns).1, (altM ns).2]) = ([(letAt ns k).1, (letAt ns k).2.1, (letAt ns k).2.2], 0, 0) := by
    unfold decI
    rw [decT_wdAt]
    simp only [List.map]
    rw [dec4 _ _ _ _ _ _ _ _ (hv 3) (hv 2) (hv 1) (hv 0), idx_val, idx_val, idx_val, idx_val]
    obtain ⟨a, ea, ha⟩ := of_nat ok.1
    obtain ⟨b, eb, hb⟩ := of_nat ok.2.1
    obtain ⟨d, ed, hd⟩ := of_nat ok.2.2
    obtain ⟨h1, h2, h3⟩ := nF ha hb hd
    rw [ea, eb, ed]
    exact congr (congrArg Prod.mk (congr (congrArg List.cons (congrArg Int.ofNat h1)) (congr (congrArg List.cons (congrArg Int.ofNat h2)) (congrArg (fun z => [z]) (congrArg Int.ofNat h3))))) rfl
  refine ⟨wordAt_small ns k, ?_, ?_, ?_, ?_⟩
  · show (wordAt ns k).length < 1000; rw [wordAt_len]; decide
  · rw [decT_wdAt]
    intro b hb
    obtain ⟨e, _, rfl⟩ := List.mem_map.mp hb
    rw [hv]; exact Int.ofNat_lt.mpr (idx_lt _ e)
  · rw [hd]
  · unfold decB
    rw [hd]; rfl
end
section
/-- no white sign but the blank -/
noncomputable def Good (w : List Nat) : Prop := ∀ c ∈ w, c ≠ 10 ∧ c ≠ 9 ∧ c ≠ 13
theorem nlA_zero {a : Nat} (h : a ≠ 10) : nlA a = 0 := by unfold nlA; rw [if_neg h]
theorem quo_of : ∀ (w : List Nat) (r : List Nat) (n : Int), Good w → Quo ((w.map esc1).flatten ++ 34 :: r) n w r n
  | [], r, n, _ => .close
  | c :: w, r, n, h => by
    have hc := h c (.head _)
    have ih := quo_of w r n fun x hx => h x (.tail _ hx)
    have e : n + nlA c = n := by rw [nlA_zero hc.1]; omega
    simp only [List.map_cons, List.flatten_cons]
    unfold esc1
    split
    · exact .esc (by rw [e]; exact ih)
    · rename_i q
      exact .one (by omega) (by omega) (by rw [e]; exact ih)
theorem isW_false {c : Nat} (h : c ≠ 10 ∧ c ≠ 9 ∧ c ≠ 13) (h2 : c ≠ 32) : isW c = false := by
  unfold isW; rw [beq_false_of_ne h.1, beq_false_of_ne h.2.1, beq_false_of_ne h.2.2, beq_false_of_ne h2]; rfl
theorem bare_of : ∀ (w : List Nat) (r : List Nat) (n : Int) (z : Nat), isW z = true → z ≠ 10 → Good w → Bare ((w.map esc2).flatten ++ z :: r) n w r n
  | [], r, n, z, hz, hz2, _ => by
    have := Bare.close (r := r) (n := n) hz
    rw [nlA_zero hz2] at this
    simpa using this
  | c :: w, r, n, z, hz, hz2, h => by
    have hc := h c (.head _)
    have ih := bare_of w r n z hz hz2 fun x hx => h x (.tail _ hx)
    have e : n + nlA c = n := by rw [nlA_zero hc.1]; omega
    simp only [List.map_cons, List.flatten_cons]
    unfold esc2
    split
    · exact .esc (by rw [e]; exact ih)
    · rename_i q
      exact .one (isW_false hc (by omega)) (by omega) (by rw [e]; exact ih)
theorem tok_nl {l : List Nat} {t r' : List Nat} {n' : Int} : ∀ (m : Nat) (n : Int), Tok l (n + m) t r' n' → Tok (List.replicate m 10 ++ l) n t r' n'
  | 0, n, h => by simpa using h
  | m + 1, n, h => by
    rw [List.replicate_succ]
    refine .ws rfl (tok_nl m _ ?_)
    have : n + nlA 10 + (m : Int) = n + ((m + 1 : Nat) : Int) := by unfold nlA; rw [if_pos rfl]; push_cast; omega
    rw [this]; exact h
theorem sep_ok (way : Int) : isW (sepL way) = true ∧ sepL way ≠ 10 := by
  unfold sepL
  have h := fm_range (way.fdiv 2) (b := 3) (by decide)
  generalize (way.fdiv 2).fmod 3 = z at h
  obtain ⟨j, rfl⟩ := Int.eq_ofNat_of_zero_le h.1
  have : j < 3 := by omega
  match j, this with
  | 0, _ => decide
  | 1, _ => decide
  | 2, _ => decide
theorem tok_sp {w : List Nat} {way : Int} {r : List Nat} {n : Int} (h : Good w) (hw : w ≠ []) : Tok (spelledL w way ++ r) n w r n := by
  unfold spelledL
  split
  · have := quo_of w r n h
    simp only [List.append_assoc, List.cons_append, List.nil_append]
    exact .quo this
  · obtain ⟨hz, hz2⟩ := sep_ok way
    simp only [List.append_assoc, List.cons_append, List.nil_append]
    cases w with
    | nil => exact absurd rfl hw
    | cons c w =>
      have hc := h c (.head _)
      have ih := bare_of w r n _ hz hz2 fun x hx => h x (.tail _ hx)
      have e : n + nlA c = n := by rw [nlA_zero hc.1]; omega
      simp only [List.map_cons, List.flatten_cons]
      unfold esc2
      split
      · exact .bareE (by rw [e]; exact ih)
      · rename_i q
        exact .bare (isW_false hc (by omega)) (by omega) (by omega) (by rw [e]; exact ih)
/-- the words, their lines -/
noncomputable def tkL (n : Int) : List (List Nat × Int × Nat) → List (List Nat × Int)
  | [] => []
  | p :: l => (p.1, n) :: tkL (n + p.2.2) l
theorem toks_of : ∀ (l : List (List Nat × Int × Nat)) (m : Nat) (n : Int), (∀ p ∈ l, p.1 ≠ [] ∧ Good p.1) → Toks (List.replicate m 10 ++ (l.map fun p => spelledL p.1 p.2.1 ++ List.replicate p.2.2 10).flatten) n (tkL (n + m) l)
  | [], m, n, _ => .done (tok_nl m n .done)
  | p :: l, m, n, h => by
    have hp := h p (.head _)
    simp only [List.map_cons, List.flatten_cons, List.append_assoc]
    refine .cons (tok_nl m n (tok_sp hp.2 hp.1)) hp.1 ?_
    exact toks_of l p.2.2 (n + m) fun q hq => h q (.tail _ hq)
/-- the line of a word -/
noncomputable def lineAt (ns : List Int) : Nat → Int
  | 0 => 1
  | k + 1 => lineAt ns k + nlAt ns k
theorem wordAt_good (ns : List Int) (k : Nat) : Good (wordAt ns k) := by
  intro c hc
  rw [wordAt_eq] at hc
  obtain ⟨e, _, rfl⟩ := List.mem_map.mp hc
  have := signs_ok ns (idx_lt (numL (letAt ns k).1 (letAt ns k).2.1 (letAt ns k).2.2) e)
  exact ⟨this.n10, this.n9, this.n13⟩
theorem tkL_range (ns : List Int) : ∀ (m k : Nat), tkL (lineAt ns k) ((List.range' k m).map fun k => (wordAt ns k, (numAt ns k).fdiv 2, nlAt ns k)) = (List.range' k m).map fun k => (wordAt ns k, lineAt ns k)
  | 0, k => rfl
  | m + 1, k => by
    rw [List.range'_succ]
    simp only [List.map_cons, tkL]
    have := tkL_range ns m (k + 1)
    rw [show lineAt ns (k + 1) = lineAt ns k + nlAt ns k from rfl] at this
    rw [this]
noncomputable def tksM (ns : List Int) (i : Nat) : List (List Nat × Int) := (List.range i).map fun k => (wordAt ns k, lineAt ns k)
theorem textM_toks (ns : List Int) (i : Nat) : Toks (textM ns i) 1 (tksM ns i) := by
  have := toks_of ((List.range i).map fun k => (wordAt ns k, (numAt ns k).fdiv 2, nlAt ns k)) 0 1 (fun p hp => by
    obtain ⟨k, _, rfl⟩ := List.mem_map.mp hp
    refine ⟨fun e => ?_, wordAt_good ns k⟩
    have := congrArg List.length e
    rw [wordAt_len] at this
    cases this)
  unfold textM tksM
  have e := tkL_range ns i 0
  rw [← List.range_eq_range'] at e
  rw [← e]
  simp only [List.replicate_zero, List.nil_append, List.map_map] at this
  exact this
/-- the rows of places -/
noncomputable def stepI (st : Int × List (List Nat)) (w : Nat × Int) : Int × List (List Nat) :=
  if w.2 ≠ st.1 then (w.2, st.2 ++ [[w.1]]) else (st.1, st.2.dropLast ++ [st.2.getLastD [] ++ [w.1]])
theorem step_map (f : Nat → List Nat) (st : Int × List (List Nat)) (w : Nat × Int) : rowStep (st.1, st.2.map (List.map f)) (f w.1, w.2) = ((stepI st w).1, (stepI st w).2.map (List.map f)) := by
  unfold rowStep stepI
  split
  · simp
  · have : (st.2.map (List.map f)).getLastD [] = (st.2.getLastD []).map f := by
      rw [List.getLastD_eq_getLast?, List.getLastD_eq_getLast?, List.getLast?_map]
      cases st.2.getLast? <;> rfl
    dsimp only
    rw [this]
    simp
theorem fold_map (f : Nat → List Nat) : ∀ (l : List (Nat × Int)) (st : Int × List (List Nat)), (l.map fun w => (f w.1, w.2)).foldl rowStep (st.1, st.2.map (List.map f)) = ((l.foldl stepI st).1, (l.foldl stepI st).2.map (List.map f))
  | [], st => rfl
  | w :: l, st => by
    simp only [List.map_cons, List.foldl_cons]
    rw [step_map, fold_map f l]
noncomputable def placeI (ns : List Int) (i : Nat) : Int × List (List Nat) := ((List.range i).map fun k => (k, lineAt ns k)).foldl stepI (0, [])
theorem rowsM_places (ns : List Int) (i : Nat) : rowsM (tksM ns i) = (placeI ns i).2.map (List.map (wordAt ns)) := by
  have := fold_map (wordAt ns) ((List.range i).map fun k => (k, lineAt ns k)) (0, [])
  unfold rowsM tksM placeI
  rw [List.map_map] at this
  simp only [List.map_nil] at this
  exact congrArg Prod.snd this
theorem placeI_succ (ns : List Int) (i : Nat) : placeI ns (i + 1) = stepI (placeI ns i) (i, lineAt ns i) := by
  unfold placeI
  rw [List.range_succ, List.map_append, List.foldl_append]; rfl
/-- where the rows end -/
noncomputable def psums {α : Type} (s : Nat) : List (List α) → List Nat
  | [] => []
  | r :: rs => (s + r.length) :: psums (s + r.length) rs
theorem psums_snoc {α : Type} : ∀ (rs : List (List α)) (s : Nat) (r : List α), psums s (rs ++ [r]) = psums s rs ++ [s + rs.flatten.length + r.length]
  | [], s, r => by simp [psums]
  | q :: rs, s, r => by
    simp only [List.cons_append, psums, psums_snoc rs]
    congr 3
    simp only [List.flatten_cons, List.length_append]; omega
theorem lineAt_pos (ns : List Int) (k : Nat) : 1 ≤ lineAt ns k := by
  induction k with
  | zero => exact Int.le_refl _
  | succ k ih => exact Int.le_trans ih (Int.le_add_of_nonneg_right (Int.natCast_nonneg _))
theorem placeI_ok (ns : List Int) (k : Nat) : (placeI ns (k + 1)).1 = lineAt ns k ∧ (placeI ns (k + 1)).2.flatten = List.range (k + 1) ∧ (∃ rs r, (placeI ns (k + 1)).2 = rs ++ [r]) ∧
    psums 0 (placeI ns (k + 1)).2 = ((List.range k).filter fun j => decide (0 < nlAt ns j)).map (· + 1) ++ [k + 1] := by
  induction k with
  | zero =>
    have e : placeI ns 1 = (1, [[0]]) := rfl
    rw [e]
    exact ⟨rfl, rfl, ⟨[], [0], rfl⟩, rfl⟩
  | succ k ih =>
    obtain ⟨h1, h2, ⟨rs, r, h3⟩, h4⟩ := ih
    rw [placeI_succ ns (k + 1)]
    unfold stepI
    dsimp only
    rw [h1]
    have hl : lineAt ns (k + 1) = lineAt ns k + nlAt ns k := rfl
    have hf : ((List.range (k + 1)).filter fun j => decide (0 < nlAt ns j)).map (· + 1) = ((List.range k).filter fun j => decide (0 < nlAt ns j)).map (· + 1) ++ (if 0 < nlAt ns k then [k + 1] else []) := by
      rw [List.range_succ, List.filter_append, List.map_append]
      by_cases q : 0 < nlAt ns k
      · simp [q]
      · simp [q]
    split
    · rename_i q
      have hn : 0 < nlAt ns k := by omega
      refine ⟨rfl, ?_, ⟨_, _, rfl⟩, ?_⟩
      · rw [List.flatten_append, h2]; rw [List.range_succ (n := k + 1)]; rfl
      · rw [psums_snoc, h4, h2, hf, if_pos hn]; simp
    · rename_i q
      have hn : ¬ 0 < nlAt ns k := by omega
      have hd : (placeI ns (k + 1)).2.dropLast = rs := by rw [h3]; simp
      have hg : (placeI ns (k + 1)).2.getLastD [] = r := by rw [h3]; simp
      rw [hd, hg]
      have h2' : rs.flatten ++ r = List.range (k + 1) := by rw [← h2, h3]; simp
      refine ⟨?_, ?_, ⟨_, _, rfl⟩, ?_⟩
      · show lineAt ns k = _; omega
      · rw [List.flatten_append, List.range_succ (n := k + 1), ← h2']; simp
      · rw [h3, psums_snoc] at h4
        have h5 := (List.append_inj' h4 rfl).1
        have h6 := congrArg List.length h2'
        simp only [List.length_append, List.length_range] at h6
        rw [psums_snoc, h5, hf, if_neg hn]
        simp only [List.append_nil, List.length_append, List.length_cons, List.length_nil]
        congr 2; omega
theorem ends_psums (ns : List Int) (h : 0 < ns.length) : endsM ns ns.length = (psums 0 (placeI ns ns.length).2).map fun (k : Nat) => (k : Int) := by
  obtain ⟨k, hk⟩ : ∃ k, ns.length = k + 1 := ⟨ns.length - 1, by omega⟩
  rw [hk, (placeI_ok ns k).2.2.2]
  unfold endsM
  rw [List.range_succ, List.filter_append, List.map_append, List.map_append]
  have e1 : (List.range k).filter (endAt ns) = (List.range k).filter fun j => decide (0 < nlAt ns j) := by
    refine List.filter_congr fun j hj => ?_
    have hj := List.mem_range.mp hj
    unfold endAt nlAt
    have hf := fm_range (numAt ns j + j) (b := 3) (by decide)
    have : ((j : Int) == (ns.length : Int) - 1) = false := by simp; omega
    rw [this, Bool.or_false]
    exact decide_eq_decide.mpr (by omega)
  have e2 : [k].filter (endAt ns) = [k] := by
    have : endAt ns k = true := by unfold endAt; rw [hk]; simp
    simp [this]
  rw [e1, e2, List.map_map]
  rfl
end
section
theorem fac_app {ls l2 : List Letter} {j : Int} (h0 : 0 ≤ j) (h : j < ls.length) : fac (ls ++ l2) j = fac ls j := by
  unfold fac; rw [List.getD_eq_getElem?_getD, List.getD_eq_getElem?_getD, List.getElem?_append_left (by omega)]
theorem stp_app {ls l2 : List Letter} {j : Int} (h0 : 0 ≤ j) (h : j < ls.length) : stp (ls ++ l2) j = stp ls j := by
  unfold stp; rw [List.getD_eq_getElem?_getD, List.getD_eq_getElem?_getD, List.getElem?_append_left (by omega)]
theorem smd_app {ls l2 : List Letter} {j : Int} (h0 : 0 ≤ j) (h : j < ls.length) : smd (ls ++ l2) j = smd ls j := by
  unfold smd; rw [List.getD_eq_getElem?_getD, List.getD_eq_getElem?_getD, List.getElem?_append_left (by omega)]
theorem fac_at (ls : List Letter) (L : Letter) : fac (ls ++ [L]) (ls.length : Int) = L.2.1 := by unfold fac; simp
theorem stp_at (ls : List Letter) (L : Letter) : stp (ls ++ [L]) (ls.length : Int) = L.1 := by unfold stp; simp
noncomputable def Pair (ls : List Letter) (n : Nat) (p : P2) : Prop := 0 ≤ p.2 ∧ p.2 < n ∧ (fac ls p.2).fmod 2 = 1 ∧ p.1 = stp ls p.2
noncomputable def Taken (ls : List Letter) (n : Nat) (j : Int) : Prop := (∃ p : Int, 1 ≤ p ∧ p < n ∧ (fac ls p).fmod 2 = 0 ∧ j = (stp ls p).fmod p) ∧ (fac ls j).fmod 2 = 1
theorem mem_span {a b j : Int} : j ∈ span a b ↔ a ≤ j ∧ j < b := by
  unfold span
  rw [List.mem_map]
  constructor
  · rintro ⟨i, hi, rfl⟩
    have := List.mem_range.mp hi
    omega
  · rintro ⟨h1, h2⟩
    exact ⟨(j - a).toNat, List.mem_range.mpr (by omega), by omega⟩
theorem Taken.lt {ls : List Letter} {n : Nat} {j : Int} (h : Taken ls n j) : 0 ≤ j ∧ j < n := by
  obtain ⟨⟨p, h1, h2, _, h4⟩, _⟩ := h
  have := fmod_range (stp ls p) (b := p) (by omega)
  omega
theorem Taken.mono {ls : List Letter} {s n : Nat} {j : Int} (h : Taken ls s j) (hs : s ≤ n) : Taken ls n j := by
  obtain ⟨⟨p, h1, h2, h3, h4⟩, h5⟩ := h
  exact ⟨⟨p, h1, by omega, h3, h4⟩, h5⟩
theorem mem_takenM {ls : List Letter} {n : Nat} {j : Int} : j ∈ takenM ls n ↔ Taken ls n j := by
  unfold takenM targetsM
  rw [List.mem_filter, mem_span, Bool.and_eq_true, List.contains_iff_mem, List.mem_map, beq_iff_eq]
  constructor
  · rintro ⟨_, ⟨p, hp, e⟩, h⟩
    rw [List.mem_filter, mem_span, beq_iff_eq] at hp
    exact ⟨⟨p, hp.1.1, hp.1.2, hp.2, e.symm⟩, h⟩
  · intro h
    refine ⟨h.lt, ?_, h.2⟩
    obtain ⟨⟨p, h1, h2, h3, h4⟩, _⟩ := h
    refine ⟨p, ?_, h4.symm⟩
    rw [List.mem_filter, mem_span, beq_iff_eq]
    exact ⟨⟨h1, h2⟩, h3⟩
theorem mem_pairsM {ls : List Letter} {n : Nat} {p : P2} : p ∈ pairsM ls n ↔ Pair ls n p := by
  unfold pairsM
  rw [List.mem_map]
  constructor
  · rintro ⟨j, hj, rfl⟩
    rw [List.mem_filter, mem_span, beq_iff_eq] at hj
    exact ⟨hj.1.1, hj.1.2, hj.2, rfl⟩
  · rintro ⟨h1, h2, h3, h4⟩
    refine ⟨p.2, ?_, by rw [← h4]⟩
    rw [List.mem_filter, mem_span, beq_iff_eq]
    exact ⟨⟨h1, h2⟩, h3⟩
noncomputable def New (ls : List Letter) (n s : Nat) (p : P2) : Prop := Pair ls n p ∧ ((s : Int) ≤ p.2 ∨ (Taken ls n p.2 ∧ ¬ Taken ls s p.2))
theorem cont_taken {ls : List Letter} {n : Nat} {j : Int} : (takenM ls n).contains j = true ↔ Taken ls n j := by rw [List.contains_iff_mem, mem_takenM]
theorem cont_taken' {ls : List Letter} {n : Nat} {j : Int} : (!(takenM ls n).contains j) = true ↔ ¬ Taken ls n j := by
  rw [Bool.not_eq_true', ← Bool.not_eq_true, cont_taken]
theorem mem_newM {ls : List Letter} {n s : Nat} {p : P2} : p ∈ newM ls n s ↔ New ls n s p := by
  unfold newM
  rw [List.mem_filter, mem_pairsM, Bool.or_eq_true, decide_eq_true_eq, Bool.and_eq_true, cont_taken, cont_taken']
  rfl
theorem mem_dueM {ls : List Letter} {n : Nat} {p : P2} : p ∈ dueM ls n ↔ Pair ls n p ∧ ¬ Taken ls n p.2 := by
  unfold dueM
  rw [List.mem_filter, mem_pairsM, cont_taken']
-- a word more
theorem pair_snoc {ls : List Letter} {L : Letter} {p : P2} : Pair (ls ++ [L]) (ls.length + 1) p ↔ Pair ls ls.length p ∨ (p = (L.1, (ls.length : Int)) ∧ L.2.1.fmod 2 = 1) := by
  constructor
  · rintro ⟨h1, h2, h3, h4⟩
    by_cases q : p.2 < ls.length
    · rw [fac_app h1 q] at h3
      rw [stp_app h1 q] at h4
      exact .inl ⟨h1, q, h3, h4⟩
    · have e : p.2 = (ls.length : Int) := by omega
      rw [e, fac_at] at h3
      rw [e, stp_at] at h4
      exact .inr ⟨Prod.ext h4 e, h3⟩
  · rintro (⟨h1, h2, h3, h4⟩ | ⟨rfl, h⟩)
    · exact ⟨h1, by omega, by rw [fac_app h1 h2]; exact h3, by rw [stp_app h1 h2]; exact h4⟩
    · refine ⟨by dsimp only; omega, by dsimp only; omega, ?_, ?_⟩
      · dsimp only; rw [fac_at]; exact h
      · dsimp only; rw [stp_at]
theorem taken_app {ls l2 : List Letter} {s : Nat} {j : Int} (hs : s ≤ ls.length) : Taken (ls ++ l2) s j ↔ Taken ls s j := by
  constructor
  · intro h
    have hl := h.lt
    obtain ⟨⟨p, h1, h2, h3, h4⟩, h5⟩ := h
    rw [fac_app (by omega) (by omega)] at h3 h5
    rw [stp_app (by omega) (by omega)] at h4
    exact ⟨⟨p, h1, h2, h3, h4⟩, h5⟩
  · intro h
    have hl := h.lt
    obtain ⟨⟨p, h1, h2, h3, h4⟩, h5⟩ := h
    exact ⟨⟨p, h1, h2, by rw [fac_app (by omega) (by omega)]; exact h3, by rw [stp_app (by omega) (by omega)]; exact h4⟩, by rw [fac_app (by omega) (by omega)]; exact h5⟩
theorem taken_snoc {ls : List Letter} {L : Letter} {j : Int} : Taken (ls ++ [L]) (ls.length + 1) j ↔ Taken ls ls.length j ∨ (0 < ls.length ∧ L.2.1.fmod 2 = 0 ∧ j = L.1.fmod ls.length ∧ (fac (ls ++ [L]) j).fmod 2 = 1) := by
  constructor
  · rintro ⟨⟨p, h1, h2, h3, h4⟩, h5⟩
    by_cases q : p < ls.length
    · left
      exact (taken_app (Nat.le_refl _)).mp ⟨⟨p, h1, q, h3, h4⟩, h5⟩
    · have e : p = (ls.length : Int) := by omega
      subst e
      rw [fac_at] at h3
      rw [stp_at] at h4
      exact .inr ⟨by omega, h3, h4, h5⟩
  · rintro (h | ⟨h1, h2, h3, h4⟩)
    · exact ((taken_app (l2 := [L]) (Nat.le_refl _)).mpr h).mono (by omega)
    · exact ⟨⟨ls.length, by omega, by omega, by rw [fac_at]; exact h2, by rw [stp_at]; exact h3⟩, h4⟩
structure Mid (d0 : List P2) (v0 : Int) (s : Nat) (st : WS) : Prop where
  hs : s ≤ st.letters.length
  d : st.done = d0
  v : st.value = v0
  void : ∀ j, j ∈ st.void ↔ Taken st.letters st.letters.length j
  heap : Heap' st.waiting
  mem : ∀ p, p ∈ st.waiting ↔ New st.letters st.letters.length s p
  nd : (st.waiting.filter fun p => !st.void.contains p.2).Nodup
theorem mem_hpush {xs : List P2} {x p : P2} : p ∈ hpush xs x ↔ p = x ∨ p ∈ xs := by rw [(hpush_perm xs x).mem_iff, List.mem_cons]
theorem two_cases (x : Int) : x.fmod 2 = 0 ∨ x.fmod 2 = 1 := by have := fmod_range x (b := 2) (by decide); omega
theorem Mid.word {d0 : List P2} {v0 : Int} {s : Nat} {st : WS} (h : Mid d0 v0 s st) (L : Letter) : Mid d0 v0 s (wordM st L) := by
  have hs := h.hs
  have hlen : (st.letters ++ [L]).length = st.letters.length + 1 := by simp
  unfold wordM
  split
  · rename_i hodd
    have hodd : L.2.1.fmod 2 = 1 := by simpa using hodd
    have ht : ∀ j, Taken (st.letters ++ [L]) (st.letters.length + 1) j ↔ Taken st.letters st.letters.length j := fun j => by
      rw [taken_snoc]
      constructor
      · rintro (h | ⟨_, h, _⟩)
        · exact h
        · omega
      · exact .inl
    have hnv : ((L.1, (st.letters.length : Int)) : P2).2 ∉ st.void := fun hv => by
      have := ((h.void _).mp hv).lt
      dsimp only at this; omega
    have hnw : ((L.1, (st.letters.length : Int)) : P2) ∉ st.waiting := fun hw => by
      have := ((h.mem _).mp hw).1.2.1
      dsimp only at this; omega
    refine ⟨by rw [hlen]; omega, h.d, h.v, fun j => ?_, hpush_heap h.heap, fun p => ?_, ?_⟩
    · rw [hlen, ht]; exact h.void j
    · dsimp only
      rw [mem_hpush, h.mem, hlen]
      unfold New
      rw [pair_snoc, ht, taken_app hs]
      constructor
      · rintro (rfl | ⟨h1, h2⟩)
        · exact ⟨.inr ⟨rfl, hodd⟩, .inl (by dsimp only; omega)⟩
        · exact ⟨.inl h1, h2⟩
      · rintro ⟨h1 | ⟨rfl, _⟩, h2⟩
        · exact .inr ⟨h1, h2⟩
        · exact .inl rfl
    · dsimp only
      have hp := (hpush_perm st.waiting (L.1, (st.letters.length : Int))).filter fun p => !st.void.contains p.2
      rw [hp.nodup_iff, List.filter_cons, if_pos (by simpa using hnv), List.nodup_cons]
      exact ⟨fun hm => hnw (List.mem_filter.mp hm).1, h.nd⟩
  · rename_i hodd
    have heven : L.2.1.fmod 2 = 0 := by
      have : ¬ L.2.1.fmod 2 = 1 := by simpa using hodd
      rcases two_cases L.2.1 with q | q
      · exact q
      · exact absurd q this
    have hpair : ∀ p, Pair (st.letters ++ [L]) (st.letters.length + 1) p ↔ Pair st.letters st.letters.length p := fun p => by
      rw [pair_snoc]
      constructor
      · rintro (h | ⟨_, h⟩)
        · exact h
        · omega
      · exact .inl
    split
    · rename_i hc
      simp only [Bool.and_eq_true, decide_eq_true_eq, beq_iff_eq, Bool.not_eq_true', ← Bool.not_eq_true, List.contains_iff_mem] at hc
      obtain ⟨hn0, hf, hnv⟩ := hc
      have htr := fmod_range L.1 (b := (st.letters.length : Int)) hn0
      generalize hte : L.1.fmod st.letters.length = t at *
      have ht : ∀ j, Taken (st.letters ++ [L]) (st.letters.length + 1) j ↔ Taken st.letters st.letters.length j ∨ j = t := fun j => by
        rw [taken_snoc, hte]
        constructor
        · rintro (h | ⟨_, _, h, _⟩)
          · exact .inl h
          · exact .inr h
        · rintro (h | rfl)
          · exact .inl h
          · exact .inr ⟨by omega, heven, rfl, hf⟩
      have hnt : ¬ Taken st.letters st.letters.length t := fun q => hnv ((h.void _).mpr q)
      have hpt : Pair st.letters st.letters.length (stp (st.letters ++ [L]) t, t) := by
        rw [fac_app htr.1 htr.2] at hf
        exact ⟨htr.1, htr.2, hf, stp_app htr.1 htr.2⟩
      refine ⟨by rw [hlen]; omega, h.d, h.v, fun j => ?_, hpush_heap h.heap, fun p => ?_, ?_⟩
      · dsimp only
        rw [hlen, ht, List.mem_append, h.void, List.mem_singleton]
      · dsimp only
        rw [mem_hpush, h.mem, hlen]
        unfold New
        rw [hpair, ht, taken_app hs]
        constructor
        · rintro (rfl | ⟨h1, h2 | ⟨h2, h3⟩⟩)
          · exact ⟨hpt, .inr ⟨.inr rfl, fun q => hnt (q.mono hs)⟩⟩
          · exact ⟨h1, .inl h2⟩
          · exact ⟨h1, .inr ⟨.inl h2, h3⟩⟩
        · rintro ⟨h1, h2 | ⟨h2 | h2, h3⟩⟩
          · exact .inr ⟨h1, .inl h2⟩
          · exact .inr ⟨h1, .inr ⟨h2, h3⟩⟩
          · left
            refine Prod.ext ?_ h2
            rw [h1.2.2.2, h2]; exact (stp_app htr.1 htr.2).symm
      · dsimp only
        have hp := (hpush_perm st.waiting (stp (st.letters ++ [L]) t, t)).filter fun p => !(st.void ++ [t]).contains p.2
        rw [hp.nodup_iff, List.filter_cons, if_neg (by simp)]
        refine (List.Sublist.nodup ?_ h.nd)
        have : (st.waiting.filter fun p => !(st.void ++ [t]).contains p.2) = (st.waiting.filter fun p => !st.void.contains p.2).filter fun p => !(st.void ++ [t]).contains p.2 := by
          rw [List.filter_filter]
          refine List.filter_congr fun p _ => ?_
          by_cases q : p.2 ∈ st.void <;> simp [q]
        rw [this]
        exact List.filter_sublist
    · rename_i hc
      have ht : ∀ j, Taken (st.letters ++ [L]) (st.letters.length + 1) j ↔ Taken st.letters st.letters.length j := fun j => by
        rw [taken_snoc]
        constructor
        · rintro (h' | ⟨h1, _, rfl, h4⟩)
          · exact h'
          · refine Classical.byContradiction fun q => hc ?_
            have hnv : L.1.fmod st.letters.length ∉ st.void := fun hv => q ((h.void _).mp hv)
            simp only [Bool.and_eq_true, decide_eq_true_eq, beq_iff_eq, Bool.not_eq_true', ← Bool.not_eq_true, List.contains_iff_mem]
            exact ⟨by omega, h4, hnv⟩
        · exact .inl
      refine ⟨by rw [hlen]; omega, h.d, h.v, fun j => ?_, h.heap, fun p => ?_, h.nd⟩
      · dsimp only
        rw [hlen, ht]; exact h.void j
      · dsimp only
        rw [h.mem, hlen]
        unfold New
        rw [hpair, ht, taken_app hs]
end
section
theorem leP_anti {a b : P2} (h1 : leP a b) (h2 : leP b a) : a = b := by
  rw [leP_iff] at h1 h2
  rcases h1 with h | ⟨e, h⟩ <;> rcases h2 with q | ⟨f, q⟩
  · exact absurd q (Int.lt_asymm h)
  · exact absurd f.symm (Int.ne_of_lt h)
  · exact absurd e.symm (Int.ne_of_lt q)
  · exact Prod.ext e (Int.le_antisymm h q)
theorem leP_or (a b : P2) : leP a b ∨ plt b a = true := by
  unfold leP
  cases h : plt b a
  · exact .inl rfl
  · exact .inr rfl
theorem plt_le {a b d : P2} (h1 : plt a b = true) (h2 : leP b d) : plt a d = true := by
  rw [plt_iff] at *; rw [leP_iff] at h2
  rcases h1 with h | ⟨e, h⟩ <;> rcases h2 with q | ⟨e2, q⟩
  · exact .inl (Int.lt_trans h q)
  · exact .inl (by rw [← e2]; exact h)
  · exact .inl (by rw [e]; exact q)
  · exact .inr ⟨e.trans e2, Int.lt_of_lt_of_le h q⟩
theorem le_plt {a b d : P2} (h1 : leP a b) (h2 : plt b d = true) : plt a d = true := by
  rw [plt_iff] at *; rw [leP_iff] at h1
  rcases h1 with h | ⟨e, h⟩ <;> rcases h2 with q | ⟨e2, q⟩
  · exact .inl (Int.lt_trans h q)
  · exact .inl (by rw [← e2]; exact h)
  · exact .inl (by rw [e]; exact q)
  · exact .inr ⟨e.trans e2, Int.lt_of_le_of_lt h q⟩
theorem top_mem {w : List P2} (h : w ≠ []) : gP w 0 ∈ w := by
  cases w with
  | nil => exact absurd rfl h
  | cons a w => exact .head _
theorem top_le {w : List P2} (h : Heap' w) {p : P2} (hp : p ∈ w) : leP (gP w 0) p := by
  obtain ⟨i, hi, e⟩ := List.getElem_of_mem hp
  have := heap_min h i hi
  have e2 : gP w i = p := by unfold gP; rw [List.getD_eq_getElem?_getD, List.getElem?_eq_getElem hi]; exact e
  rw [e2] at this; exact this
theorem top_eq {w : List P2} (h : Heap' w) {m : P2} (hm : m ∈ w) (hl : ∀ p ∈ w, leP m p) : gP w 0 = m :=
  leP_anti (top_le h hm) (hl _ (top_mem (List.ne_nil_of_mem hm)))
theorem fm_mod' (x : Int) : x.fmod 2 = x % 2 := Int.fmod_eq_emod_of_nonneg _ (by decide)
noncomputable def foldV (ls : List Letter) (v : Int) (d : List P2) : Int := d.foldl (fun v p => reV ls v p.2) v
noncomputable abbrev Srt (d : List P2) : Prop := d.Pairwise fun x y => plt x y = true
theorem foldV_range (ls : List Letter) (v : Int) (hv : 0 ≤ v ∧ v < 256) (d : List P2) : 0 ≤ foldV ls v d ∧ foldV ls v d < 256 := by
  induction d generalizing v with
  | nil => exact hv
  | cons p d ih => exact ih _ (fmod_range _ (by decide))
theorem foldV_snoc (ls : List Letter) (v : Int) (d : List P2) (p : P2) : foldV ls v (d ++ [p]) = reV ls (foldV ls v d) p.2 := by unfold foldV; rw [List.foldl_append]; rfl
theorem unB_ok : ∀ f : Nat, f < 256 → f % 2 = 1 → ((f : Int) * unB (f : Int)) % 256 = 1 := by decide +kernel
theorem un_re {ls : List Letter} {v p : Int} (hv : 0 ≤ v ∧ v < 256) (hf : 0 ≤ fac ls p ∧ fac ls p < 256) (ho : (fac ls p).fmod 2 = 1) : unV ls (reV ls v p) p = v := by
  have h1 : (fac ls p * unB (fac ls p)) % 256 = 1 := by
    have := unB_ok (fac ls p).toNat ((Int.toNat_lt hf.1).mpr hf.2) (Int.ofNat.inj ((congrArg (· % 2) (Int.toNat_of_nonneg hf.1)).trans ((fm_mod' _).symm.trans ho)))
    rw [Int.toNat_of_nonneg hf.1] at this; exact this
  unfold unV reV
  generalize unB (fac ls p) = u at *
  generalize fac ls p = f at *
  generalize smd ls p = s at *
  rw [Int.fmod_eq_emod_of_nonneg _ (by decide), Int.fmod_eq_emod_of_nonneg _ (by decide)]
  have h2 : ((v * f + s) % 256 - s) * u % 256 = (v * (f * u)) % 256 := by
    rw [Int.mul_emod, Int.emod_sub_emod, ← Int.mul_emod]
    congr 1
    rw [Int.add_sub_cancel, Int.mul_assoc]
  rw [h2, Int.mul_emod, h1, Int.mul_one, Int.emod_emod, Int.emod_eq_of_lt hv.1 hv.2]
theorem undoM_spec {ls : List Letter} {v0 : Int} {m : P2} (hv0 : 0 ≤ v0 ∧ v0 < 256) (n : Nat) : ∀ (v u : Int) (d w : List P2), n = d.length → Srt d → Heap' w → m ∈ w → (∀ p ∈ w, leP m p) →
    (∀ p ∈ d, (0 ≤ fac ls p.2 ∧ fac ls p.2 < 256) ∧ (fac ls p.2).fmod 2 = 1) → v = foldV ls v0 d →
    ∃ d' e w', undoM ls n v u d w = (foldV ls v0 d', u + e.length, d', w') ∧ d = d' ++ e ∧ Heap' w' ∧ w'.Perm (w ++ e) ∧ (∀ p ∈ e, leP m p) ∧ ∀ p ∈ d', plt p m = true := by
  induction n with
  | zero =>
    intro v u d w hn hd hh hm hl hf hv
    have : d = [] := List.length_eq_zero_iff.mp hn.symm
    subst this
    refine ⟨[], [], w, ?_, rfl, hh, by simp, (fun p hp => by cases hp), fun p hp => by cases hp⟩
    rw [hv]; show (_, _, _, _) = _; simp
  | succ n ih =>
    intro v u d w hn hd hh hm hl hf hv
    have hne : d ≠ [] := by rintro rfl; cases hn
    obtain ⟨d1, x, rfl⟩ : ∃ d1 x, d = d1 ++ [x] := ⟨_, _, (List.dropLast_concat_getLast hne).symm⟩
    have hlast : lastP (d1 ++ [x]) = x := by unfold lastP gP; simp
    have htop : gP w 0 = m := top_eq hh hm hl
    have hwe : w.isEmpty = false := by cases w with | nil => cases hm | cons _ _ => rfl
    have hx := hf x (by simp)
    have hs := List.pairwise_append.mp hd
    unfold undoM
    rw [hlast, htop, hwe]
    rcases leP_or m x with q | q
    · have : plt x m = false := q
      rw [this]
      simp only [Bool.not_false, Bool.and_self, if_true]
      have hdl : (d1 ++ [x]).dropLast = d1 := by simp
      rw [hdl]
      have hv1 : unV ls v x.2 = foldV ls v0 d1 := by
        rw [hv, foldV_snoc]; exact un_re (foldV_range ls v0 hv0 d1) hx.1 hx.2
      obtain ⟨d', e, w', h1, h2, h3, h4, h5, h6⟩ := ih (unV ls v x.2) (u + 1) d1 (hpush w x) (by rw [List.length_append] at hn; exact Nat.succ.inj hn) hs.1 (hpush_heap hh) (mem_hpush.mpr (.inr hm)) (fun p hp => by
        rcases mem_hpush.mp hp with rfl | hp
        · exact q
        · exact hl p hp) (fun p hp => hf p (by simp [hp])) hv1
      refine ⟨d', e ++ [x], w', ?_, by rw [h2, List.append_assoc], h3, ?_, ?_, h6⟩
      · rw [h1, List.length_append, Int.add_assoc, Int.add_comm 1]; rfl
      · refine h4.trans (((hpush_perm w x).append_right e).trans ?_)
        rw [← List.append_assoc]
        exact (List.perm_append_singleton x (w ++ e)).symm
      · intro p hp
        rcases List.mem_append.mp hp with hp | hp
        · exact h5 p hp
        · simp at hp; subst hp; exact q
    · rw [q]
      simp only [Bool.not_true, Bool.and_false, Bool.false_eq_true, if_false]
      refine ⟨d1 ++ [x], [], w, by rw [hv]; simp, by simp, hh, by simp, (fun p hp => by cases hp), fun p hp => ?_⟩
      rcases List.mem_append.mp hp with hp | hp
      · exact plt_le (hs.2.2 p hp x (.head _)) (leP_of q)
      · simp at hp; subst hp; exact q
theorem redoM_spec {ls : List Letter} {void : List Int} (n : Nat) : ∀ (v : Int) (d w : List P2), n = w.length → Heap' w →
    ∃ r, redoM ls void n v d w = (foldV ls v r, d ++ r) ∧ r.Perm (w.filter fun p => !void.contains p.2) ∧ r.Pairwise leP := by
  induction n with
  | zero =>
    intro v d w hn hh
    have : w = [] := List.length_eq_zero_iff.mp hn.symm
    subst this
    exact ⟨[], by simp [redoM, foldV], by simp, .nil⟩
  | succ n ih =>
    intro v d w hn hh
    have hne : w ≠ [] := by rintro rfl; cases hn
    obtain ⟨h1, h2, h3⟩ := hpop_ok hne hh
    have hl := hpop_len hne
    have hpf := h1.filter fun p => !void.contains p.2
    unfold redoM
    split
    · rename_i q
      obtain ⟨r, a1, a2, a3⟩ := ih v d (hpop w).2 (Nat.succ.inj (hn.trans hl.symm)) h2
      refine ⟨r, a1, a2.trans ?_, a3⟩
      rw [List.filter_cons, if_neg (by rw [q]; decide)] at hpf
      exact hpf
    · rename_i q
      obtain ⟨r, a1, a2, a3⟩ := ih (reV ls v (hpop w).1.2) (d ++ [(hpop w).1]) (hpop w).2 (Nat.succ.inj (hn.trans hl.symm)) h2
      refine ⟨(hpop w).1 :: r, by rw [a1]; simp [foldV], ?_, ?_⟩
      · rw [List.filter_cons, if_pos (by simpa using q)] at hpf
        exact (a2.cons _).trans hpf
      · refine List.pairwise_cons.mpr ⟨fun p hp => ?_, a3⟩
        rw [h3]
        exact top_le hh (h1.mem_iff.mp (.tail _ (List.mem_filter.mp (a2.mem_iff.mp hp)).1))
end
section
theorem minP_ok : ∀ (k : Nat) (l : List P2), l.length = k + 1 → minP l ∈ l ∧ ∀ x ∈ l, leP (minP l) x
  | 0, l, h => by
    match l, h with
    | [a], _ => exact ⟨.head _, fun x hx => by simp at hx; subst hx; exact leP_rfl _⟩
  | k + 1, l, h => by
    have hne : l ≠ [] := by rintro rfl; cases h
    obtain ⟨l1, x, rfl⟩ : ∃ l1 x, l = l1 ++ [x] := ⟨_, _, (List.dropLast_concat_getLast hne).symm⟩
    have h1 : l1.length = k + 1 := by simp at h; exact h
    obtain ⟨a1, a2⟩ := minP_ok k l1 h1
    rw [minP_snoc x (by rintro rfl; cases h1)]
    split
    · rename_i q
      refine ⟨by simp, fun y hy => ?_⟩
      rcases List.mem_append.mp hy with hy | hy
      · exact leP_of (plt_le q (a2 y hy))
      · simp at hy; subst hy; exact leP_rfl _
    · rename_i q
      refine ⟨List.mem_append_left _ a1, fun y hy => ?_⟩
      rcases List.mem_append.mp hy with hy | hy
      · exact a2 y hy
      · simp at hy; subst hy
        unfold leP; simpa using q
theorem minP_eq {l : List P2} {m : P2} (hm : m ∈ l) (hl : ∀ x ∈ l, leP m x) : minP l = m := by
  have hne : l ≠ [] := List.ne_nil_of_mem hm
  have h0 := List.length_pos_iff.mpr hne
  obtain ⟨a1, a2⟩ := minP_ok (l.length - 1) l (by omega)
  exact leP_anti (a2 _ hm) (hl _ a1)
theorem wordM_letters (st : WS) (L : Letter) : (wordM st L).letters = st.letters ++ [L] := by
  unfold wordM
  split
  · rfl
  · split <;> rfl
theorem afterWords_letters : ∀ (Ls : List Letter) (st : WS), (afterWords st Ls).letters = st.letters ++ Ls
  | [], st => by simp [afterWords]
  | L :: Ls, st => by
    show (afterWords (wordM st L) Ls).letters = _
    rw [afterWords_letters Ls, wordM_letters]; simp
theorem Mid.words {d0 : List P2} {v0 : Int} {s : Nat} : ∀ (Ls : List Letter) {st : WS}, Mid d0 v0 s st → Mid d0 v0 s (afterWords st Ls)
  | [], st, h => h
  | L :: Ls, st, h => Mid.words Ls (h.word L)
structure Inv (st : WS) : Prop where
  wait : st.waiting = []
  srt : Srt st.done
  mem : ∀ p, p ∈ st.done ↔ Pair st.letters st.letters.length p ∧ ¬ Taken st.letters st.letters.length p.2
  void : ∀ j, j ∈ st.void ↔ Taken st.letters st.letters.length j
  v : st.value = foldV st.letters 1 st.done
theorem Inv.zero : Inv ws0 := by
  refine ⟨rfl, .nil, fun p => ⟨fun h => ?_, fun h => ?_⟩, fun j => ⟨fun h => ?_, fun h => ?_⟩, rfl⟩
  · cases h
  · have h1 := h.1.1
    have h2 := h.1.2.1
    simp only [ws0, List.length_nil] at h2
    omega
  · cases h
  · have h2 := h.lt
    simp only [ws0, List.length_nil] at h2
    omega
theorem Inv.mid {st : WS} (h : Inv st) : Mid st.done st.value st.letters.length st := by
  refine ⟨Nat.le_refl _, rfl, rfl, h.void, ?_, fun p => ?_, ?_⟩
  · rw [h.wait]; intro i hi hl; simp at hl
  · rw [h.wait]
    refine ⟨fun hp => by (cases hp), fun ⟨h1, h2⟩ => ?_⟩
    rcases h2 with h2 | ⟨h2, h3⟩
    · have := h1.2.1; omega
    · exact absurd h2 h3
  · rw [h.wait]; simp
theorem pair_app {ls l2 : List Letter} {s : Nat} {p : P2} (hs : s ≤ ls.length) : Pair (ls ++ l2) s p ↔ Pair ls s p := by
  unfold Pair
  refine and_congr_right fun h1 => and_congr_right fun h2 => ?_
  rw [fac_app h1 (by omega), stp_app h1 (by omega)]
theorem foldV_app {ls l2 : List Letter} : ∀ (d : List P2) (v : Int), (∀ p ∈ d, 0 ≤ p.2 ∧ p.2 < ls.length) → foldV (ls ++ l2) v d = foldV ls v d
  | [], v, _ => rfl
  | p :: d, v, h => by
    have hp := h p (.head _)
    show foldV (ls ++ l2) (reV (ls ++ l2) v p.2) d = foldV ls (reV ls v p.2) d
    have : reV (ls ++ l2) v p.2 = reV ls v p.2 := by unfold reV; rw [fac_app hp.1 hp.2, smd_app hp.1 hp.2]
    rw [this]
    exact foldV_app d _ fun q hq => h q (.tail _ hq)
theorem told_aux (ls : List Letter) : ∀ (d : List P2) (v : Int), foldV ls v d % 256 = ((d.foldr (fun p vb => toldStep ls vb p) (0, 1)).1 + v * (d.foldr (fun p vb => toldStep ls vb p) (0, 1)).2) % 256
  | [], v => by show v % 256 = (0 + v * 1) % 256; rw [Int.mul_one, Int.zero_add]
  | p :: d, v => by
    show foldV ls (reV ls v p.2) d % 256 = _
    rw [told_aux ls d, List.foldr_cons]
    generalize (d.foldr (fun p vb => toldStep ls vb p) (0, 1)) = T
    unfold toldStep reV
    dsimp only
    rw [Int.fmod_eq_emod_of_nonneg _ (by decide), Int.add_emod, Int.mul_emod, Int.emod_emod, ← Int.mul_emod, ← Int.add_emod]
    congr 1
    rw [Int.add_mul, Int.add_assoc, Int.mul_assoc v, Int.mul_comm (fac ls p.2) T.2, Int.add_comm (smd ls p.2 * T.2)]
theorem toldV_ok (ls : List Letter) (d : List P2) : ((toldV ls d).1 + (toldV ls d).2).fmod 256 = foldV ls 1 d := by
  unfold toldV
  rw [List.foldl_reverse, Int.fmod_eq_emod_of_nonneg _ (by decide)]
  have h := told_aux ls d 1
  rw [Int.one_mul] at h
  have hr := foldV_range ls 1 (by decide) d
  rw [Int.emod_eq_of_lt hr.1 hr.2] at h
  exact h.symm
theorem Srt.nodup {d : List P2} (h : Srt d) : d.Nodup := by
  unfold List.Nodup
  refine List.Pairwise.imp (fun {a b} hab => ?_) h
  rintro rfl; rw [plt_ir] at hab; cases hab
theorem Srt.eq {d e : List P2} (h1 : Srt d) (h2 : Srt e) (hm : ∀ p, p ∈ d ↔ p ∈ e) : d = e := by
  have hp := (List.perm_ext_iff_of_nodup h1.nodup h2.nodup).mpr hm
  refine List.Perm.eq_of_pairwise (le := fun x y => plt x y = true) (fun a b _ _ hab hba => ?_) h1 h2 hp
  exact leP_anti (leP_of hab) (leP_of hba)
theorem Srt.of_le : ∀ {d : List P2}, d.Nodup → d.Pairwise leP → Srt d
  | [], _, _ => .nil
  | a :: d, hn, hl => by
    rw [List.nodup_cons] at hn
    rw [List.pairwise_cons] at hl
    refine List.pairwise_cons.mpr ⟨fun b hb => ?_, Srt.of_le hn.2 hl.2⟩
    have h1 := hl.1 b hb
    rcases leP_or b a with q | q
    · have := leP_anti h1 q; subst this; exact absurd hb hn.1
    · exact q
/-- one delivery: what the law tells -/
structure Entry' (ls : List Letter) (s : Nat) (st : WS) : Prop where
  srt : Srt (redoOf st).2
  mem : ∀ p, p ∈ (redoOf st).2 ↔ Pair ls ls.length p ∧ ¬ Taken ls ls.length p.2
  v : (redoOf st).1 = foldV ls 1 (redoOf st).2
  u : (undoOf st).2.1 = ((undoneM ls ls.length s).length : Int)
theorem mem_undoneM {ls : List Letter} {n s : Nat} {p : P2} : p ∈ undoneM ls n s ↔ Pair ls n p ∧ p.2 < (s : Int) ∧ ¬ Taken ls s p.2 ∧ newM ls n s ≠ [] ∧ plt p (minP (newM ls n s)) = false := by
  unfold undoneM
  rw [List.mem_filter, mem_pairsM, Bool.and_eq_true, decide_eq_true_eq, Bool.and_eq_true, cont_taken', Bool.and_eq_true]
  refine and_congr_right fun _ => and_congr_right fun _ => and_congr_right fun _ => ?_
  cases newM ls n s <;> simp
theorem undoneM_nodup (ls : List Letter) (n s : Nat) : (undoneM ls n s).Nodup := List.filter_sublist.nodup (pairsM_nodup ls n)
theorem entry_ok {st : WS} (h : Inv st) (Ls : List Letter) (hL : ∀ L ∈ Ls, 0 ≤ L.2.1 ∧ L.2.1 < 256) (h0 : ∀ L ∈ st.letters, 0 ≤ L.2.1 ∧ L.2.1 < 256) : Entry' (st.letters ++ Ls) st.letters.length (afterWords st Ls) := by
  have hm := h.mid.words Ls
  have hls := afterWords_letters Ls st
  generalize afterWords st Ls = st' at hm hls
  obtain ⟨m1, m2, m3, m4, m5, m6, m7⟩ := hm
  rw [hls] at m1 m4 m6
  have hb : ∀ L ∈ st.letters ++ Ls, 0 ≤ L.2.1 ∧ L.2.1 < 256 := fun L hL' => by
    rcases List.mem_append.mp hL' with q | q
    · exact h0 L q
    · exact hL L q
  have hfac : ∀ j : Int, 0 ≤ fac (st.letters ++ Ls) j ∧ fac (st.letters ++ Ls) j < 256 := fun j => by
    unfold fac
    rw [List.getD_eq_getElem?_getD]
    cases hq : (st.letters ++ Ls)[j.toNat]? with
    | none => exact ⟨by decide, by decide⟩
    | some L => exact hb L (List.mem_of_getElem? hq)
  have hd0 : ∀ p, p ∈ st.done ↔ Pair (st.letters ++ Ls) st.letters.length p ∧ ¬ Taken (st.letters ++ Ls) st.letters.length p.2 := fun p => by
    rw [h.mem, pair_app (Nat.le_refl _), taken_app (Nat.le_refl _)]
  have hv0 : st.value = foldV (st.letters ++ Ls) 1 st.done := by
    rw [h.v, foldV_app _ _ fun p hp => ⟨((h.mem p).mp hp).1.1, ((h.mem p).mp hp).1.2.1⟩]
  have hsrt := h.srt
  generalize st.letters.length = s at *
  generalize st.letters ++ Ls = ls at *
  have hvd : ∀ j, st'.void.contains j = true ↔ Taken ls ls.length j := fun j => by rw [List.contains_iff_mem, m4]
  have hvd' : ∀ j, (!st'.void.contains j) = true ↔ ¬ Taken ls ls.length j := fun j => by rw [Bool.not_eq_true', ← Bool.not_eq_true, hvd]
  have hpm : ∀ p, Pair ls s p → Pair ls ls.length p := fun p ⟨a, b, c', d⟩ => ⟨a, by omega, c', d⟩
  by_cases hw : st'.waiting = []
  · have hu : undoOf st' = (st.value, 0, st.done, []) := by
      unfold undoOf
      rw [m2, m3, hw]
      cases hq : st.done.length with
      | zero => rfl
      | succ n => unfold undoM; rfl
    have hr : redoOf st' = (st.value, st.done) := by unfold redoOf; rw [hu]; rfl
    have hnew : ∀ p, ¬ New ls ls.length s p := fun p hp => by
      have := (m6 p).mpr hp
      rw [hw] at this; cases this
    refine ⟨by rw [hr]; exact hsrt, fun p => ?_, by rw [hr]; exact hv0, ?_⟩
    · rw [hr]
      show p ∈ st.done ↔ _
      rw [hd0]
      constructor
      · rintro ⟨h1, h2⟩
        exact ⟨hpm p h1, fun q => hnew p ⟨hpm p h1, .inr ⟨q, h2⟩⟩⟩
      · rintro ⟨h1, h2⟩
        have : p.2 < (s : Int) := Classical.byContradiction fun q => hnew p ⟨h1, .inl (by omega)⟩
        exact ⟨⟨h1.1, this, h1.2.2⟩, fun q => h2 (q.mono m1)⟩
    · rw [hu]
      have : undoneM ls ls.length s = [] := by
        rw [List.eq_nil_iff_forall_not_mem]
        intro p hp
        have hn := (mem_undoneM.mp hp).2.2.2.1
        obtain ⟨q, hq⟩ := List.exists_mem_of_ne_nil _ hn
        exact hnew q (mem_newM.mp hq)
      rw [this]; rfl
  · have hmm := top_mem hw
    have hml : ∀ p ∈ st'.waiting, leP (gP st'.waiting 0) p := fun p hp => top_le m5 hp
    obtain ⟨d', e, w', u1, u2, u3, u4, u5, u6⟩ := undoM_spec (ls := ls) (v0 := 1) (m := gP st'.waiting 0) (by decide) st'.done.length st'.value 0 st'.done st'.waiting rfl (by rw [m2]; exact hsrt) m5 hmm hml (fun p hp => by
      rw [m2, hd0] at hp
      exact ⟨hfac _, hp.1.2.2.1⟩) (by rw [m3, m2]; exact hv0)
    have hmin : minP (newM ls ls.length s) = gP st'.waiting 0 := minP_eq (mem_newM.mpr ((m6 _).mp hmm)) fun x hx => hml x ((m6 x).mpr (mem_newM.mp hx))
    have hne : newM ls ls.length s ≠ [] := List.ne_nil_of_mem (mem_newM.mpr ((m6 _).mp hmm))
    have hu : undoOf st' = (foldV ls 1 d', 0 + (e.length : Int), d', w') := by unfold undoOf; rw [hls]; exact u1
    obtain ⟨r, r1, r2, r3⟩ := redoM_spec (ls := ls) (void := st'.void) w'.length (foldV ls 1 d') d' w' rfl u3
    have hr : redoOf st' = (foldV ls (foldV ls 1 d') r, d' ++ r) := by unfold redoOf; rw [hu, hls]; exact r1
    rw [m2] at u2
    generalize gP st'.waiting 0 = m at *
    have hde := hsrt
    rw [u2] at hde
    obtain ⟨s1, s2, s3⟩ := List.pairwise_append.mp hde
    have hed : ∀ p ∈ e, Pair ls s p ∧ ¬ Taken ls s p.2 := fun p hp => (hd0 p).mp (by rw [u2]; exact List.mem_append_right _ hp)
    have hdd : ∀ p ∈ d', Pair ls s p ∧ ¬ Taken ls s p.2 := fun p hp => (hd0 p).mp (by rw [u2]; exact List.mem_append_left _ hp)
    have hrm : ∀ p, p ∈ r ↔ (p ∈ st'.waiting ∨ p ∈ e) ∧ ¬ Taken ls ls.length p.2 := fun p => by
      rw [r2.mem_iff, List.mem_filter, u4.mem_iff, List.mem_append, hvd']
    have hrl : ∀ p ∈ r, leP m p := fun p hp => by
      rcases ((hrm p).mp hp).1 with q | q
      · exact hml p q
      · exact u5 p q
    have hnd : r.Nodup := by
      have e1 : (w'.filter fun p => !st'.void.contains p.2).Nodup := by
        rw [(u4.filter _).nodup_iff, List.filter_append, List.nodup_append]
        refine ⟨m7, (List.filter_sublist.nodup (Srt.nodup s2)), fun a ha b hb hab => ?_⟩
        subst hab
        rw [List.mem_filter, hvd', m6] at ha
        rw [List.mem_filter] at hb
        have := (hed a hb.1).1.2.1
        rcases ha.1.2 with q | q
        · omega
        · exact ha.2 q.1
      exact r2.nodup_iff.mpr e1
    refine ⟨?_, fun p => ?_, ?_, ?_⟩
    · rw [hr]
      exact List.pairwise_append.mpr ⟨s1, Srt.of_le hnd r3, fun a ha b hb => plt_le (u6 a ha) (hrl b hb)⟩
    · rw [hr]
      show p ∈ d' ++ r ↔ _
      rw [List.mem_append, hrm]
      constructor
      · rintro (q | ⟨q | q, q2⟩)
        · have hp := hdd p q
          refine ⟨hpm p hp.1, fun ht => ?_⟩
          have hw' := (m6 p).mpr ⟨hpm p hp.1, .inr ⟨ht, hp.2⟩⟩
          have := plt_le (u6 p q) (hml p hw')
          rw [plt_ir] at this; cases this
        · exact ⟨((m6 p).mp q).1, q2⟩
        · exact ⟨hpm p (hed p q).1, q2⟩
      · rintro ⟨h1, h2⟩
        by_cases q : p.2 < (s : Int)
        · have := (hd0 p).mpr ⟨⟨h1.1, q, h1.2.2⟩, fun q => h2 (q.mono m1)⟩
          rw [u2] at this
          rcases List.mem_append.mp this with q | q
          · exact .inl q
          · exact .inr ⟨.inr q, h2⟩
        · exact .inr ⟨.inl ((m6 p).mpr ⟨h1, .inl (by omega)⟩), h2⟩
    · rw [hr]
      show foldV ls (foldV ls 1 d') r = foldV ls 1 (d' ++ r)
      unfold foldV; rw [List.foldl_append]
    · rw [hu]
      show (0 : Int) + e.length = _
      have hp : e.Perm (undoneM ls ls.length s) := by
        refine (List.perm_ext_iff_of_nodup (Srt.nodup s2) (undoneM_nodup ls ls.length s)).mpr fun p => ?_
        rw [mem_undoneM, hmin]
        constructor
        · intro hp
          exact ⟨hpm p (hed p hp).1, (hed p hp).1.2.1, (hed p hp).2, hne, u5 p hp⟩
        · rintro ⟨a1, a2, a3, _, a5⟩
          have := (hd0 p).mpr ⟨⟨a1.1, a2, a1.2.2⟩, a3⟩
          rw [u2] at this
          rcases List.mem_append.mp this with q | q
          · have := u6 p q; rw [a5] at this; cases this
          · exact q
      rw [hp.length_eq, Int.zero_add]
theorem Inv.settle {st : WS} {ls : List Letter} {s : Nat} (h : Entry' ls s st) (hls : st.letters = ls) (hv : ∀ j, j ∈ st.void ↔ Taken ls ls.length j) : Inv (settle st) := by
  subst hls
  exact ⟨rfl, h.srt, h.mem, hv, h.v⟩
theorem mem_span0 {n : Nat} {j : Int} (h : j ∈ span 0 n) : 0 ≤ j ∧ j < n := mem_span.mp h
theorem pairsM_app {ls l2 : List Letter} {n : Nat} (hn : n ≤ ls.length) : pairsM (ls ++ l2) n = pairsM ls n := by
  unfold pairsM
  have e : (span 0 n).filter (fun j => (fac (ls ++ l2) j).fmod 2 == 1) = (span 0 n).filter fun j => (fac ls j).fmod 2 == 1 :=
    List.filter_congr fun j hj => by have := mem_span0 hj; rw [fac_app this.1 (by omega)]
  rw [e]
  refine List.map_congr_left fun j hj => ?_
  have := mem_span0 (List.mem_filter.mp hj).1
  rw [stp_app this.1 (by omega)]
theorem cont_app {ls l2 : List Letter} {n : Nat} (hn : n ≤ ls.length) (j : Int) : (takenM (ls ++ l2) n).contains j = (takenM ls n).contains j := by
  rw [Bool.eq_iff_iff, cont_taken, cont_taken, taken_app hn]
theorem newM_app {ls l2 : List Letter} {n s : Nat} (hn : n ≤ ls.length) (hs : s ≤ ls.length) : newM (ls ++ l2) n s = newM ls n s := by
  unfold newM
  rw [pairsM_app hn]
  refine List.filter_congr fun p _ => ?_
  rw [cont_app hn, cont_app hs]
theorem undoneM_app {ls l2 : List Letter} {n s : Nat} (hn : n ≤ ls.length) (hs : s ≤ ls.length) : undoneM (ls ++ l2) n s = undoneM ls n s := by
  unfold undoneM
  rw [pairsM_app hn, newM_app hn hs]
  refine List.filter_congr fun p _ => ?_
  rw [cont_app hs]
/-- an entry as told -/
structure Told (ls : List Letter) (s n : Nat) (e : Entry) : Prop where
  srt : Srt e.2.2
  mem : ∀ p, p ∈ e.2.2 ↔ p ∈ dueM ls n
  v : e.1 = ((toldV ls e.2.2).1 + (toldV ls e.2.2).2).fmod 256
  u : e.2.1 = ((undoneM ls n s).length : Int)
theorem Entry'.told {ls l2 : List Letter} {s : Nat} {st : WS} (h : Entry' ls s st) (hs : s ≤ ls.length) : Told (ls ++ l2) s ls.length (entryOf st) := by
  refine ⟨h.srt, fun p => ?_, ?_, ?_⟩
  · rw [mem_dueM, pair_app (Nat.le_refl _), taken_app (Nat.le_refl _)]; exact h.mem p
  · rw [toldV_ok]
    refine h.v.trans (foldV_app _ _ fun p hp => ?_).symm
    have := ((h.mem p).mp hp).1
    exact ⟨this.1, this.2.1⟩
  · rw [undoneM_app (Nat.le_refl _) hs]; exact h.u
inductive ToldL (ls : List Letter) : Nat → List Nat → List Entry → Prop
  | nil {s} : ToldL ls s [] []
  | cons {s n ns e es} : s ≤ n → Told ls s n e → ToldL ls n ns es → ToldL ls s (n :: ns) (e :: es)
theorem ToldL.len {ls s ns es} (h : ToldL ls s ns es) : ns.length = es.length := by
  induction h with
  | nil => rfl
  | cons _ _ _ ih => simp [ih]
theorem ToldL.get {ls s ns es} (h : ToldL ls s ns es) : ∀ (i n : Nat), ns[i]? = some n → ∃ e s', es[i]? = some e ∧ (s :: ns)[i]? = some s' ∧ s' ≤ n ∧ Told ls s' n e := by
  induction h with
  | nil => intro i n hi; simp at hi
  | cons h0 h1 h2 ih =>
    intro i n hi
    cases i with
    | zero => simp at hi; subst hi; exact ⟨_, _, rfl, rfl, h0, h1⟩
    | succ i =>
      simp only [List.getElem?_cons_succ] at hi
      obtain ⟨e, s', a1, a2, a3⟩ := ih i n hi
      exact ⟨e, s', by simpa using a1, by simpa using a2, a3⟩
theorem run_told : ∀ (rows : List (List Letter)) (st : WS), Inv st → (∀ L ∈ st.letters, 0 ≤ L.2.1 ∧ L.2.1 < 256) → (∀ Ls ∈ rows, ∀ L ∈ Ls, 0 ≤ L.2.1 ∧ L.2.1 < 256) →
    ToldL (st.letters ++ rows.flatten) st.letters.length (psums st.letters.length rows) (runM st rows)
  | [], st, _, _, _ => .nil
  | Ls :: rows, st, h, h0, hL => by
    have hE := entry_ok h Ls (hL Ls (.head _)) h0
    have hls := afterWords_letters Ls st
    have hvd := (h.mid.words Ls).void
    rw [hls] at hvd
    have hi := Inv.settle hE hls hvd
    have hb : ∀ L ∈ (settle (afterWords st Ls)).letters, 0 ≤ L.2.1 ∧ L.2.1 < 256 := fun L hL' => by
      rw [show (settle (afterWords st Ls)).letters = st.letters ++ Ls from hls] at hL'
      rcases List.mem_append.mp hL' with q | q
      · exact h0 L q
      · exact hL Ls (.head _) L q
    have ih := run_told rows _ hi hb fun M hM => hL M (.tail _ hM)
    rw [show (settle (afterWords st Ls)).letters = st.letters ++ Ls from hls] at ih
    have ht := hE.told (l2 := rows.flatten) (by simp)
    rw [List.length_append] at ih ht
    simp only [List.flatten_cons, psums, runM]
    rw [← List.append_assoc]
    exact .cons (by omega) ht ih
end
section
theorem WN.subp {α β : Type} {R : (Addr → Prop) → Heap → α → β → Prop} {c : Cx} {A : Around} {f : List Value → Sem α} {Xs : List V} {σ σ' : Led} {K : β → Led → Prop} (h : WN R c A f Xs σ' K) (hs : Sub σ' σ) : WN R c A f Xs σ K :=
  fun s Q E xs r hx k => h s Q E xs (r.subp hs) hx k
-- data of the words and of the log
noncomputable def wordsD (ws : List (List Nat)) : PyData := .list (ws.map fun w => .str (S w))
noncomputable def entD (e : Entry) : PyData := .tuple [.int e.1, .int e.2.1, .list (e.2.2.map fun p => .tuple [.int p.1, .int p.2])]
noncomputable def logD (es : List Entry) : PyData := .list (es.map entD)
theorem lay_all : ∀ (ds : List PyData), (∀ d ∈ ds, d.canLay0 = true) → PyData.canLayAll0 ds = true
  | [], _ => rfl
  | d :: ds, h => by rw [PyData.canLayAll0, h d (.head _), lay_all ds fun e he => h e (.tail _ he)]; rfl
theorem depth_all {k : Nat} : ∀ (ds : List PyData), (∀ d ∈ ds, d.depth ≤ k) → PyData.depthAll ds ≤ k
  | [], _ => by rw [PyData.depthAll]; exact Nat.zero_le _
  | d :: ds, h => by rw [PyData.depthAll]; exact Nat.max_le.mpr ⟨h d (.head _), depth_all ds fun e he => h e (.tail _ he)⟩
theorem wordsD_lay {ws : List (List Nat)} (h : ∀ w ∈ ws, ∀ k ∈ w, k < 128) : (wordsD ws).canLay0 = true := by
  unfold wordsD
  rw [PyData.canLay0]
  refine lay_all _ fun d hd => ?_
  obtain ⟨w, hw, rfl⟩ := List.mem_map.mp hd
  rw [PyData.canLay0]
  unfold PyData.strOk S
  rw [List.all_toArray, List.all_eq_true]
  intro k hk
  have := h w hw k hk
  simp; omega
theorem wordsD_depth (ws : List (List Nat)) : (wordsD ws).depth ≤ 1 := by
  unfold wordsD
  rw [PyData.depth]
  have := depth_all (k := 0) (ws.map fun w => PyData.str (S w)) (fun d hd => by
    obtain ⟨w, hw, rfl⟩ := List.mem_map.mp hd
    rw [PyData.depth]; exact Nat.le_refl _)
  omega
theorem entD_lay (e : Entry) : (entD e).canLay0 = true := by
  unfold entD
  have : PyData.canLayAll0 (e.2.2.map fun p => PyData.tuple [.int p.1, .int p.2]) = true := lay_all _ fun d hd => by
    obtain ⟨p, _, rfl⟩ := List.mem_map.mp hd
    rfl
  simp [PyData.canLay0, PyData.canLayAll0, this]
theorem entD_depth (e : Entry) : (entD e).depth ≤ 3 := by
  unfold entD
  have : PyData.depthAll (e.2.2.map fun p => PyData.tuple [.int p.1, .int p.2]) ≤ 1 := depth_all _ fun d hd => by
    obtain ⟨p, _, rfl⟩ := List.mem_map.mp hd
    simp [PyData.depth, PyData.depthAll]
  simp [PyData.depth, PyData.depthAll]
  omega
theorem logD_lay (es : List Entry) : (logD es).canLay0 = true := by
  unfold logD
  rw [PyData.canLay0]
  refine lay_all _ fun d hd => ?_
  obtain ⟨e, _, rfl⟩ := List.mem_map.mp hd
  exact entD_lay e
theorem logD_depth (es : List Entry) : (logD es).depth ≤ 4 := by
  unfold logD
  rw [PyData.depth]
  have := depth_all (k := 3) (es.map entD) (fun d hd => by
    obtain ⟨e, _, rfl⟩ := List.mem_map.mp hd
    exact entD_depth e)
  omega
theorem words_dats (σ : Led) : ∀ (ws : List (List Nat)), Dats σ (ws.map fun w => V.str (S w)) (ws.map fun w => PyData.str (S w))
  | [] => .nil
  | w :: ws => .cons (.str _) (words_dats σ ws)
theorem pairs_dats (σ : Led) : ∀ (ps : List P2), Dats σ (ps.map ptup) (ps.map fun p => PyData.tuple [.int p.1, .int p.2])
  | [] => .nil
  | p :: ps => .cons (.tup (.cons (.int _) (.cons (.int _) .nil))) (pairs_dats σ ps)
theorem log_dats {σ : Led} : ∀ (das : List Addr) (es : List Entry), das.length = es.length → (∀ x ∈ das.zip es, (x.1, AObj.list (x.2.2.2.map ptup)) ∈ σ) → Dats σ (List.zipWith entV das es) (es.map entD)
  | [], [], _, _ => .nil
  | a :: das, e :: es, hl, h => .cons (.tup (.cons (.int _) (.cons (.int _) (.cons (.list (h (a, e) (.head _)) (pairs_dats σ _)) .nil)))) (log_dats das es (by simpa using hl) fun x hx => h x (.tail _ hx))
theorem LogOk.dat {das : List Addr} {es : List Entry} {lg : List V} {dl σ : Led} {G : Addr} (h : LogOk das es lg dl) (hG : (G, AObj.list lg) ∈ σ) (hd : ∀ p ∈ dl, p ∈ σ) : Dat σ (.ref G) (logD es) :=
  .list hG (by rw [h.lg]; exact log_dats _ _ h.len fun x hx => hd _ (h.dl x hx))
theorem RowsL.mem {ra : List Addr} {rows : List (List (List Nat))} {rl : Led} (h : RowsL ra rows rl) : ∀ x ∈ ra.zip rows, (x.1, AObj.list (x.2.map fun w => V.str (S w))) ∈ rl := by
  induction h with
  | nil => intro x hx; cases hx
  | snoc h ih =>
    intro x hx
    rw [List.zip_append (by rw [h.len.1])] at hx
    rcases List.mem_append.mp hx with hx | hx
    · exact .tail _ (ih x hx)
    · simp at hx; subst hx; exact .head _
theorem RowsL.pl {ra : List Addr} {rows : List (List (List Nat))} {rl : Led} (h : RowsL ra rows rl) : ∀ p ∈ rl, ∃ xs, p.2 = AObj.list xs := by
  induction h with
  | nil => intro x hx; cases hx
  | snoc h ih =>
    intro x hx
    rcases List.mem_cons.mp hx with rfl | hx
    · exact ⟨_, rfl⟩
    · exact ih x hx
-- rows of the law's text
noncomputable def rowI (ns : List Int) : List (List Nat) := (placeI ns ns.length).2
theorem rowI_flat {ns : List Int} (h : 0 < ns.length) : (rowI ns).flatten = List.range ns.length := by
  obtain ⟨k, hk⟩ : ∃ k, ns.length = k + 1 := ⟨ns.length - 1, by omega⟩
  unfold rowI; rw [hk]; exact (placeI_ok ns k).2.1
theorem rows_eq (ns : List Int) : rowsM (tksM ns ns.length) = (rowI ns).map (List.map (wordAt ns)) := rowsM_places ns ns.length
theorem rows_flat {ns : List Int} (h : 0 < ns.length) : (rowsM (tksM ns ns.length)).flatten = writtenM ns ns.length := by
  rw [rows_eq, ← List.map_flatten, rowI_flat h]; rfl
noncomputable def rowW (ns : List Int) : List (List Wd) := (rowI ns).map (List.map (wdAt ns))
theorem rowW_fst (ns : List Int) : (rowW ns).map (fun r => r.map fun w => w.1) = rowsM (tksM ns ns.length) := by
  rw [rows_eq]; unfold rowW; rw [List.map_map]
  refine List.map_congr_left fun r _ => ?_
  show ((r.map (wdAt ns)).map fun w => w.1) = r.map (wordAt ns)
  rw [List.map_map]; rfl
noncomputable def rowL (ns : List Int) : List (List Letter) := (rowI ns).map (List.map (letAt ns))
theorem rowW_letters (ns : List Int) : (rowW ns).map (fun ws => ws.map letterW) = rowL ns := by
  unfold rowW rowL; rw [List.map_map]
  refine List.map_congr_left fun r _ => ?_
  show (r.map (wdAt ns)).map letterW = r.map (letAt ns)
  rw [List.map_map]
  exact List.map_congr_left fun k _ => letterW_wdAt ns k
theorem rowL_flat {ns : List Int} (h : 0 < ns.length) : (rowL ns).flatten = lettersM ns ns.length := by
  unfold rowL; rw [← List.map_flatten, rowI_flat h]; rfl
theorem psums_map {α β : Type} (f : α → β) : ∀ (rs : List (List α)) (s : Nat), psums s (rs.map (List.map f)) = psums s rs
  | [], s => rfl
  | r :: rs, s => by simp only [List.map_cons, psums, List.length_map, psums_map f rs]
/-- the log, as the law tells it -/
noncomputable def logM (ns : List Int) : List Entry := runM ws0 (rowL ns)
theorem log_told {ns : List Int} (h : 0 < ns.length) : ToldL (lettersM ns ns.length) 0 (psums 0 (rowI ns)) (logM ns) := by
  have := run_told (rowL ns) ws0 Inv.zero (fun L hL => by cases hL) (fun Ls hLs L hL => by
    obtain ⟨r, _, rfl⟩ := List.mem_map.mp hLs
    obtain ⟨k, _, rfl⟩ := List.mem_map.mp hL
    exact (letAt_ok ns k).2.1)
  rw [rowL_flat h] at this
  unfold rowL at this
  rw [psums_map] at this
  exact this
theorem psums_len {α : Type} : ∀ (rs : List (List α)) (s : Nat), (psums s rs).length = rs.length
  | [], s => rfl
  | r :: rs, s => by simp only [psums, List.length_cons, psums_len rs]
theorem psums_le {α : Type} : ∀ (rs : List (List α)) (s : Nat), ∀ n ∈ psums s rs, n ≤ s + rs.flatten.length
  | [], s, n, h => by cases h
  | r :: rs, s, n, h => by
    simp only [psums, List.mem_cons] at h
    simp only [List.flatten_cons, List.length_append]
    rcases h with rfl | h
    · omega
    · have := psums_le rs _ n h; omega
theorem ends_eq {ns : List Int} (h : 0 < ns.length) : endsM ns ns.length = (psums 0 (rowI ns)).map fun (k : Nat) => (k : Int) := ends_psums ns h
theorem lettersM_ok (ns : List Int) (i : Nat) : LsOk (lettersM ns i) := by
  have key : ∀ j : Nat, ∀ L, (lettersM ns i)[j]? = some L → ∃ k, L = letAt ns k := fun j L e => by
    obtain ⟨k, _, rfl⟩ := List.mem_map.mp (List.mem_of_getElem? e)
    exact ⟨k, rfl⟩
  constructor
  · intro j h0 hl
    unfold fac
    rw [List.getD_eq_getElem?_getD, List.getElem?_eq_getElem (by omega)]
    obtain ⟨k, e⟩ := key j.toNat _ (List.getElem?_eq_getElem (by omega))
    rw [Option.getD_some, e]; exact (letAt_ok ns k).2.1
  · intro j h0 hl
    unfold smd
    rw [List.getD_eq_getElem?_getD, List.getElem?_eq_getElem (by omega)]
    obtain ⟨k, e⟩ := key j.toNat _ (List.getElem?_eq_getElem (by omega))
    rw [Option.getD_some, e]; exact (letAt_ok ns k).2.2
/-- one turn of the law's last list -/
theorem turn_told {ns : List Int} (h : 0 < ns.length) {i : Nat} {a b : Int} (ha : (0 :: endsM ns ns.length)[i]? = some a) (hb : (endsM ns ns.length)[i]? = some b) :
    ∃ (s n : Nat) (e : Entry), a = s ∧ b = n ∧ s ≤ n ∧ n ≤ ns.length ∧ (logM ns)[i]? = some e ∧ Told (lettersM ns ns.length) s n e := by
  rw [ends_eq h] at ha hb
  rw [List.getElem?_map] at hb
  cases hn : (psums 0 (rowI ns))[i]? with
  | none => rw [hn] at hb; cases hb
  | some n =>
    rw [hn] at hb
    obtain ⟨e, s, h1, h2, h3, h4⟩ := (log_told h).get i n hn
    have : (0 :: List.map (fun (k : Nat) => (k : Int)) (psums 0 (rowI ns))) = (0 :: psums 0 (rowI ns)).map fun (k : Nat) => (k : Int) := rfl
    rw [this, List.getElem?_map, h2] at ha
    have hle := psums_le _ _ n (List.mem_of_getElem? hn)
    rw [rowI_flat h] at hle
    simp at ha hb hle
    exact ⟨s, n, e, ha.symm, hb.symm, h3, hle, h1, h4⟩
theorem told_due {ls : List Letter} {s n : Nat} {e : Entry} (h : Told ls s n e) {due : List P2} (hp : due.Perm (dueM ls n)) (hs : due.Pairwise fun x y => plt x y = true) : due = e.2.2 :=
  Srt.eq hs h.srt fun p => by rw [hp.mem_iff, h.mem]
end
theorem sub_n1 (f D R T e1 e2 e3 e4 : Addr × AObj) (rl : Led) : Sub (f :: e1 :: e3 :: e4 :: T :: R :: rl) (f :: D :: R :: T :: (rl ++ [e1, e2, e3, e4])) := by
  refine Sub.trans (b := f :: D :: R :: T :: e1 :: e2 :: e3 :: e4 :: rl) (by walk_at "sub") (Sub.of_perm ?_)
  exact .cons _ (.cons _ (.cons _ (.cons _ (List.perm_append_comm (l₁ := [e1, e2, e3, e4])))))
theorem sub_n2 (f G T R e1 e3 e4 : Addr × AObj) (dl rl : Led) : Sub (f :: e1 :: e3 :: e4 :: T :: G :: dl) (f :: G :: (dl ++ (e1 :: e3 :: e4 :: T :: R :: rl))) := by
  refine Sub.trans (b := f :: G :: e1 :: e3 :: e4 :: T :: R :: (rl ++ dl)) ?_ (Sub.of_perm ?_)
  · refine Sub.pick .head (Sub.pick (.tail .head) (Sub.pick (.tail .head) (Sub.pick (.tail .head) (Sub.pick (.tail .head) (Sub.pick .head (Sub.skip ⟨rl, List.perm_append_comm⟩))))))
  · exact .cons _ (.cons _ (List.perm_append_comm (l₁ := e1 :: e3 :: e4 :: T :: R :: rl)))
theorem nl_ok (ns : List Int) (i : Nat) : MulOk (Str.ofString "\n") ((numAt ns i + (i : Int)).fmod 3) ∧ Txt.mul (Str.ofString "\n") ((numAt ns i + (i : Int)).fmod 3) = S (List.replicate (nlAt ns i) 10) := by
  have h := fm_range (numAt ns i + (i : Int)) (b := 3) (by decide)
  unfold nlAt
  refine ⟨mulOk_of 1 2 (by decide) (by omega) (by omega) (by decide) (by decide), ?_⟩
  generalize (numAt ns i + (i : Int)).fmod 3 = z at h
  obtain ⟨j, rfl⟩ := Int.eq_ofNat_of_zero_le h.1
  have : j < 3 := by omega
  match j, this with
  | 0, _ => decide +kernel
  | 1, _ => decide +kernel
  | 2, _ => decide +kernel
theorem endsM_len (ns : List Int) (i : Nat) : (endsM ns i).length ≤ i := by
  unfold endsM
  rw [List.length_map]
  refine Nat.le_trans (List.length_filter_le _ _) ?_
  simp
inductive LmJ (Sc LN LW LE LL L : Addr) (ns : List Int) (ρ : List (Str × Option V)) (τ : Led) : Prop
  | mk (o1 o2 o3 : Option V) (_ : ρ = [(Str.ofString "script", some (.ref Sc)), (Str.ofString "numbers", some (.ref LN)), (Str.ofString "altchars", some (.bytes [(altM ns).1, (altM ns).2])), (Str.ofString "written", some (.ref LW)), (Str.ofString "ends", some (.ref LE)), (Str.ofString "text", some (.str (S (textM ns ns.length)))), (Str.ofString "k", o1), (Str.ofString "x", o2), (Str.ofString "letter", o3), (Str.ofString "rows", none), (Str.ofString "log", none)]) (_ : τ = (LE, .list ((endsM ns ns.length).map V.int)) :: (LW, .list ((writtenM ns ns.length).map fun w => V.str (S w))) :: (LL, .list ((lettersM ns ns.length).map ltup)) :: (L + 1, .cell (some (.ref LL))) :: (189, .obj (tabObj #[])) :: [])
inductive LfJ (Sc LN LW LE LL L : Addr) (ns : List Int) (i : Nat) (ρ : List (Str × Option V)) (τ : Led) : Prop
  | mk (o1 o2 o3 : Option V) (_ : ρ = [(Str.ofString "script", some (.ref Sc)), (Str.ofString "numbers", some (.ref LN)), (Str.ofString "altchars", some (.bytes [(altM ns).1, (altM ns).2])), (Str.ofString "written", some (.ref LW)), (Str.ofString "ends", some (.ref LE)), (Str.ofString "text", some (.str (S (textM ns i)))), (Str.ofString "k", o1), (Str.ofString "x", o2), (Str.ofString "letter", o3), (Str.ofString "rows", none), (Str.ofString "log", none)]) (_ : ∃ r, τ = (r, rangeE 0 ns.length) :: (LE, .list ((endsM ns i).map V.int)) :: (LW, .list ((writtenM ns i).map fun w => V.str (S w))) :: (LL, .list ((lettersM ns i).map ltup)) :: (L + 1, .cell (some (.ref LL))) :: (LN, .list (ns.map V.int)) :: (189, .obj (tabObj #[])) :: [])
set_option maxHeartbeats 16000000 in
theorem law_walk {c : Cx} {A : Around} {K : V → Led → Prop} {Sc : Addr} {sc : List Int} (B : BM c) (hh : A.handled = none) (hA : A.depth < 500) (hU : A.units < 6000) (hsc : sc.length ≤ 1000)
    (hS : ∀ s : Shared, (∀ b o, c.kp b o → s.heap.get? b = some o) → ∃ vs, s.heap.IsList Sc (List.toArray vs) ∧ All2 (VR c.z s.heap) vs (sc.map V.int))
    (h : ∀ ps, K (.bool true) [(189, .obj (tabObj ps))]) : WN VR c A (fun vs => call (.ref 216) vs) [.ref Sc] [(189, .obj (tabObj #[]))] K := by
  refine W_defC (names := ["script"]) [(Str.ofString "script", some (.ref Sc)), (Str.ofString "numbers", none), (Str.ofString "altchars", none), (Str.ofString "written", none), (Str.ofString "ends", none), (Str.ofString "text", none), (Str.ofString "k", none), (Str.ofString "x", none), (Str.ofString "letter", none), (Str.ofString "rows", none), (Str.ofString "log", none)]
    (fun L => [(Str.ofString "letters", L + 1)]) (fun L τ => (L + 1, .cell none) :: τ)
    (c.inK 216 _ rfl) ⟨_, _, _, c.inK 215 _ rfl, rfl, rfl⟩ (fun s vs _ => binds1 (fun _ => BindsTo.of_eq rfl) vs) rfl rfl (fun _ => rfl) (fun _ _ => rfl) (by decide +kernel) (by decide +kernel) (by decide +kernel) (cells_in ["letters"] (fun _ => rfl) (by decide +kernel)) (by omega) rfl rfl rfl ?_
  intro L A' a1 a2 a3
  repeat walk_at "gi"
  refine W_sliceUptoK ?_
  repeat walk_at "gi"
  refine ⟨Sc, sc.map V.int, 7, rfl, rfl, by decide, fun s R => hS s R.keep, by simp; omega, _, _, rfl, fun L1 => ?_⟩
  repeat walk_at "gi"
  refine W_List ?_
  repeat walk_at "gi"
  refine ⟨by simp, _, _, rfl, fun L2 => ?_⟩
  repeat walk_at "gi"
  refine' O_ladd ?h1 ?h2 ?h3 fun LN => ?_
  case h1 => walk_at "at"
  case h2 => walk_at "at"
  case h3 => simp; omega
  rw [show ((sc.map V.int).take (7 : Int).toNat ++ [V.int 13, V.int 2, V.int 24]) = (numsM sc).map V.int by simp [numsM]]
  repeat walk_at "gi"
  refine W_List ?_
  repeat walk_at "gi"
  refine ⟨by simp, _, _, rfl, fun LA => ?_⟩
  repeat walk_at "gi"
  refine B_sum (by rw [a3]; exact hh) (by walk_at "at") ?_
  repeat walk_at "gi"
  have hm5 : 0 ≤ (numsM sc).sum.fmod 5 ∧ (numsM sc).sum.fmod 5 < 5 := fmod_range _ (by decide)
  refine' O_item (X := .bytes [(altM (numsM sc)).1, (altM (numsM sc)).2]) ?ho hm5.1 (by omega) ?hx ?_
  case ho => walk_at "at"
  case hx =>
    unfold altM
    generalize (numsM sc).sum.fmod 5 = z at hm5
    obtain ⟨j, rfl⟩ := Int.eq_ofNat_of_zero_le hm5.1
    have : j < 5 := by omega
    match j, this with
    | 0, _ => rfl
    | 1, _ => rfl
    | 2, _ => rfl
    | 3, _ => rfl
    | 4, _ => rfl
  repeat walk_at "gi"
  refine W_List ?_
  repeat walk_at "gi"
  refine ⟨by simp, _, _, rfl, fun LL => ?_⟩
  repeat walk_at "gi"
  refine W_List ?_
  repeat walk_at "gi"
  refine ⟨by simp, _, _, rfl, fun LW => ?_⟩
  repeat walk_at "gi"
  refine W_List ?_
  repeat walk_at "gi"
  refine ⟨by simp, _, _, rfl, fun LE => ?_⟩
  repeat walk_at "gi"
  have hnl : (numsM sc).length ≤ 10 := by simp [numsM]; omega
  have hn0 : (numsM sc).length ≥ 3 := by simp [numsM]
  generalize hns : numsM sc = ns at *
  refine' WG.subp (σ' := _ :: (LE, _) :: (LW, _) :: (LL, _) :: (L + 1, _) :: (LN, _) :: (189, _) :: []) ?_ ?hs1
  case hs1 => walk_at "sub"
  refine WF_joinS (LmJ Sc LN LW LE LL L ns) (fun JM mM => ?_) ?_
  rotate_left
  · rintro ρ τ ⟨o1, o2, o3, rfl, rfl⟩
    repeat walk_at "gi"
    have hpos : 0 < ns.length := by omega
    have hb5 := textM_len ns ns.length
    refine' WN.subp (σ' := _ :: (189, _) :: (LE, _) :: (LW, _) :: (LL, _) :: (L + 1, _) :: []) ?_ ?hs7
    case hs7 => walk_at "sub"
    refine law_deliveries_spec B (by rw [a3]; exact hh) (by omega) (by omega) (by omega) (textM_toks ns ns.length) (by unfold tksM; simp; omega) fun Rt ra rl ps hR => ?_
    repeat walk_at "gi"
    refine W_Flat (Rt := Rt) (ra := ra) (rows := (rowsM (tksM ns ns.length)).map fun r => r.map fun w => V.str (S w))
      [(Str.ofString ".0", .local), (Str.ofString "words", .local), (Str.ofString "word", .local)] []
      (fun X => [(Str.ofString ".0", none), (Str.ofString "words", some X), (Str.ofString "word", none)]) (fun X => [(Str.ofString ".0", none), (Str.ofString "words", none), (Str.ofString "word", some X)])
      (by rw [a3]; exact hh) rfl rfl rfl (by decide +kernel) (by decide) (by decide +kernel) (fun X => .tail .head) rfl (fun X => .tail (.tail .head)) rfl ?hq1 ?hq2 ?_
    case hq1 => rw [← List.map_flatten, List.length_map, rows_flat hpos]; unfold writtenM; simp; omega
    case hq2 => rw [List.length_map]; exact hR.len.1
    repeat walk_at "gi"
    refine ⟨rfl, by walk_at "at", ?hmem, _, _, rfl, fun D => ?_⟩
    case hmem =>
      intro x hx
      rw [List.zip_map_right] at hx
      obtain ⟨y, hy, rfl⟩ := List.mem_map.mp hx
      exact List.mem_cons_of_mem _ (List.mem_cons_of_mem _ (List.mem_cons_of_mem _ (List.mem_append_left _ (hR.mem y hy))))
    rw [← List.map_flatten, rows_flat hpos]
    repeat walk_at "gi"
    have hlay : (wordsD (writtenM ns ns.length)).canLay0 = true := wordsD_lay (fun w hw k hk => by
      obtain ⟨j, _, rfl⟩ := List.mem_map.mp hw
      exact wordAt_small ns j k hk)
    have hdep := wordsD_depth (writtenM ns ns.length)
    refine C_dne (d := wordsD (writtenM ns ns.length)) (d' := wordsD (writtenM ns ns.length)) (.list (by walk_at "at") (words_dats _ _)) (.list (List.mem_cons_of_mem _ (List.mem_cons_of_mem _ (List.mem_cons_of_mem _ (List.mem_cons_of_mem _ (List.mem_append_right _ (by walk_at "at")))))) (words_dats _ _)) hlay hlay (by unfold cLine; omega) ?_
    rw [SeqAt.eqv_refl _ hlay, Bool.not_true]
    repeat walk_at "gi"
    refine WN.subp ?_ (sub_n1 _ _ _ _ _ _ _ _ _)
    have hlen2 : (rowW ns).length = (rowsM (tksM ns ns.length)).length := by rw [← rowW_fst, List.length_map]
    have hflat : (rowW ns).flatten.length = ns.length := by
      unfold rowW
      rw [← List.map_flatten, List.length_map, rowI_flat hpos, List.length_range]
    have hrl := (rows_le (tksM ns ns.length) (0, []) 0 (by simp) (by simp)).1
    have htk : (tksM ns ns.length).length = ns.length := by unfold tksM; simp
    refine law_worked_spec (Rt := Rt) (ra := ra) (rows := rowW ns) (by rw [a3]; exact hh) (by omega) (by omega) (by walk_at "at") (by rw [hlen2]; exact hR.len.1) ?hrow rfl ?hdec (by omega) (by rw [hlen2]; unfold rowsM; omega) fun G das dl lg hG => ?_
    case hrow =>
      intro x hx
      have := hR.mem (x.1, x.2.map fun w => w.1) (by
        rw [← rowW_fst, List.zip_map_right]
        exact List.mem_map.mpr ⟨x, hx, rfl⟩)
      rw [List.map_map] at this
      exact List.mem_cons_of_mem _ (List.mem_cons_of_mem _ (List.mem_cons_of_mem _ (List.mem_cons_of_mem _ (List.mem_cons_of_mem _ (List.mem_cons_of_mem _ this)))))
    case hdec =>
      intro r hr w hw
      obtain ⟨r', _, rfl⟩ := List.mem_map.mp hr
      obtain ⟨k, _, rfl⟩ := List.mem_map.mp hw
      exact DecW_wdAt ns k
    rw [rowW_letters] at hG
    replace hG : LogOk das (logM ns) lg dl := hG
    repeat walk_at "gi"
    refine WG.subp ?_ (sub_n2 _ _ _ _ _ _ _ _ _)
    have hEl := endsM_len ns ns.length
    have hEL : (endsM ns ns.length).length = (logM ns).length := by rw [ends_eq hpos, List.length_map]; exact (log_told hpos).len
    refine W_ZipComp (as := 0 :: endsM ns ns.length) (bs := endsM ns ns.length)
      [(Str.ofString ".0", .local), (Str.ofString "since", .local), (Str.ofString "until", .local), (Str.ofString "_law_told", .globalImplicit), (Str.ofString "letters", .cell)] [(Str.ofString "letters", L + 1)]
      (fun a => [(Str.ofString ".0", none), (Str.ofString "since", some (.int a)), (Str.ofString "until", none)]) (fun a b => [(Str.ofString ".0", none), (Str.ofString "since", some (.int a)), (Str.ofString "until", some (.int b))])
      (fun l1 l2 i ys τ => ∃ das2 dl2 fr, l2 = LE ∧ LogOk das2 ((logM ns).take i) ys dl2 ∧ τ = fr :: (l1, .list ((0 :: endsM ns ns.length).map V.int)) :: (LE, .list ((endsM ns ns.length).map V.int)) :: (LL, .list ((lettersM ns ns.length).map ltup)) :: (L + 1, .cell (some (.ref LL))) :: (189, .obj (tabObj ps)) :: (G, .list lg) :: (dl2 ++ dl))
      (by rw [a3]; exact hh) rfl rfl rfl (by decide +kernel) (by decide) (by decide +kernel) (fun a => .tail .head) (fun a b => .tail (.tail .head)) ?zJ (by simp) (by omega) ?zi ?zt ?zf
    case zJ =>
      rintro l1 l2 i ys τ ⟨das2, dl2, fr, rfl, hL, rfl⟩
      exact ⟨by walk_at "at", by walk_at "at"⟩
    case zi =>
      intro c'
      repeat walk_at "gi"
      refine W_List ?_
      repeat walk_at "gi"
      refine ⟨by simp, _, _, rfl, fun L0 => ?_⟩
      repeat walk_at "gi"
      refine' O_ladd ?h1z ?h2z ?h3z fun Lz => ?_
      case h1z => walk_at "at"
      case h2z => walk_at "at"
      case h3z => simp; omega
      rw [show ([V.int 0] ++ (endsM ns ns.length).map V.int) = (0 :: endsM ns ns.length).map V.int from rfl]
      repeat walk_at "gi"
      refine' WN.subp (σ' := _ :: (Lz, _) :: (LE, _) :: (LL, _) :: (L + 1, _) :: (189, _) :: (G, _) :: dl) ?_ ?hs11
      case hs11 => walk_at "sub"
      refine B_zip (by walk_at "at") (by walk_at "at") fun Z TI TO i1 i2 hkO hzI hzO => ?_
      refine ⟨Z, TI, TO, i1, i2, Lz, LE, _, _, rfl, rfl, hkO, hzI, hzO, ?_, [], [], _, rfl, LogOk.nil, rfl⟩
      intro p hp
      simp only [List.mem_cons] at hp
      rcases hp with rfl | rfl | rfl | rfl | rfl | rfl | rfl | hp
      · trivial
      · trivial
      · trivial
      · trivial
      · trivial
      · trivial
      · trivial
      · obtain ⟨xs, e⟩ := hG.pl p hp
        rw [e]; trivial
    case zt =>
      rintro c' C D' l1 l2 i a b ys τ p1 p2 p3 ha hb ⟨das2, dl2, fr, rfl, hL, rfl⟩
      obtain ⟨s0, n0, e, rfl, rfl, hs0, hn1, he, hT⟩ := turn_told hpos ha hb
      repeat walk_at "gi"
      have hll : (lettersM ns ns.length).length = ns.length := by unfold lettersM; simp
      refine law_told_spec (ls := lettersM ns ns.length) (by rw [a3]; exact hh) (by omega) (by omega) (by walk_at "at") (by omega) hs0 (by omega) (lettersM_ok ns _) fun Dd due hd1 hd2 => ?_
      have hdue := told_due hT hd1 hd2
      subst hdue
      rw [← hT.v, ← hT.u]
      have hL2 := hL.snoc Dd e
      rw [show (logM ns).take i ++ [e] = (logM ns).take (i + 1) by rw [List.take_add_one, he]; rfl] at hL2
      refine ZipT.mk' (ρ := [(Str.ofString ".0", none), (Str.ofString "since", some (.int s0)), (Str.ofString "until", some (.int n0))]) (τ := fr :: (l1, .list ((0 :: endsM ns ns.length).map V.int)) :: (l2, .list ((endsM ns ns.length).map V.int)) :: (LL, .list ((lettersM ns ns.length).map ltup)) :: (L + 1, .cell (some (.ref LL))) :: (189, .obj (tabObj ps)) :: (G, .list lg) :: (Dd, .list (e.2.2.map ptup)) :: (dl2 ++ dl)) ?_ rfl ⟨das2 ++ [Dd], (Dd, .list (e.2.2.map ptup)) :: dl2, fr, rfl, hL2, rfl⟩
      walk_at "sub"
    case zf =>
      rintro D' l1 l2 ys τ ⟨das2, dl2, fr, rfl, hL, rfl⟩
      rw [hEL, List.take_length] at hL
      refine ⟨_, _, rfl, ?_⟩
      have hly := logD_lay (logM ns)
      have hdp := logD_depth (logM ns)
      refine C_deq (d := logD (logM ns)) (d' := logD (logM ns)) (hG.dat (by walk_at "at") fun p hp => ?_) (hL.dat (by walk_at "at") fun p hp => ?_) hly hly (by unfold cLine; omega) ?_
      · exact List.mem_cons_of_mem _ (List.mem_cons_of_mem _ (List.mem_cons_of_mem _ (List.mem_cons_of_mem _ (List.mem_cons_of_mem _ (List.mem_cons_of_mem _ (List.mem_cons_of_mem _ (List.mem_cons_of_mem _ (List.mem_append_right _ hp))))))))
      · exact List.mem_cons_of_mem _ (List.mem_cons_of_mem _ (List.mem_cons_of_mem _ (List.mem_cons_of_mem _ (List.mem_cons_of_mem _ (List.mem_cons_of_mem _ (List.mem_cons_of_mem _ (List.mem_cons_of_mem _ (List.mem_append_left _ hp))))))))
      rw [SeqAt.eqv_refl _ hly]
      repeat walk_at "gi"
      refine Ret.ret' ?_ (h ps)
      exact Sub.skip (Sub.skip (Sub.skip (Sub.skip (Sub.skip (Sub.skip (Sub.pick .head ⟨_, List.Perm.refl _⟩))))))
  refine WF_For (items := (span 0 ns.length).map V.int) (need := fun _ => True)
    (LfJ Sc LN LW LE LL L ns)
    (fun _ _ _ => trivial) ?_ ?_ ?_ ?_
  · repeat walk_at "gi"
    refine B_len (by walk_at "at") (by simp; omega) ?_
    repeat walk_at "gi"
    refine B_range1 fun r => ?_
    rw [List.length_map]
    refine ⟨It_range (by rw [a3]; exact hh) (by decide) (by decide) (by omega) (by omega) (.tail _ (.head _)), _, _, rfl, none, none, none, ?_, r, rfl⟩
    rw [show Str.ofString "" = S [] by decide]
    rfl
  · intros; trivial
  · rintro JF mF i X ρ τ p hi ⟨o1, o2, o3, rfl, r, rfl⟩
    obtain ⟨k0, hk0, rfl⟩ := map_getE hi
    have hki : k0 = (i : Int) ∧ i < ns.length := by
      unfold span at hk0
      rw [List.getElem?_map] at hk0
      cases hb : (List.range ((ns.length : Int) - 0).toNat)[i]? with
      | none => rw [hb] at hk0; cases hk0
      | some m =>
        rw [hb] at hk0; cases hk0
        have h1 := List.getElem?_eq_some_iff.mp hb
        obtain ⟨h2, h3⟩ := h1
        simp at h2 h3
        subst h3
        exact ⟨by simp, h2⟩
    obtain ⟨rfl, hin⟩ := hki
    have hx0 : (ns.map V.int)[(i : Int).toNat]? = some (V.int (numAt ns i)) := by
      simp [numAt, List.getD, hin]
    repeat walk_at "gi"
    refine' O_item (X := .int (numAt ns i)) ?ho (by omega) (by omega) hx0 ?_
    case ho => walk_at "at"
    repeat walk_at "go"
    refine WF_join (fun ρ τ' => ρ = [(Str.ofString "script", some (.ref Sc)), (Str.ofString "numbers", some (.ref LN)), (Str.ofString "altchars", some (.bytes [(altM ns).1, (altM ns).2])), (Str.ofString "written", some (.ref LW)), (Str.ofString "ends", some (.ref LE)), (Str.ofString "text", some (.str (S (textM ns i)))), (Str.ofString "k", some (.int i)), (Str.ofString "x", some (.int (numAt ns i))), (Str.ofString "letter", some (ltup (letAt ns i))), (Str.ofString "rows", none), (Str.ofString "log", none)] ∧
      τ' = p :: (r, rangeE 0 ns.length) :: (LE, .list ((endsM ns i).map V.int)) :: (LW, .list ((writtenM ns i).map fun w => V.str (S w))) :: (LL, .list ((lettersM ns i).map ltup)) :: (L + 1, .cell (some (.ref LL))) :: (LN, .list (ns.map V.int)) :: (189, .obj (tabObj #[])) :: []) (fun JM mM => ?_) ?_
    · repeat walk_at "gi"
      refine O_fdiv (by decide) (fd_ok (by decide)) ?_
      repeat walk_at "gi"
      refine ⟨fun hz => ?_, fun hz => ?_⟩
      · repeat walk_at "gi"
        refine W_Tuple ?_
        repeat walk_at "gi"
        refine O_fdiv (by decide) (fd_ok (by decide)) ?_
        repeat walk_at "gi"
        refine O_fdiv (by decide) (fd_ok (by decide)) ?_
        repeat walk_at "gi"
        refine O_fdiv (by decide) (fd_ok (by decide)) ?_
        repeat walk_at "gi"
        refine ⟨[.int ((letAt ns i).1), .int (letAt ns i).2.1, .int (letAt ns i).2.2], ?_, by simp, ?_⟩
        · exact letAt_pos hz
        repeat walk_at "gi"
        exact Meet.here (mM _ _ ⟨rfl, rfl⟩)
      · repeat walk_at "gi"
        refine W_Tuple ?_
        repeat walk_at "gi"
        refine O_fdiv (by decide) (fd_ok (by decide)) ?_
        repeat walk_at "gi"
        refine O_fdiv (by decide) (fd_ok (by decide)) ?_
        repeat walk_at "gi"
        refine ⟨[.int ((letAt ns i).1), .int (letAt ns i).2.1, .int (letAt ns i).2.2], ?_, by simp, ?_⟩
        · exact letAt_neg hz
        repeat walk_at "gi"
        exact Meet.here (mM _ _ ⟨rfl, rfl⟩)
    · rintro ρ τ' ⟨rfl, rfl⟩
      repeat walk_at "gi"
      have hlo := letterM_ok i (numAt ns i)
      refine W_Meth "list.append" ?_
      repeat walk_at "gi"
      refine ⟨Meth.list (by walk_at "at") PySem.F.slot_list_append PySem.F.type_list_append, ?_⟩
      repeat walk_at "gi"
      refine' B_append ?hu ?hn ?_
      case hu => walk_at "at"
      case hn => simp [lettersM]; omega
      refine ⟨rfl, ?_⟩
      repeat walk_at "gi"
      refine W_Meth "list.append" ?_
      repeat walk_at "gi"
      refine ⟨Meth.list (by walk_at "at") PySem.F.slot_list_append PySem.F.type_list_append, ?_⟩
      repeat walk_at "gi"
      refine law_written_spec (a := (letAt ns i).1) (b := (letAt ns i).2.1) (d := (letAt ns i).2.2) (p := (altM ns).1) (q := (altM ns).2) (by rw [a3]; exact hh) (by omega) hlo.1 hlo.2.1 hlo.2.2 ?_
      rw [show writtenL (letAt ns i).1 (letAt ns i).2.1 (letAt ns i).2.2 (altM ns).1.toNat (altM ns).2.toNat = wordAt ns i from rfl]
      repeat walk_at "gi"
      refine' B_append ?hu ?hn ?_
      case hu => walk_at "at"
      case hn => simp [writtenM]; omega
      refine ⟨rfl, ?_⟩
      repeat walk_at "gi"
      refine B_bytesT (ns := [(letAt ns i).1, (letAt ns i).2.1, (letAt ns i).2.2]) (by rw [a3]; exact hh) (by intro n hn; simp at hn; rcases hn with rfl | rfl | rfl; exact hlo.1; exact hlo.2.1; exact hlo.2.2) (by simp) ?_
      repeat walk_at "gi"
      refine b64encode_spec (by rw [a3]; exact hh) (by omega) (by simp [byteL]) rfl (enc_zero ns i) ?_
      rw [enc_law]
      repeat walk_at "gi"
      refine' O_last (X := .str (S (wordAt ns i))) ?ho rfl ?hn ?hx ?_
      case ho => walk_at "at"
      case hn => simp [writtenM]; omega
      case hx => simp
      repeat walk_at "gi"
      refine law_octets_spec (by rw [a3]; exact hh) (by omega) (by have := wordAt_small ns i; simp [S]; exact this) (by simp [S, wordAt_len]) ?_
      rw [S_list]
      refine C_bne ?_
      rw [show (((wordAt ns i).map fun k => k.toUInt8) != ((wordAt ns i).map fun k => k.toUInt8)) = false by simp]
      repeat walk_at "gi"
      refine' O_last (X := .str (S (wordAt ns i))) ?ho2 rfl ?hn2 ?hx2 ?_
      case ho2 => walk_at "at"
      case hn2 => simp [writtenM]; omega
      case hx2 => simp
      repeat walk_at "gi"
      refine O_fdiv (by decide) (fd_ok (by decide)) ?_
      repeat walk_at "gi"
      refine law_spelled_spec (by rw [a3]; exact hh) (by omega) (wordAt_small ns i) (by rw [wordAt_len]; decide) ?_
      have hl1 := textM_len ns i
      have hl2 := spelledL_len (wordAt ns i) ((numAt ns i).fdiv 2)
      rw [wordAt_len] at hl2
      refine O_sadd (by rw [len_S, len_S]; omega) ?_
      rw [S_list, S_list]
      repeat walk_at "gi"
      refine O_smul1 (nl_ok ns i).1 (nl_ok ns i).2 ?_
      have hl3 := nlAt_le ns i
      refine O_sadd (by rw [len_S, len_S]; simp only [List.length_append, List.length_replicate]; omega) ?_
      rw [S_list, S_list, List.append_assoc, ← textM_succ]
      repeat walk_at "go"
      rw [show ((lettersM ns i).map ltup ++ [ltup (letAt ns i)]) = (lettersM ns (i + 1)).map ltup by rw [lettersM_succ]; simp]
      rw [show ((writtenM ns i).map (fun w => V.str (S w)) ++ [V.str (S (wordAt ns i))]) = (writtenM ns (i + 1)).map (fun w => V.str (S w)) by rw [writtenM_succ]; simp]
      refine WF_join (fun ρ τ' => ρ = [(Str.ofString "script", some (.ref Sc)), (Str.ofString "numbers", some (.ref LN)), (Str.ofString "altchars", some (.bytes [(altM ns).1, (altM ns).2])), (Str.ofString "written", some (.ref LW)), (Str.ofString "ends", some (.ref LE)), (Str.ofString "text", some (.str (S (textM ns (i + 1))))), (Str.ofString "k", some (.int i)), (Str.ofString "x", some (.int (numAt ns i))), (Str.ofString "letter", some (ltup (letAt ns i))), (Str.ofString "rows", none), (Str.ofString "log", none)] ∧
        τ' = p :: (r, rangeE 0 ns.length) :: (LE, .list ((endsM ns (i + 1)).map V.int)) :: (LW, .list ((writtenM ns (i + 1)).map fun w => V.str (S w))) :: (LL, .list ((lettersM ns (i + 1)).map ltup)) :: (L + 1, .cell (some (.ref LL))) :: (LN, .list (ns.map V.int)) :: (189, .obj (tabObj #[])) :: []) (fun JM mM => ?_) ?_
      · repeat walk_at "gi"
        refine ⟨fun hz => ?_, fun hz => ?_⟩
        · have he : endAt ns i = true := by unfold endAt; rw [hz]; rfl
          repeat walk_at "gi"
          refine W_Meth "list.append" ?_
          repeat walk_at "gi"
          refine ⟨Meth.list (by walk_at "at") PySem.F.slot_list_append PySem.F.type_list_append, ?_⟩
          repeat walk_at "gi"
          refine' B_append ?hu3 ?hn3 ?_
          case hu3 => walk_at "at"
          case hn3 => have := endsM_len ns i; simp; omega
          refine ⟨rfl, ?_⟩
          repeat walk_at "gi"
          exact Meet.here (mM _ _ ⟨rfl, by rw [endsM_succ, if_pos he]; simp⟩)
        · repeat walk_at "gi"
          refine B_len (by walk_at "at") (by simp; omega) ?_
          repeat walk_at "gi"
          rw [List.length_map]
          refine ⟨fun hz2 => ?_, fun hz2 => ?_⟩
          · have he : endAt ns i = true := by unfold endAt; rw [hz2, Bool.or_true]
            repeat walk_at "gi"
            refine W_Meth "list.append" ?_
            repeat walk_at "gi"
            refine ⟨Meth.list (by walk_at "at") PySem.F.slot_list_append PySem.F.type_list_append, ?_⟩
            repeat walk_at "gi"
            refine' B_append ?hu4 ?hn4 ?_
            case hu4 => walk_at "at"
            case hn4 => have := endsM_len ns i; simp; omega
            refine ⟨rfl, ?_⟩
            repeat walk_at "gi"
            exact Meet.here (mM _ _ ⟨rfl, by rw [endsM_succ, if_pos he]; simp⟩)
          · have he : endAt ns i = false := by unfold endAt; rw [hz, hz2]; rfl
            repeat walk_at "gi"
            exact Meet.here (mM _ _ ⟨rfl, by rw [endsM_succ, he]; simp⟩)
      · rintro ρ τ' ⟨rfl, rfl⟩
        repeat walk_at "gi"
        refine TurnI.next' (τ := (r, rangeE 0 ns.length) :: (LE, .list ((endsM ns (i + 1)).map V.int)) :: (LW, .list ((writtenM ns (i + 1)).map fun w => V.str (S w))) :: (LL, .list ((lettersM ns (i + 1)).map ltup)) :: (L + 1, .cell (some (.ref LL))) :: (LN, .list (ns.map V.int)) :: (189, .obj (tabObj #[])) :: []) (Sub.refl _) (mF _ _ _ ⟨_, _, _, rfl, r, rfl⟩)
  · rintro ρ τ ⟨o1, o2, o3, rfl, r, rfl⟩
    rw [show ((span 0 (ns.length : Int)).map V.int).length = ns.length by simp [span]]
    refine MeetS.here (τ := (LE, .list ((endsM ns ns.length).map V.int)) :: (LW, .list ((writtenM ns ns.length).map fun w => V.str (S w))) :: (LL, .list ((lettersM ns ns.length).map ltup)) :: (L + 1, .cell (some (.ref LL))) :: (189, .obj (tabObj #[])) :: []) ?_ (mM _ _ ⟨o1, o2, o3, rfl, rfl⟩)
    walk_at "sub"
end Mine
end
section
open PySem PySem.Calls PyProof.Rows PySem.W
set_option Elab.async false
set_option maxRecDepth 100000
set_option linter.unusedVariables false
set_option linter.unusedSimpArgs false
namespace Mine
theorem ns_ne {h : Heap} {a b : Addr} {m : Str → Option Value} {ps : Array Value} (hn : h.Ns a m) (hb : h.get? b = some (tabObj ps)) : a ≠ b := fun e => by
  obtain ⟨o, es, ep, e1, e2, _⟩ := hn
  rw [e, hb] at e1
  cases e1; cases e2
theorem ns_kept {h h' : Heap} {a b : Addr} {m : Str → Option Value} (hn : h.Ns a m) (hab : a ≠ b) (hk : ∀ c o, h.get? c = some o ∧ c ≠ b → h'.get? c = some o) : h'.Ns a m :=
  let ⟨o, es, ep, e, r⟩ := hn; ⟨o, es, ep, hk _ _ ⟨e, hab⟩, r⟩
theorem kf_189 (P : Params) : (KF P).lookup 189 = none := by kernel_rfl
theorem gk_of {K : Frag} {h : Heap} {mg : Str → Option Value} (KX : K.In h) (hn : h.Ns mainGlobals mg) {x : Str} {r : Option Value} (e : nsIn K mainGlobals x = some r) : mg x = r := by
  cases r with
  | none => exact ns_none_of KX hn e
  | some v => exact mg_of KX hn e
theorem code_189 {P : Params} {h : Heap} (KX : (KF P).In h) : isCodeTable h 189 :=
  ⟨193, _, _, KX 193 _ rfl, rfl, rfl, rfl⟩
theorem ints_vr {z : Addr → Prop} {h : Heap} {vs : List Value} {ns : List Int} (H : IntsAre vs ns) : All2 (VR z h) vs (ns.map V.int) := by
  induction H with
  | nil => exact .nil
  | cons _ _ _ ih => exact .cons ⟨_, rfl⟩ ih
theorem joined {w : World} {s₁ : Shared} {mg mb : Str → Option Value} {Sc : Addr} {vs : List Value} {sc : List Int} {Q E : Value → Shared → Prop}
    (KX : (KF w.params).In s₁.heap) (TX : s₁.heap.get? 189 = some (tabObj #[])) (hgens : s₁.gens = #[]) (hG : s₁.heap.Ns mainGlobals mg) (hB : s₁.heap.Ns builtinsNs mb) (hL : s₁.heap.NoLimit)
    (hb : ∀ x : Str, x ≠ "__name__" → mb x = bootBuiltins x) (hm : ∃ bm ob, mg "__builtins__" = some (.ref bm) ∧ bm ≠ builtinsNs ∧ s₁.heap.get? bm = some ob ∧ ob.cls = .type "module" ∧ ob.dict = some builtinsNs ∧ ob.data = .plain)
    (hS : s₁.heap.IsList Sc vs.toArray) (hI : IntsAre vs sc) (hn : sc.length ≤ 1000)
    (q : ∀ s', OldK s₁.heap s'.heap → s'.os = s₁.os → s'.gens = #[] → Q (.bool true) s') :
    wpAny (model PySem.Challenge.rw_oy0106_01.row.prog w) callerA (call (.ref 216) [.ref Sc]) Q E s₁ := by
  have n1 := ns_ne hG TX
  have n2 := ns_ne hB TX
  have n3 : Sc ≠ 189 := fun e => by
    obtain ⟨o, e1, e2, _⟩ := hS
    rw [e, TX] at e1; cases e1; cases e2
  let c : Cx := {
    prog := PySem.Challenge.rw_oy0106_01.row.prog, w := w, kp := fun b o => s₁.heap.get? b = some o ∧ b ≠ 189, os := s₁.os, mg := mg, mb := mb
    inK := fun a o e => ⟨KX a o e, fun q => by subst q; have := (kf_189 w.params).symm.trans e; cases this⟩
    lim := fun h k => let ⟨mc, h1, h2⟩ := hL; ⟨mc, ns_kept h1 (ns_ne h1 TX) k, h2⟩
    g := fun h k => ns_kept hG n1 k
    b := fun h k => ns_kept hB n2 k
    gk := fun x r e => gk_of KX hG e
    z := fun _ => False
    bk := hb }
  have B : BM c := by
    obtain ⟨bm, ob, h1, h2, h3, h4, h5, h6⟩ := hm
    refine ⟨bm, ob, h1, h2, ⟨h3, fun e => ?_⟩, h4, h5, h6⟩
    rw [e, TX] at h3; cases h3; cases h4
  have R : Rep c [(189, .obj (tabObj #[]))] s₁ := by
    refine ⟨fun b o e => e.1, hgens, rfl, fun p hp => ?_, fun a q => q.elim, fun p hp o e => ?_, by simp⟩
    · simp only [List.mem_singleton] at hp
      subst hp
      exact ⟨TX, by nofun⟩
    · simp only [List.mem_singleton] at hp
      subst hp
      exact e.2 rfl
  refine law_walk (c := c) (A := callerA) (sc := sc) (Sc := Sc) (K := fun X σ => X = .bool true ∧ ∃ ps, σ = [(189, .obj (tabObj ps))]) B rfl (by decide) (by decide) hn (fun s k => ?_) (fun ps => ⟨rfl, ps, rfl⟩) s₁ Q E [.ref Sc] R (.cons rfl .nil) fun v X σ' s' ⟨e1, ps, e2⟩ hv R' x' => ?_
  · refine ⟨vs, ?_, ints_vr hI⟩
    obtain ⟨o, e1, r⟩ := hS
    exact ⟨o, k _ _ ⟨e1, n3⟩, r⟩
  · subst e1 e2
    cases hv
    have h189 := (R'.ob _ (.head _)).1
    refine q s' ⟨fun b o e => ?_, fun b o e => ?_⟩ R'.os R'.gens
    · by_cases hb' : b = 189
      · subst hb'
        rw [TX] at e; cases e
        exact .inr (.inl ⟨code_189 KX, rfl, #[], ps, rfl, by rw [h189]; simp⟩)
      · exact .inl (R'.keep b o ⟨e, hb'⟩)
    · by_cases hb' : b = 189
      · subst hb'; exact ⟨_, h189⟩
      · exact ⟨o, R'.keep b o ⟨e, hb'⟩⟩
end Mine
end
end
set_option maxHeartbeats 0 in
theorem PySem.Challenge.cw_oy0106_01_holds : PySem.Challenge.rw_oy0106_01.Holds := by
  refine hd ?_
  intro w s₀ s₁ mg mb G Y fa o pm cd doc dV kV ho hd hcd hD hmg hg args vals as hpre hlay hrd hwl hlo
  have KX := km_in_of Y
  have TX := km_tabs_of Y
  refine Ground.open G ?_
  intro T B D TE TW
  have hfa : mg (Str.ofString "law") = some (.ref fa) := hmg
  have hfa2 : mg (Str.ofString "law") = some (.ref 216) := Mine.gk_of KX T.g (by kernel_rfl)
  have hfa3 : fa = 216 := by rw [hfa] at hfa2; injection hfa2 with e; injection e
  subst hfa3
  clear hd ho hcd hD hmg
  wrow_args hpre hlay hrd hwl hlo
  rename_i sc _ _ _ _ _ _ _ Sc vs _ hL hR _ _ hI _ hc1 hc2
  refine Mine.joined KX (TX 189 (.head _)) hg T.g T.b T.nolimit T.builtins T.bmain hL hI (by omega) fun s' k1 k2 k3 => ?_
  refine ⟨.inl ⟨.bool true, .bool true, [], rfl, fun cls => ?_, .bool true, ?_, fun _ => ⟨List.nodup_nil, fun a ha => by cases ha⟩⟩, k1, k2, .of_eq k3⟩
  · rfl
  · wrow_post
