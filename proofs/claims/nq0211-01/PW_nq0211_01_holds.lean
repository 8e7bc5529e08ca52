import PyProof.Rows.All
import Wide.All
import OpenK.AllK
import Wide.FinOn
import PySem.Challenge.RW_nq0211_01
set_option Elab.async false
set_option maxRecDepth 100000
set_option linter.unusedVariables false
set_option linter.unusedSimpArgs false
section
open PySem PySem.W PyProof.Rows
set_option maxHeartbeats 0
namespace Mine
def kept : List Stmt → List Stmt
  | [a0, _, a2, a3, a4, a5, _, a7, a8, a9, a10, a11, _, a13, _, a15, a16, a17, a18, a19, a20] => [a0, a2, a3, a4, a5, a7, a8, a9, a10, a11, a13, a15, a16, a17, a18, a19, a20]
  | _ => []
def vw : Program := { PySem.Challenge.pw_nq0211_01 with main := { PySem.Challenge.pw_nq0211_01.main with body := kept PySem.Challenge.pw_nq0211_01.main.body } }
theorem left_of {p q : Program} {loose : List Str} {Xt : Shared → Bool} {α : Type} {Yf : Shared → α} {Ya : World → α} {N : Nat} (e : opening p = plainProg p.main.scope.names) (hN : Nat.ble 600 N = true) (f : ∀ s, fenceModules? p s = some s)
    (h : ∀ (w : World), (fun os => (topFrom treeTable p w N ⟨boot_heap w.params, ⟨[]⟩, boot_drawn, boot_toks, os⟩).map (fun s => (openSeen q loose (importedModules p.main.body) Xt true s, Yf s))) = fun _ => some (openGood q loose, Ya w)) : LeftO p q loose Xt Yf Ya N := fun w => by
  obtain ⟨⟨hp, gs, d, k, os⟩, e1, e2⟩ := Option.map_eq_some_iff.mp (boot_open e hN f w)
  obtain ⟨rfl, rfl, rfl, rfl⟩ : hp = boot_heap w.params ∧ gs = ⟨[]⟩ ∧ d = boot_drawn ∧ k = boot_toks := by simpa using e2
  unfold openEnds
  rw [e1]
  exact congrFun (h w) os
local macro_rules | `(tactic| o_law) => `(tactic| refine PySem.W.holds_law (by decide +kernel) fun said => ?_)
local macro_rules | `(tactic| o_head $H) => `(tactic| (
  refine PySem.W.holds_open (q := vw) (loose := [PySem.Str.ofString "_NodeInfo"]) (Xt := fun s => xlAt vw [] s && recOk (RowW.records (OpenRow.toRowW PySem.Challenge.rw_nq0211_01.row)) s) (XP := XL vw []) (Yf := Hook.obs $H) (Ya := Hook.val $H) (YP := Hook.says $H) (N := 2920) ?hl (Hook.of $H) (Hook.keeps $H) (fun s e => xl_of s (Bool.and_eq_true_iff.mp e).1) XL.keeps (by rfl) (by rfl) (by rfl) (fun s e => recFacts_of (Bool.and_eq_true_iff.mp e).2) (by rfl) (by first | assumption | decide +kernel) (by decide +kernel) ⟨rfl, rfl, rfl, rfl, rfl, by decide +kernel⟩ ?hw ?hc
  case hl => exact left_of (by kernel_rfl) rfl (fun _ => by kernel_rfl) (fun w => by unfold PySem.W.topFrom; rw [PySem.W.Fast.te14082659384304107361, PySem.W.Fast.te14364793385576792824, PySem.W.Fast.te4187177175401517315]; kernel_rfl)))
open_top hd for PySem.Challenge.rw_nq0211_01
end Mine
end
section
open PySem PySem.W PyProof.Rows
namespace Mine

/-! the store: what is known of the objects that the call has made -/
abbrev NsMap := Str → Option Value
inductive AO where
  | list (vs : List Value)
  | dict (es : List DictEntry)
  | ns (m : NsMap)
  | cell (v : Option Value)
  | obj (o : Obj)
  | rcd (T : String) (vs : Array Value)
  | tup (vs : List Value)
  | exc (X : String) (tb : Option Addr) (ctx : Value)
  | tbk (fl : Value)
  | imap (kvs : List (Int × Value)) (ep : Nat)
  | att (m : NsMap) (k : Nat)
  | iset (S : Int → Bool) (n : Nat)

def AO.Is : AO → Obj → Prop
  | .list vs, o => ∃ n, o = { cls := .type "list", dict := none, data := .seq vs.toArray n, slots := #[] }
  | .dict es, o => ∃ n, o = { cls := .type "dict", dict := none, data := .dict es.toArray n, slots := #[] }
  | .ns m, o => ∃ es ep, o.data = .dict es ep ∧ StrKeys es ∧ ∀ name, nsFind es name = m name
  | .cell v, o => o.data = .cell v
  | .obj o', o => o = o'
  | .rcd T vs, o => o.cls = .type T ∧ o.data = .fields vs
  | .tup vs, o => o.cls = .type "tuple" ∧ ∃ n, o.data = .seq vs.toArray n
  | .exc X tb ctx, o => o.cls = .type X ∧ ∃ vs, o.data = .fields vs ∧ vs[1]? = some (tb.elim .none .ref) ∧ vs[2]? = some ctx
  | .tbk fl, o => ∃ vs, o.data = .fields vs ∧ vs[3]? = some fl
  | .imap kvs ep, o => ∃ es, o.ExactDict ∧ o.data = .dict es ep ∧ (∀ (prog : Program) (w : World), KeysOf (intKind prog w) es ∧ Pairs (intKind prog w) es.toList kvs) ∧ (kvs.map (·.1)).Nodup
  | .att m k, o => ∃ es ep, o.data = .dict es ep ∧ StrKeys es ∧ es.size ≤ k ∧ ∀ name, nsFind es name = m name
  | .iset S n, o => o.IntSetOf S n

abbrev Sto := Addr → Option AO
def upd (σ : Sto) (a : Addr) (x : AO) : Sto := fun b => if b = a then some x else σ b
def del (σ : Sto) (a : Addr) : Sto := fun b => if b = a then none else σ b
theorem upd_self (σ : Sto) (a : Addr) (x : AO) : upd σ a x a = some x := by simp [upd]
theorem upd_ne {σ : Sto} {a b : Addr} {x : AO} (h : b ≠ a) : upd σ a x b = σ b := by simp [upd, h]
theorem upd_upd (σ : Sto) (a : Addr) (x y : AO) : upd (upd σ a x) a y = upd σ a y := by
  funext b; simp only [upd]; split <;> rfl
theorem upd_comm (σ : Sto) {a b : Addr} (x y : AO) (h : a ≠ b) : upd (upd σ a x) b y = upd (upd σ b y) a x := by
  funext c; simp only [upd]; split <;> split <;> simp_all
theorem upd_same {σ : Sto} {a : Addr} {x : AO} (h : σ a = some x) : upd σ a x = σ := by
  funext c; simp only [upd]; split <;> simp_all
theorem del_upd {σ : Sto} {a : Addr} {x : AO} (h : σ a = none) : del (upd σ a x) a = σ := by
  funext c; simp only [upd, del]; split <;> simp_all

/-- σ knows no more than σ' -/
def Sub (σ σ' : Sto) : Prop := ∀ a x, σ a = some x → σ' a = some x
theorem Sub.refl (σ : Sto) : Sub σ σ := fun _ _ h => h
theorem Sub.trans {σ₁ σ₂ σ₃ : Sto} (h : Sub σ₁ σ₂) (h' : Sub σ₂ σ₃) : Sub σ₁ σ₃ := fun a x e => h' a x (h a x e)
theorem Sub.upd {σ σ' : Sto} {a : Addr} {x : AO} (h : Sub σ σ') (ha : σ a = none) : Sub σ (upd σ' a x) := fun b y e => by
  rw [upd_ne (by rintro rfl; rw [ha] at e; cases e)]; exact h b y e
theorem Sub.both {σ σ' : Sto} {a : Addr} {x : AO} (h : Sub σ σ') : Sub (Mine.upd σ a x) (Mine.upd σ' a x) := fun b y e => by
  unfold Mine.upd at e ⊢; split <;> simp_all; exact h b y e
theorem Sub.del {σ σ' : Sto} {a : Addr} (h : Sub σ σ') (ha : σ a = none) : Sub σ (del σ' a) := fun b y e => by
  unfold Mine.del; rw [if_neg (by rintro rfl; rw [ha] at e; cases e)]; exact h b y e
theorem Sub.updL {σ σ' : Sto} {a : Addr} {x : AO} (h : Sub σ σ') (ha : σ' a = some x) : Sub (Mine.upd σ a x) σ' := fun b y e => by
  unfold Mine.upd at e; split at e
  · cases e; subst b; exact ha
  · exact h b y e

abbrev Fs := List (Env × NsMap)

structure Inv (s₀ : Shared) (fs : Fs) (σ : Sto) (s : Shared) : Prop where
  same : ∃ h tk, s = { s₀ with heap := h, toks := tk }
  keep : ∀ b o, s₀.heap.get? b = some o → s.heap.get? b = some o
  own : ∀ a x, σ a = some x → s₀.heap.get? a = none ∧ ∃ o, s.heap.get? a = some o ∧ x.Is o
  fr : ∀ f ∈ fs, f.1.frame = some f.1.locals ∧ f.1.scope.kind = .function ∧ s₀.heap.get? f.1.locals = none ∧ σ f.1.locals = none ∧ s.heap.Ns f.1.locals f.2
  nd : (fs.map (·.1.locals)).Nodup

section
variable {s₀ s : Shared} {fs : Fs} {σ : Sto} {a : Addr} {x : AO} {h' : Heap}

theorem Inv.tok (I : Inv s₀ fs σ s) (t : Nat) : Inv s₀ fs σ { s with toks := t } := by
  obtain ⟨⟨h, tk, rfl⟩, k, o, f, n⟩ := I
  exact ⟨⟨_, _, rfl⟩, k, o, f, n⟩
theorem Inv.weak {σ' : Sto} (I : Inv s₀ fs σ s) (w : Sub σ' σ) : Inv s₀ fs σ' s := by
  obtain ⟨e, k, o, f, n⟩ := I
  refine ⟨e, k, fun a x h => o a x (w a x h), fun g hg => ?_, n⟩
  obtain ⟨a1, a2, a3, a4, a5⟩ := f g hg
  refine ⟨a1, a2, a3, ?_, a5⟩
  cases q : σ' g.1.locals with
  | none => rfl
  | some y => rw [w _ _ q] at a4; cases a4
theorem Inv.get (I : Inv s₀ fs σ s) (h : σ a = some x) : ∃ o, s.heap.get? a = some o ∧ x.Is o := (I.own a x h).2
/-- the heap changes at a alone (and may grow) -/
theorem Inv.put {x' : AO} {o' : Obj} (I : Inv s₀ fs σ s) (h : σ a = some x) (e : Heap.ExtBut a s.heap h') (g : h'.get? a = some o') (i : x'.Is o') (t : Nat) : Inv s₀ fs (upd σ a x') { s with heap := h', toks := t } := by
  obtain ⟨⟨hp, tk, rfl⟩, k, o, f, n⟩ := I
  have na := (o a x h).1
  refine ⟨⟨_, _, rfl⟩, fun b q hb => e b q (by rintro rfl; rw [na] at hb; cases hb) (k b q hb), fun b y hb => ?_, fun q hq => ?_, n⟩
  · unfold upd at hb
    split at hb
    · cases hb; subst b; exact ⟨na, o', g, i⟩
    · rename_i hne
      obtain ⟨b1, ob, b2, b3⟩ := o b y hb
      exact ⟨b1, ob, e b ob hne b2, b3⟩
  · obtain ⟨a1, a2, a3, a4, oL, es, ep, a5, a6⟩ := f q hq
    have hne : q.1.locals ≠ a := by rintro rfl; rw [a4] at h; cases h
    exact ⟨a1, a2, a3, (upd_ne hne).trans a4, oL, es, ep, e _ _ hne a5, a6⟩
theorem Inv.drop (I : Inv s₀ fs σ s) (h : σ a = some x) (e : Heap.ExtBut a s.heap h') (t : Nat) : Inv s₀ fs (del σ a) { s with heap := h', toks := t } := by
  obtain ⟨⟨hp, tk, rfl⟩, k, o, f, n⟩ := I
  have na := (o a x h).1
  refine ⟨⟨_, _, rfl⟩, fun b q hb => e b q (by rintro rfl; rw [na] at hb; cases hb) (k b q hb), fun b y hb => ?_, fun q hq => ?_, n⟩
  · unfold del at hb
    split at hb
    · cases hb
    · rename_i hne
      obtain ⟨b1, ob, b2, b3⟩ := o b y hb
      exact ⟨b1, ob, e b ob hne b2, b3⟩
  · obtain ⟨a1, a2, a3, a4, oL, es, ep, a5, a6⟩ := f q hq
    have hne : q.1.locals ≠ a := by rintro rfl; rw [a4] at h; cases h
    exact ⟨a1, a2, a3, by unfold del; rw [if_neg hne]; exact a4, oL, es, ep, e _ _ hne a5, a6⟩
theorem Inv.grow (I : Inv s₀ fs σ s) (e : ∀ b o, s.heap.get? b = some o → h'.get? b = some o) (t : Nat) : Inv s₀ fs σ { s with heap := h', toks := t } := by
  obtain ⟨⟨hp, tk, rfl⟩, k, o, f, n⟩ := I
  refine ⟨⟨_, _, rfl⟩, fun b q hb => e b q (k b q hb), fun b y hb => ?_, fun q hq => ?_, n⟩
  · obtain ⟨b1, ob, b2, b3⟩ := o b y hb
    exact ⟨b1, ob, e b ob b2, b3⟩
  · obtain ⟨a1, a2, a3, a4, oL, es, ep, a5, a6⟩ := f q hq
    exact ⟨a1, a2, a3, a4, oL, es, ep, e _ _ a5, a6⟩
/-- an object that the base does not hold, at an address that is new -/
theorem Inv.more {o : Obj} (I : Inv s₀ fs σ s) (e : ∀ b o, s.heap.get? b = some o → h'.get? b = some o) (ha : s.heap.get? a = none) (g : h'.get? a = some o) (i : x.Is o) (t : Nat) :
    σ a = none ∧ Inv s₀ fs (upd σ a x) { s with heap := h', toks := t } := by
  have I' := I.grow e t
  have na : σ a = none := by
    cases q : σ a with
    | none => rfl
    | some y => obtain ⟨o', h1, _⟩ := I.get q; rw [ha] at h1; cases h1
  have nb : s₀.heap.get? a = none := by
    cases q : s₀.heap.get? a with
    | none => rfl
    | some y => rw [I.keep _ _ q] at ha; cases ha
  refine ⟨na, I'.same, I'.keep, fun b y hb => ?_, fun q hq => ?_, I'.nd⟩
  · unfold upd at hb
    split at hb
    · cases hb; subst b; exact ⟨nb, o, g, i⟩
    · exact I'.own b y hb
  · obtain ⟨a1, a2, a3, a4, a5⟩ := I'.fr q hq
    obtain ⟨oL, es, ep, h5, _⟩ := (I.fr q hq).2.2.2.2
    have hne : q.1.locals ≠ a := by rintro rfl; rw [ha] at h5; cases h5
    exact ⟨a1, a2, a3, (upd_ne hne).trans a4, a5⟩
theorem Inv.push {o : Obj} (I : Inv s₀ fs σ s) (i : x.Is o) (hf : o.isFreed = false) (t : Nat) :
    σ s.heap.objs.size = none ∧ Inv s₀ fs (upd σ s.heap.objs.size x) { s with heap := s.heap.push o, toks := t } :=
  I.more (fun _ _ e => Heap.get?_push_of_some _ e) (Heap.get?_none_of_le (Nat.le_refl _)) (Heap.get?_push_size _ hf) i t
/-- a name of the frame on top -/
theorem Inv.name {env : Env} {m : NsMap} {m' : NsMap} (I : Inv s₀ ((env, m) :: fs) σ s) (n : h'.Ns env.locals m') (e : Heap.ExtBut env.locals s.heap h') (t : Nat) :
    Inv s₀ ((env, m') :: fs) σ { s with heap := h', toks := t } := by
  obtain ⟨⟨hp, tk, rfl⟩, k, o, f, nd⟩ := I
  obtain ⟨a1, a2, a3, a4, a5⟩ := f _ (.head _)
  refine ⟨⟨_, _, rfl⟩, fun b q hb => e b q (by rintro rfl; rw [a3] at hb; cases hb) (k b q hb), fun b y hb => ?_, fun q hq => ?_, nd⟩
  · obtain ⟨b1, ob, b2, b3⟩ := o b y hb
    exact ⟨b1, ob, e b ob (by rintro rfl; rw [a4] at hb; cases hb) b2, b3⟩
  · rcases List.mem_cons.mp hq with rfl | hq
    · exact ⟨a1, a2, a3, a4, n⟩
    · obtain ⟨c1, c2, c3, c4, oL, es, ep, c5, c6⟩ := f q (.tail _ hq)
      have hne : q.1.locals ≠ env.locals := by
        have := (List.nodup_cons.mp nd).1
        rintro h
        exact this (List.mem_map.mpr ⟨q, hq, h⟩)
      exact ⟨c1, c2, c3, c4, oL, es, ep, e _ _ hne c5, c6⟩
theorem Inv.pop {f : Env × NsMap} (I : Inv s₀ (f :: fs) σ s) : Inv s₀ fs σ s :=
  ⟨I.same, I.keep, I.own, fun q hq => I.fr q (.tail _ hq), (List.nodup_cons.mp I.nd).2⟩
end

/-! the triple: from fs, σ the tree comes through with V (and raises nothing) -/
def Tr (pr : Program) (w : World) (s₀ : Shared) {α : Type} (A : Around) (fs : Fs) (σ : Sto) (t : Sem α) (V : α → Fs → Sto → Prop) : Prop :=
  ∀ s Q E, Inv s₀ fs σ s → (∀ v fs' σ' s', V v fs' σ' → Inv s₀ fs' σ' s' → Q v s') → wpAny (model pr w) A t Q E s

section
variable {pr : Program} {w : World} {s₀ : Shared} {α β : Type} {A : Around} {fs : Fs} {σ : Sto}
theorem Tr.bind {t : Sem α} {k : α → Sem β} {V : α → Fs → Sto → Prop} {W : β → Fs → Sto → Prop} (h : Tr pr w s₀ A fs σ t V) (hk : ∀ a fs' σ', V a fs' σ' → Tr pr w s₀ A fs' σ' (k a) W) : Tr pr w s₀ A fs σ (t >>= k) W :=
  fun s _ _ I q => wpAny_bind (h s _ _ I (fun a fs' σ' s' v I' => hk a fs' σ' v s' _ _ I' q))
theorem Tr.pure {a : α} {V : α → Fs → Sto → Prop} (h : V a fs σ) : Tr pr w s₀ A fs σ (pure a : Sem α) V := fun s _ _ I q => wpAny_pure (q a fs σ s h I)
theorem Tr.mono {t : Sem α} {V V' : α → Fs → Sto → Prop} (h : Tr pr w s₀ A fs σ t V) (hv : ∀ a fs' σ', V a fs' σ' → V' a fs' σ') : Tr pr w s₀ A fs σ t V' :=
  fun s _ _ I q => h s _ _ I (fun a fs' σ' s' v I' => q a fs' σ' s' (hv a fs' σ' v) I')
theorem Tr.weak {t : Sem α} {V : α → Fs → Sto → Prop} {σ' : Sto} (h : Tr pr w s₀ A fs σ' t V) (hs : Sub σ' σ) : Tr pr w s₀ A fs σ t V :=
  fun s _ _ I q => h s _ _ (I.weak hs) q
theorem Tr.absV {t : Sem α} {V : α → Fs → Sto → Prop} (h : ∀ Vb : α → Fs → Sto → Prop, (∀ f fs' σ', V f fs' σ' → Vb f fs' σ') → Tr pr w s₀ A fs σ t Vb) : Tr pr w s₀ A fs σ t V := h V fun _ _ _ h => h
/-- forget part of the store behind the tree -/
theorem Tr.forget {t : Sem α} {V : α → Fs → Sto → Prop} (h : Tr pr w s₀ A fs σ t (fun v fs' σ' => ∃ σ'', Sub σ'' σ' ∧ V v fs' σ'')) : Tr pr w s₀ A fs σ t V :=
  fun s _ _ I q => h s _ _ I (fun v fs' _ s' ⟨σ'', w, hv⟩ I' => q v fs' σ'' s' hv (I'.weak w))
end
end Mine
end
section
open PySem PySem.W PyProof.Rows
namespace Mine
theorem bim {op : CmpOp} {r : Expr} (h : (op == .In || op == .NotIn) = false) : behindInMarks op r = false := by
  cases r <;> simp_all [behindInMarks]

structure Bs (s₀ : Shared) (mg mb : NsMap) : Prop where
  g : s₀.heap.Ns mainGlobals mg
  b : s₀.heap.Ns builtinsNs mb
  lim : s₀.heap.NoLimit

structure Ok (A : Around) (fs : Fs) (k : Nat) : Prop where
  depth : A.depth + k < recursionLimit
  units : A.units + 20 * k + 20 < cLine
  frames : A.frames = some (fs.map (·.1))
  handled : A.handled = none

abbrev Pu {α : Type} (fs : Fs) (σ : Sto) (P : α → Prop) : α → Fs → Sto → Prop := fun v fs' σ' => fs' = fs ∧ σ' = σ ∧ P v
abbrev Pv (pr : Program) (w : World) (s₀ : Shared) (A : Around) (env : Env) (fs : Fs) (σ : Sto) (e : Expr) (P : Value → Prop) : Prop := Tr pr w s₀ A fs σ (eval e env) (Pu fs σ P)
abbrev Tv (pr : Program) (w : World) (s₀ : Shared) (A : Around) (env : Env) (fs : Fs) (σ : Sto) (e : Expr) (b : Bool) : Prop := Tr pr w s₀ A fs σ (isTrue e env (eval e env)) (Pu fs σ (· = b))
def IsI (n : Int) : Value → Prop := fun v => ∃ t, v = .int n t
def IsB (b : Bool) : Value → Prop := fun v => v = .bool b
theorem puE {α : Type} {fs : Fs} {σ : Sto} {c : α} {C : α → Fs → Sto → Prop} (h : C c fs σ) : ∀ v fs' σ', Pu fs σ (fun x => x = c) v fs' σ' → C v fs' σ' := fun _ _ _ ⟨e1, e2, e3⟩ => by subst e1 e2 e3; exact h
theorem puI {fs : Fs} {σ : Sto} {n : Int} {C : Value → Fs → Sto → Prop} (h : ∀ t, C (.int n t) fs σ) : ∀ v fs' σ', Pu fs σ (IsI n) v fs' σ' → C v fs' σ' := fun _ _ _ ⟨e1, e2, t, e3⟩ => by subst e1 e2 e3; exact h t
theorem eqE {α : Type} {c : α} {C : α → Prop} (h : C c) : ∀ v, v = c → C v := fun _ e => by subst e; exact h
theorem isE {n : Int} {C : Value → Prop} (h : ∀ t, C (.int n t)) : ∀ v, IsI n v → C v := fun _ ⟨t, e⟩ => by subst e; exact h t
abbrev set1 (m : NsMap) (x : Str) (v : Value) : NsMap := fun y => if y = x then some v else m y

def fenv (scope : Scope) (qual : Str) (code : Value) (L a : Addr) : Env := newEnv scope L mainGlobals (cellsFrom (L + 1) scope.names []) (qual ++ ".<locals>.") (some a) code none builtinsNs

section
variable {pr : Program} {w : World} {s₀ : Shared} {A : Around} {env : Env} {fs : Fs} {σ : Sto} {m mg mb : NsMap} {x : Str} {v : Value} {pos : Pos} {P P₁ P₂ : Value → Prop}

/-! names -/
theorem Pv.loc (hm : m x = some v) (hl : env.kindOf x = some .local := by rfl) (hd : (x == ("__debug__" : Str)) = false := by decide) : Pv pr w s₀ A env ((env, m) :: fs) σ (.Name x pos) (· = v) :=
  fun s _ _ I q => by
    obtain ⟨_, hk, _, _, n⟩ := I.fr _ (.head _)
    exact wpAny_Name (wpAny_loadName_local hk hl n hm (q _ _ _ _ ⟨rfl, rfl, rfl⟩ I)) hd
theorem Pv.locI {n : Int} {t : Tok} (hm : m x = some (.int n t)) (hl : env.kindOf x = some .local := by rfl) (hd : (x == ("__debug__" : Str)) = false := by decide) : Pv pr w s₀ A env ((env, m) :: fs) σ (.Name x pos) (IsI n) :=
  (Pv.loc hm hl hd).mono fun _ _ _ ⟨a, b, c⟩ => ⟨a, b, t, c⟩
/-- the name of a comprehension's own space -/
theorem Pv.ns {m : NsMap} (hs : σ env.locals = some (.ns m)) (hm : m x = some v) (hk : env.scope.kind = .function := by rfl) (hl : env.kindOf x = some .local := by rfl) (hd : (x == ("__debug__" : Str)) = false := by decide) : Pv pr w s₀ A env fs σ (.Name x pos) (· = v) :=
  fun s _ _ I q => by
    obtain ⟨o, ho, es, ep, h1, h2, h3⟩ := I.get hs
    exact wpAny_Name (wpAny_loadName_local hk hl ⟨o, es, ep, ho, h1, h2, h3⟩ hm (q _ _ _ _ ⟨rfl, rfl, rfl⟩ I)) hd
theorem Pv.cell {c : Addr} (hs : σ c = some (.cell (some v))) (hk : env.scope.kind = .function := by rfl) (hl : env.kindOf x = some .cell := by rfl) (hc : env.cells.lookup x = some c := by rfl) (hd : (x == ("__debug__" : Str)) = false := by decide) :
    Pv pr w s₀ A env fs σ (.Name x pos) (· = v) :=
  fun s _ _ I q => by
    obtain ⟨o, ho, h1⟩ := I.get hs
    exact wpAny_Name (wpAny_loadName_cell hk hl hc ⟨o, ho, h1⟩ (q _ _ _ _ ⟨rfl, rfl, rfl⟩ I)) hd
theorem Pv.glob (B : Bs s₀ mg mb) (hv : mg x = some v) (hg : env.globals = mainGlobals := by rfl) (hk : env.scope.kind = .function := by rfl) (hl : env.kindOf x = some .globalImplicit := by rfl) (hd : (x == ("__debug__" : Str)) = false := by decide) :
    Pv pr w s₀ A env fs σ (.Name x pos) (· = v) :=
  fun s _ _ I q => Calls.Name_function_global hk hl (Calls.loadGlobal_global (hg ▸ B.g.keeps I.keep) hv (q _ _ _ _ ⟨rfl, rfl, rfl⟩ I)) hd
theorem Pv.built (B : Bs s₀ mg mb) (hm : mg x = none) (hv : mb x = some v) (hg : env.globals = mainGlobals := by rfl) (hb : env.builtins = builtinsNs := by rfl) (hk : env.scope.kind = .function := by rfl) (hl : env.kindOf x = some .globalImplicit := by rfl) (hd : (x == ("__debug__" : Str)) = false := by decide) :
    Pv pr w s₀ A env fs σ (.Name x pos) (· = v) :=
  fun s _ _ I q => Calls.Name_function_global hk hl (Calls.loadGlobal_builtin (hg ▸ B.g.keeps I.keep) hm (hb ▸ B.b.keeps I.keep) hv (q _ _ _ _ ⟨rfl, rfl, rfl⟩ I)) hd

/-! constants -/
theorem Pv.int {n : Int} {k : Nat} : Pv pr w s₀ A env fs σ (.Constant (.int n) k pos) (IsI n) := fun s _ _ I q => wpAny_Constant_int (q _ _ _ _ ⟨rfl, rfl, _, rfl⟩ (I.tok _))
theorem Pv.none {k : Nat} : Pv pr w s₀ A env fs σ (.Constant .none k pos) (· = .none) := fun s _ _ I q => wpAny_Constant_none (q _ _ _ _ ⟨rfl, rfl, rfl⟩ I)

/-! two operands -/
theorem Pv.bin {l r : Expr} {op : Operator} (h1 : Pv pr w s₀ A env fs σ l P₁) (h2 : Pv pr w s₀ A env fs σ r P₂) (h : ∀ a b, P₁ a → P₂ b → Tr pr w s₀ A fs σ (binaryOp op a b) (Pu fs σ P)) : Pv pr w s₀ A env fs σ (.BinOp l op r pos) P :=
  fun s _ _ I q => wpAny_BinOp (h1 s _ _ I fun a _ _ s₁ ⟨e1, e2, ha⟩ I₁ => by subst e1 e2; exact h2 s₁ _ _ I₁ fun b _ _ s₂ ⟨e1, e2, hb⟩ I₂ => by subst e1 e2; exact h a b ha hb s₂ _ _ I₂ q)
theorem Pv.add {l r : Expr} {a b : Int} (h1 : Pv pr w s₀ A env fs σ l (IsI a)) (h2 : Pv pr w s₀ A env fs σ r (IsI b)) : Pv pr w s₀ A env fs σ (.BinOp l .Add r pos) (IsI (a + b)) :=
  Pv.bin h1 h2 fun _ _ ⟨_, e1⟩ ⟨_, e2⟩ => by subst e1 e2; exact fun s _ _ I q => add_int (q _ _ _ _ ⟨rfl, rfl, _, rfl⟩ (I.tok _))
theorem Pv.sub {l r : Expr} {a b : Int} (h1 : Pv pr w s₀ A env fs σ l (IsI a)) (h2 : Pv pr w s₀ A env fs σ r (IsI b)) : Pv pr w s₀ A env fs σ (.BinOp l .Sub r pos) (IsI (a - b)) :=
  Pv.bin h1 h2 fun _ _ ⟨_, e1⟩ ⟨_, e2⟩ => by subst e1 e2; exact fun s _ _ I q => sub_int (q _ _ _ _ ⟨rfl, rfl, _, rfl⟩ (I.tok _))
theorem Pv.mul {l r : Expr} {a b : Int} (h1 : Pv pr w s₀ A env fs σ l (IsI a)) (h2 : Pv pr w s₀ A env fs σ r (IsI b)) (hm : IntMulOk a b) : Pv pr w s₀ A env fs σ (.BinOp l .Mult r pos) (IsI (a * b)) :=
  Pv.bin h1 h2 fun _ _ ⟨_, e1⟩ ⟨_, e2⟩ => by subst e1 e2; exact fun s _ _ I q => mul_int (q _ _ _ _ ⟨rfl, rfl, _, rfl⟩ (I.tok _)) hm
theorem Pv.mod {l r : Expr} {a b : Int} (h1 : Pv pr w s₀ A env fs σ l (IsI a)) (h2 : Pv pr w s₀ A env fs σ r (IsI b)) (hb : b ≠ 0) : Pv pr w s₀ A env fs σ (.BinOp l .Mod r pos) (IsI (a.fmod b)) :=
  Pv.bin h1 h2 fun _ _ ⟨_, e1⟩ ⟨_, e2⟩ => by subst e1 e2; exact fun s _ _ I q => mod_int' hb (q _ _ _ _ ⟨rfl, rfl, _, rfl⟩ (I.tok _))
theorem Pv.xor {l r : Expr} {a b : Int} (h1 : Pv pr w s₀ A env fs σ l (IsI a)) (h2 : Pv pr w s₀ A env fs σ r (IsI b)) : Pv pr w s₀ A env fs σ (.BinOp l .BitXor r pos) (IsI (Builtin.bitXor a b)) :=
  Pv.bin h1 h2 fun _ _ ⟨_, e1⟩ ⟨_, e2⟩ => by subst e1 e2; exact fun s _ _ I q => xor_int (q _ _ _ _ ⟨rfl, rfl, _, rfl⟩ (I.tok _))
theorem Pv.shr1 {l r : Expr} {a : Int} (h1 : Pv pr w s₀ A env fs σ l (IsI a)) (h2 : Pv pr w s₀ A env fs σ r (IsI 1)) (h0 : 0 ≤ a) : Pv pr w s₀ A env fs σ (.BinOp l .RShift r pos) (IsI (a / 2)) :=
  Pv.bin h1 h2 fun _ _ ⟨_, e1⟩ ⟨_, e2⟩ => by subst e1 e2; exact fun s _ _ I q => wpAny_rshift1_int h0 (q _ _ _ _ ⟨rfl, rfl, _, rfl⟩ (I.tok _))

/-! comparisons as values and as tests -/
theorem Pv.cmp {l r : Expr} {op : CmpOp} (h1 : Pv pr w s₀ A env fs σ l P₁) (h2 : Pv pr w s₀ A env fs σ r P₂) (h : ∀ a b, P₁ a → P₂ b → Tr pr w s₀ A fs σ (compareOp op a b) (Pu fs σ P))
    (hm : behindInMarks op r = false := by with_unfolding_all rfl) : Pv pr w s₀ A env fs σ (.Compare l [op] [r] pos) P :=
  fun s _ _ I q => wpAny_Compare1 (h1 s _ _ I fun a _ _ s₁ ⟨e1, e2, ha⟩ I₁ => by subst e1 e2; exact h2 s₁ _ _ I₁ fun b _ _ s₂ ⟨e1, e2, hb⟩ I₂ => by subst e1 e2; exact h a b ha hb s₂ _ _ I₂ q) hm
theorem Tv.cmp {l r : Expr} {op : CmpOp} {b : Bool} (h1 : Pv pr w s₀ A env fs σ l P₁) (h2 : Pv pr w s₀ A env fs σ r P₂) (h : ∀ x y, P₁ x → P₂ y → Tr pr w s₀ A fs σ (compareOp op x y) (Pu fs σ (IsB b)))
    (hm : behindInMarks op r = false := by with_unfolding_all rfl) : Tv pr w s₀ A env fs σ (.Compare l [op] [r] pos) b :=
  fun s _ _ I q => wpAny_isTrue_Compare1 (h1 s _ _ I fun a _ _ s₁ ⟨e1, e2, ha⟩ I₁ => by subst e1 e2; exact h2 s₁ _ _ I₁ fun b _ _ s₂ ⟨e1, e2, hb⟩ I₂ => by subst e1 e2; exact h a b ha hb s₂ _ _ I₂ fun c _ _ s₃ ⟨e1, e2, e3⟩ I₃ => by subst e1 e2 e3; exact wpAny_truthy_bool (q _ _ _ _ ⟨rfl, rfl, rfl⟩ I₃)) hm
theorem cmp_lt {x y : Value} {a b : Int} : IsI a x → IsI b y → Tr pr w s₀ A fs σ (compareOp .Lt x y) (Pu fs σ (IsB (decide (a < b)))) := fun ⟨_, e1⟩ ⟨_, e2⟩ => by subst e1 e2; exact fun s _ _ I q => lt_int (q _ _ _ _ ⟨rfl, rfl, rfl⟩ I)
theorem cmp_le {x y : Value} {a b : Int} : IsI a x → IsI b y → Tr pr w s₀ A fs σ (compareOp .LtE x y) (Pu fs σ (IsB (decide (a ≤ b)))) := fun ⟨_, e1⟩ ⟨_, e2⟩ => by subst e1 e2; exact fun s _ _ I q => le_int (q _ _ _ _ ⟨rfl, rfl, rfl⟩ I)
theorem cmp_gt {x y : Value} {a b : Int} : IsI a x → IsI b y → Tr pr w s₀ A fs σ (compareOp .Gt x y) (Pu fs σ (IsB (decide (b < a)))) := fun ⟨_, e1⟩ ⟨_, e2⟩ => by subst e1 e2; exact fun s _ _ I q => gt_int (q _ _ _ _ ⟨rfl, rfl, rfl⟩ I)
theorem cmp_eq {x y : Value} {a b : Int} : IsI a x → IsI b y → Tr pr w s₀ A fs σ (compareOp .Eq x y) (Pu fs σ (IsB (a == b))) := fun ⟨_, e1⟩ ⟨_, e2⟩ => by subst e1 e2; exact fun s _ _ I q => eq_int (q _ _ _ _ ⟨rfl, rfl, rfl⟩ I)
theorem cmp_ne {x y : Value} {a b : Int} : IsI a x → IsI b y → Tr pr w s₀ A fs σ (compareOp .NotEq x y) (Pu fs σ (IsB (a != b))) := fun ⟨_, e1⟩ ⟨_, e2⟩ => by subst e1 e2; exact fun s _ _ I q => ne_int (q _ _ _ _ ⟨rfl, rfl, rfl⟩ I)
theorem Tv.lt {l r : Expr} {a b : Int} (h1 : Pv pr w s₀ A env fs σ l (IsI a)) (h2 : Pv pr w s₀ A env fs σ r (IsI b)) : Tv pr w s₀ A env fs σ (.Compare l [.Lt] [r] pos) (decide (a < b)) := Tv.cmp h1 h2 (fun _ _ => cmp_lt) (bim rfl)
theorem Tv.le {l r : Expr} {a b : Int} (h1 : Pv pr w s₀ A env fs σ l (IsI a)) (h2 : Pv pr w s₀ A env fs σ r (IsI b)) : Tv pr w s₀ A env fs σ (.Compare l [.LtE] [r] pos) (decide (a ≤ b)) := Tv.cmp h1 h2 (fun _ _ => cmp_le) (bim rfl)
theorem Tv.gt {l r : Expr} {a b : Int} (h1 : Pv pr w s₀ A env fs σ l (IsI a)) (h2 : Pv pr w s₀ A env fs σ r (IsI b)) : Tv pr w s₀ A env fs σ (.Compare l [.Gt] [r] pos) (decide (b < a)) := Tv.cmp h1 h2 (fun _ _ => cmp_gt) (bim rfl)
theorem Tv.eq {l r : Expr} {a b : Int} (h1 : Pv pr w s₀ A env fs σ l (IsI a)) (h2 : Pv pr w s₀ A env fs σ r (IsI b)) : Tv pr w s₀ A env fs σ (.Compare l [.Eq] [r] pos) (a == b) := Tv.cmp h1 h2 (fun _ _ => cmp_eq) (bim rfl)
theorem Tv.ne {l r : Expr} {a b : Int} (h1 : Pv pr w s₀ A env fs σ l (IsI a)) (h2 : Pv pr w s₀ A env fs σ r (IsI b)) : Tv pr w s₀ A env fs σ (.Compare l [.NotEq] [r] pos) (a != b) := Tv.cmp h1 h2 (fun _ _ => cmp_ne) (bim rfl)
theorem Tv.isNone {l r : Expr} (h1 : Pv pr w s₀ A env fs σ l (· = v)) (h2 : Pv pr w s₀ A env fs σ r (· = .none)) : Tv pr w s₀ A env fs σ (.Compare l [.Is] [r] pos) (v == .none) :=
  Tv.cmp h1 h2 (fun _ _ e1 e2 => by subst e1 e2; exact fun s _ _ I q => is_none (q _ _ _ _ ⟨rfl, rfl, rfl⟩ I)) (bim rfl)
theorem Tv.isNotNone {l r : Expr} (h1 : Pv pr w s₀ A env fs σ l (· = v)) (h2 : Pv pr w s₀ A env fs σ r (· = .none)) : Tv pr w s₀ A env fs σ (.Compare l [.IsNot] [r] pos) (!(v == .none)) :=
  Tv.cmp h1 h2 (fun _ _ e1 e2 => by subst e1 e2; exact fun s _ _ I q => isNot_none (q _ _ _ _ ⟨rfl, rfl, rfl⟩ I)) (bim rfl)
theorem Tv.not {e : Expr} {b : Bool} (h : Tv pr w s₀ A env fs σ e b) : Tv pr w s₀ A env fs σ (.UnaryOp .Not e pos) (!b) :=
  fun s _ _ I q => wpAny_isTrue_Not (h s _ _ I fun c _ _ s₁ ⟨e1, e2, e3⟩ I₁ => by subst e1 e2 e3; exact q _ _ _ _ ⟨rfl, rfl, rfl⟩ I₁)
theorem Tv.and {e₁ e₂ : Expr} {b₁ b₂ : Bool} (h1 : Tv pr w s₀ A env fs σ e₁ b₁) (h2 : b₁ = true → Tv pr w s₀ A env fs σ e₂ b₂) : Tv pr w s₀ A env fs σ (.BoolOp .And [e₁, e₂] pos) (b₁ && b₂) :=
  fun s _ _ I q => wpAny_isTrue_BoolOp (wpAny_allTrue_And_cons (h1 s _ _ I fun c _ _ s₁ ⟨e1, e2, e3⟩ I₁ => by
    subst e1 e2 e3
    cases c with
    | false => exact q _ _ _ _ ⟨rfl, rfl, rfl⟩ I₁
    | true => exact wpAny_allTrue_And_cons (h2 rfl s₁ _ _ I₁ fun d _ _ s₂ ⟨e1, e2, e3⟩ I₂ => by
        subst e1 e2 e3
        cases d with
        | false => exact q _ _ _ _ ⟨rfl, rfl, rfl⟩ I₂
        | true => exact wpAny_allTrue_And_nil (q _ _ _ _ ⟨rfl, rfl, rfl⟩ I₂))))
theorem Tv.const {k : Nat} : Tv pr w s₀ A env fs σ (.Constant (.bool true) k pos) true :=
  fun s _ _ I q => wpAny_isTrue_value (wpAny_Constant_bool (wpAny_truthy_bool (q _ _ _ _ ⟨rfl, rfl, rfl⟩ I)))

/-! a list's item -/
theorem Pv.item {l i : Expr} {a : Addr} {vs : List Value} {k : Nat} (h1 : Pv pr w s₀ A env fs σ l (· = .ref a)) (h2 : Pv pr w s₀ A env fs σ i (IsI (k : Int))) (hs : σ a = some (.list vs)) (hk : vs[k]? = some v) (hz : vs.length < 2 ^ 62)
    (hsub : ∀ t, subscripted i false (.ref a) (.int (k : Int) t) = operate [.ref a, .int (k : Int) t] (getItem (.ref a) (.int (k : Int) t)) := by intro _; with_unfolding_all rfl) (ht : ∀ o r, letTemporaryGo l o r = pure () := by intro _ _; rfl) :
    Pv pr w s₀ A env fs σ (.Subscript l i pos) (· = v) := fun s _ _ I q => by
  rw [eval_Subscript]
  refine wpAny_bind (h1 s _ _ I fun o _ _ s₁ ⟨e1, e2, e3⟩ I₁ => ?_)
  subst e1 e2 e3
  refine wpAny_bind (wpAny_holding (h2 s₁ _ _ I₁ fun o _ _ s₂ ⟨e1, e2, t, e3⟩ I₂ => ?_))
  subst e1 e2 e3
  refine wpAny_bind (wpAny_standAt ?_)
  obtain ⟨o, ho, n, e⟩ := I₂.get hs
  have hL : s₂.heap.IsList a vs.toArray := ⟨o, ho, by rw [e], n, by rw [e]⟩
  refine wpAny_bind ?_
  rw [getitemInPython_of_ne (by intro x; cases x)]
  refine wpAny_bind (wpAny_specialOf hL.typeIs slot_list_getitem.lookup ?_)
  refine wpAny_pure ?_
  refine wpAny_bind ?_
  rw [hsub]
  have hlt : k < vs.length := (List.getElem?_eq_some_iff.mp hk).1
  refine wpAny_operating (wpAny_getItem_list hL (by omega) (by omega) (by simpa using hk) (wpAny_bind (wpAny_of_eq (ht _ _) (wpAny_pure (q _ _ _ _ ⟨rfl, rfl, rfl⟩ I₂)))))

/-! statements -/
variable {V : Flow → Fs → Sto → Prop} {rest : List Stmt}
theorem Tr.nil (h : V .next fs σ) : Tr pr w s₀ A fs σ (execs [] env) V := fun s _ _ I q => wpAny_execs_nil (q _ _ _ _ h I)
theorem Tr.seq {st : Stmt} {W : Flow → Fs → Sto → Prop} (h : Tr pr w s₀ A fs σ (exec st env) W) (hn : ∀ fs' σ', W .next fs' σ' → Tr pr w s₀ A fs' σ' (execs rest env) V) (hb : ∀ f fs' σ', f ≠ .next → W f fs' σ' → V f fs' σ') :
    Tr pr w s₀ A fs σ (execs (st :: rest) env) V :=
  fun s _ _ I q => wpAny_execs_cons (h s _ _ I fun f fs' σ' s' hw I' => by
    cases f with
    | next => exact hn fs' σ' hw s' _ _ I' q
    | brk => exact q _ _ _ _ (hb _ _ _ (by simp) hw) I'
    | cont => exact q _ _ _ _ (hb _ _ _ (by simp) hw) I'
    | ret r => exact q _ _ _ _ (hb _ _ _ (by simp) hw) I')
theorem Tr.store {V : Unit → Fs → Sto → Prop} (h : V () ((env, set1 m x v) :: fs) σ) (hl : env.kindOf x = some .local := by rfl) : Tr pr w s₀ A ((env, m) :: fs) σ (storeName env x v) V :=
  fun s _ _ I q => by
    obtain ⟨_, hk, _, _, n⟩ := I.fr _ (.head _)
    exact wpAny_storeName_local hl n (fun h' n' sb => q _ _ _ _ h (I.name n' sb.extBut _)) (by rw [hk]; rfl)
theorem Tr.storeCell {c : Addr} {v₀ : Option Value} {V : Unit → Fs → Sto → Prop} (hs : σ c = some (.cell v₀)) (h : V () fs (upd σ c (.cell (some v)))) (hk : env.scope.kind = .function := by rfl) (hl : env.kindOf x = some .cell := by rfl) (hc : env.cells.lookup x = some c := by rfl) :
    Tr pr w s₀ A fs σ (storeName env x v) V :=
  fun s _ _ I q => by
    obtain ⟨o, ho, h1⟩ := I.get hs
    refine wpAny_storeName_cell hk hl hc ⟨o, ho, h1⟩ fun h' ⟨o', ho', h1'⟩ sb => q _ _ _ _ h ?_
    have := I.put (x' := .cell (some v)) hs sb.extBut ho' h1' s.toks
    exact this
/-- x = e, any effect of e -/
theorem Tr.assign {pos' : Pos} {e : Expr} {W : Value → Fs → Sto → Prop} (h : Tr pr w s₀ A fs σ (eval e env) W) (hn : ∀ v fs' σ', W v fs' σ' → Tr pr w s₀ A fs' σ' (storeName env x v) (fun _ fs'' σ'' => Tr pr w s₀ A fs'' σ'' (execs rest env) V))
    (hs : swapsWith e (some (.Name x pos')) pos.line env = Pure.pure false := by rfl) : Tr pr w s₀ A fs σ (execs (.Assign [.Name x pos'] e pos :: rest) env) V :=
  fun s _ _ I q => wpAny_execs_cons (wpAny_Assign_Name (h s _ _ I fun v fs' σ' s' hw I' => hn v fs' σ' hw s' _ _ I' fun _ fs'' σ'' s'' ht I'' => ht s'' _ _ I'' q) hs)
/-- x = e, x a local, e without effect -/
theorem Tr.let {pos' : Pos} {e : Expr} (h : Pv pr w s₀ A env ((env, m) :: fs) σ e P) (hn : ∀ v, P v → Tr pr w s₀ A ((env, set1 m x v) :: fs) σ (execs rest env) V)
    (hl : env.kindOf x = some .local := by rfl) (hs : swapsWith e (some (.Name x pos')) pos.line env = Pure.pure false := by rfl) : Tr pr w s₀ A ((env, m) :: fs) σ (execs (.Assign [.Name x pos'] e pos :: rest) env) V :=
  Tr.assign h (fun v _ _ ⟨e1, e2, hv⟩ => by subst e1 e2; exact Tr.store (hn v hv) hl) hs
theorem Tr.ret {e : Expr} {W : Value → Fs → Sto → Prop} (h : Tr pr w s₀ A fs σ (eval e env) W) (hv : ∀ v fs' σ', W v fs' σ' → V (.ret v) fs' σ') : Tr pr w s₀ A fs σ (execs (.Return (some e) pos :: rest) env) V :=
  fun s _ _ I q => wpAny_execs_cons (wpAny_Return_some (h s _ _ I fun v fs' σ' s' hw I' => q _ _ _ _ (hv v fs' σ' hw) I'))
theorem Tr.brk (h : V .brk fs σ) : Tr pr w s₀ A fs σ (execs (.Break pos :: rest) env) V := fun s _ _ I q => wpAny_execs_cons (wpAny_Break (q _ _ _ _ h I))
theorem Tr.cont (h : V .cont fs σ) : Tr pr w s₀ A fs σ (execs (.Continue pos :: rest) env) V := fun s _ _ I q => wpAny_execs_cons (wpAny_Continue (q _ _ _ _ h I))
theorem Tr.ite {test : Expr} {body orelse : List Stmt} {b : Bool} (h : Tv pr w s₀ A env fs σ test b) (h1 : b = true → Tr pr w s₀ A fs σ (execs body env) (fun f fs' σ' => match f with | .next => Tr pr w s₀ A fs' σ' (execs rest env) V | f => V f fs' σ'))
    (h2 : b = false → Tr pr w s₀ A fs σ (execs orelse env) (fun f fs' σ' => match f with | .next => Tr pr w s₀ A fs' σ' (execs rest env) V | f => V f fs' σ')) : Tr pr w s₀ A fs σ (execs (.If test body orelse pos :: rest) env) V :=
  fun s _ _ I q => wpAny_execs_cons (wpAny_If (h s _ _ I fun c _ _ s₁ ⟨e1, e2, e3⟩ I₁ => by
    subst e1 e2 e3
    cases c with
    | true => exact h1 rfl s₁ _ _ I₁ fun f fs' σ' s' hf I' => by cases f <;> first | exact hf s' _ _ I' q | exact q _ _ _ _ hf I'
    | false => exact h2 rfl s₁ _ _ I₁ fun f fs' σ' s' hf I' => by cases f <;> first | exact hf s' _ _ I' q | exact q _ _ _ _ hf I'))
theorem Tr.then {body : List Stmt} {W : Flow → Fs → Sto → Prop} (h : Tr pr w s₀ A fs σ (execs body env) W) (h2 : ∀ f fs' σ', W f fs' σ' → V f fs' σ') : Tr pr w s₀ A fs σ (execs body env) V := h.mono h2
theorem Tr.while {test : Expr} {body orelse : List Stmt} (I : Nat → Fs → Sto → Prop) (n : Nat) (h0 : I n fs σ)
    (turn : ∀ n fs σ, I n fs σ → ∃ b, Tv pr w s₀ A env fs σ test b ∧
      (b = true → Tr pr w s₀ A fs σ (execs body env) (fun f fs' σ' => match f with | .next | .cont => ∃ k, k < n ∧ I k fs' σ' | .brk => Tr pr w s₀ A fs' σ' (execs rest env) V | .ret v => V (.ret v) fs' σ')) ∧
      (b = false → Tr pr w s₀ A fs σ (execs orelse env) (fun f fs' σ' => match f with | .next => Tr pr w s₀ A fs' σ' (execs rest env) V | f => V f fs' σ'))) :
    Tr pr w s₀ A fs σ (execs (.While test body orelse pos :: rest) env) V := fun s Q E Iv q => by
  refine wpAny_execs_cons (wpAny_While (codeAny_whileLoop (fun n s => ∃ fs σ, I n fs σ ∧ Inv s₀ fs σ s) (fun n s ⟨fs, σ, hI, Iv⟩ => ?_) n ⟨fs, σ, h0, Iv⟩))
  obtain ⟨b, ht, h1, h2⟩ := turn n fs σ hI
  refine ht s _ _ Iv fun c _ _ s₁ ⟨e1, e2, e3⟩ I₁ => ?_
  subst e1 e2 e3
  cases c with
  | true =>
    refine h1 rfl s₁ _ _ I₁ fun f fs' σ' s' hf I' => ?_
    cases f with
    | next => obtain ⟨k, hk, hi⟩ := hf; exact ⟨k, hk, fs', σ', hi, I'⟩
    | cont => obtain ⟨k, hk, hi⟩ := hf; exact ⟨k, hk, fs', σ', hi, I'⟩
    | brk => exact hf s' _ _ I' q
    | ret v => exact q _ _ _ _ hf I'
  | false =>
    refine h2 rfl s₁ _ _ I₁ fun f fs' σ' s' hf I' => ?_
    cases f with
    | next => exact hf s' _ _ I' q
    | brk => exact q _ _ _ _ hf I'
    | cont => exact q _ _ _ _ hf I'
    | ret v => exact q _ _ _ _ hf I'
end
end Mine
end
section
open PySem PySem.W PyProof.Rows
namespace Mine

theorem Ok.deeper {A : Around} {fs : Fs} {k : Nat} {env : Env} {m : NsMap} (O : Ok A fs (k + 1)) : Ok (A.deeper env) ((env, m) :: fs) k :=
  ⟨by have := O.depth; show A.depth + 1 + k < _; omega, by have := O.units; show A.units + 3 + 20 * k + 20 < _; omega, by show A.frames.map _ = _; rw [O.frames]; rfl, O.handled⟩
theorem Ok.less {A : Around} {fs : Fs} {k j : Nat} (O : Ok A fs k) (h : j ≤ k) : Ok A fs j := ⟨by have := O.depth; omega, by have := O.units; omega, O.frames, O.handled⟩
abbrev Ok.env {A : Around} {env : Env} {m : NsMap} {fs : Fs} {k : Nat} (_ : Ok A ((env, m) :: fs) k) : Env := env
theorem Ok.top {A : Around} {fs : Fs} {k : Nat} {env : Env} {m m' : NsMap} (O : Ok A ((env, m) :: fs) k) : Ok A ((env, m') :: fs) k := ⟨O.depth, O.units, O.frames, O.handled⟩

section
variable {pr : Program} {w : World} {s₀ : Shared} {A : Around} {env : Env} {fs : Fs} {σ : Sto} {m mg mb : NsMap} {x : Str} {v : Value} {pos : Pos} {P P₁ P₂ : Value → Prop}

/-! a def of the text -/
theorem cells_get {s₀ s : Shared} {fs : Fs} {σ : Sto} {L : Addr} {m cm : NsMap} {cs : List (Str × Addr)} {s' : Shared} (I : Inv s₀ fs σ s) (x : InCallC s L m cs cm s') (hL : s.heap.objs.size ≤ L) :
    ∃ σ', Sub σ σ' ∧ Inv s₀ fs σ' s' ∧ (∀ n c, cs.lookup n = some c → σ c = none ∧ σ' c = some (.cell (cm n))) ∧ σ' L = none := by
  obtain ⟨h', tk, e, k⟩ := x.done
  have nc : ∀ c, L < c → s.heap.get? c = none := fun c hc => Heap.get?_none_of_le (Nat.le_of_lt (Nat.lt_of_le_of_lt hL hc))
  refine ⟨fun b => if (cs.any fun p => p.2 == b && (cs.lookup p.1 == some b)) then (match cs.find? (fun p => p.2 == b) with | some p => some (.cell (cm p.1)) | none => σ b) else σ b, ?_, ?_, ?_, ?_⟩
  · intro b y hb
    have hlt : b < s.heap.objs.size := by obtain ⟨o, ho, _⟩ := I.get hb; exact Heap.lt_size ho
    show (if _ then _ else _) = _
    rw [if_neg]
    · exact hb
    · intro q
      obtain ⟨p, hp, hq⟩ := List.any_eq_true.mp q
      simp only [Bool.and_eq_true, beq_iff_eq] at hq
      have := ltN (x.above p.1 p.2 (by simpa using hp))
      rw [hq.1] at this
      exact absurd (Nat.lt_of_lt_of_le hlt hL) (Nat.not_lt.mpr (Nat.le_of_lt this))
  · subst e
    have I' := I.grow (h' := h') (fun b o hb => k b o hb) tk
    refine ⟨I'.same, I'.keep, fun b y hb => ?_, fun f hf => ?_, I'.nd⟩
    · split at hb
      · rename_i q
        obtain ⟨p, hp, hq⟩ := List.any_eq_true.mp q
        simp only [Bool.and_eq_true, beq_iff_eq] at hq
        split at hb
        · rename_i p' hp'
          cases hb
          have m1 := List.mem_of_find?_eq_some hp'
          have m2 := List.find?_some hp'
          simp only [beq_iff_eq] at m2
          have hn : p'.1 = p.1 := name_of_addr x.apart (n := p'.1) (n' := p.1) (c := b) (by rw [← m2]; simpa using m1) (by rw [← hq.1]; simpa using hp)
          have hc := x.cell p.1 b hq.2
          obtain ⟨o, ho, hd⟩ := hc
          have ab : L < b := by have := x.above p.1 p.2 (by simpa using hp); rw [hq.1] at this; exact this
          refine ⟨?_, o, ho, by rw [hn]; exact hd⟩
          cases q' : s₀.heap.get? b with
          | none => rfl
          | some o' => have := I.keep _ _ q'; rw [nc b ab] at this; cases this
        · exact I'.own b y hb
      · exact I'.own b y hb
    · obtain ⟨a1, a2, a3, a4, a5⟩ := I'.fr f hf
      refine ⟨a1, a2, a3, ?_, a5⟩
      show (if _ then _ else _) = _
      rw [if_neg]
      · exact a4
      · intro q
        obtain ⟨p, hp, hq⟩ := List.any_eq_true.mp q
        simp only [Bool.and_eq_true, beq_iff_eq] at hq
        have h1 := x.above p.1 p.2 (by simpa using hp)
        have h2 := (I.fr f hf).2.2.2.2.lt
        rw [hq.1] at h1
        exact absurd (Nat.lt_of_lt_of_le h2 hL) (Nat.not_lt.mpr (Nat.le_of_lt h1))
  · intro n c hc
    have hm := mem_of_lookup hc
    have ab := x.above n c hm
    refine ⟨?_, ?_⟩
    · cases q : σ c with
      | none => rfl
      | some y => obtain ⟨o, ho, _⟩ := I.get q; rw [nc c ab] at ho; cases ho
    · have hany : (cs.any fun p => p.2 == c && (cs.lookup p.1 == some c)) = true := List.any_eq_true.mpr ⟨(n, c), hm, by simp [hc]⟩
      simp only [hany, if_true]
      cases hf : cs.find? (fun p => p.2 == c) with
      | none => exact absurd (List.find?_eq_none.mp hf _ hm) (by simp)
      | some p =>
        have m1 := List.mem_of_find?_eq_some hf
        have m2 := List.find?_some hf
        simp only [beq_iff_eq] at m2
        have : p.1 = n := name_of_addr x.apart (n := p.1) (n' := n) (c := c) (by rw [← m2]; simpa using m1) hm
        simp [this]
  · show (if _ then _ else _) = _
    rw [if_neg]
    · cases q : σ L with
      | none => rfl
      | some y => obtain ⟨o, ho, _⟩ := I.get q; exact absurd (Heap.lt_size ho) (Nat.not_lt.mpr hL)
    · intro q
      obtain ⟨p, hp, hq⟩ := List.any_eq_true.mp q
      simp only [Bool.and_eq_true, beq_iff_eq] at hq
      have := x.above p.1 p.2 (by simpa using hp)
      rw [hq.1] at this
      exact Nat.lt_irrefl _ this

/-- where a def stands, and what it is -/
structure Def (s₀ : Shared) (a : Addr) (fd : FuncData) (body : List Stmt) : Prop where
  at' : ∃ o, s₀.heap.get? a = some o ∧ o.data = .func fd
  code : s₀.heap.CodeRec fd.code fd.qualname
  body : fd.body = .stmts body
  clo : fd.closure = []
  glo : fd.globals = mainGlobals
  bui : fd.builtins = builtinsNs
  co : fd.scope.isCoroutine = false
  gen : fd.scope.isGenerator = false
  kind : fd.scope.kind = .function

def flowVal : Flow → Value
  | .ret v => v
  | _ => .none

/-- the call of a def: its body from a new frame (and new cells) -/
theorem Tr.callB {a : Addr} {fd : FuncData} {body : List Stmt} {args : Args} {k : Nat} {V : Value → Fs → Sto → Prop} (B : Bs s₀ mg mb) (D : Def s₀ a fd body) (O : Ok A fs (k + 1)) {W : List (Str × Value) → Fs → Sto → Prop}
    (hb : Tr pr w s₀ A.in1 fs σ (bindArgs fd args) W)
    (hkind : ∀ binds fs' σ', W binds fs' σ' → fs' = fs ∧ ∀ n, ∀ y ∈ binds, fd.scope.names.lookup y.1 = some .local ∨ (fd.scope.names.lookup y.1 = some .cell ∧ ((cellsFrom n fd.scope.names []).lookup y.1).isSome = true))
    (h : ∀ binds σ' L σ'', W binds fs σ' → Sub σ' σ'' → Ok (A.deeper (fenv fd.scope fd.qualname fd.code L a)) ((fenv fd.scope fd.qualname fd.code L a, bindL (fenv fd.scope fd.qualname fd.code L a).kindOf binds fun _ => none) :: fs) k →
      (∀ n c, (cellsFrom (L + 1) fd.scope.names []).lookup n = some c → σ' c = none ∧ σ'' c = some (.cell (bindC (fenv fd.scope fd.qualname fd.code L a).kindOf binds (fun _ => none) n))) →
      Tr pr w s₀ (A.deeper (fenv fd.scope fd.qualname fd.code L a)) ((fenv fd.scope fd.qualname fd.code L a, bindL (fenv fd.scope fd.qualname fd.code L a).kindOf binds fun _ => none) :: fs) σ'' (execs body (fenv fd.scope fd.qualname fd.code L a))
        (fun f fs' σ' => ∃ m', fs' = (fenv fd.scope fd.qualname fd.code L a, m') :: fs ∧ V (flowVal f) fs σ')) :
    Tr pr w s₀ A fs σ (call (.ref a) args.pos args.kw) V := fun s Q E I q => by
  obtain ⟨o, ho, hd⟩ := D.at'
  refine wpAny_call (codeAny_call_function (by have := O.depth; omega) (I.keep _ _ ho) hd D.co D.gen D.body (D.code.keeps I.keep) ?_)
  refine hb s _ _ I fun binds fs' σ' s₁ hw I₁ => ?_
  obtain ⟨rfl, hk⟩ := hkind binds fs' σ' hw
  rw [D.clo]
  refine wpAny_newFunctionEnv_cells D.kind (hk _) fun env he s₂ x => ?_
  refine ⟨(B.lim.keeps I₁.keep).keeps x.toInCall.keep, codeAny_func ?_⟩
  have he' : env = fenv fd.scope fd.qualname fd.code s₁.heap.objs.size a := by rw [he, D.glo, D.bui]; rfl
  have hL : env.locals = s₁.heap.objs.size := by rw [he']; rfl
  have hcs : env.cells = cellsFrom (s₁.heap.objs.size + 1) fd.scope.names [] := by rw [he']; rfl
  obtain ⟨σ'', hs, I₂, hc, hn⟩ := cells_get I₁ x (by rw [hL]; exact Nat.le_refl _)
  have I₃ : Inv s₀ ((env, bindL env.kindOf binds fun _ => none) :: fs') σ'' s₂ := by
    refine ⟨I₂.same, I₂.keep, I₂.own, fun f hf => ?_, ?_⟩
    · rcases List.mem_cons.mp hf with rfl | hf
      · refine ⟨by rw [he']; rfl, by rw [he']; exact D.kind, ?_, hn, x.toInCall.ns⟩
        cases q' : s₀.heap.get? env.locals with
        | none => rfl
        | some o' => have := Heap.lt_size (I₁.keep _ _ q'); rw [hL] at this; exact absurd this (Nat.lt_irrefl _)
      · exact I₂.fr f hf
    · refine List.nodup_cons.mpr ⟨fun hm => ?_, I₂.nd⟩
      obtain ⟨f, hf, e⟩ := List.mem_map.mp hm
      have := (I₁.fr f hf).2.2.2.2.lt
      have e' : f.1.locals = env.locals := e
      rw [e', hL] at this
      exact Nat.lt_irrefl _ this
  rw [he'] at I₃
  have := h binds σ' s₁.heap.objs.size σ'' hw hs O.deeper (fun n c e => by rw [hcs] at hc; have := hc n c e; rw [he'] at this; exact this)
  rw [he']
  refine this s₂ _ _ I₃ fun f fs' σ₃ s₃ ⟨m', e, hv⟩ I₄ => ?_
  subst e
  have := q _ _ _ _ hv I₄.pop
  cases f <;> exact this

/-- arguments by place, bound as they come -/
theorem Tr.callP {a : Addr} {fd : FuncData} {body : List Stmt} {vals : List Value} {binds : List (Str × Value)} {k : Nat} {V : Value → Fs → Sto → Prop} (B : Bs s₀ mg mb) (D : Def s₀ a fd body) (O : Ok A fs (k + 1))
    (hb : bindArgs fd ⟨vals, []⟩ = Pure.pure binds)
    (hkind : (binds.all fun y => fd.scope.names.lookup y.1 == some .local || fd.scope.names.lookup y.1 == some .cell) = true)
    (h : ∀ L σ', Sub σ σ' → Ok (A.deeper (fenv fd.scope fd.qualname fd.code L a)) ((fenv fd.scope fd.qualname fd.code L a, bindL (fenv fd.scope fd.qualname fd.code L a).kindOf binds fun _ => none) :: fs) k →
      (∀ n c, (cellsFrom (L + 1) fd.scope.names []).lookup n = some c → σ c = none ∧ σ' c = some (.cell (bindC (fenv fd.scope fd.qualname fd.code L a).kindOf binds (fun _ => none) n))) →
      Tr pr w s₀ (A.deeper (fenv fd.scope fd.qualname fd.code L a)) ((fenv fd.scope fd.qualname fd.code L a, bindL (fenv fd.scope fd.qualname fd.code L a).kindOf binds fun _ => none) :: fs) σ' (execs body (fenv fd.scope fd.qualname fd.code L a))
        (fun f fs' σ' => ∃ m', fs' = (fenv fd.scope fd.qualname fd.code L a, m') :: fs ∧ V (flowVal f) fs σ')) :
    Tr pr w s₀ A fs σ (call (.ref a) vals) V :=
  Tr.callB (args := ⟨vals, []⟩) (W := Pu fs σ (· = binds)) B D O (by rw [hb]; exact Tr.pure ⟨rfl, rfl, rfl⟩)
    (fun _ _ _ ⟨e1, _, e3⟩ => ⟨e1, by subst e3; exact kindsX hkind⟩) fun _ _ L σ'' ⟨_, e2, e3⟩ => by subst e2 e3; exact h L σ''

/-! calls as expressions -/
theorem Tr.args0 {V : List Value → Fs → Sto → Prop} (h : V [] fs σ) : Tr pr w s₀ A fs σ (spliced (backTo pos (starEach [] env))) V := fun s _ _ I q => args_nil (q _ _ _ _ h I)
theorem Tr.argsC {e : Expr} {rest : List Expr} {V : List Value → Fs → Sto → Prop} {W : Value → Fs → Sto → Prop} (h : Tr pr w s₀ A fs σ (eval e env) W)
    (hr : ∀ v fs' σ', W v fs' σ' → Tr pr w s₀ A fs' σ' (spliced (backTo pos (starEach rest env))) (fun vs => V (v :: vs)))
    (he : starEach (e :: rest) env = (false, eval e env) :: starEach rest env := by rfl) : Tr pr w s₀ A fs σ (spliced (backTo pos (starEach (e :: rest) env))) V :=
  fun s _ _ I q => args_cons (h s _ _ I fun v fs' σ' s' hw I' => hr v fs' σ' hw s' _ _ I' fun vs fs'' σ'' s'' hv I'' => q _ _ _ _ hv I'') he

/-- f(..), f a def of the text or a built-in -/
theorem Tr.callN {f : Expr} {e : Expr} {rest : List Expr} {fv : Value} {V : Value → Fs → Sto → Prop} {W : List Value → Fs → Sto → Prop} (hf : Pv pr w s₀ A env fs σ f (· = fv))
    (hk : (∃ id, fv = .builtin id) ∨ (∃ T, fv = .type T) ∨ ∃ a o fd, fv = .ref a ∧ s₀.heap.get? a = some o ∧ o.data = .func fd)
    (ha : Tr pr w s₀ A fs σ (spliced (backTo pos (starEach (e :: rest) env))) W) (hc : ∀ vs fs' σ', W vs fs' σ' → Tr pr w s₀ A fs' σ' (call fv vs) V)
    (he : starEach (e :: rest) env = (false, eval e env) :: starEach rest env := by rfl) (hp : (backTo pos (starEach rest env)).any (·.1) = false := by rfl)
    (hev : eval (.Call f (e :: rest) [] pos) env = (do callWith pos (← eval f env) [] (backTo pos (starEach (e :: rest) env)) (backToKw pos (keywordEach [] env))) := by rfl) :
    Tr pr w s₀ A fs σ (eval (.Call f (e :: rest) [] pos) env) V := fun s Q E I q => by
  refine Call_ (hf s _ _ I fun g _ _ s₁ ⟨e1, e2, e3⟩ I₁ => ?_) hev
  subst e1 e2 e3
  rw [he] at ha ⊢
  refine callWith_of (P := fun h => ∀ b o, s₀.heap.get? b = some o → h.get? b = some o) (by show ((false || (backTo pos (starEach rest env)).any (·.1)) || false) = false; rw [hp]; rfl) ?_ (Calls.evalArgs_plain (ha s₁ _ _ I₁ fun vs fs' σ' s' hw I' => ⟨I'.keep, hc vs fs' σ' hw s' _ _ I' q⟩))
  intro h hh
  rcases hk with ⟨id, rfl⟩ | ⟨T, rfl⟩ | ⟨a, o, fd, rfl, ho, hd⟩
  · exact ⟨.machine, .inr (.inl rfl), Looks.of_pure rfl⟩
  · exact ⟨.machine, .inr (.inl rfl), Looks.of_pure rfl⟩
  · obtain ⟨c, d, dt, sl⟩ := o
    cases hd
    exact ⟨.frame, .inl rfl, (Looks.ld (part := none) (hh _ _ ho)).andThen .now⟩
end
end Mine
end
section
open PySem PySem.W PyProof.Rows
namespace Mine

theorem mkDef {K : Frag} {s₀ : Shared} {a : Addr} {c : Value} {d : Option Addr} {sl : Array (Option Value)} {fd : FuncData} {body : List Stmt} (X : K.In s₀.heap) (e : K.lookup a = some ⟨c, d, .func fd, sl⟩) (hb : fd.body = .stmts body)
    (hc : codeIn K fd.code fd.qualname = true) (h1 : fd.closure = []) (h2 : fd.globals = mainGlobals) (h3 : fd.builtins = builtinsNs) (h4 : fd.scope.isCoroutine = false) (h5 : fd.scope.isGenerator = false) (h6 : fd.scope.kind = .function) : Def s₀ a fd body :=
  ⟨⟨_, X _ _ e, rfl⟩, codeRec_of X hc, hb, h1, h2, h3, h4, h5, h6⟩

section
variable {pr : Program} {w : World} {s₀ : Shared} {A : Around} {env : Env} {fs : Fs} {σ : Sto} {m mg mb : NsMap} {x : Str} {v : Value} {pos : Pos} {P P₁ P₂ : Value → Prop} {V : Flow → Fs → Sto → Prop} {rest : List Stmt}

theorem Inv.isL {s : Shared} {a : Addr} {vs : List Value} (I : Inv s₀ fs σ s) (hs : σ a = some (.list vs)) : ∃ n, s.heap.get? a = some { cls := .type "list", dict := none, data := .seq vs.toArray n, slots := #[] } := by
  obtain ⟨o, ho, n, e⟩ := I.get hs; exact ⟨n, e ▸ ho⟩
theorem Inv.isList {s : Shared} {a : Addr} {vs : List Value} (I : Inv s₀ fs σ s) (hs : σ a = some (.list vs)) : s.heap.IsList a vs.toArray := by
  obtain ⟨n, h⟩ := I.isL hs; exact ⟨_, h, rfl, n, rfl⟩
/-- a change of a list by mapSeq -/
theorem Inv.seq {s : Shared} {a : Addr} {vs vs' : List Value} {n : Nat} {f : Array Value → Array Value} (I : Inv s₀ fs σ s) (hs : σ a = some (.list vs)) (hg : s.heap.get? a = some { cls := .type "list", dict := none, data := .seq vs.toArray n, slots := #[] })
    (hf : f vs.toArray = vs'.toArray) (t : Nat) : Inv s₀ fs (upd σ a (.list vs')) { s with heap := s.heap.update a (Obj.mapSeq f), toks := t } := by
  refine I.put hs (Heap.SameBut.update ..).extBut (Heap.get?_update_self _ hg rfl) ?_ t
  exact ⟨if (f vs.toArray).size == vs.toArray.size then n else n + 1, by simp only [Obj.mapSeq, hf]⟩

/-! l[i] = v -/
theorem Tr.setItem {a : Addr} {vs : List Value} {k : Nat} {t : Tok} {W : Unit → Fs → Sto → Prop} (hs : σ a = some (.list vs)) (hk : k < vs.length) (hz : vs.length < 2 ^ 62) (h : W () fs (upd σ a (.list (vs.set k v)))) :
    Tr pr w s₀ A fs σ (PySem.setItem (.ref a) (.int (k : Int) t) v) W := fun s _ _ I q => by
  obtain ⟨n, hg⟩ := I.isL hs
  refine ki_setAt hg (by omega) (by omega) (by simpa using hk) (q _ _ _ _ h ?_)
  have := I.seq (f := (·.setIfInBounds (k : Int).toNat v)) hs hg (vs' := vs.set k v) (by apply Array.toList_inj.mp; simp) s.toks
  exact this
theorem Tr.assignSub {o i e : Expr} {pos' : Pos} {W₁ : Value → Fs → Sto → Prop} (h1 : Tr pr w s₀ A fs σ (eval e env) W₁) (h2 : ∀ v fs' σ', W₁ v fs' σ' → Tr pr w s₀ A fs' σ' (eval o env) (fun ov fs'' σ'' => Tr pr w s₀ A fs'' σ'' (eval i env) (fun iv fs3 σ3 => Tr pr w s₀ A fs3 σ3 (PySem.setItem ov iv v) (fun _ fs4 σ4 => Tr pr w s₀ A fs4 σ4 (execs rest env) V))))
    (hs : swapsWith e (some (.Subscript o i pos')) pos.line env = Pure.pure false := by rfl) : Tr pr w s₀ A fs σ (execs (.Assign [.Subscript o i pos'] e pos :: rest) env) V :=
  fun s _ _ I q => wpAny_execs_cons (wpAny_Assign_Subscript (h1 s _ _ I fun v fs' σ' s' hw I' => h2 v fs' σ' hw s' _ _ I' fun ov fs'' σ'' s'' h3 I'' => h3 s'' _ _ I'' fun iv fs3 σ3 s3 h4 I3 => h4 s3 _ _ I3 fun _ fs4 σ4 s4 h5 I4 => h5 s4 _ _ I4 q) hs)
/-- l[i] = e, all without other effect -/
theorem Tr.setL {o i e : Expr} {pos' : Pos} {a : Addr} {vs : List Value} {k : Nat} (he : Pv pr w s₀ A env fs σ e P) (ho : Pv pr w s₀ A env fs σ o (· = .ref a)) (hi : Pv pr w s₀ A env fs σ i (IsI (k : Int))) (hs : σ a = some (.list vs)) (hk : k < vs.length) (hz : vs.length < 2 ^ 62)
    (h : ∀ v, P v → Tr pr w s₀ A fs (upd σ a (.list (vs.set k v))) (execs rest env) V)
    (hsw : swapsWith e (some (.Subscript o i pos')) pos.line env = Pure.pure false := by rfl) : Tr pr w s₀ A fs σ (execs (.Assign [.Subscript o i pos'] e pos :: rest) env) V :=
  Tr.assignSub he (fun v _ _ ⟨e1, e2, hv⟩ => by
    subst e1 e2
    exact ho.mono fun _ _ _ ⟨e1, e2, e3⟩ => by
      subst e1 e2 e3
      exact hi.mono fun _ _ _ ⟨e1, e2, t, e3⟩ => by
        subst e1 e2 e3
        exact Tr.setItem hs hk hz (h v hv)) hsw

/-! e as a statement -/
theorem Tr.expr {e : Expr} {W : Value → Fs → Sto → Prop} (h : Tr pr w s₀ A fs σ (eval e env) W) (hn : ∀ v fs' σ', W v fs' σ' → Tr pr w s₀ A fs' σ' (execs rest env) V)
    (hi : interactive env = false := by rfl) (hs : swapsWith e Option.none pos.line env = Pure.pure false := by rfl) : Tr pr w s₀ A fs σ (execs (.Expr e pos :: rest) env) V :=
  fun s _ _ I q => wpAny_execs_cons (wpAny_Expr_any (h s _ _ I fun v fs' σ' s' hw I' => hn v fs' σ' hw s' _ _ I' q) hi hs)

/-! x += e -/
theorem Tr.aug {e : Expr} {pos' : Pos} {a b : Int} {t : Tok} (hm : m x = some (.int a t)) (h : Pv pr w s₀ A env ((env, m) :: fs) σ e (IsI b)) (hn : ∀ u, Tr pr w s₀ A ((env, set1 m x (.int (a + b) u)) :: fs) σ (execs rest env) V)
    (hl : env.kindOf x = some .local := by rfl) : Tr pr w s₀ A ((env, m) :: fs) σ (execs (.AugAssign (.Name x pos') .Add e pos :: rest) env) V :=
  fun s _ _ I q => by
    obtain ⟨_, hk, _, _, n⟩ := I.fr _ (.head _)
    refine wpAny_execs_cons (wpAny_AugAssign_Name (wpAny_loadName_local hk hl n hm (h s _ _ I fun v _ _ s' ⟨e1, e2, u, e3⟩ I' => ?_)))
    rw [e1, e2] at I'
    rw [e3]
    exact iadd_int (Tr.store (fs := fs) (σ := σ) (m := m) (V := fun _ fs' σ' => Tr pr w s₀ A fs' σ' (execs rest env) V) (hn s'.toks) hl _ _ _ (I'.tok _) fun _ fs'' σ'' s'' h5 I'' => h5 s'' _ _ I'' q)

/-! len -/
theorem Tr.lenList {a : Addr} {vs : List Value} (hs : σ a = some (.list vs)) (hz : vs.length < 2 ^ 62) : Tr pr w s₀ A fs σ (call (.builtin "len") [.ref a]) (Pu fs σ (IsI (vs.length : Int))) := fun s _ _ I q => by
  refine len_list (I.isList hs) (by simp; omega) (q _ _ _ _ ⟨rfl, rfl, s.toks + 1, by simp⟩ (I.tok _))
theorem Pv.call1 {f e : Expr} {fv : Value} (hf : Pv pr w s₀ A env fs σ f (· = fv)) (hk : (∃ id, fv = .builtin id) ∨ (∃ T, fv = .type T) ∨ ∃ a o fd, fv = .ref a ∧ s₀.heap.get? a = some o ∧ o.data = .func fd) (he : Pv pr w s₀ A env fs σ e P₁)
    (hc : ∀ v, P₁ v → Tr pr w s₀ A fs σ (call fv [v]) (Pu fs σ P)) (hse : starEach [e] env = (false, eval e env) :: starEach [] env := by rfl)
    (hev : eval (.Call f [e] [] pos) env = (do callWith pos (← eval f env) [] (backTo pos (starEach [e] env)) (backToKw pos (keywordEach [] env))) := by rfl) : Pv pr w s₀ A env fs σ (.Call f [e] [] pos) P :=
  Tr.callN hf hk (W := Pu fs σ (fun vs => ∃ v, vs = [v] ∧ P₁ v)) (Tr.argsC he (fun v _ _ ⟨e1, e2, hv⟩ => by subst e1 e2; exact Tr.args0 ⟨rfl, rfl, v, rfl, hv⟩) hse) (fun vs _ _ ⟨e1, e2, v, e3, hv⟩ => by subst e1 e2 e3; exact hc v hv) hse rfl hev
theorem Pv.len {f e : Expr} {a : Addr} {vs : List Value} (hf : Pv pr w s₀ A env fs σ f (· = .builtin "len")) (he : Pv pr w s₀ A env fs σ e (· = .ref a)) (hs : σ a = some (.list vs)) (hz : vs.length < 2 ^ 62) (hse : starEach [e] env = (false, eval e env) :: starEach [] env := by rfl)
    (hev : eval (.Call f [e] [] pos) env = (do callWith pos (← eval f env) [] (backTo pos (starEach [e] env)) (backToKw pos (keywordEach [] env))) := by rfl) : Pv pr w s₀ A env fs σ (.Call f [e] [] pos) (IsI (vs.length : Int)) :=
  Pv.call1 hf (.inl ⟨_, rfl⟩) he (fun v e => by subst e; exact Tr.lenList hs hz) hse hev
end
end Mine
end
section
open PySem PySem.W PyProof.Rows
namespace Mine
section
variable {pr : Program} {w : World} {s₀ : Shared} {A : Around} {env : Env} {fs : Fs} {σ : Sto} {m mg mb : NsMap} {x : Str} {v : Value} {pos : Pos} {P P₁ P₂ : Value → Prop} {V : Flow → Fs → Sto → Prop} {rest : List Stmt}

/-- the call of a def of the text, arguments by place; no cells -/
theorem Tr.fn {K : Frag} {a : Addr} {oc : Value} {od : Option Addr} {osl : Array (Option Value)} {name qual : Str} {params : Arguments} {body : List Stmt} {scope : Scope} {dV kV doc pm : Value} {an : Option Addr} {cdv ct : Value} {vals : List Value} {binds : List (Str × Value)} {k : Nat} {V : Value → Fs → Sto → Prop}
    (B : Bs s₀ mg mb) (X : K.In s₀.heap) (e : K.lookup a = some ⟨oc, od, .func (fnOf name qual params body scope dV kV doc pm an cdv ct), osl⟩) (hc : codeIn K cdv qual = true) (O : Ok A fs (k + 1))
    (hb : bindArgs (fnOf name qual params body scope dV kV doc pm an cdv ct) ⟨vals, []⟩ = Pure.pure binds)
    (hkind : (binds.all fun y => scope.names.lookup y.1 == some .local || scope.names.lookup y.1 == some .cell) = true)
    (h4 : scope.isCoroutine = false) (h5 : scope.isGenerator = false) (h6 : scope.kind = .function)
    (h : ∀ L σ', Sub σ σ' → Ok (A.deeper (fenv scope qual cdv L a)) ((fenv scope qual cdv L a, bindL (fenv scope qual cdv L a).kindOf binds fun _ => none) :: fs) k →
      (∀ n c, (cellsFrom (L + 1) scope.names []).lookup n = some c → σ c = none ∧ σ' c = some (.cell (bindC (fenv scope qual cdv L a).kindOf binds (fun _ => none) n))) →
      Tr pr w s₀ (A.deeper (fenv scope qual cdv L a)) ((fenv scope qual cdv L a, bindL (fenv scope qual cdv L a).kindOf binds fun _ => none) :: fs) σ' (execs body (fenv scope qual cdv L a))
        (fun f fs' σ' => ∃ m', fs' = (fenv scope qual cdv L a, m') :: fs ∧ V (flowVal f) fs σ')) :
    Tr pr w s₀ A fs σ (call (.ref a) vals) V :=
  Tr.callP B (mkDef X e rfl hc rfl rfl rfl h4 h5 h6) O hb hkind h

/-! lists of ints -/
theorem getD_some {xs : List Int} {k : Nat} (h : k < xs.length) : xs[k]? = some (xs.getD k 0) := by
  rw [List.getD_eq_getElem?_getD, List.getElem?_eq_getElem h]; rfl
theorem ints_get {vs : List Value} {xs : List Int} (h : IntsAre vs xs) : ∀ {k : Nat} {n : Int}, xs[k]? = some n → ∃ t, vs[k]? = some (.int n t) := by
  induction h with
  | nil => intro k n e; cases e
  | cons i t _ ih =>
    intro k n e
    cases k with
    | zero => cases e; exact ⟨t, rfl⟩
    | succ k => exact ih e
theorem Pv.itemI {l i : Expr} {a : Addr} {vs : List Value} {xs : List Int} {k : Nat} {n : Int} (h1 : Pv pr w s₀ A env fs σ l (· = .ref a)) (h2 : Pv pr w s₀ A env fs σ i (IsI (k : Int))) (hs : σ a = some (.list vs)) (hi : IntsAre vs xs) (hk : xs[k]? = some n) (hz : xs.length < 2 ^ 62)
    (hsub : ∀ t, subscripted i false (.ref a) (.int (k : Int) t) = operate [.ref a, .int (k : Int) t] (getItem (.ref a) (.int (k : Int) t)) := by intro _; with_unfolding_all rfl) (ht : ∀ o r, letTemporaryGo l o r = Pure.pure () := by intro _ _; rfl) :
    Pv pr w s₀ A env fs σ (.Subscript l i pos) (IsI n) := by
  obtain ⟨t, e⟩ := ints_get hi hk
  exact (Pv.item h1 h2 hs e (by rw [hi.length]; exact hz) hsub ht).mono fun v _ _ ⟨a, b, c⟩ => ⟨a, b, t, c⟩
theorem ints_setV {vs : List Value} {xs : List Int} (h : IntsAre vs xs) {v : Value} {n : Int} (hv : IsI n v) (k : Nat) : IntsAre (vs.set k v) (xs.set k n) := by
  obtain ⟨t, rfl⟩ := hv; exact ints_set h k
end
end Mine
end
section
open PySem PySem.W PyProof.Rows
namespace Mine
section
variable {pr : Program} {w : World} {s₀ : Shared} {A : Around} {env : Env} {fs : Fs} {σ : Sto} {m mg mb : NsMap} {x : Str} {v : Value} {pos : Pos} {P P₁ P₂ : Value → Prop} {V : Flow → Fs → Sto → Prop} {rest : List Stmt}

/-! for -/
/-- the invariant is chosen behind the iterator; K stands for 'one more turn' -/
theorem Tr.for {target iter : Expr} {body orelse : List Stmt} {W : Value → Fs → Sto → Prop} (h : Tr pr w s₀ A fs σ (eval iter env) W)
    (hp : ∀ v fs' σ', W v fs' σ' → Tr pr w s₀ A fs' σ' (pyIter v) (fun it fs'' σ'' => ∃ (I : Nat → Fs → Sto → Prop) (n : Nat), I n fs'' σ'' ∧ ∀ n fs σ, I n fs σ → ∀ Vb : Flow → Fs → Sto → Prop,
      (∀ k fs3 σ3, k < n → I k fs3 σ3 → Vb .next fs3 σ3 ∧ Vb .cont fs3 σ3) → (∀ fs3 σ3, Tr pr w s₀ A fs3 σ3 (execs rest env) V → Vb .brk fs3 σ3) → (∀ v fs3 σ3, V (.ret v) fs3 σ3 → Vb (.ret v) fs3 σ3) →
      Tr pr w s₀ A fs σ (pyNext it) (fun r fs' σ' => match r with
        | none => Tr pr w s₀ A fs' σ' (execs orelse env) (fun f fs'' σ'' => match f with | .next => Tr pr w s₀ A fs'' σ'' (execs rest env) V | f => V f fs'' σ'')
        | some v => Tr pr w s₀ A fs' σ' (PySem.assign target env v) (fun _ fs'' σ'' => Tr pr w s₀ A fs'' σ'' (execs body env) Vb))))
    (hs : ∀ x, foldedSetIterable iter env x = Pure.pure x := by intro _; rfl) (ht : ∀ it v, letOwnedTupleGo target it v = Pure.pure () := by intro _ _; rfl) :
    Tr pr w s₀ A fs σ (execs (.For target iter body orelse pos :: rest) env) V := fun s Q E Iv q => by
  refine wpAny_execs_cons (wpAny_For (h s _ _ Iv fun v fs' σ' s' hw I' => hp v fs' σ' hw s' _ _ I' fun it fs'' σ'' s'' hI I'' => ?_) hs)
  obtain ⟨I, n, hI, turn⟩ := hI
  refine codeAny_forLoop (fun n s => ∃ fs σ, I n fs σ ∧ Inv s₀ fs σ s) (fun n s hn => ?_) n ⟨fs'', σ'', hI, I''⟩ (ht it)
  obtain ⟨fs, σ, hI, Iv⟩ := hn
  refine turn n fs σ hI (fun f fs3 σ3 => match f with
      | .next | .cont => ∃ k, k < n ∧ I k fs3 σ3
      | .brk => Tr pr w s₀ A fs3 σ3 (execs rest env) V
      | .ret v => V (.ret v) fs3 σ3) (fun k _ _ hk hi => ⟨⟨k, hk, hi⟩, ⟨k, hk, hi⟩⟩) (fun _ _ h => h) (fun _ _ _ h => h) s _ _ Iv fun r fs' σ' s₁ hr I₁ => ?_
  cases r with
  | none =>
    refine hr s₁ _ _ I₁ fun f fs3 σ3 s3 hf I3 => ?_
    cases f with
    | next => exact hf s3 _ _ I3 q
    | brk => exact q _ _ _ _ hf I3
    | cont => exact q _ _ _ _ hf I3
    | ret v => exact q _ _ _ _ hf I3
  | some v =>
    refine hr s₁ _ _ I₁ fun _ fs2 σ2 s2 h2 I2 => h2 s2 _ _ I2 fun f fs3 σ3 s3 hf I3 => ?_
    cases f with
    | next => obtain ⟨k, hk, hi⟩ := hf; exact ⟨k, hk, fs3, σ3, hi, I3⟩
    | cont => obtain ⟨k, hk, hi⟩ := hf; exact ⟨k, hk, fs3, σ3, hi, I3⟩
    | brk => exact hf s3 _ _ I3 q
    | ret v => exact q _ _ _ _ hf I3
theorem Tr.assignName {V : Unit → Fs → Sto → Prop} (h : Tr pr w s₀ A fs σ (storeName env x v) V) : Tr pr w s₀ A fs σ (PySem.assign (.Name x pos) env v) V :=
  fun s _ _ I q => wpAny_assign_Name (h s _ _ I q)
theorem Tr.storeNs {C : Addr} {m : NsMap} {V : Unit → Fs → Sto → Prop} (hC : env.locals = C) (hs : σ C = some (.ns m)) (h : V () fs (upd σ C (.ns (set1 m x v)))) (hk : env.scope.kind = .function := by rfl) (hl : env.kindOf x = some .local := by rfl) : Tr pr w s₀ A fs σ (storeName env x v) V :=
  fun s _ _ I q => by
    obtain ⟨o, ho, es, ep, h1, h2, h3⟩ := I.get hs
    subst hC
    refine wpAny_storeName_local hl ⟨o, es, ep, ho, h1, h2, h3⟩ (fun h' n' sb => q _ _ _ _ h ?_) (by rw [hk]; rfl)
    obtain ⟨o', es', ep', ho', r⟩ := n'
    exact I.put (x' := .ns (set1 m x v)) hs sb.extBut ho' ⟨es', ep', r⟩ _

/-! iterators -/
structure It (pr : Program) (w : World) (s₀ : Shared) (A : Around) (I : Addr) (fp : List Addr) (n : Nat) (P : Nat → Value → Prop) (st : Nat → Sto → Prop) : Prop where
  mem : I ∈ fp
  frame : ∀ i σ σ', st i σ → (∀ b ∈ fp, σ' b = σ b) → st i σ'
  item : ∀ i fs σ, i < n → st i σ → Tr pr w s₀ A fs σ (pyNext (.ref I)) (fun r fs' σ' => ∃ v, r = some v ∧ P i v ∧ fs' = fs ∧ st (i + 1) σ' ∧ ∀ b, b ≠ I → σ' b = σ b)
  done : ∀ fs σ, st n σ → Tr pr w s₀ A fs σ (pyNext (.ref I)) (fun r fs' σ' => r = none ∧ fs' = fs ∧ ∀ b, b ≠ I → σ' b = σ b)
  self : ∀ i fs σ, st i σ → Tr pr w s₀ A fs σ (pyIter (.ref I)) (Pu fs σ (· = .ref I))

theorem Inv.rcd {s : Shared} {a : Addr} {T : String} {vs : Array Value} (I : Inv s₀ fs σ s) (hs : σ a = some (.rcd T vs)) : ∃ o, s.heap.get? a = some o ∧ o.cls = .type T ∧ o.data = .fields vs := I.get hs
theorem Inv.tuple {s : Shared} {a : Addr} {vs : List Value} (I : Inv s₀ fs σ s) (hs : σ a = some (.tup vs)) : s.heap.IsTuple a vs.toArray := by
  obtain ⟨o, ho, hc, n, hd⟩ := I.get hs; exact ⟨o, ho, hc, n, hd⟩
theorem ne_of_sto {a b : Addr} {x y : AO} (h1 : σ a = some x) (h2 : σ b = some y) (h : x ≠ y) : a ≠ b := by rintro rfl; rw [h1] at h2; exact h (Option.some.inj h2)

theorem It.list (hh : A.handled = none) {I l : Addr} {vs : List Value} : It pr w s₀ A I [I, l] vs.length (fun i v => vs[i]? = some v) (fun i σ => σ I = some (.rcd "list_iterator" #[.ref l, .int i 0]) ∧ σ l = some (.list vs)) where
  mem := .head _
  frame := fun i σ σ' ⟨a, b⟩ h => ⟨(h I (.head _)).trans a, (h l (.tail _ (.head _))).trans b⟩
  item := fun i fs σ hi ⟨a, b⟩ s _ _ Iv q => by
    obtain ⟨o, h1, h2, h3⟩ := Iv.rcd a
    refine wpAny_pyNext_list_item ⟨o, h1, h2, h3⟩ (Iv.isList b) (x := vs[i]) (by simp [hi]) fun h' ⟨o', h1', h2', h3'⟩ sb => q _ _ (upd σ I (.rcd "list_iterator" #[.ref l, .int (i + 1 : Nat) 0])) _ ⟨_, rfl, by simp [hi], rfl, ⟨upd_self .., ?_⟩, fun b hb => upd_ne hb⟩ (Iv.put (x' := .rcd "list_iterator" #[.ref l, .int (i + 1 : Nat) 0]) a sb.extBut h1' ⟨h2', h3'⟩ _)
    rw [upd_ne (ne_of_sto b a (by simp))]; exact b
  done := fun fs σ ⟨a, b⟩ s _ _ Iv q => by
    obtain ⟨o, h1, h2, h3⟩ := Iv.rcd a
    exact wpAny_pyNext_list_end hh ⟨o, h1, h2, h3⟩ (Iv.isList b) (by simp) fun h' e => q _ _ (del σ I) _ ⟨rfl, rfl, fun b hb => by simp [del, hb]⟩ (Iv.drop a e _)
  self := fun i fs σ ⟨a, b⟩ s _ _ Iv q => by
    obtain ⟨o, h1, h2, h3⟩ := Iv.rcd a
    exact wpAny_pyIter_listiter ⟨o, h1, h2, h3⟩ (q _ _ _ _ ⟨rfl, rfl, rfl⟩ Iv)
theorem It.tuple (hh : A.handled = none) {I l : Addr} {vs : List Value} : It pr w s₀ A I [I, l] vs.length (fun i v => vs[i]? = some v) (fun i σ => σ I = some (.rcd "tuple_iterator" #[.ref l, .int i 0]) ∧ σ l = some (.tup vs)) where
  mem := .head _
  frame := fun i σ σ' ⟨a, b⟩ h => ⟨(h I (.head _)).trans a, (h l (.tail _ (.head _))).trans b⟩
  item := fun i fs σ hi ⟨a, b⟩ s _ _ Iv q => by
    obtain ⟨o, h1, h2, h3⟩ := Iv.rcd a
    refine wpAny_pyNext_tuple_item ⟨o, h1, h2, h3⟩ (Iv.tuple b) (x := vs[i]) (by simp [hi]) fun h' ⟨o', h1', h2', h3'⟩ sb => q _ _ (upd σ I (.rcd "tuple_iterator" #[.ref l, .int (i + 1 : Nat) 0])) _ ⟨_, rfl, by simp [hi], rfl, ⟨upd_self .., ?_⟩, fun b hb => upd_ne hb⟩ (Iv.put (x' := .rcd "tuple_iterator" #[.ref l, .int (i + 1 : Nat) 0]) a sb.extBut h1' ⟨h2', h3'⟩ _)
    rw [upd_ne (ne_of_sto b a (by simp))]; exact b
  done := fun fs σ ⟨a, b⟩ s _ _ Iv q => by
    obtain ⟨o, h1, h2, h3⟩ := Iv.rcd a
    exact wpAny_pyNext_tuple_end hh ⟨o, h1, h2, h3⟩ (Iv.tuple b) (by simp) fun h' e => q _ _ (del σ I) _ ⟨rfl, rfl, fun b hb => by simp [del, hb]⟩ (Iv.drop a e _)
  self := fun i fs σ ⟨a, b⟩ s _ _ Iv q => by
    obtain ⟨o, h1, h2, h3⟩ := Iv.rcd a
    exact wpAny_pyIter_tupleiter ⟨o, h1, h2, h3⟩ (q _ _ _ _ ⟨rfl, rfl, rfl⟩ Iv)
def rangeIterO (x left step : Int) : Obj := { cls := .type "range_iterator", dict := none, data := .fields #[rawInt x, rawInt left, rawInt step], slots := #[] }
theorem It.range (hh : A.handled = none) {I : Addr} {a c : Int} {n : Nat} : It pr w s₀ A I [I] n (fun i v => IsI (a + i * c) v) (fun i σ => σ I = some (.obj (rangeIterO (a + (i : Nat) * c) ((n : Int) - (i : Nat)) c))) where
  mem := .head _
  frame := fun i σ σ' a h => (h I (.head _)).trans a
  item := fun i fs σ hi st s _ _ Iv q => by
    obtain ⟨o, h1, h2⟩ := Iv.get st
    cases h2
    refine wpAny_pyNext_range_item h1 (by omega) fun h' hit sb => q _ _ (upd σ I (.obj (rangeIterO (a + ((i + 1 : Nat) : Int) * c) ((n : Int) - ((i + 1 : Nat) : Int)) c))) _ ⟨_, rfl, ⟨_, rfl⟩, rfl, upd_self .., fun b hb => upd_ne hb⟩ (Iv.put st sb.extBut hit ?_ _)
    have e1 : a + ((i + 1 : Nat) : Int) * c = a + (i : Int) * c + c := by push_cast; rw [Int.add_mul, Int.one_mul, Int.add_assoc]
    have e2 : (n : Int) - ((i + 1 : Nat) : Int) = (n : Int) - (i : Int) - 1 := by push_cast; omega
    rw [e1, e2]; rfl
  done := fun fs σ st s _ _ Iv q => by
    obtain ⟨o, h1, h2⟩ := Iv.get st
    cases h2
    exact wpAny_pyNext_range_end hh h1 (by omega) fun h' e => q _ _ (del σ I) _ ⟨rfl, rfl, fun b hb => by simp [del, hb]⟩ (Iv.drop st e _)
  self := fun i fs σ st s _ _ Iv q => by
    obtain ⟨o, h1, h2⟩ := Iv.get st
    cases h2
    exact wpAny_pyIter_rangeiter h1 (q _ _ _ _ ⟨rfl, rfl, rfl⟩ Iv)

/-- src may be walked: n items -/
def Src (pr : Program) (w : World) (s₀ : Shared) (A : Around) (fs : Fs) (σ : Sto) (src : Value) (n : Nat) (P : Nat → Value → Prop) : Prop :=
  Tr pr w s₀ A fs σ (pyIter src) (fun it fs' σ' => fs' = fs ∧ ∃ I fp st, it = .ref I ∧ σ I = none ∧ It pr w s₀ A I fp n P st ∧ st 0 σ' ∧ (∀ b, b ≠ I → σ' b = σ b) ∧ ∀ b ∈ fp, σ' b ≠ none)
theorem Src.list (hh : A.handled = none) {l : Addr} {vs : List Value} (hs : σ l = some (.list vs)) : Src pr w s₀ A fs σ (.ref l) vs.length (fun i v => vs[i]? = some v) := fun s _ _ Iv q => by
  refine wpAny_pyIter_list (Iv.isList hs) ?_
  obtain ⟨n, I'⟩ := Iv.push (x := .rcd "list_iterator" #[.ref l, .int 0 0]) (o := { cls := .type "list_iterator", data := .fields #[.ref l, .int 0 0] }) ⟨rfl, rfl⟩ rfl s.toks
  have hne : l ≠ s.heap.objs.size := by rintro rfl; rw [n] at hs; cases hs
  refine q _ _ _ _ ⟨rfl, _, _, _, rfl, n, It.list hh (I := s.heap.objs.size) (l := l) (vs := vs), ⟨upd_self .., (upd_ne hne).trans hs⟩, fun b hb => upd_ne hb, fun b hb => ?_⟩ I'
  simp only [List.mem_cons, List.not_mem_nil, or_false] at hb
  rcases hb with rfl | rfl
  · simp [upd]
  · rw [upd_ne hne, hs]; simp
theorem Src.tuple (hh : A.handled = none) {l : Addr} {vs : List Value} (hs : σ l = some (.tup vs)) : Src pr w s₀ A fs σ (.ref l) vs.length (fun i v => vs[i]? = some v) := fun s _ _ Iv q => by
  refine wpAny_pyIter_tuple (Iv.tuple hs) ?_
  obtain ⟨n, I'⟩ := Iv.push (x := .rcd "tuple_iterator" #[.ref l, .int 0 0]) (o := { cls := .type "tuple_iterator", data := .fields #[.ref l, .int 0 0] }) ⟨rfl, rfl⟩ rfl s.toks
  have hne : l ≠ s.heap.objs.size := by rintro rfl; rw [n] at hs; cases hs
  refine q _ _ _ _ ⟨rfl, _, _, _, rfl, n, It.tuple hh (I := s.heap.objs.size) (l := l) (vs := vs), ⟨upd_self .., (upd_ne hne).trans hs⟩, fun b hb => upd_ne hb, fun b hb => ?_⟩ I'
  simp only [List.mem_cons, List.not_mem_nil, or_false] at hb
  rcases hb with rfl | rfl
  · simp [upd]
  · rw [upd_ne hne, hs]; simp
def rangeO (a b c : Int) (t u v : Tok) : Obj := { cls := .type "range", dict := none, data := .fields #[.int a t, .int b u, .int c v], slots := #[] }
theorem Src.range (hh : A.handled = none) {r : Addr} {a : Int} {n : Nat} {t u v : Tok} (hs : σ r = some (.obj (rangeO a (a + n) 1 t u v))) (ha : -(2 ^ 61) ≤ a) (ha' : a < 2 ^ 61) (hn : n < 2 ^ 61) : Src pr w s₀ A fs σ (.ref r) n (fun i v => IsI (a + i) v) := fun s _ _ Iv q => by
  obtain ⟨o, h1, h2⟩ := Iv.get hs
  cases h2
  refine wpAny_pyIter_range h1 (small_one (by omega) (by omega) (by omega) (by omega)) ?_
  have e : Builtin.Range.rangeSize a (a + n) 1 = (n : Int) := by rw [rangeSize_one]; split <;> omega
  obtain ⟨nn, I'⟩ := Iv.push (x := .obj (rangeIterO a n 1)) (o := rangeIterO a n 1) rfl rfl s.toks
  have W := It.range (pr := pr) (w := w) (s₀ := s₀) hh (I := s.heap.objs.size) (a := a) (c := 1) (n := n)
  refine q _ _ (upd σ s.heap.objs.size (.obj (rangeIterO a n 1))) _ ⟨rfl, _, _, _, rfl, nn, ⟨W.mem, W.frame, fun i fs σ hi st => (W.item i fs σ hi st).mono ?_, W.done, W.self⟩, ?_, fun b hb => upd_ne hb, fun b hb => ?_⟩ ?_
  · rintro r fs' σ' ⟨v, a1, a2, a3⟩
    exact ⟨v, a1, by simpa using a2, a3⟩
  · show upd _ _ _ _ = _
    rw [upd_self]; simp
  · simp only [List.mem_cons, List.not_mem_nil, or_false] at hb
    rw [hb]; simp [upd]
  · rw [e]; exact I'
end
end Mine
end
section
open PySem PySem.W PyProof.Rows
namespace Mine
section
variable {pr : Program} {w : World} {s₀ : Shared} {A : Around} {env : Env} {fs : Fs} {σ : Sto} {m mg mb : NsMap} {x : Str} {v : Value} {pos : Pos} {P P₁ P₂ : Value → Prop} {V : Value → Fs → Sto → Prop} {rest : List Stmt}

/-! methods of built-in types -/
theorem Tr.cwB {id : String} {first : List Value} {e : Expr} {rest : List Expr} {W : List Value → Fs → Sto → Prop} (ha : Tr pr w s₀ A fs σ (spliced (backTo pos (starEach (e :: rest) env))) W) (hc : ∀ vs fs' σ', W vs fs' σ' → Tr pr w s₀ A fs' σ' (call (.builtin id) (first ++ vs)) V)
    (he : starEach (e :: rest) env = (false, eval e env) :: starEach rest env := by rfl) (hp : (backTo pos (starEach rest env)).any (·.1) = false := by rfl) :
    Tr pr w s₀ A fs σ (callWith pos (.builtin id) first (backTo pos (starEach (e :: rest) env)) []) V := fun s _ _ I q => by
  rw [he] at ha ⊢
  exact Calls.callWith_builtin (by show (false || (backTo pos (starEach rest env)).any (·.1)) = false; rw [hp]; rfl) (Calls.evalArgs_plain (ha s _ _ I fun vs fs' σ' s' hw I' => hc vs fs' σ' hw s' _ _ I' q))
theorem Tr.cwB0 {id : String} {first : List Value} (hc : Tr pr w s₀ A fs σ (call (.builtin id) (first ++ [])) V) : Tr pr w s₀ A fs σ (callWith pos (.builtin id) first (backTo pos (starEach [] env)) []) V := fun s _ _ I q =>
  Calls.callWith_builtin rfl (evalArgs_nil3 (hc s _ _ I q))
/-- o.name(args), o an object of a built-in type -/
theorem Tr.meth {o : Expr} {name : Str} {apos : Pos} {args : List Expr} {T id : String} {W : Value → Fs → Sto → Prop} (pa : PlainAttrs T) (slot : Slot T name id) (hty : typeOf (.builtin id) = Pure.pure (.type "method_descriptor"))
    (ho : Tr pr w s₀ A fs σ (eval o env) W)
    (hc : ∀ ov fs' σ', W ov fs' σ' → (∀ s, Inv s₀ fs' σ' s → s.TypeIs ov T ∧ ∀ a, ov = .ref a → ∃ ob, s.heap.get? a = some ob ∧ ob.dict = none) ∧ Tr pr w s₀ A fs' σ' (callWith pos (.builtin id) [ov] (backTo pos (starEach args env)) []) V)
    (hbase : attributeBase o name env (eval o env) = eval o env := by rfl)
    (hfew : ((backTo pos (starEach args env)).all (fun x => !x.1) && (backToKw pos (keywordEach [] env)).all (fun x => x.1.isSome)
      && decide (args.length + ([] : List Keyword).length + (if ([] : List Keyword).isEmpty then 0 else 1) < 30)) = true := by rfl)
    (hline : (apos.endLine == pos.line) = true := by rfl) : Tr pr w s₀ A fs σ (eval (.Call (.Attribute o name apos) args [] pos) env) V :=
  fun s _ _ I q => wpAny_Call_method_lateS hbase hfew hline (ho s _ _ I fun ov fs' σ' s' hw I' => by
    obtain ⟨h1, h2⟩ := hc ov fs' σ' hw
    obtain ⟨h3, h4⟩ := h1 s' I'
    exact ⟨T, id, pa, slot, hty, h3, h4, h2 s' _ _ I' q⟩)
theorem list_on {a : Addr} {vs : List Value} (hs : σ a = some (.list vs)) : ∀ s, Inv s₀ fs σ s → s.TypeIs (.ref a) "list" ∧ ∀ b, Value.ref a = .ref b → ∃ ob, s.heap.get? b = some ob ∧ ob.dict = none := fun s I => by
  obtain ⟨n, h⟩ := I.isL hs
  exact ⟨⟨_, h, rfl⟩, fun b e => by cases e; exact ⟨_, h, rfl⟩⟩

theorem eraseIdx_last : ∀ vs : List Value, vs.eraseIdx (vs.length - 1) = vs.dropLast
  | [] => rfl
  | [a] => rfl
  | a :: b :: r => by
    have := eraseIdx_last (b :: r)
    simp only [List.length_cons, Nat.add_sub_cancel] at this ⊢
    rw [List.eraseIdx_cons_succ, this]; rfl
theorem Tr.popB {a : Addr} {vs : List Value} (hs : σ a = some (.list vs)) (hl : vs.getLast? = some v) (hz : vs.length ≤ sizeLine) (h : V v fs (upd σ a (.list vs.dropLast))) : Tr pr w s₀ A fs σ (call (.builtin "list.pop") ([.ref a] ++ [])) V := fun s _ _ I q => by
  obtain ⟨n, hg⟩ := I.isL hs
  have hy : vs.toArray[vs.toArray.size - 1]? = some v := by simpa [List.getLast?_eq_getElem?] using hl
  refine call_meets F.slot_list_pop ⟨_, hg, rfl⟩ F.entry_list_pop (F.args_list_pop_1 _) (MeetsSeq.list_pop_last a vs.toArray n v hy (by simpa using hz)) ⟨hg, q _ _ _ _ h ?_⟩
  have hne : 0 < vs.length := by
    cases vs with
    | nil => cases hl
    | cons => simp
  exact I.seq (f := fun xs => xs.eraseIdxIfInBounds (vs.toArray.size - 1)) hs hg (vs' := vs.dropLast) (by
    apply Array.toList_inj.mp
    simp only [List.size_toArray, Array.eraseIdxIfInBounds]
    rw [dif_pos (by simpa using (by omega : vs.length - 1 < vs.length))]
    rw [← eraseIdx_last vs]
    simp) s.toks
theorem Tr.pop {o : Expr} {apos : Pos} {a : Addr} {vs : List Value} (ho : Pv pr w s₀ A env fs σ o (· = .ref a)) (hs : σ a = some (.list vs)) (hl : vs.getLast? = some v) (hz : vs.length ≤ sizeLine) (h : V v fs (upd σ a (.list vs.dropLast)))
    (hbase : attributeBase o (Str.ofString "pop") env (eval o env) = eval o env := by rfl) (hline : (apos.endLine == pos.line) = true := by rfl) : Tr pr w s₀ A fs σ (eval (.Call (.Attribute o (Str.ofString "pop") apos) [] [] pos) env) V :=
  Tr.meth F.plainAttrs_list F.slot_list_pop F.type_list_pop ho (fun _ _ _ ⟨e1, e2, e3⟩ => by subst e1 e2 e3; exact ⟨list_on hs, Tr.cwB0 (Tr.popB hs hl hz h)⟩) hbase rfl hline
theorem Tr.appendB {a : Addr} {vs : List Value} (hs : σ a = some (.list vs)) (hz : vs.length ≤ sizeLine) (h : V .none fs (upd σ a (.list (vs ++ [v])))) : Tr pr w s₀ A fs σ (call (.builtin "list.append") [.ref a, v]) V := fun s _ _ I q => by
  obtain ⟨n, hg⟩ := I.isL hs
  refine call_meets F.slot_list_append ⟨_, hg, rfl⟩ F.entry_list_append (F.args_list_append_2 _ _) (list_append a vs.toArray n v (by simpa using hz)) ⟨hg, q _ _ _ _ h ?_⟩
  exact I.seq (f := fun xs => xs.push v) hs hg (vs' := vs ++ [v]) (by simp) s.toks
theorem Tr.append {o e : Expr} {apos : Pos} {a : Addr} {vs : List Value} (ho : Pv pr w s₀ A env fs σ o (· = .ref a)) (he : Pv pr w s₀ A env fs σ e P) (hs : σ a = some (.list vs)) (hz : vs.length ≤ sizeLine) (h : ∀ v, P v → V .none fs (upd σ a (.list (vs ++ [v]))))
    (hbase : attributeBase o (Str.ofString "append") env (eval o env) = eval o env := by rfl) (hse : starEach [e] env = (false, eval e env) :: starEach [] env := by rfl)
    (hfew : ((backTo pos (starEach [e] env)).all (fun x => !x.1) && (backToKw pos (keywordEach [] env)).all (fun x => x.1.isSome) && decide ([e].length + ([] : List Keyword).length + (if ([] : List Keyword).isEmpty then 0 else 1) < 30)) = true := by rfl)
    (hline : (apos.endLine == pos.line) = true := by rfl) : Tr pr w s₀ A fs σ (eval (.Call (.Attribute o (Str.ofString "append") apos) [e] [] pos) env) V :=
  Tr.meth F.plainAttrs_list F.slot_list_append F.type_list_append ho (fun _ _ _ ⟨e1, e2, e3⟩ => by
    rw [e1, e2, e3]
    exact ⟨list_on hs, Tr.cwB (W := fun ws fs' σ' => fs' = fs ∧ σ' = σ ∧ ∃ v, ws = [v] ∧ P v) (Tr.argsC he (fun v _ _ ⟨e1, e2, hv⟩ => by subst e1 e2; exact Tr.args0 ⟨rfl, rfl, v, rfl, hv⟩) hse) (fun vs _ _ ⟨e1, e2, v, e3, hv⟩ => by subst e1 e2 e3; exact Tr.appendB hs hz (h v hv)) hse rfl⟩) hbase hfew hline
theorem Tr.clear {o : Expr} {apos : Pos} {a : Addr} {vs : List Value} (ho : Pv pr w s₀ A env fs σ o (· = .ref a)) (hs : σ a = some (.list vs)) (hz : vs.length ≤ sizeLine) (h : V .none fs (upd σ a (.list [])))
    (hbase : attributeBase o (Str.ofString "clear") env (eval o env) = eval o env := by rfl) (hline : (apos.endLine == pos.line) = true := by rfl) : Tr pr w s₀ A fs σ (eval (.Call (.Attribute o (Str.ofString "clear") apos) [] [] pos) env) V :=
  Tr.meth F.plainAttrs_list F.slot_list_clear F.type_list_clear ho (fun _ _ _ ⟨e1, e2, e3⟩ => by
    subst e1 e2 e3
    refine ⟨list_on hs, Tr.cwB0 fun s _ _ I q => ?_⟩
    obtain ⟨n, hg⟩ := I.isL hs
    refine call_meets F.slot_list_clear ⟨_, hg, rfl⟩ F.entry_list_clear (F.args_list_clear_1 _) (AutoSeq1.list_clear_list_0 a vs.toArray n (by simpa using hz)) ⟨hg, q _ _ _ _ h ?_⟩
    exact I.seq (f := fun _ => #[]) hs hg (vs' := []) rfl s.toks) hbase rfl hline

/-! truth -/
theorem truthyList {a : Addr} {vs : List Value} (hs : σ a = some (.list vs)) (hz : vs.length < 2 ^ 62) : Tr pr w s₀ A fs σ (truthy (.ref a)) (Pu fs σ (· = !vs.isEmpty)) := fun s _ _ I q => by
  exact wpAny_truthy_list (I.isList hs) (by simp; omega) (q _ _ _ _ ⟨rfl, rfl, by simp⟩ (I.tok _))
theorem Tv.val {e : Expr} {b : Bool} (h : Pv pr w s₀ A env fs σ e P) (ht : ∀ v, P v → Tr pr w s₀ A fs σ (truthy v) (Pu fs σ (· = b)))
    (he : isTrue e env (eval e env) = (do let v ← eval e env; standAt e.pos; holding [v] (truthy v)) := by rfl) : Tv pr w s₀ A env fs σ e b :=
  fun s _ _ I q => wpAny_isTrue_value (h s _ _ I fun v _ _ s₁ ⟨e1, e2, hv⟩ I₁ => by subst e1 e2; exact ht v hv s₁ _ _ I₁ q) he
end
end Mine
end
section
open PySem PySem.W PyProof.Rows
namespace Mine
section
variable {pr : Program} {w : World} {s₀ : Shared} {A : Around} {env : Env} {fs : Fs} {σ : Sto} {m mg mb : NsMap} {x : Str} {v : Value} {pos : Pos} {P P₁ P₂ : Value → Prop} {V : Value → Fs → Sto → Prop} {rest : List Stmt} {E : Value → Shared → Prop} {s : Shared}

theorem sub_ri_reversed : isSubtype (.type "range_iterator") (.type "reversed") = Pure.pure false := by rw [isSubtype_type]; kernel_rfl
theorem range_reversed {r : Addr} {n : Nat} {t u v : Tok} {Q : Value → Shared → Prop} (hr : IsRange s.heap r 0 n 1 t u v) (hn : n < 2 ^ 61)
    (h : Q (.ref s.heap.objs.size) { s with heap := s.heap.push (rangeIterO ((n : Int) - 1) n (-1)) }) : wpAny (model pr w) A (call (.builtin "range.__reversed__") [.ref r]) Q E s := by
  have hT : s.TypeIs (.ref r) "range" := ⟨_, hr, rfl⟩
  refine wpAny_call_entry F.slot_range_reversed hT F.entry_range_reversed ?_ (F.args_range_reversed_1 _)
  unfold Builtin.«range.__reversed__»
  refine wpAny_bind (wpAny_of_eq (a := Value.ref r) rfl ?_)
  unfold Builtin.Range.rangeFields
  refine wpAny_bind ?_
  refine wpAny_bind (wpAny_field hr rfl (x := .int 0 t) rfl ?_)
  refine wpAny_bind (wpAny_of_eq (a := some (0 : Int)) (by rfl) ?_)
  refine wpAny_bind (wpAny_field hr rfl (x := .int n u) rfl ?_)
  refine wpAny_bind (wpAny_of_eq (a := some (n : Int)) (by rfl) ?_)
  refine wpAny_bind (wpAny_field hr rfl (x := .int 1 v) rfl ?_)
  rw [show asInt? (Value.int 1 v) = Pure.pure (some 1) from rfl]
  with_reducible refine wpAny_bind (wpAny_pure ?_)
  dsimp only
  with_reducible refine wpAny_pure ?_
  dsimp only
  have e : Builtin.Range.rangeSize 0 n 1 = (n : Int) := by rw [rangeSize_one]; split <;> omega
  simp only [e]
  have es : (Builtin.Range.rangeFitsLong 0 && Builtin.Range.rangeFitsLong (n : Int) && Builtin.Range.rangeFitsLong 1 && Builtin.Range.rangeFitsLong (-1) && Builtin.Range.rangeFitsLong (0 - 1) && Builtin.Range.rangeFitsLong (n : Int)) = true := by
    simp only [Builtin.Range.rangeFitsLong, Bool.and_eq_true, decide_eq_true_eq]; omega
  simp only [es, Bool.not_true, Bool.false_eq_true, if_false, if_true]
  refine wpAny_bind (wpAny_newObj_type (wpAny_pure ⟨_, rfl, ?_⟩))
  have e2 : (0 : Int) + ((n : Int) - 1) * 1 = (n : Int) - 1 := by omega
  simp only [e2]
  exact h
theorem reversed_new {r : Addr} {n : Nat} {t u v : Tok} {Q : Value → Shared → Prop} (hr : IsRange s.heap r 0 n 1 t u v) (hn : n < 2 ^ 61)
    (h : Q (.ref s.heap.objs.size) { s with heap := s.heap.push (rangeIterO ((n : Int) - 1) n (-1)) }) : codeAny (model pr w) A (.call (.builtin "reversed.__new__") ⟨[.type "reversed", .ref r], []⟩) (wants Q E) s := by
  have hT : s.TypeIs (.ref r) "range" := ⟨_, hr, rfl⟩
  refine codeAny_of_tree ?_
  show wpAny _ A.in1 (do checkBuiltinCall "reversed.__new__" ⟨[.type "reversed", .ref r], []⟩; again (.builtin "reversed.__new__" ⟨[.type "reversed", .ref r], []⟩)) _ _ s
  refine wpAny_bind (wpAny_of_eq (F.newCall_reversed_1 _) (wpAny_pure ⟨plainId_quiet F.plain_reversed_new _, codeAny_builtin F.entry_reversed_new ?_⟩))
  rw [Around.under_plainId F.plain_reversed_new _]
  unfold Builtin.«reversed.__new__»
  refine wpAny_bind (wpAny_of_eq (newClass_reversed _) ?_)
  refine wpAny_bind (wpAny_of_eq (a := ()) (by first | rfl | kernel_rfl) ?_)
  refine wpAny_bind (wpAny_of_eq (a := ()) (by first | rfl | kernel_rfl) ?_)
  refine wpAny_bind (wpAny_specialOf hT F.slot_range_reversed.lookup ?_)
  refine wpAny_bind (wpAny_of_eq (F.slot_range_reversed.bind _) ?_)
  show wpAny _ _ (if (Value.builtin "range.__reversed__" == Value.none) = true then _ else _) _ _ _
  rw [if_neg (show ¬ ((Value.builtin "range.__reversed__" == Value.none) = true) from Bool.false_ne_true)]
  refine wpAny_bind (wpAny_rule ?_)
  refine wpAny_bind (m := runValue (.call (.builtin "range.__reversed__") ⟨[.ref r], []⟩)) (show wpAny _ _ (call (.builtin "range.__reversed__") [.ref r]) _ _ _ from range_reversed hr hn ?_)
  first
  | exact wpAny_pure h
  | exact wpAny_bind (wpAny_pure (wpAny_pure h))
theorem call_reversed {r : Addr} {n : Nat} {t u v : Tok} {Q : Value → Shared → Prop} (hr : IsRange s.heap r 0 n 1 t u v) (hn : n < 2 ^ 61)
    (h : Q (.ref s.heap.objs.size) { s with heap := s.heap.push (rangeIterO ((n : Int) - 1) n (-1)) }) : wpAny (model pr w) A (call (.type "reversed") [.ref r]) Q E s := by
  refine callType_other (U := "range_iterator") (Q₁ := fun obj s₁ => obj = .ref s.heap.objs.size ∧ s₁ = { s with heap := s.heap.push (rangeIterO ((n : Int) - 1) n (-1)) }) (by decide +kernel) F.create_reversed ⟨_, _, F.mro_reversed⟩ F.made_reversed sub_ri_reversed (F.typeCall_reversed_1 _) (reversed_new hr hn ⟨rfl, rfl⟩) ?_
  rintro obj s₁ ⟨rfl, rfl⟩
  exact ⟨⟨_, Heap.get?_push_size _ rfl, rfl⟩, h⟩
theorem Tr.reversed {r : Addr} {n : Nat} {t u v : Tok} (hs : σ r = some (.obj (rangeO 0 n 1 t u v))) (hn : n < 2 ^ 61) (h : ∀ a, σ a = none → V (.ref a) fs (upd σ a (.obj (rangeIterO ((n : Int) - 1) n (-1))))) : Tr pr w s₀ A fs σ (call (.type "reversed") [.ref r]) V := fun s _ _ I q => by
  obtain ⟨o, h1, h2⟩ := I.get hs
  cases h2
  obtain ⟨hne, I'⟩ := I.push (x := .obj (rangeIterO ((n : Int) - 1) n (-1))) (o := rangeIterO ((n : Int) - 1) n (-1)) rfl rfl s.toks
  exact call_reversed h1 hn (q _ _ _ _ (h _ hne) I')
theorem Tr.range1 {n : Int} {t : Tok} (h : ∀ a u v, σ a = none → V (.ref a) fs (upd σ a (.obj (rangeO 0 n 1 u t v)))) : Tr pr w s₀ A fs σ (call (.type "range") [.int n t]) V := fun s _ _ I q => by
  obtain ⟨hne, I'⟩ := I.push (x := .obj (rangeO 0 n 1 s.toks t (s.toks + 1))) (o := rangeO 0 n 1 s.toks t (s.toks + 1)) rfl rfl (s.toks + 1 + 1)
  exact call_range_1 (q _ _ _ _ (h _ _ _ hne) I')
theorem Tr.range2 {a b : Int} {t u : Tok} (h : ∀ r v, σ r = none → V (.ref r) fs (upd σ r (.obj (rangeO a b 1 t u v)))) : Tr pr w s₀ A fs σ (call (.type "range") [.int a t, .int b u]) V := fun s _ _ I q => by
  obtain ⟨hne, I'⟩ := I.push (x := .obj (rangeO a b 1 t u s.toks)) (o := rangeO a b 1 t u s.toks) rfl rfl (s.toks + 1)
  exact call_range_2 (q _ _ _ _ (h _ _ hne) I')

/-- f(e), e any expression -/
theorem Tr.call1 {f e : Expr} {fv : Value} {W : Value → Fs → Sto → Prop} (hf : Pv pr w s₀ A env fs σ f (· = fv)) (hk : (∃ id, fv = .builtin id) ∨ (∃ T, fv = .type T) ∨ ∃ a o fd, fv = .ref a ∧ s₀.heap.get? a = some o ∧ o.data = .func fd) (he : Tr pr w s₀ A fs σ (eval e env) W)
    (hc : ∀ v fs' σ', W v fs' σ' → Tr pr w s₀ A fs' σ' (call fv [v]) V) (hse : starEach [e] env = (false, eval e env) :: starEach [] env := by rfl)
    (hev : eval (.Call f [e] [] pos) env = (do callWith pos (← eval f env) [] (backTo pos (starEach [e] env)) (backToKw pos (keywordEach [] env))) := by rfl) : Tr pr w s₀ A fs σ (eval (.Call f [e] [] pos) env) V :=
  Tr.callN hf hk (W := fun vs fs' σ' => ∃ v, vs = [v] ∧ W v fs' σ') (Tr.argsC he (fun v fs' σ' hv => Tr.args0 ⟨v, rfl, hv⟩) hse) (fun vs fs' σ' ⟨v, e3, hv⟩ => by subst e3; exact hc v fs' σ' hv) hse rfl hev
theorem Tr.call2 {f e₁ e₂ : Expr} {fv : Value} {W₁ : Value → Fs → Sto → Prop} {W₂ : Value → Value → Fs → Sto → Prop} (hf : Pv pr w s₀ A env fs σ f (· = fv)) (hk : (∃ id, fv = .builtin id) ∨ (∃ T, fv = .type T) ∨ ∃ a o fd, fv = .ref a ∧ s₀.heap.get? a = some o ∧ o.data = .func fd)
    (h1 : Tr pr w s₀ A fs σ (eval e₁ env) W₁) (h2 : ∀ v fs' σ', W₁ v fs' σ' → Tr pr w s₀ A fs' σ' (eval e₂ env) (W₂ v)) (hc : ∀ v₁ v₂ fs' σ', W₂ v₁ v₂ fs' σ' → Tr pr w s₀ A fs' σ' (call fv [v₁, v₂]) V)
    (hse : starEach [e₁, e₂] env = (false, eval e₁ env) :: starEach [e₂] env := by rfl) (hse2 : starEach [e₂] env = (false, eval e₂ env) :: starEach [] env := by rfl)
    (hev : eval (.Call f [e₁, e₂] [] pos) env = (do callWith pos (← eval f env) [] (backTo pos (starEach [e₁, e₂] env)) (backToKw pos (keywordEach [] env))) := by rfl) : Tr pr w s₀ A fs σ (eval (.Call f [e₁, e₂] [] pos) env) V :=
  Tr.callN hf hk (W := fun vs fs' σ' => ∃ v₁ v₂, vs = [v₁, v₂] ∧ W₂ v₁ v₂ fs' σ') (Tr.argsC h1 (fun v₁ fs' σ' hv => Tr.argsC (h2 v₁ fs' σ' hv) (fun v₂ fs'' σ'' hv₂ => Tr.args0 ⟨v₁, v₂, rfl, hv₂⟩) hse2) hse) (fun vs fs' σ' ⟨v₁, v₂, e3, hv⟩ => by subst e3; exact hc v₁ v₂ fs' σ' hv) hse (by rw [hse2]; rfl) hev
theorem Tr.call3 {f e₁ e₂ e₃ : Expr} {fv : Value} {W₁ : Value → Fs → Sto → Prop} {W₂ : Value → Value → Fs → Sto → Prop} {W₃ : Value → Value → Value → Fs → Sto → Prop} (hf : Pv pr w s₀ A env fs σ f (· = fv)) (hk : (∃ id, fv = .builtin id) ∨ (∃ T, fv = .type T) ∨ ∃ a o fd, fv = .ref a ∧ s₀.heap.get? a = some o ∧ o.data = .func fd)
    (h1 : Tr pr w s₀ A fs σ (eval e₁ env) W₁) (h2 : ∀ v fs' σ', W₁ v fs' σ' → Tr pr w s₀ A fs' σ' (eval e₂ env) (W₂ v)) (h3 : ∀ v₁ v₂ fs' σ', W₂ v₁ v₂ fs' σ' → Tr pr w s₀ A fs' σ' (eval e₃ env) (W₃ v₁ v₂)) (hc : ∀ v₁ v₂ v₃ fs' σ', W₃ v₁ v₂ v₃ fs' σ' → Tr pr w s₀ A fs' σ' (call fv [v₁, v₂, v₃]) V)
    (hse : starEach [e₁, e₂, e₃] env = (false, eval e₁ env) :: starEach [e₂, e₃] env := by rfl) (hse2 : starEach [e₂, e₃] env = (false, eval e₂ env) :: starEach [e₃] env := by rfl) (hse3 : starEach [e₃] env = (false, eval e₃ env) :: starEach [] env := by rfl)
    (hev : eval (.Call f [e₁, e₂, e₃] [] pos) env = (do callWith pos (← eval f env) [] (backTo pos (starEach [e₁, e₂, e₃] env)) (backToKw pos (keywordEach [] env))) := by rfl) : Tr pr w s₀ A fs σ (eval (.Call f [e₁, e₂, e₃] [] pos) env) V :=
  Tr.callN hf hk (W := fun vs fs' σ' => ∃ v₁ v₂ v₃, vs = [v₁, v₂, v₃] ∧ W₃ v₁ v₂ v₃ fs' σ') (Tr.argsC h1 (fun v₁ fs' σ' hv => Tr.argsC (h2 v₁ fs' σ' hv) (fun v₂ fs'' σ'' hv₂ => Tr.argsC (h3 v₁ v₂ fs'' σ'' hv₂) (fun v₃ fs3 σ3 hv₃ => Tr.args0 ⟨v₁, v₂, v₃, rfl, hv₃⟩) hse3) hse2) hse) (fun vs fs' σ' ⟨v₁, v₂, v₃, e3, hv⟩ => by subst e3; exact hc v₁ v₂ v₃ fs' σ' hv) hse (by rw [hse2, hse3]; rfl) hev
theorem Tr.pcall2 {f e₁ e₂ : Expr} {fv : Value} (hf : Pv pr w s₀ A env fs σ f (· = fv)) (hk : (∃ id, fv = .builtin id) ∨ (∃ T, fv = .type T) ∨ ∃ a o fd, fv = .ref a ∧ s₀.heap.get? a = some o ∧ o.data = .func fd)
    (h1 : Pv pr w s₀ A env fs σ e₁ P₁) (h2 : Pv pr w s₀ A env fs σ e₂ P₂) (hc : ∀ v₁ v₂, P₁ v₁ → P₂ v₂ → Tr pr w s₀ A fs σ (call fv [v₁, v₂]) V)
    (hse : starEach [e₁, e₂] env = (false, eval e₁ env) :: starEach [e₂] env := by rfl) (hse2 : starEach [e₂] env = (false, eval e₂ env) :: starEach [] env := by rfl)
    (hev : eval (.Call f [e₁, e₂] [] pos) env = (do callWith pos (← eval f env) [] (backTo pos (starEach [e₁, e₂] env)) (backToKw pos (keywordEach [] env))) := by rfl) : Tr pr w s₀ A fs σ (eval (.Call f [e₁, e₂] [] pos) env) V :=
  Tr.call2 hf hk h1 (W₂ := fun v₁ v₂ fs' σ' => fs' = fs ∧ σ' = σ ∧ P₁ v₁ ∧ P₂ v₂) (fun v _ _ ⟨e1, e2, hv⟩ => by subst e1 e2; exact h2.mono fun _ _ _ ⟨a, b, c⟩ => ⟨a, b, hv, c⟩) (fun v₁ v₂ _ _ ⟨e1, e2, g1, g2⟩ => by subst e1 e2; exact hc _ _ g1 g2) hse hse2 hev
theorem Tr.pcall3 {f e₁ e₂ e₃ : Expr} {fv : Value} {P₃ : Value → Prop} (hf : Pv pr w s₀ A env fs σ f (· = fv)) (hk : (∃ id, fv = .builtin id) ∨ (∃ T, fv = .type T) ∨ ∃ a o fd, fv = .ref a ∧ s₀.heap.get? a = some o ∧ o.data = .func fd)
    (h1 : Pv pr w s₀ A env fs σ e₁ P₁) (h2 : Pv pr w s₀ A env fs σ e₂ P₂) (h3 : Pv pr w s₀ A env fs σ e₃ P₃) (hc : ∀ v₁ v₂ v₃, P₁ v₁ → P₂ v₂ → P₃ v₃ → Tr pr w s₀ A fs σ (call fv [v₁, v₂, v₃]) V)
    (hse : starEach [e₁, e₂, e₃] env = (false, eval e₁ env) :: starEach [e₂, e₃] env := by rfl) (hse2 : starEach [e₂, e₃] env = (false, eval e₂ env) :: starEach [e₃] env := by rfl) (hse3 : starEach [e₃] env = (false, eval e₃ env) :: starEach [] env := by rfl)
    (hev : eval (.Call f [e₁, e₂, e₃] [] pos) env = (do callWith pos (← eval f env) [] (backTo pos (starEach [e₁, e₂, e₃] env)) (backToKw pos (keywordEach [] env))) := by rfl) : Tr pr w s₀ A fs σ (eval (.Call f [e₁, e₂, e₃] [] pos) env) V :=
  Tr.call3 hf hk h1 (W₂ := fun v₁ v₂ fs' σ' => fs' = fs ∧ σ' = σ ∧ P₁ v₁ ∧ P₂ v₂) (W₃ := fun v₁ v₂ v₃ fs' σ' => fs' = fs ∧ σ' = σ ∧ P₁ v₁ ∧ P₂ v₂ ∧ P₃ v₃) (fun v _ _ ⟨e1, e2, hv⟩ => by subst e1 e2; exact h2.mono fun _ _ _ ⟨a, b, c⟩ => ⟨a, b, hv, c⟩)
    (fun v₁ v₂ _ _ ⟨e1, e2, g1, g2⟩ => by subst e1 e2; exact h3.mono fun _ _ _ ⟨a, b, c⟩ => ⟨a, b, g1, g2, c⟩) (fun v₁ v₂ v₃ _ _ ⟨e1, e2, g1, g2, g3⟩ => by subst e1 e2; exact hc _ _ _ g1 g2 g3) hse hse2 hse3 hev
theorem Tr.pcall1 {f e₁ : Expr} {fv : Value} (hf : Pv pr w s₀ A env fs σ f (· = fv)) (hk : (∃ id, fv = .builtin id) ∨ (∃ T, fv = .type T) ∨ ∃ a o fd, fv = .ref a ∧ s₀.heap.get? a = some o ∧ o.data = .func fd)
    (h1 : Pv pr w s₀ A env fs σ e₁ P₁) (hc : ∀ v₁, P₁ v₁ → Tr pr w s₀ A fs σ (call fv [v₁]) V) (hse : starEach [e₁] env = (false, eval e₁ env) :: starEach [] env := by rfl)
    (hev : eval (.Call f [e₁] [] pos) env = (do callWith pos (← eval f env) [] (backTo pos (starEach [e₁] env)) (backToKw pos (keywordEach [] env))) := by rfl) : Tr pr w s₀ A fs σ (eval (.Call f [e₁] [] pos) env) V :=
  Tr.call1 hf hk h1 (fun v _ _ ⟨e1, e2, hv⟩ => by subst e1 e2; exact hc v hv) hse hev
theorem Pv.fdiv2 {l r : Expr} {a : Nat} (h1 : Pv pr w s₀ A env fs σ l (IsI (a : Int))) (h2 : Pv pr w s₀ A env fs σ r (IsI 2)) (hz : a < 2 ^ 62) : Pv pr w s₀ A env fs σ (.BinOp l .FloorDiv r pos) (IsI ((a / 2 : Nat) : Int)) :=
  Pv.bin h1 h2 fun _ _ ⟨_, e1⟩ ⟨_, e2⟩ => by
    subst e1 e2
    have e : Int.fdiv (a : Int) 2 = ((a / 2 : Nat) : Int) := by rw [Int.fdiv_eq_ediv_of_nonneg _ (by decide)]; omega
    exact fun s _ _ I q => floordiv_int (by decide) (e ▸ q _ _ _ _ ⟨rfl, rfl, _, rfl⟩ (I.tok _))
end
end Mine
end
section
open PySem PySem.W PyProof.Rows
namespace Mine
section
variable {pr : Program} {w : World} {s₀ : Shared} {A : Around} {env : Env} {fs : Fs} {σ : Sto} {m mg mb : NsMap} {x : Str} {v : Value} {pos : Pos} {P P₁ P₂ : Value → Prop} {V : Value → Fs → Sto → Prop} {rest : List Stmt} {E : Value → Shared → Prop} {s : Shared}

/-! o[i], any base -/
theorem Tr.sub {l i : Expr} {W₁ : Value → Fs → Sto → Prop} {W₂ : Value → Value → Fs → Sto → Prop} (h1 : Tr pr w s₀ A fs σ (eval l env) W₁) (h2 : ∀ o fs' σ', W₁ o fs' σ' → Tr pr w s₀ A fs' σ' (eval i env) (W₂ o))
    (h3 : ∀ o iv fs' σ', W₂ o iv fs' σ' → (∀ s, Inv s₀ fs' σ' s → ∃ T id, s.TypeIs o T ∧ typeLookup (.type T) "__getitem__" = Pure.pure (some (.builtin id))) ∧ (∃ ops, subscripted i false o iv = operate ops (getItem o iv)) ∧ Tr pr w s₀ A fs' σ' (getItem o iv) V) :
    Tr pr w s₀ A fs σ (eval (.Subscript l i pos) env) V := fun s _ _ I q => by
  rw [eval_Subscript]
  refine wpAny_bind (h1 s _ _ I fun o fs1 σ1 s₁ hw I₁ => ?_)
  refine wpAny_bind (wpAny_holding (h2 o fs1 σ1 hw s₁ _ _ I₁ fun iv fs2 σ2 s₂ hw2 I₂ => ?_))
  refine wpAny_bind (wpAny_standAt ?_)
  obtain ⟨hT, ⟨ops, hsub⟩, hg⟩ := h3 o iv fs2 σ2 hw2
  obtain ⟨T, id, hT, hl⟩ := hT s₂ I₂
  refine wpAny_bind ?_
  rw [getitemInPython_of_ne hT.not_modules]
  refine wpAny_bind (wpAny_specialOf hT hl ?_)
  refine wpAny_pure ?_
  refine wpAny_bind ?_
  rw [hsub]
  exact wpAny_operating (hg s₂ _ _ I₂ fun r fs3 σ3 s₃ hv I₃ => wpAny_bind (wpAny_letTemporaryGo (wpAny_pure (q _ _ _ _ hv I₃))))
theorem list_get_ok {a : Addr} {vs : List Value} (hs : σ a = some (.list vs)) : ∀ s, Inv s₀ fs σ s → ∃ T id, s.TypeIs (.ref a) T ∧ typeLookup (.type T) "__getitem__" = Pure.pure (some (.builtin id)) := fun s I =>
  ⟨_, _, (I.isList hs).typeIs, slot_list_getitem.lookup⟩
theorem tup_get_ok {a : Addr} {vs : List Value} (hs : σ a = some (.tup vs)) : ∀ s, Inv s₀ fs σ s → ∃ T id, s.TypeIs (.ref a) T ∧ typeLookup (.type T) "__getitem__" = Pure.pure (some (.builtin id)) := fun s I =>
  ⟨_, _, (I.tuple hs).typeIs, F.slot_tuple_getitem.lookup⟩
theorem getListTr {a : Addr} {vs : List Value} {k : Nat} {t : Tok} (hs : σ a = some (.list vs)) (hk : vs[k]? = some v) (hz : vs.length < 2 ^ 62) : Tr pr w s₀ A fs σ (getItem (.ref a) (.int (k : Int) t)) (Pu fs σ (· = v)) := fun s _ _ I q => by
  have hlt : k < vs.length := (List.getElem?_eq_some_iff.mp hk).1
  exact wpAny_getItem_list (I.isList hs) (by omega) (by omega) (by simpa using hk) (q _ _ _ _ ⟨rfl, rfl, rfl⟩ I)
theorem getListNeg {a : Addr} {vs : List Value} {t : Tok} (hs : σ a = some (.list vs)) (hk : vs.getLast? = some v) (hz : vs.length < 2 ^ 62) : Tr pr w s₀ A fs σ (getItem (.ref a) (.int (-1) t)) (Pu fs σ (· = v)) := fun s _ _ I q => by
  have hne : 0 < vs.length := by
    cases vs with
    | nil => cases hk
    | cons => simp
  refine wpAny_getItem_list_neg (I.isList hs) (by omega) (by simp; omega) (by omega) ?_ (q _ _ _ _ ⟨rfl, rfl, rfl⟩ I)
  have e : (-1 + ((vs.toArray.size : Nat) : Int)).toNat = vs.length - 1 := by simp; omega
  rw [e]
  simpa [List.getLast?_eq_getElem?] using hk
theorem getTup {a : Addr} {vs : List Value} {k : Nat} {t : Tok} (hs : σ a = some (.tup vs)) (hk : vs[k]? = some v) (hz : vs.length < 2 ^ 62) : Tr pr w s₀ A fs σ (getItem (.ref a) (.int (k : Int) t)) (Pu fs σ (· = v)) := fun s _ _ I q => by
  have hlt : k < vs.length := (List.getElem?_eq_some_iff.mp hk).1
  obtain ⟨o, ho, hc, n, hd⟩ := I.get hs
  exact getItem_tuple ⟨o, ho, hc, n, hd⟩ (by omega) (by omega) (seqIndex_of (by omega) (by simp; omega)) (by simpa using hk) (q _ _ _ _ ⟨rfl, rfl, rfl⟩ I)

/-! list displays -/
theorem Tr.newList {vs : List Value} (hz : vs.length ≤ sizeLine) (h : ∀ a, σ a = none → V (.ref a) fs (upd σ a (.list vs))) : Tr pr w s₀ A fs σ (PySem.newList vs) V := fun s _ _ I q => by
  obtain ⟨n, I'⟩ := I.push (x := .list vs) (o := { cls := .type "list", data := .seq vs.toArray }) ⟨0, rfl⟩ rfl s.toks
  exact wpAny_newObj_type (q _ _ _ _ (h _ n) I') (by show vs.toArray.size ≤ sizeLine; simpa using hz)
theorem Tr.newTuple {vs : List Value} (hz : vs.length ≤ sizeLine) (h : ∀ a, σ a = none → V (.ref a) fs (upd σ a (.tup vs))) : Tr pr w s₀ A fs σ (PySem.newTuple vs) V := fun s _ _ I q => by
  obtain ⟨n, I'⟩ := I.push (x := .tup vs) (o := { cls := .type "tuple", data := .seq vs.toArray }) ⟨rfl, 0, rfl⟩ rfl s.toks
  exact wpAny_newObj_type (q _ _ _ _ (h _ n) I') (by show vs.toArray.size ≤ sizeLine; simpa using hz)
theorem Tr.list {elts : List Expr} {W : List Value → Fs → Sto → Prop} (h : Tr pr w s₀ A fs σ (spliced (backTo pos (starEach elts env))) W) (hn : ∀ vs fs' σ', W vs fs' σ' → vs.length ≤ sizeLine ∧ ∀ a, σ' a = none → V (.ref a) fs' (upd σ' a (.list vs))) :
    Tr pr w s₀ A fs σ (eval (.List elts pos) env) V := fun s _ _ I q => List_ (h s _ _ I fun vs fs' σ' s' hw I' => by
  obtain ⟨h1, h2⟩ := hn vs fs' σ' hw
  exact Tr.newList h1 h2 s' _ _ I' q)
theorem Tr.tuple {elts : List Expr} {k : Nat} {W : List Value → Fs → Sto → Prop} (h : Tr pr w s₀ A fs σ (spliced (backTo pos (starEach elts env))) W) (hn : ∀ vs fs' σ', W vs fs' σ' → vs.length ≤ sizeLine ∧ ∀ a, σ' a = none → V (.ref a) fs' (upd σ' a (.tup vs))) :
    Tr pr w s₀ A fs σ (eval (.Tuple elts k pos) env) V := fun s _ _ I q => Tuple_ (h s _ _ I fun vs fs' σ' s' hw I' => by
  obtain ⟨h1, h2⟩ := hn vs fs' σ' hw
  exact Tr.newTuple h1 h2 s' _ _ I' q)
theorem Tr.nilList (h : ∀ a, σ a = none → V (.ref a) fs (upd σ a (.list []))) : Tr pr w s₀ A fs σ (eval (.List [] pos) env) V :=
  Tr.list (W := Pu fs σ (· = [])) (Tr.args0 ⟨rfl, rfl, rfl⟩) fun _ _ _ ⟨e1, e2, e3⟩ => by subst e1 e2 e3; exact ⟨by simp, h⟩

/-! list(..), sorted, sum, tuple -/
theorem Tr.listOf {a : Addr} {vs : List Value} (hs : σ a = some (.list vs)) (hz : vs.length ≤ sizeLine) (h : ∀ b, σ b = none → V (.ref b) fs (upd σ b (.list vs))) : Tr pr w s₀ A fs σ (call (.type "list") [.ref a]) V := fun s _ _ I q => by
  obtain ⟨n, hg⟩ := I.isL hs
  refine call_list_seq (hsz := by simpa using hz) a (.inl rfl) hg rfl rfl fun h' c' hk hD => ?_
  obtain ⟨hn, I'⟩ := I.more (x := .list vs) hk (Heap.get?_none_of_le (Nat.le_refl _)) hD ⟨c', rfl⟩ s.toks
  exact q _ _ _ _ (h _ hn) I'
theorem ints_of_get : ∀ (l : List Value) (f : Nat → Int), (∀ (j : Nat) (v : Value), l[j]? = some v → ∃ t, v = Value.int (f j) t) → IntsAre l ((List.range l.length).map f)
  | [], _, _ => .nil
  | v :: r, f, h => by
    obtain ⟨t, e⟩ := h 0 v rfl
    subst e
    have ih := ints_of_get r (fun j => f (j + 1)) fun j v hj => h (j + 1) v hj
    rw [List.length_cons, List.range_succ_eq_map, List.map_cons, List.map_map]
    exact .cons _ _ ih
theorem Tr.listRange (hh : A.handled = none) {r : Addr} {n : Nat} {t u v : Tok} (hs : σ r = some (.obj (rangeO 0 n 1 t u v))) (hz : n ≤ 2 ^ 24) (h : ∀ b vs, σ b = none → IntsAre vs ((List.range n).map fun (i : Nat) => (i : Int)) → V (.ref b) fs (upd σ b (.list vs))) : Tr pr w s₀ A fs σ (call (.type "list") [.ref r]) V := fun s _ _ I q => by
  obtain ⟨o, h1, h2⟩ := I.get hs
  cases h2
  have e : Builtin.Range.rangeSize 0 n 1 = (n : Int) := by rw [rangeSize_one]; split <;> omega
  refine call_list_range hh h1 (small_one (by omega) (by omega) (by omega) (by omega)) e hz fun h' tk acc c hk hD hI => ?_
  obtain ⟨hn, I'⟩ := I.more (x := .list acc.toList) hk (Heap.get?_none_of_le (Nat.le_refl _)) hD ⟨c, by simp⟩ tk
  refine q _ _ _ _ (h _ _ hn ?_) I'
  have := ints_of_get acc.toList (fun (i : Nat) => (i : Int)) fun j v hj => by
    obtain ⟨t, e⟩ := hI.2 j v (by simpa using hj)
    exact ⟨t, by simpa using e⟩
  rw [show acc.toList.length = n by simpa using hI.1] at this
  exact this
theorem Tr.sortedL {a : Addr} {vs : List Value} {xs : List Int} (hs : σ a = some (.list vs)) (hi : IntsAre vs xs) (hz : xs.length < 64) (h : ∀ b vs' xs', σ b = none → IntsAre vs' xs' → xs'.Perm xs → xs'.Pairwise (· ≤ ·) → V (.ref b) fs (upd σ b (.list vs'))) :
    Tr pr w s₀ A fs σ (call (.builtin "sorted") [.ref a]) V := fun s _ _ I q => by
  refine sorted_ints (I.isList hs) hi (by rw [hi.length]; exact hz) fun out ns' a1 a2 a3 => ?_
  obtain ⟨e, he⟩ := sortedAll_at s.heap vs out
  obtain ⟨hn, I'⟩ := I.more (x := .list out.toList) (fun _ _ => sortedAll_old) (Heap.get?_none_of_le (Nat.le_succ _)) he ⟨e, by simp [seqObj]⟩ s.toks
  exact q _ _ _ _ (h _ _ _ hn a1 a2 a3) I'
theorem Tr.tupleOf {a : Addr} {vs : List Value} (hs : σ a = some (.list vs)) (hz : vs.length ≤ sizeLine) (h : ∀ b, σ b = none → V (.ref b) fs (upd σ b (.tup vs))) : Tr pr w s₀ A fs σ (call (.type "tuple") [.ref a]) V := fun s _ _ I q => by
  refine call_tuple_list (hsz := by simpa using hz) (I.isList hs) fun h' hk => ?_
  have I' := I.grow (h' := h') hk s.toks
  obtain ⟨hn, I''⟩ := I'.push (x := .tup vs) (o := { cls := .type "tuple", data := .seq vs.toArray }) ⟨rfl, 0, rfl⟩ rfl s.toks
  exact q _ _ _ _ (h _ hn) I''
theorem Tr.sumL (hh : A.handled = none) {a : Addr} {vs : List Value} {xs : List Int} (hs : σ a = some (.list vs)) (hi : IntsAre vs xs) (h : ∀ t, V (.int xs.sum t) fs σ) : Tr pr w s₀ A fs σ (call (.builtin "sum") [.ref a]) V := fun s _ _ I q => by
  obtain ⟨ys, e⟩ := hi.allInts.items
  have e2 : xs = ys.toList.map (·.1) := by
    have := nums_intItems ys
    rw [← e] at this
    rw [← this, ← hi.numsOf]
  have hl := I.isList hs
  rw [e] at hl
  refine sum_intListG hh hl fun h' tk t' hk => ?_
  rw [preSum_eq, List.take_of_length_le (by simp), ← e2]
  exact q _ _ _ _ (h t') (I.grow hk tk)

/-! lists compared -/
theorem cmp_neInts {a b : Addr} {vs us : List Value} {xs ys : List Int} (hu : A.units + 64 < cLine) (h1 : σ a = some (.list vs)) (h2 : σ b = some (.list us)) (hi : IntsAre vs xs) (hj : IntsAre us ys) : Tr pr w s₀ A fs σ (compareOp .NotEq (.ref a) (.ref b)) (Pu fs σ (IsB (!decide (xs = ys)))) :=
  fun s _ _ I q => ke_ne_ints (I.isList h1) (I.isList h2) hi hj hu (q _ _ _ _ ⟨rfl, rfl, rfl⟩ I)
theorem cmp_eqInts {a b : Addr} {vs us : List Value} {xs ys : List Int} (hu : A.units + 64 < cLine) (h1 : σ a = some (.list vs)) (h2 : σ b = some (.list us)) (hi : IntsAre vs xs) (hj : IntsAre us ys) : Tr pr w s₀ A fs σ (compareOp .Eq (.ref a) (.ref b)) (Pu fs σ (IsB (decide (xs = ys)))) :=
  fun s _ _ I q => ke_eq_ints (I.isList h1) (I.isList h2) hi hj hu (q _ _ _ _ ⟨rfl, rfl, rfl⟩ I)
end
end Mine
end
section
open PySem PySem.W PyProof.Rows
namespace Mine
section
variable {pr : Program} {w : World} {s₀ : Shared} {A : Around} {env : Env} {fs : Fs} {σ : Sto} {m mg mb : NsMap} {x y : Str} {v : Value} {pos : Pos} {P P₁ P₂ : Value → Prop} {V : Flow → Fs → Sto → Prop} {rest : List Stmt} {E : Value → Shared → Prop} {s : Shared}
/-- x, y = (.., ..) -/
theorem Tr.pairAssign (hh : A.handled = none) {elts : List Expr} {k : Nat} {tpos : Pos} {value : Expr} {W : Value → Fs → Sto → Prop} (h : Tr pr w s₀ A fs σ (eval value env) W)
    (hn : ∀ v fs' σ', W v fs' σ' → ∃ t v₁ v₂, v = .ref t ∧ σ' t = some (.tup [v₁, v₂]) ∧ Tr pr w s₀ A fs' σ' (storeName env y v₂) (fun _ fs'' σ'' => Tr pr w s₀ A fs'' σ'' (storeName env x v₁) (fun _ fs3 σ3 => Tr pr w s₀ A fs3 σ3 (execs rest env) V)))
    (hs : swapsWithSole [.Tuple elts k tpos] value pos.line env = Pure.pure false := by rfl)
    (hw : swappedStores [.Tuple elts k tpos] value env = Pure.pure (some [x, y]) := by rfl) : Tr pr w s₀ A fs σ (execs (.Assign [.Tuple elts k tpos] value pos :: rest) env) V := fun s _ _ I q => by
  refine wpAny_execs_cons (Assign_Tuple_swapped (names := [x, y]) (h s _ _ I fun v fs' σ' s' hw I' => ?_) hs hw)
  obtain ⟨t, v₁, v₂, rfl, ht, hc⟩ := hn v fs' σ' hw
  obtain ⟨o, ho, hcl, n, hd⟩ := I'.get ht
  refine unpackItems_tuple (items := [v₁, v₂].toArray) hh ⟨o, ho, hcl, n, hd⟩ fun h' he => ?_
  have I'' := I'.grow (h' := h') (fun b o hb => he b o (Nat.ne_of_lt (Heap.lt_size hb)) hb) s'.toks
  show wpAny _ _ (do holding [v₁] (bindName env y v₂); assignInOrder [fun v => bindName env x v] [v₁]) _ _ _
  refine wpAny_bind (wpAny_holding (wpAny_bindName (hc _ _ _ I'' fun _ fs2 σ2 s2 h2 I2 => ?_)))
  show wpAny _ _ (do holding [] (bindName env x v₁); assignInOrder [] []) _ _ _
  refine wpAny_bind (wpAny_holding (wpAny_bindName (h2 _ _ _ I2 fun _ fs3 σ3 s3 h3 I3 => ?_)))
  exact wpAny_pure (h3 s3 _ _ I3 q)
/-- a test by == ≠ whose sides may do things -/
theorem Tr.cmpE {l r : Expr} {op : CmpOp} {V : Value → Fs → Sto → Prop} {W₁ : Value → Fs → Sto → Prop} {W₂ : Value → Value → Fs → Sto → Prop} (h1 : Tr pr w s₀ A fs σ (eval l env) W₁) (h2 : ∀ a fs' σ', W₁ a fs' σ' → Tr pr w s₀ A fs' σ' (eval r env) (W₂ a)) (h3 : ∀ a b fs' σ', W₂ a b fs' σ' → Tr pr w s₀ A fs' σ' (compareOp op a b) V)
    (hm : behindInMarks op r = false := by with_unfolding_all rfl) : Tr pr w s₀ A fs σ (eval (.Compare l [op] [r] pos) env) V :=
  fun s _ _ I q => wpAny_Compare1 (h1 s _ _ I fun a fs1 σ1 s₁ ha I₁ => h2 a fs1 σ1 ha s₁ _ _ I₁ fun b fs2 σ2 s₂ hb I₂ => h3 a b fs2 σ2 hb s₂ _ _ I₂ q) hm
theorem Tr.cmpT {l r : Expr} {op : CmpOp} {V : Bool → Fs → Sto → Prop} {W₁ : Value → Fs → Sto → Prop} {W₂ : Value → Value → Fs → Sto → Prop} (h1 : Tr pr w s₀ A fs σ (eval l env) W₁) (h2 : ∀ a fs' σ', W₁ a fs' σ' → Tr pr w s₀ A fs' σ' (eval r env) (W₂ a))
    (h3 : ∀ a b fs' σ', W₂ a b fs' σ' → Tr pr w s₀ A fs' σ' (compareOp op a b) (fun c fs'' σ'' => ∃ b, c = .bool b ∧ V b fs'' σ''))
    (hm : behindInMarks op r = false := by with_unfolding_all rfl) : Tr pr w s₀ A fs σ (isTrue (.Compare l [op] [r] pos) env (eval (.Compare l [op] [r] pos) env)) V :=
  fun s _ _ I q => wpAny_isTrue_Compare1 (h1 s _ _ I fun a fs1 σ1 s₁ ha I₁ => h2 a fs1 σ1 ha s₁ _ _ I₁ fun b fs2 σ2 s₂ hb I₂ => h3 a b fs2 σ2 hb s₂ _ _ I₂ fun c fs3 σ3 s₃ ⟨b, e, hv⟩ I₃ => by subst e; exact wpAny_truthy_bool (q _ _ _ _ hv I₃)) hm
/-- if, the test doing things -/
theorem Tr.iteE {test : Expr} {body orelse : List Stmt} {W : Bool → Fs → Sto → Prop} (h : Tr pr w s₀ A fs σ (isTrue test env (eval test env)) W) (h1 : ∀ fs' σ', W true fs' σ' → Tr pr w s₀ A fs' σ' (execs body env) (fun f fs' σ' => match f with | .next => Tr pr w s₀ A fs' σ' (execs rest env) V | f => V f fs' σ'))
    (h2 : ∀ fs' σ', W false fs' σ' → Tr pr w s₀ A fs' σ' (execs orelse env) (fun f fs' σ' => match f with | .next => Tr pr w s₀ A fs' σ' (execs rest env) V | f => V f fs' σ')) : Tr pr w s₀ A fs σ (execs (.If test body orelse pos :: rest) env) V :=
  fun s _ _ I q => wpAny_execs_cons (wpAny_If (h s _ _ I fun c fs1 σ1 s₁ hc I₁ => by
    cases c with
    | true => exact h1 fs1 σ1 hc s₁ _ _ I₁ fun f fs' σ' s' hf I' => by cases f <;> first | exact hf s' _ _ I' q | exact q _ _ _ _ hf I'
    | false => exact h2 fs1 σ1 hc s₁ _ _ I₁ fun f fs' σ' s' hf I' => by cases f <;> first | exact hf s' _ _ I' q | exact q _ _ _ _ hf I'))
/-- while, the test doing things -/
theorem Tr.whileE {test : Expr} {body orelse : List Stmt} (I : Nat → Fs → Sto → Prop) (J : Bool → Nat → Fs → Sto → Prop) (n : Nat) (h0 : I n fs σ)
    (ht : ∀ n fs σ, I n fs σ → Tr pr w s₀ A fs σ (isTrue test env (eval test env)) (fun b => J b n))
    (h1 : ∀ n fs σ, J true n fs σ → Tr pr w s₀ A fs σ (execs body env) (fun f fs' σ' => match f with | .next | .cont => ∃ k, k < n ∧ I k fs' σ' | .brk => Tr pr w s₀ A fs' σ' (execs rest env) V | .ret v => V (.ret v) fs' σ'))
    (h2 : ∀ n fs σ, J false n fs σ → Tr pr w s₀ A fs σ (execs orelse env) (fun f fs' σ' => match f with | .next => Tr pr w s₀ A fs' σ' (execs rest env) V | f => V f fs' σ')) :
    Tr pr w s₀ A fs σ (execs (.While test body orelse pos :: rest) env) V := fun s Q E Iv q => by
  refine wpAny_execs_cons (wpAny_While (codeAny_whileLoop (fun n s => ∃ fs σ, I n fs σ ∧ Inv s₀ fs σ s) (fun n s ⟨fs, σ, hI, Iv⟩ => ?_) n ⟨fs, σ, h0, Iv⟩))
  refine ht n fs σ hI s _ _ Iv fun c fs1 σ1 s₁ hc I₁ => ?_
  cases c with
  | true =>
    refine h1 n fs1 σ1 hc s₁ _ _ I₁ fun f fs' σ' s' hf I' => ?_
    cases f with
    | next => obtain ⟨k, hk, hi⟩ := hf; exact ⟨k, hk, fs', σ', hi, I'⟩
    | cont => obtain ⟨k, hk, hi⟩ := hf; exact ⟨k, hk, fs', σ', hi, I'⟩
    | brk => exact hf s' _ _ I' q
    | ret v => exact q _ _ _ _ hf I'
  | false =>
    refine h2 n fs1 σ1 hc s₁ _ _ I₁ fun f fs' σ' s' hf I' => ?_
    cases f with
    | next => exact hf s' _ _ I' q
    | brk => exact q _ _ _ _ hf I'
    | cont => exact q _ _ _ _ hf I'
    | ret v => exact q _ _ _ _ hf I'
/-- a and b, as a test, the sides doing things -/
theorem Tr.andT {e₁ e₂ : Expr} {W V : Bool → Fs → Sto → Prop} (h1 : Tr pr w s₀ A fs σ (isTrue e₁ env (eval e₁ env)) W) (h2 : ∀ fs' σ', W true fs' σ' → Tr pr w s₀ A fs' σ' (isTrue e₂ env (eval e₂ env)) V) (h3 : ∀ fs' σ', W false fs' σ' → V false fs' σ') :
    Tr pr w s₀ A fs σ (isTrue (.BoolOp .And [e₁, e₂] pos) env (eval (.BoolOp .And [e₁, e₂] pos) env)) V :=
  fun s _ _ I q => wpAny_isTrue_BoolOp (wpAny_allTrue_And_cons (h1 s _ _ I fun c fs1 σ1 s₁ hc I₁ => by
    cases c with
    | false => exact q _ _ _ _ (h3 _ _ hc) I₁
    | true => exact wpAny_allTrue_And_cons (h2 _ _ hc s₁ _ _ I₁ fun d fs2 σ2 s₂ hd I₂ => by
        cases d with
        | false => exact q _ _ _ _ hd I₂
        | true => exact wpAny_allTrue_And_nil (q _ _ _ _ hd I₂))))
end
end Mine
end
section
open PySem PySem.W PyProof.Rows
namespace Mine
section
variable {pr : Program} {w : World} {s₀ : Shared} {A : Around} {env : Env} {fs : Fs} {σ : Sto} {m mg mb : NsMap} {x y : Str} {v : Value} {pos : Pos} {P P₁ P₂ : Value → Prop} {V : Flow → Fs → Sto → Prop} {rest : List Stmt} {E : Value → Shared → Prop} {s : Shared}

/-! exceptions: the frames' slots alone change -/
theorem Inv.slots {h' : Heap} (I : Inv s₀ fs σ s) (x : Heap.SlotsOnly (fs.map (·.1.locals)) s.heap h') (t : Nat) : Inv s₀ fs σ { s with heap := h', toks := t } := by
  obtain ⟨⟨hp, tk, rfl⟩, k, o, f, n⟩ := I
  have out : ∀ b, (∀ q ∈ fs, q.1.locals ≠ b) → h'.get? b = hp.get? b := fun b hb => x.2.1 b fun hm => by
    obtain ⟨q, hq, e⟩ := List.mem_map.mp hm
    exact hb q hq e
  refine ⟨⟨_, _, rfl⟩, fun b q hb => (out b fun g hg e => ?_).trans (k b q hb), fun b y hb => ?_, fun q hq => ?_, n⟩
  · have := (f g hg).2.2.1; rw [e, hb] at this; cases this
  · obtain ⟨b1, ob, b2, b3⟩ := o b y hb
    exact ⟨b1, ob, (out b fun g hg e => by have := (f g hg).2.2.2.1; rw [e, hb] at this; cases this).trans b2, b3⟩
  · obtain ⟨a1, a2, a3, a4, oL, es, ep, a5, a6, a7⟩ := f q hq
    obtain ⟨sl, e⟩ := x.2.2 _ _ a5
    exact ⟨a1, a2, a3, a4, _, es, ep, e, a6, a7⟩
theorem Inv.funFrames : ∀ {fs : Fs} {s : Shared}, (∀ f ∈ fs, f.1.frame = some f.1.locals ∧ f.1.scope.kind = .function ∧ s₀.heap.get? f.1.locals = none ∧ σ f.1.locals = none ∧ s.heap.Ns f.1.locals f.2) → s.heap.FunFrames s₀.heap (fs.map (·.1))
  | [], _, _ => trivial
  | f :: r, s, h => by
    obtain ⟨a1, a2, a3, a4, o, es, ep, a5, a6, _⟩ := h f (.head _)
    exact ⟨(by rw [a2]; intro q; cases q), ⟨_, o, a1, a3, a5, fun vs q => (by rw [a6] at q; cases q)⟩, Inv.funFrames fun g hg => h g (.tail _ hg)⟩
theorem frames_locals : ∀ {fs : Fs}, (∀ f ∈ fs, f.1.frame = some f.1.locals) → (fs.map (·.1)).filterMap (·.frame) = fs.map (·.1.locals)
  | [], _ => rfl
  | f :: r, h => by
    simp only [List.map_cons, List.filterMap_cons, h f (.head _)]
    rw [frames_locals fun g hg => h g (.tail _ hg)]
theorem Inv.field {a : Addr} {X : String} {tb : Option Addr} {ctx : Value} (I : Inv s₀ fs σ s) (h : σ a = some (.exc X tb ctx)) : ∃ o vs, s.heap.get? a = some o ∧ o.cls = .type X ∧ o.data = .fields vs ∧ vs[1]? = some (tb.elim .none .ref) ∧ vs[2]? = some ctx := by
  obtain ⟨o, ho, hc, vs, h1, h2, h3⟩ := I.get h; exact ⟨o, vs, ho, hc, h1, h2, h3⟩

/-- the exception is new here, or noted and in flight here -/
def Flies (C : Value → Prop) (σ : Sto) (ea : Addr) (X : String) (L : Addr) : Prop := ∃ ctx : { c : Value // C c }, σ ea = some (.exc X none ctx.1) ∨ ∃ tb, σ ea = some (.exc X (some tb) ctx.1) ∧ σ tb = some (.tbk (rawInt L))
def Noted (C : Value → Prop) (σ : Sto) (ea : Addr) (X : String) (fl : Value) : Prop := ∃ (ctx : { c : Value // C c }) (tb : Addr), σ ea = some (.exc X (some tb) ctx.1) ∧ σ tb = some (.tbk fl)

theorem Tr.note {C : Value → Prop} {ea : Addr} {X : String} {V : Unit → Fs → Sto → Prop} (hf : Flies C σ ea X env.locals) (hfr : A.frames = some ((env, m) :: fs |>.map (·.1)))
    (h : ∀ σ', (∀ b y, b ≠ ea → σ b = some y → σ' b = some y) → Noted C σ' ea X (rawInt env.locals) → V () ((env, m) :: fs) σ') : Tr pr w s₀ A ((env, m) :: fs) σ (noteFrame (.ref ea) env) V := fun s _ _ I q => by
  have hL : env.frame = some env.locals := (I.fr _ (.head _)).1
  obtain ⟨ctx, hf | ⟨tb, h1, h2⟩⟩ := hf
  · obtain ⟨oe, vs, he, hc, hd, hv1, hv2⟩ := I.field hf
    unfold noteFrame
    simp only [hL]
    refine wpAny_bind (wpAny_field he hd hv1 ?_)
    rw [if_neg (by decide)]
    refine wpAny_bind (wpAny_frameOf_fun hfr (Inv.funFrames I.fr) hL fun h₁ hs₁ => ?_)
    have fl := frames_locals fun f hf => (I.fr f hf).1
    have hs₁' : Heap.SlotsOnly (((env, m) :: fs).map (·.1.locals)) s.heap h₁ := by rw [← fl]; exact hs₁
    have I₁ := I.slots hs₁' s.toks
    refine wpAny_bind (wpAny_entryPlaceOf fun pl hpl => ?_)
    unfold EntryCells.newEntry newFields
    refine wpAny_bind (wpAny_newObj_type ?_ (hpl.sizeOk5 _ _ _ _ _))
    obtain ⟨hn, I₂⟩ := I₁.push (x := .tbk (rawInt env.locals)) (o := { cls := .type "traceback", dict := none, data := .fields ([Value.none, .ref env.locals, .none, rawInt env.locals, .none] ++ (if pl.isEmpty then List.replicate 6 Value.none else pl)).toArray }) ⟨_, rfl, by simp⟩ rfl s.toks
    have hne : ea ≠ h₁.objs.size := by rintro rfl; rw [hf] at hn; cases hn
    have hf2 : upd σ h₁.objs.size (.tbk (rawInt env.locals)) ea = some (.exc X none ctx.1) := (upd_ne hne).trans hf
    obtain ⟨o2, vs2, he2, hc2, hd2, hv12, hv22⟩ := I₂.field hf2
    refine wpAny_setField he2 hd2 (Array.getElem?_eq_some_iff.mp hv12).1 ?_
    have hd3 := Obj.data_mapFields hd2 (·.setIfInBounds 1 (Value.ref h₁.objs.size))
    have he3 := Heap.get?_update_self (Obj.mapFields (·.setIfInBounds 1 (Value.ref h₁.objs.size))) he2 (Obj.isFreed_of_fields hd3)
    have I₃ := I₂.put (x' := .exc X (some h₁.objs.size) ctx.1) hf2 (Heap.SameBut.update ..).extBut he3 ⟨(Obj.cls_mapFields ..).trans hc2, _, hd3, by simp [(Array.getElem?_eq_some_iff.mp hv12).1], by simpa [Array.getElem?_setIfInBounds] using hv22⟩ s.toks
    refine q _ _ _ _ (h _ ?_ ⟨ctx, h₁.objs.size, upd_self .., ?_⟩) I₃
    · intro b y hb e
      rw [upd_ne hb]
      rw [upd_ne (by rintro rfl; rw [hn] at e; cases e)]; exact e
    · rw [upd_ne (Ne.symm hne), upd_self]
  · obtain ⟨oe, vs, he, hc, hd, hv1, hv2⟩ := I.field h1
    replace hv1 : vs[1]? = some (.ref tb) := hv1
    obtain ⟨ot, hot, ts, hdt, ht3⟩ := I.get h2
    exact wpAny_noteFrame_inFlight hL he hd hv1 hot hdt ht3 (q _ _ _ _ (h σ (fun _ _ _ e => e) ⟨ctx, tb, h1, h2⟩) I)
theorem Tr.flight {C : Value → Prop} {ea : Addr} {X : String} {fl : Value} {fr : Option Addr} {V : Unit → Fs → Sto → Prop} (hn : Noted C σ ea X fl)
    (h : ∀ σ', (∀ b y, (∀ fl', y ≠ .tbk fl') → σ b = some y → σ' b = some y) → Noted C σ' ea X (fr.elim .none fun f => rawInt f) → V () fs σ') : Tr pr w s₀ A fs σ (setFlight (.ref ea) fr) V := fun s _ _ I q => by
  obtain ⟨ctx, tb, h1, h2⟩ := hn
  obtain ⟨oe, vs, he, hc, hd, hv1, hv2⟩ := I.field h1
  replace hv1 : vs[1]? = some (.ref tb) := hv1
  obtain ⟨ot, hot, ts, hdt, ht3⟩ := I.get h2
  have hsz := (Array.getElem?_eq_some_iff.mp ht3).1
  unfold setFlight
  refine wpAny_bind (wpAny_field he hd hv1 ?_)
  rw [if_pos (show (Value.ref tb != Value.none) = true from by simp)]
  refine wpAny_setField hot hdt hsz ?_
  have hd3 := Obj.data_mapFields hdt (·.setIfInBounds 3 (fr.elim .none fun f => rawInt f))
  have I' := I.put (x' := .tbk (fr.elim .none fun f => rawInt f)) h2 (Heap.SameBut.update ..).extBut (Heap.get?_update_self _ hot (Obj.isFreed_of_fields hd3)) ⟨_, hd3, by simp [hsz]⟩ s.toks
  have hne : ea ≠ tb := by rintro rfl; rw [h1] at h2; cases h2
  refine q _ _ _ _ (h _ ?_ ⟨ctx, tb, (upd_ne hne).trans h1, upd_self ..⟩) I'
  intro b y hy e
  rw [upd_ne (by rintro rfl; rw [h2] at e; cases e; exact hy _ rfl)]; exact e

/-! the triple with a promise for what is raised -/
def TrE (pr : Program) (w : World) (s₀ : Shared) (E : Value → Shared → Prop) {α : Type} (A : Around) (fs : Fs) (σ : Sto) (t : Sem α) (V : α → Fs → Sto → Prop) : Prop :=
  ∀ s Q, Inv s₀ fs σ s → (∀ v fs' σ' s', V v fs' σ' → Inv s₀ fs' σ' s' → Q v s') → wpAny (model pr w) A t Q E s
theorem Tr.toE {α : Type} {t : Sem α} {V : α → Fs → Sto → Prop} (h : Tr pr w s₀ A fs σ t V) : TrE pr w s₀ E A fs σ t V := fun s Q I q => h s Q E I q
theorem TrE.mono {α : Type} {t : Sem α} {V V' : α → Fs → Sto → Prop} (h : TrE pr w s₀ E A fs σ t V) (hv : ∀ a fs' σ', V a fs' σ' → V' a fs' σ') : TrE pr w s₀ E A fs σ t V' :=
  fun s _ I q => h s _ I (fun a fs' σ' s' v I' => q a fs' σ' s' (hv a fs' σ' v) I')
theorem TrE.absV {α : Type} {t : Sem α} {V : α → Fs → Sto → Prop} (h : ∀ Vb : α → Fs → Sto → Prop, (∀ f fs' σ', V f fs' σ' → Vb f fs' σ') → TrE pr w s₀ E A fs σ t Vb) : TrE pr w s₀ E A fs σ t V := h V fun _ _ _ h => h
theorem TrE.weak {α : Type} {t : Sem α} {V : α → Fs → Sto → Prop} {σ' : Sto} (h : TrE pr w s₀ E A fs σ' t V) (hs : Sub σ' σ) : TrE pr w s₀ E A fs σ t V :=
  fun s _ I q => h s _ (I.weak hs) q
theorem TrE.onE {α : Type} {t : Sem α} {V : α → Fs → Sto → Prop} {E' : Value → Shared → Prop} (h : TrE pr w s₀ E A fs σ t V) (hE : ∀ e s, E e s → E' e s) : TrE pr w s₀ E' A fs σ t V :=
  fun s _ I q => wpAny_mono (h s _ I q) (fun _ _ x => x) hE
/-- what is raised in a state of HX is taken by E -/
def Catch (C : Value → Prop) (s₀ : Shared) (E : Value → Shared → Prop) (X : String) (L : Addr) (HX : Fs → Sto → Prop) : Prop := ∀ ea fs σ s, HX fs σ → Flies C σ ea X L → Inv s₀ fs σ s → E (.ref ea) s

theorem TrE.nil (h : V .next fs σ) : TrE pr w s₀ E A fs σ (execs [] env) V := (Tr.nil h).toE
theorem TrE.assign {pos' : Pos} {e : Expr} {W : Value → Fs → Sto → Prop} (h : TrE pr w s₀ E A fs σ (eval e env) W) (hn : ∀ v fs' σ', W v fs' σ' → TrE pr w s₀ E A fs' σ' (storeName env x v) (fun _ fs'' σ'' => TrE pr w s₀ E A fs'' σ'' (execs rest env) V))
    (hs : swapsWith e (some (.Name x pos')) pos.line env = Pure.pure false := by rfl) : TrE pr w s₀ E A fs σ (execs (.Assign [.Name x pos'] e pos :: rest) env) V :=
  fun s _ I q => wpAny_execs_cons (wpAny_Assign_Name (h s _ I fun v fs' σ' s' hw I' => hn v fs' σ' hw s' _ I' fun _ fs'' σ'' s'' ht I'' => ht s'' _ I'' q) hs)
theorem TrE.ite {test : Expr} {body orelse : List Stmt} {b : Bool} (h : Tv pr w s₀ A env fs σ test b) (h1 : b = true → TrE pr w s₀ E A fs σ (execs body env) (fun f fs' σ' => match f with | .next => TrE pr w s₀ E A fs' σ' (execs rest env) V | f => V f fs' σ'))
    (h2 : b = false → TrE pr w s₀ E A fs σ (execs orelse env) (fun f fs' σ' => match f with | .next => TrE pr w s₀ E A fs' σ' (execs rest env) V | f => V f fs' σ')) : TrE pr w s₀ E A fs σ (execs (.If test body orelse pos :: rest) env) V :=
  fun s _ I q => wpAny_execs_cons (wpAny_If (h s _ _ I fun c _ _ s₁ ⟨e1, e2, e3⟩ I₁ => by
    subst e1 e2 e3
    cases c with
    | true => exact h1 rfl s₁ _ I₁ fun f fs' σ' s' hf I' => by cases f <;> first | exact hf s' _ I' q | exact q _ _ _ _ hf I'
    | false => exact h2 rfl s₁ _ I₁ fun f fs' σ' s' hf I' => by cases f <;> first | exact hf s' _ I' q | exact q _ _ _ _ hf I'))
theorem TrE.expr {e : Expr} {W : Value → Fs → Sto → Prop} (h : TrE pr w s₀ E A fs σ (eval e env) W) (hn : ∀ v fs' σ', W v fs' σ' → TrE pr w s₀ E A fs' σ' (execs rest env) V)
    (hi : interactive env = false := by rfl) (hs : swapsWith e Option.none pos.line env = Pure.pure false := by rfl) : TrE pr w s₀ E A fs σ (execs (.Expr e pos :: rest) env) V :=
  fun s _ I q => wpAny_execs_cons (wpAny_Expr_any (h s _ I fun v fs' σ' s' hw I' => hn v fs' σ' hw s' _ I' q) hi hs)
theorem TrE.aug {e : Expr} {pos' : Pos} {a b : Int} {t : Tok} (hm : m x = some (.int a t)) (h : Pv pr w s₀ A env ((env, m) :: fs) σ e (IsI b)) (hn : ∀ u, TrE pr w s₀ E A ((env, set1 m x (.int (a + b) u)) :: fs) σ (execs rest env) V)
    (hl : env.kindOf x = some .local := by rfl) : TrE pr w s₀ E A ((env, m) :: fs) σ (execs (.AugAssign (.Name x pos') .Add e pos :: rest) env) V :=
  fun s _ I q => by
    obtain ⟨_, hk, _, _, n⟩ := I.fr _ (.head _)
    refine wpAny_execs_cons (wpAny_AugAssign_Name (wpAny_loadName_local hk hl n hm (h s _ _ I fun v _ _ s' ⟨e1, e2, u, e3⟩ I' => ?_)))
    rw [e1, e2] at I'
    rw [e3]
    exact iadd_int (Tr.store (fs := fs) (σ := σ) (m := m) (V := fun _ fs' σ' => TrE pr w s₀ E A fs' σ' (execs rest env) V) (hn s'.toks) hl _ _ _ (I'.tok _) fun _ fs'' σ'' s'' h5 I'' => h5 s'' _ I'' q)
theorem TrE.while {test : Expr} {body orelse : List Stmt} (hP : PassesOwn (model pr w) A env E) (I : Nat → Fs → Sto → Prop) (J : Bool → Nat → Fs → Sto → Prop) (n : Nat) (h0 : I n fs σ)
    (ht : ∀ n fs σ, I n fs σ → TrE pr w s₀ E A fs σ (isTrue test env (eval test env)) (fun b => J b n))
    (h1 : ∀ n fs σ, J true n fs σ → TrE pr w s₀ E A fs σ (execs body env) (fun f fs' σ' => match f with | .next | .cont => ∃ k, k < n ∧ I k fs' σ' | .brk => TrE pr w s₀ E A fs' σ' (execs rest env) V | .ret v => V (.ret v) fs' σ'))
    (h2 : ∀ n fs σ, J false n fs σ → TrE pr w s₀ E A fs σ (execs orelse env) (fun f fs' σ' => match f with | .next => TrE pr w s₀ E A fs' σ' (execs rest env) V | f => V f fs' σ')) :
    TrE pr w s₀ E A fs σ (execs (.While test body orelse pos :: rest) env) V := fun s Q Iv q => by
  refine wpAny_execs_cons (wpAny_While (codeAny_whileLoop (fun n s => ∃ fs σ, I n fs σ ∧ Inv s₀ fs σ s) (fun n s ⟨fs, σ, hI, Iv⟩ => ?_) n ⟨fs, σ, h0, Iv⟩))
  refine (ht n fs σ hI).onE hP s _ Iv fun c fs1 σ1 s₁ hc I₁ => ?_
  cases c with
  | true =>
    refine (h1 n fs1 σ1 hc).onE hP s₁ _ I₁ fun f fs' σ' s' hf I' => ?_
    cases f with
    | next => obtain ⟨k, hk, hi⟩ := hf; exact ⟨k, hk, fs', σ', hi, I'⟩
    | cont => obtain ⟨k, hk, hi⟩ := hf; exact ⟨k, hk, fs', σ', hi, I'⟩
    | brk => exact hf s' _ I' q
    | ret v => exact q _ _ _ _ hf I'
  | false =>
    refine (h2 n fs1 σ1 hc).onE hP s₁ _ I₁ fun f fs' σ' s' hf I' => ?_
    cases f with
    | next => exact hf s' _ I' q
    | brk => exact q _ _ _ _ hf I'
    | cont => exact q _ _ _ _ hf I'
    | ret v => exact q _ _ _ _ hf I'
end
end Mine
end
section
open PySem PySem.W PyProof.Rows
namespace Mine
section
variable {pr : Program} {w : World} {s₀ : Shared} {A : Around} {env : Env} {fs : Fs} {σ : Sto} {m mg mb : NsMap} {x y : Str} {v : Value} {pos : Pos} {P P₁ P₂ : Value → Prop} {V : Flow → Fs → Sto → Prop} {rest : List Stmt} {E : Value → Shared → Prop} {s : Shared} {X : String} {L : Addr} {HX : Fs → Sto → Prop} {C : Value → Prop}

/-- no exception is handled, or one without a context -/
def Hd (C : Value → Prop) (A : Around) (σ : Sto) : Prop := (A.handled = none ∧ C .none) ∨ ∃ e X tb, A.handled = some (.ref e) ∧ σ e = some (.exc X tb .none) ∧ C (.ref e)
theorem entry_unchain : entryFor table "proto.unchain" = some Builtin.«proto.unchain» := entryFor_of_fast (by kernel_rfl)
theorem plain_unchain : plainId "proto.unchain" = true := by decide +kernel

theorem TrE.raise {α : Type} {ea : Addr} {V : α → Fs → Sto → Prop} (hH : Hd C A σ) (he : σ ea = some (.exc X none .none)) (hne : ∀ e, A.handled = some (.ref e) → e ≠ ea) (hC : Catch C s₀ E X L HX) (hX : ∀ ctx, HX fs (upd σ ea (.exc X none ctx))) : TrE pr w s₀ E A fs σ (raiseNew (.ref ea) : Sem α) V := fun s Q I q => by
  rcases hH with ⟨hh, hcn⟩ | ⟨e, X', tb, hh, hs, hcr⟩
  · refine wpAny_raiseNew_none hh (hC ea fs σ s ?_ ⟨⟨.none, hcn⟩, .inl he⟩ I)
    have := hX .none
    rwa [upd_same he] at this
  · have hn := hne e hh
    unfold raiseNew
    refine wpAny_bind (wpAny_handled ?_)
    rw [hh]
    show wpAny _ _ (if (Value.ref e != Value.ref ea) = true then _ else _) _ _ _
    rw [if_pos (by simpa using hn)]
    obtain ⟨o1, vs1, h1, h2, h3, h4, h5⟩ := I.field hs
    refine wpAny_bind (wpAny_holding (wpAny_runValue (codeAny_builtin entry_unchain ?_)))
    rw [Around.under_plainId plain_unchain _]
    unfold Builtin.«proto.unchain»
    refine wpAny_bind (wpAny_field h1 h3 h5 ?_)
    show wpAny _ _ (if (Value.none == Value.none) = true then _ else _) _ _ _
    rw [if_pos (by decide)]
    refine wpAny_pure ?_
    obtain ⟨o2, vs2, g1, g2, g3, g4, g5⟩ := I.field he
    have hsz := (Array.getElem?_eq_some_iff.mp g5).1
    refine wpAny_bind (m := updateField ea 2 (.ref e)) (show wpAny _ _ (setField (.ref ea) 2 (.ref e)) _ _ _ from wpAny_setField g1 g3 hsz (wpAny_throw ?_))
    have hd3 := Obj.data_mapFields g3 (·.setIfInBounds 2 (Value.ref e))
    have I' := I.put (x' := .exc X none (.ref e)) he (Heap.SameBut.update ..).extBut (Heap.get?_update_self _ g1 (Obj.isFreed_of_fields hd3)) ⟨(Obj.cls_mapFields ..).trans g2, _, hd3, by simpa [Array.getElem?_setIfInBounds] using g4, by simp [hsz]⟩ s.toks
    exact hC ea fs _ _ (hX _) ⟨⟨.ref e, hcr⟩, .inl (upd_self ..)⟩ I'
theorem TrE.raiseIdx {α : Type} {msg : String} {V : α → Fs → Sto → Prop} (hH : Hd C A σ) (hC : Catch C s₀ E "IndexError" L HX) (hX : ∀ ea ctx, σ ea = none → HX fs (upd σ ea (.exc "IndexError" none ctx))) : TrE pr w s₀ E A fs σ (raiseErrorWords "IndexError" msg : Sem α) V := fun s Q I q => by
  unfold raiseErrorWords
  refine wpAny_bind (wpAny_mkText (wpAny_bind (wpAny_newExc_plain plainExc_IndexError (fun h' e hm => ?_))))
  obtain ⟨t, ht, _, _⟩ := hm.there
  have I0 := I.tok (s.toks + 1)
  obtain ⟨hn, I'⟩ := I0.more (x := .exc "IndexError" none .none) hm.keeps hm.new ht ⟨rfl, _, rfl, rfl, rfl⟩ (s.toks + 1)
  refine TrE.raise (L := L) (HX := HX) ?_ (upd_self ..) ?_ hC (fun ctx => ?_) _ _ I' q
  · rcases hH with hh | ⟨e1, X', tb, hh, hs, hcr⟩
    · exact .inl hh
    · exact .inr ⟨e1, X', tb, hh, (upd_ne (by rintro rfl; rw [hn] at hs; cases hs)).trans hs, hcr⟩
  · intro e1 hh e
    subst e
    rcases hH with ⟨hh', _⟩ | ⟨e2, X', tb, hh', hs, _⟩
    · rw [hh'] at hh; cases hh
    · rw [hh'] at hh; cases hh; rw [hn] at hs; cases hs
  · rw [upd_upd]; exact hX e ctx hn

/-- an item beyond the list -/
theorem TrE.outI {a : Addr} {vs : List Value} {k : Int} {t : Tok} {V : Value → Fs → Sto → Prop} (hH : Hd C A σ) (hs : σ a = some (.list vs)) (h0 : 0 ≤ k) (hk : (vs.length : Int) ≤ k) (hfit : k < 2 ^ 63) (hC : Catch C s₀ E "IndexError" L HX) (hX : ∀ ea ctx, σ ea = none → HX fs (upd σ ea (.exc "IndexError" none ctx))) :
    TrE pr w s₀ E A fs σ (getItem (.ref a) (.int k t)) V := fun s Q I q => by
  have hl := I.isList hs
  obtain ⟨o, ho, hc, ne, hd⟩ := id hl
  have main : ∀ {α : Type} (Q' : α → Shared → Prop), wpAny (model pr w) A.in1 (raiseErrorWords "IndexError" "list index out of range" : Sem α) Q' E s := fun Q' =>
    TrE.raiseIdx (pr := pr) (w := w) (A := A.in1) (V := fun _ _ _ => False) hH hC hX s Q' I (fun _ _ _ _ f _ => f.elim)
  unfold getItem
  try with_reducible refine wpAny_holding ?_
  first | refine wpAny_bind (wpAny_pure ?_) | skip
  refine wpAny_bind (wpAny_sequenceKey hl.typeIs (by decide) ?_)
  refine wpAny_bind (wpAny_callSpecial?_slot (name := Str.ofString "__getitem__") hl.typeIs slot_list_getitem
    (wpAny_call_entry slot_list_getitem hl.typeIs entry_list_getitem ?_ (args_list_getitem _ _)))
  show wpAny _ _ (Builtin.List.listSubscript? (.int k t) >>= _) _ _ s
  refine wpAny_bind (wpAny_listSubscript_int (fitsIndex_of h0 hfit) ?_)
  clear hfit
  obtain ⟨j, rfl⟩ := Int.eq_ofNat_of_zero_le h0
  have hx : vs.toArray[j]? = none := by simp; omega
  show wpAny _ _ ((seqItemAt a j >>= fun r => Pure.pure (r.map (j, ·))) >>= _) _ _ s
  refine wpAny_bind (wpAny_bind (wpAny_seqItemAt ho hd (wpAny_pure ?_)))
  rw [hx]
  first
    | exact wpAny_bind (wpAny_rule (main _))
    | exact wpAny_bind (wpAny_rule (wpAny_bind (main _)))
    | exact wpAny_bind (wpAny_bind (wpAny_rule (main _)))
    | exact wpAny_rule (main _)
theorem TrE.out {a : Addr} {vs : List Value} {k : Nat} {t : Tok} {V : Value → Fs → Sto → Prop} (hH : Hd C A σ) (hs : σ a = some (.list vs)) (hk : vs.length ≤ k) (hz : k < 2 ^ 62) (hC : Catch C s₀ E "IndexError" L HX) (hX : ∀ ea ctx, σ ea = none → HX fs (upd σ ea (.exc "IndexError" none ctx))) :
    TrE pr w s₀ E A fs σ (getItem (.ref a) (.int (k : Int) t)) V := TrE.outI hH hs (by omega) (by omega) (by omega) hC hX
/-- on with an exception that a finally has kept -/
theorem TrE.passOn {ea : Addr} {what : String} {fl : Value} {V : Flow → Fs → Sto → Prop} (hL : env.frame = some L) (hn : Noted C σ ea X fl) (hC : Catch C s₀ E X L HX) (hX : ∀ σ', (∀ b y, (∀ fl', y ≠ .tbk fl') → σ b = some y → σ' b = some y) → HX fs σ') : TrE pr w s₀ E A fs σ (passOn what (.ref ea) env) V := fun s Q I q => by
  obtain ⟨ctx, tb, h1, h2⟩ := id hn
  obtain ⟨o1, vs1, g1, g2, g3, g4, g5⟩ := I.field h1
  replace g4 : vs1[1]? = some (.ref tb) := g4
  unfold PySem.passOn
  refine wpAny_bind (wpAny_field g1 g3 g4 ?_)
  rw [if_neg (show ¬ ((Value.ref tb == Value.none) = true) from by simp)]
  have st := Tr.flight (pr := pr) (w := w) (s₀ := s₀) (A := A) (fs := fs) (fr := env.frame) (V := fun _ fs' σ' => fs' = fs ∧ (∀ b y, (∀ fl', y ≠ .tbk fl') → σ b = some y → σ' b = some y) ∧ Noted C σ' ea X (rawInt L)) hn (fun σ' h1 h2 => ⟨rfl, h1, by rw [hL] at h2; exact h2⟩)
  have fin : wpAny (model pr w) A (setFlight (.ref ea) env.frame >>= fun _ => (throw (.ref ea) : Sem Flow)) Q E s :=
    wpAny_bind (st s _ _ I fun _ fs' σ' s' ⟨e, hk, ctx', tb', n1, n2⟩ I' => by
      subst e
      exact wpAny_throw (hC ea _ σ' s' (hX σ' hk) ⟨ctx', .inr ⟨tb', n1, n2⟩⟩ I'))
  first
    | exact fin
    | exact wpAny_bind (wpAny_pure fin)

/-- try .. finally, inside a try -/
theorem TrE.tryFin (hCn : C .none) {body : List Stmt} {f₀ : Stmt} {final : List Stmt} {N : Fs → Sto → Prop} {HB : Fs → Sto → Prop} {HF : Addr → Fs → Sto → Prop} (hLe : env.locals = L) (hfr : ∀ m, A.frames = some ((env, m) :: fs |>.map (·.1))) (hP : PassesOwn (model pr w) A env E)
    (hC : Catch C s₀ E X L HX) (hPm : ∀ ea, PassesOwnAt (model pr w) (A.mark (some (.ref ea))) A env E)
    (hB1 : ∀ fs' σ', HB fs' σ' → ∃ m', fs' = (env, m') :: fs) (hB2 : ∀ fs' σ' σ'', HB fs' σ' → (∀ b y, (∀ fl', y ≠ .tbk fl') → (∀ Y t c, y ≠ .exc Y t c) → σ' b = some y → σ'' b = some y) → HB fs' σ'')
    (hF2 : ∀ ea fs' σ' σ'', HF ea fs' σ' → (∀ b y, (∀ fl', y ≠ .tbk fl') → σ' b = some y → σ'' b = some y) → HX fs' σ'')
    (hb : ∀ E₁, PassesOwn (model pr w) A env E₁ → Catch (· = .none) s₀ E₁ X L HB → TrE pr w s₀ E₁ A ((env, m) :: fs) σ (execs body env) (fun f fs' σ' => f = .next ∧ N fs' σ'))
    (hn : ∀ fs' σ', N fs' σ' → TrE pr w s₀ E A fs' σ' (execs (f₀ :: final) env) (fun g fs'' σ'' => match g with | .next => TrE pr w s₀ E A fs'' σ'' (execs rest env) V | g => V g fs'' σ''))
    (hr : ∀ ea fs' σ', HB fs' σ' → Noted (· = .none) σ' ea X .none → ∀ E₂, PassesOwn (model pr w) (A.mark (some (.ref ea))) env E₂ → Catch C s₀ E₂ X L HX → TrE pr w s₀ E₂ (A.mark (some (.ref ea))) fs' σ' (execs (f₀ :: final) env) (fun g fs'' σ'' => g = .next ∧ HF ea fs'' σ'' ∧ Noted (· = .none) σ'' ea X .none)) :
    TrE pr w s₀ E A ((env, m) :: fs) σ (execs (.Try body [] [] (f₀ :: final) pos :: rest) env) V := fun s Q I q => by
  have hL : env.frame = some L := by rw [← hLe]; exact (I.fr _ (.head _)).1
  refine wpAny_execs_cons (wpAny_Try_finally ?_)
  have KR : ∀ ea fs' σ' s', HB fs' σ' → Noted (· = .none) σ' ea X (rawInt L) → Inv s₀ fs' σ' s' → FinallyRaised pr w A E env (f₀ :: final) (fun f s' => match f with | .next => wpAny (model pr w) A (execs rest env) Q E s' | f => Q f s') (.ref ea) s' := by
    intro ea fs' σ' s' hHB hN I'
    obtain ⟨m', rfl⟩ := hB1 fs' σ' hHB
    refine ⟨ref_ne_byPass ea, ?_⟩
    obtain ⟨ctx, tb, n1, n2⟩ := id hN
    refine Tr.note (pr := pr) (w := w) (X := X) ⟨ctx, .inr ⟨tb, n1, by rw [hLe]; exact n2⟩⟩ (hfr m') (V := fun _ fs'' σ'' => fs'' = (env, m') :: fs ∧ HB fs'' σ'' ∧ Noted (· = .none) σ'' ea X (rawInt L)) (fun σ'' hk hN' => ⟨rfl, hB2 _ _ _ hHB fun b y _ h2 e => hk b y (by rintro rfl; rw [n1] at e; cases e; exact h2 _ _ _ rfl) e, by rw [hLe] at hN'; exact hN'⟩) s' _ _ I' fun _ _ σ1 s1 ⟨e, hHB1, hN1⟩ I1 => ?_
    subst e
    refine Tr.flight (pr := pr) (w := w) (X := X) (fr := none) hN1 (V := fun _ fs'' σ'' => fs'' = (env, m') :: fs ∧ HB fs'' σ'' ∧ Noted (· = .none) σ'' ea X .none) (fun σ'' hk hN' => ⟨rfl, hB2 _ _ _ hHB1 fun b y h1 _ e => hk b y h1 e, hN'⟩) s1 _ _ I1 fun _ _ σ2 s2 ⟨e, hHB2, hN2⟩ I2 => ?_
    subst e
    have hPM := hPm ea
    refine hr ea _ σ2 hHB2 hN2 _ ?_ (fun ea' fs' σ' s' h1 h2 h3 => hPM _ _ (hC ea' fs' σ' s' h1 h2 h3)) s2 _ I2 fun g fs3 σ3 s3 ⟨e1, e2, e3⟩ I3 => ?_
    · exact PassesOwn.looking
    · subst e1
      exact TrE.passOn (C := C) (V := fun _ _ _ => False) (L := L) (HX := HX) hL (by obtain ⟨⟨c, hc⟩, tb, n1, n2⟩ := e3; exact ⟨⟨c, hc ▸ hCn⟩, tb, n1, n2⟩) hC (fun σ4 hk => hF2 _ _ _ _ e2 hk) s3 _ I3 fun f fs' σ' s' hf I' => hf.elim
  refine hb _ ?_ ?_ s _ I fun f fs' σ' s' ⟨e, hN⟩ I' => ?_
  · exact PassesOwn.looking
  · intro ea fs' σ' s' hHB hF I'
    obtain ⟨m', rfl⟩ := hB1 fs' σ' hHB
    have hF0 := hF
    refine Tr.note (pr := pr) (w := w) (X := X) (by rw [hLe]; exact hF) (hfr m') (V := fun _ fs'' σ'' => HB fs'' σ'' ∧ Noted (· = .none) σ'' ea X (rawInt L)) (fun σ'' hk hN' => ⟨hB2 _ _ _ hHB fun b y _ h2 e => hk b y ?_ e, by rw [hLe] at hN'; exact hN'⟩) s' _ _ I' fun _ fs1 σ1 s1 ⟨h1, h2⟩ I1 => KR ea fs1 σ1 s1 h1 h2 I1
    rintro rfl
    obtain ⟨ctx, n1 | ⟨tb, n1, _⟩⟩ := hF0 <;> (rw [n1] at e; cases e; exact h2 _ _ _ rfl)
  · subst e
    refine wpAny_execs_nil ?_
    refine (hn fs' σ' hN).onE hP s' _ I' fun g fs'' σ'' s'' hg I'' => ?_
    cases g with
    | next => exact hg s'' _ I'' q
    | brk => exact q _ _ _ _ hg I''
    | cont => exact q _ _ _ _ hg I''
    | ret v => exact q _ _ _ _ hg I''
end
end Mine
end
section
open PySem PySem.W PyProof.Rows
namespace Mine
section
variable {pr : Program} {w : World} {s₀ : Shared} {A : Around} {env : Env} {fs : Fs} {σ : Sto} {m mg mb : NsMap} {x y : Str} {v : Value} {pos : Pos} {P P₁ P₂ : Value → Prop} {V : Flow → Fs → Sto → Prop} {rest : List Stmt} {E : Value → Shared → Prop} {s : Shared} {X : String} {L : Addr} {HX : Fs → Sto → Prop} {C : Value → Prop}
theorem Noted.keep {σ σ' : Sto} {ea : Addr} {fl : Value} (h : Noted C σ ea X fl) : ∃ tb ctx, σ ea = some (.exc X (some tb) ctx) := by obtain ⟨ctx, tb, h1, _⟩ := h; exact ⟨tb, ctx.1, h1⟩
/-- try .. except X -/
theorem Tr.tryExc (C : Value → Prop) {body : List Stmt} {t : Expr} {b₀ : Stmt} {suite : List Stmt} {hpos : Pos} (hLe : env.locals = L) (hfr : ∀ m, A.frames = some ((env, m) :: fs |>.map (·.1)))
    (hexc : isSubtype (.type X) (.type "BaseException") = Pure.pure true) (hnt : isSubtype (.type ((Manifest.find? X).elim "type" fun x => x.metatype)) (.type "tuple") = Pure.pure false) (hsub : isSubtype (.type X) (.type X) = Pure.pure true)
    (ht : ∀ A' fs' σ', Pv pr w s₀ A' env fs' σ' t (· = .type X))
    (hX1 : ∀ fs' σ', HX fs' σ' → ∃ m', fs' = (env, m') :: fs) (hX2 : ∀ fs' σ' σ'', HX fs' σ' → (∀ b y, (∀ fl', y ≠ .tbk fl') → (∀ Y t c, y ≠ .exc Y t c) → σ' b = some y → σ'' b = some y) → HX fs' σ'')
    (hb : ∀ E, PassesOwn (model pr w) A env E → (∀ ea, PassesOwnAt (model pr w) (A.mark (some (.ref ea))) A env E) → Catch C s₀ E X L HX → TrE pr w s₀ E A ((env, m) :: fs) σ (execs body env) (fun f fs' σ' => match f with | .next => Tr pr w s₀ A fs' σ' (execs rest env) V | f => V f fs' σ'))
    (hh : ∀ ea fs' σ', HX fs' σ' → Tr pr w s₀ (A.mark (some (.ref ea))) fs' σ' (execs (b₀ :: suite) env) (fun f fs' σ' => match f with | .next => Tr pr w s₀ A fs' σ' (execs rest env) V | f => V f fs' σ')) :
    Tr pr w s₀ A ((env, m) :: fs) σ (execs (.Try body [.ExceptHandler (some t) none (b₀ :: suite) hpos] [] [] pos :: rest) env) V := fun s Q E I q => by
  refine wpAny_execs_cons (wpAny_Try_except ?_)
  refine hb _ ?_ ?_ ?_ s _ I fun f fs' σ' s' hf I' => ?_
  · exact PassesOwn.looking
  · intro ea; exact PassesOwnAt.looking
  · intro ea fs' σ' s' hHX hF I'
    obtain ⟨m', rfl⟩ := hX1 fs' σ' hHX
    have hF0 := hF
    refine Tr.note (pr := pr) (w := w) (X := X) (by rw [hLe]; exact hF) (hfr m') (V := fun _ fs'' σ'' => fs'' = (env, m') :: fs ∧ HX fs'' σ'' ∧ Noted C σ'' ea X (rawInt L)) (fun σ'' hk hN' => ⟨rfl, hX2 _ _ _ hHX fun b y _ h2 e => hk b y ?_ e, by rw [hLe] at hN'; exact hN'⟩) s' _ _ I' fun _ _ σ1 s1 ⟨e, hHX1, hN1⟩ I1 => ?_
    · rintro rfl
      obtain ⟨ctx, n1 | ⟨tb, n1, _⟩⟩ := hF0 <;> (rw [n1] at e; cases e; exact h2 _ _ _ rfl)
    subst e
    refine Tr.flight (pr := pr) (w := w) (X := X) (fr := none) hN1 (V := fun _ fs'' σ'' => fs'' = (env, m') :: fs ∧ HX fs'' σ'' ∧ Noted C σ'' ea X .none) (fun σ'' hk hN' => ⟨rfl, hX2 _ _ _ hHX1 fun b y h1 _ e => hk b y h1 e, hN'⟩) s1 _ _ I1 fun _ _ σ2 s2 ⟨e, hHX2, hN2⟩ I2 => ?_
    subst e
    refine wpAny_handleBy_builtin (b := true) hexc hnt hsub ?_
    refine ht _ _ _ s2 _ _ I2 fun c _ _ s3 ⟨e1, e2, e3⟩ I3 => ?_
    rw [e1, e2] at I3
    refine ⟨e3, ?_, ?_⟩
    · obtain ⟨tb, ctx, h1⟩ := hN2.keep (σ' := σ2)
      obtain ⟨o, vs, g1, g2, _⟩ := I3.field h1
      exact ⟨o, g1, g2⟩
    · rw [if_pos rfl]
      refine Tr.flight (pr := pr) (w := w) (X := X) (fr := none) hN2 (V := fun _ fs'' σ'' => fs'' = (env, m') :: fs ∧ HX fs'' σ'') (fun σ'' hk hN' => ⟨rfl, hX2 _ _ _ hHX2 fun b y h1 _ e => hk b y h1 e⟩) s3 _ _ I3 fun _ _ σ4 s4 ⟨e, hHX4⟩ I4 => ?_
      subst e
      refine hh ea _ σ4 hHX4 s4 _ _ I4 fun f fs5 σ5 s5 hf I5 => ?_
      cases f with
      | next => exact hf s5 _ _ I5 q
      | brk => exact q _ _ _ _ hf I5
      | cont => exact q _ _ _ _ hf I5
      | ret v => exact q _ _ _ _ hf I5
  · cases f with
    | next => exact wpAny_execs_nil (hf s' _ _ I' q)
    | brk => exact q _ _ _ _ hf I'
    | cont => exact q _ _ _ _ hf I'
    | ret v => exact q _ _ _ _ hf I'
end
end Mine
end
section
open PySem PySem.W PyProof.Rows
namespace Mine
section
variable {pr : Program} {w : World} {s₀ : Shared} {A : Around} {env : Env} {fs : Fs} {σ : Sto} {m mg mb : NsMap} {x y : Str} {v : Value} {pos p : Pos} {P P₁ P₂ : Value → Prop} {rest : List Stmt} {E : Value → Shared → Prop} {s : Shared} {X : String} {L : Addr} {HX : Fs → Sto → Prop} {C : Value → Prop}

/-! slices -/
abbrev Part (pr : Program) (w : World) (s₀ : Shared) (A : Around) (env : Env) (fs : Fs) (σ : Sto) (e : Option Expr) (r : Option Int) : Prop := Tr pr w s₀ A fs σ (evalPart e env) (Pu fs σ (IsPart · r))
theorem Part.no : Part pr w s₀ A env fs σ none none := Tr.pure ⟨rfl, rfl, .none⟩
theorem Part.i {e : Expr} {n : Int} (h : Pv pr w s₀ A env fs σ e (IsI n)) : Part pr w s₀ A env fs σ (some e) (some n) := by
  refine Tr.mono (V := Pu fs σ (IsI n)) h ?_
  first | refine puI fun t => ?_ | rintro _ _ _ ⟨rfl, rfl, t, rfl⟩
  exact ⟨rfl, rfl, .int _ _⟩
theorem Tr.sliceG {l : Expr} {lo hi st : Option Expr} {a : Addr} {vs : List Value} {rl ru rs : Option Int} {V : Value → Fs → Sto → Prop} (h1 : Pv pr w s₀ A env fs σ l (· = .ref a)) (hs : σ a = some (.list vs)) (hl : Part pr w s₀ A env fs σ lo rl) (hu : Part pr w s₀ A env fs σ hi ru) (hst : Part pr w s₀ A env fs σ st rs) (h0 : rs ≠ some 0)
    (hz : vs.length ≤ sizeLine) (h : ∀ b, σ b = none → V (.ref b) fs (upd σ b (.list (slicePick vs.toArray rl ru rs).toList))) : Tr pr w s₀ A fs σ (eval (.Subscript l (.Slice lo hi st p) pos) env) V := by
  refine Tr.forget ?_
  refine Tr.sub (W₁ := Pu fs σ (· = .ref a)) (W₂ := fun o i fs' σ' => ∃ sl vl vu vs', o = .ref a ∧ i = .ref sl ∧ fs' = fs ∧ σ sl = none ∧ σ' = upd σ sl (.obj { cls := .type "slice", data := .fields #[vl, vu, vs'] }) ∧ IsPart vl rl ∧ IsPart vu ru ∧ IsPart vs' rs) h1 ?_ ?_
  · first | refine puE ?_ | rintro _ _ _ ⟨rfl, rfl, rfl⟩
    intro s _ _ I q
    refine wpAny_Slice (hl s _ _ I ?_)
    rintro vl _ _ s1 ⟨rfl, rfl, pl⟩ I1
    refine hu s1 _ _ I1 ?_
    rintro vu _ _ s2 ⟨rfl, rfl, pu⟩ I2
    refine hst s2 _ _ I2 ?_
    rintro vs' _ _ s3 ⟨rfl, rfl, ps⟩ I3
    obtain ⟨n, I'⟩ := I3.push (x := .obj { cls := .type "slice", data := .fields #[vl, vu, vs'] }) (o := { cls := .type "slice", data := .fields #[vl, vu, vs'] }) rfl rfl s3.toks
    exact q _ _ _ _ ⟨_, vl, vu, vs', rfl, rfl, rfl, n, rfl, pl, pu, ps⟩ I'
  · rintro _ _ _ _ ⟨sl, vl, vu, vs', rfl, rfl, rfl, hn, rfl, pl, pu, ps⟩
    have hne : a ≠ sl := by rintro rfl; rw [hn] at hs; cases hs
    have hs' : upd σ sl (.obj { cls := .type "slice", data := .fields #[vl, vu, vs'] }) a = some (.list vs) := (upd_ne hne).trans hs
    refine ⟨list_get_ok hs', ?_, ?_⟩
    · cases st with
      | none => exact ⟨_, rfl⟩
      | some => exact ⟨_, rfl⟩
    · intro s _ _ I q
      obtain ⟨o, ho, e⟩ := I.get (upd_self σ sl _)
      obtain rfl : o = _ := e
      refine wpAny_getItem_list_slice (I.isList hs') ⟨_, ho, rfl, rfl⟩ pl pu ps h0 ?_ (by simpa using hz)
      obtain ⟨n2, I'⟩ := I.push (x := .list (slicePick vs.toArray rl ru rs).toList) (o := { cls := .type "list", data := .seq (slicePick vs.toArray rl ru rs) }) ⟨0, by simp⟩ rfl s.toks
      have hn2 : σ s.heap.objs.size = none := by
        cases q' : σ s.heap.objs.size with
        | none => rfl
        | some z =>
          have : upd σ sl (.obj { cls := .type "slice", data := .fields #[vl, vu, vs'] }) s.heap.objs.size = some z := (upd_ne (by rintro rfl; rw [hn] at q'; cases q')).trans q'
          rw [n2] at this; cases this
      refine q _ _ _ _ ⟨_, ?_, h _ hn2⟩ I'
      exact Sub.both ((Sub.refl σ).upd hn)

/-! list.extend -/
theorem Tr.extend {o e : Expr} {apos : Pos} {a : Addr} {vs : List Value} {V : Value → Fs → Sto → Prop} {W : Value → Fs → Sto → Prop} (ho : Pv pr w s₀ A env fs σ o (· = .ref a)) (he : Tr pr w s₀ A fs σ (eval e env) W)
    (h : ∀ v fs' σ', W v fs' σ' → ∃ b vs us, v = .ref b ∧ a ≠ b ∧ σ' a = some (.list vs) ∧ σ' b = some (.list us) ∧ vs.length + us.length ≤ 2 ^ 20 ∧ V .none fs' (upd σ' a (.list (vs ++ us))))
    (hs : σ a = some (.list vs)) (hbase : attributeBase o (Str.ofString "extend") env (eval o env) = eval o env := by rfl) (hse : starEach [e] env = (false, eval e env) :: starEach [] env := by rfl)
    (hfew : ((backTo pos (starEach [e] env)).all (fun x => !x.1) && (backToKw pos (keywordEach [] env)).all (fun x => x.1.isSome) && decide ([e].length + ([] : List Keyword).length + (if ([] : List Keyword).isEmpty then 0 else 1) < 30)) = true := by rfl) (hline : (apos.endLine == pos.line) = true := by rfl) :
    Tr pr w s₀ A fs σ (eval (.Call (.Attribute o (Str.ofString "extend") apos) [e] [] pos) env) V :=
  Tr.meth F.plainAttrs_list F.slot_list_extend F.type_list_extend ho (fun _ _ _ ⟨e1, e2, e3⟩ => by
    subst e1 e2 e3
    refine ⟨list_on hs, Tr.cwB (W := fun ws fs' σ' => ∃ v, ws = [v] ∧ W v fs' σ') (Tr.argsC he (fun v fs' σ' hv => Tr.args0 ⟨v, rfl, hv⟩) hse) ?_ hse⟩
    rintro _ fs' σ' ⟨v, rfl, hw⟩
    obtain ⟨b, vs, us, rfl, hab, h1, h2, hz, hv⟩ := h v fs' σ' hw
    intro s _ _ I q
    obtain ⟨n, hg⟩ := I.isL h1
    obtain ⟨n2, hg2⟩ := I.isL h2
    refine call_meets F.slot_list_extend ⟨_, hg, rfl⟩ F.entry_list_extend (F.args_list_extend_2 _ _) (AutoSeq1.list_extend_list_list_0 a vs.toArray n b us.toArray n2 ?_ (by simp [sizeLine_eq]; omega) (by simp [sizeLine_eq]; omega)) ⟨hg, hg2, q _ _ _ _ hv ?_⟩
    · simp only [Bool.and_eq_true, not_and, Bool.not_eq_true]
      intro _
      unfold Builtin.List.listTooLong
      simp [sizeLine_eq]
      omega
    · exact I.seq (f := fun x => x ++ us.toArray) h1 hg (by simp) s.toks) hbase hfew hline

/-- x = y = e -/
theorem Tr.assign2 {px py : Pos} {e : Expr} {V : Flow → Fs → Sto → Prop} {W : Value → Fs → Sto → Prop} (h : Tr pr w s₀ A fs σ (eval e env) W) (hn : ∀ v fs' σ', W v fs' σ' → Tr pr w s₀ A fs' σ' (storeName env x v) (fun _ fs'' σ'' => Tr pr w s₀ A fs'' σ'' (storeName env y v) (fun _ fs3 σ3 => Tr pr w s₀ A fs3 σ3 (execs rest env) V)))
    (he : (assignEach [.Name x px, .Name y py] env).map (·.2) = [PySem.assign (.Name x px) env, PySem.assign (.Name y py) env] := by rfl) (hw : swappedStores [.Name x px, .Name y py] e env = Pure.pure none := by rfl) :
    Tr pr w s₀ A fs σ (execs (.Assign [.Name x px, .Name y py] e pos :: rest) env) V := fun s _ _ I q =>
  wpAny_execs_cons (wpAny_Assign_two (h s _ _ I fun v fs' σ' s' hv I' => Tr.assignName (hn v fs' σ' hv) s' _ _ I' fun _ fs'' σ'' s'' hv' I'' => Tr.assignName hv' s'' _ _ I'' fun _ fs3 σ3 s3 hv3 I3 => hv3 s3 _ _ I3 q) he hw)

/-! items that may lack -/
theorem TrE.at {l i : Expr} {a : Addr} {vs : List Value} {xs : List Int} {k : Nat} (hH : Hd C A σ) (h1 : Pv pr w s₀ A env fs σ l (· = .ref a)) (h2 : Pv pr w s₀ A env fs σ i (IsI (k : Int))) (hs : σ a = some (.list vs)) (hi : IntsAre vs xs) (hz : xs.length < 2 ^ 61) (hk : k < 2 ^ 61)
    (hC : Catch C s₀ E "IndexError" L HX) (hX : xs.length ≤ k → ∀ ea ctx, σ ea = none → HX fs (upd σ ea (.exc "IndexError" none ctx)))
    (hsub : ∀ t, subscripted i false (.ref a) (.int (k : Int) t) = operate [.ref a, .int (k : Int) t] (getItem (.ref a) (.int (k : Int) t)) := by intro _; with_unfolding_all rfl) (ht : ∀ o r, letTemporaryGo l o r = pure () := by intro _ _; rfl) :
    TrE pr w s₀ E A fs σ (eval (.Subscript l i pos) env) (fun v fs' σ' => fs' = fs ∧ σ' = σ ∧ ∃ n, xs[k]? = some n ∧ IsI n v) := fun s _ I q => by
  rw [eval_Subscript]
  refine wpAny_bind (h1 s _ _ I fun o _ _ s₁ ⟨e1, e2, e3⟩ I₁ => ?_)
  subst e1 e2 e3
  refine wpAny_bind (wpAny_holding (h2 s₁ _ _ I₁ fun o _ _ s₂ ⟨e1, e2, t, e3⟩ I₂ => ?_))
  subst e1 e2 e3
  refine wpAny_bind (wpAny_standAt ?_)
  refine wpAny_bind ?_
  rw [getitemInPython_of_ne (by intro x; cases x)]
  refine wpAny_bind (wpAny_specialOf (I₂.isList hs).typeIs slot_list_getitem.lookup ?_)
  refine wpAny_pure ?_
  refine wpAny_bind ?_
  rw [hsub]
  have hlen : vs.length = xs.length := hi.length
  by_cases hlt : k < xs.length
  · obtain ⟨t', e⟩ := ints_get hi (getD_some hlt)
    refine wpAny_operating (wpAny_getItem_list (I₂.isList hs) (by omega) (by omega) (by simpa using e) (wpAny_bind (wpAny_of_eq (ht _ _) (wpAny_pure (q _ _ _ _ ⟨rfl, rfl, _, getD_some hlt, _, rfl⟩ I₂)))))
  · exact wpAny_operating (TrE.out (V := fun _ _ _ => False) hH hs (by omega) (by omega) hC (hX (by omega)) s₂ _ I₂ fun _ _ _ _ f _ => f.elim)
theorem TrE.cmpT {l r : Expr} {op : CmpOp} {V : Bool → Fs → Sto → Prop} {W₁ : Value → Fs → Sto → Prop} {W₂ : Value → Value → Fs → Sto → Prop} (h1 : TrE pr w s₀ E A fs σ (eval l env) W₁) (h2 : ∀ a fs' σ', W₁ a fs' σ' → TrE pr w s₀ E A fs' σ' (eval r env) (W₂ a))
    (h3 : ∀ a b fs' σ', W₂ a b fs' σ' → TrE pr w s₀ E A fs' σ' (compareOp op a b) (fun c fs'' σ'' => ∃ b, c = .bool b ∧ V b fs'' σ''))
    (hm : behindInMarks op r = false := by with_unfolding_all rfl) : TrE pr w s₀ E A fs σ (isTrue (.Compare l [op] [r] pos) env (eval (.Compare l [op] [r] pos) env)) V :=
  fun s _ I q => wpAny_isTrue_Compare1 (h1 s _ I fun a fs1 σ1 s₁ ha I₁ => h2 a fs1 σ1 ha s₁ _ I₁ fun b fs2 σ2 s₂ hb I₂ => h3 a b fs2 σ2 hb s₂ _ I₂ fun c fs3 σ3 s₃ ⟨b, e, hv⟩ I₃ => by subst e; exact wpAny_truthy_bool (q _ _ _ _ hv I₃)) hm

/-- all but exceptions -/
def Pl (y : AO) : Prop := (∀ fl, y ≠ .tbk fl) ∧ ∀ X t c, y ≠ .exc X t c
def Sc (σ σ' : Sto) : Prop := ∀ b y, Pl y → σ b = some y → σ' b = some y
theorem Sub.sc {σ σ' : Sto} (h : Sub σ σ') : Sc σ σ' := fun b y _ e => h b y e
theorem Sc.refl (σ : Sto) : Sc σ σ := fun _ _ _ h => h
theorem Sc.trans {σ₁ σ₂ σ₃ : Sto} (h : Sc σ₁ σ₂) (h' : Sc σ₂ σ₃) : Sc σ₁ σ₃ := fun a x p e => h' a x p (h a x p e)
theorem Pl.list {vs : List Value} : Pl (.list vs) := ⟨by simp, by simp⟩
theorem Sc.new {σ σ' : Sto} {a : Addr} {x : AO} (h : Sc σ σ') (ha : σ' a = none) : Sc σ (Mine.upd σ' a x) := fun b y p e => by
  have := h b y p e
  rw [upd_ne (by rintro rfl; rw [ha] at this; cases this)]; exact this
end
end Mine
end
section
open PySem PySem.W PyProof.Rows
namespace Mine
section
variable {pr : Program} {w : World} {s₀ : Shared} {A : Around} {env : Env} {fs : Fs} {σ : Sto} {m mg mb : NsMap} {x y : Str} {v : Value} {pos p : Pos} {P P₁ P₂ : Value → Prop} {rest : List Stmt} {E : Value → Shared → Prop} {s : Shared}

abbrev testsT (ifs : List Expr) (env : Env) : Sem Bool := forIn ifs true fun c r => if r = true then do let ok ← isTrue c env (eval c env); Pure.pure (ForInStep.yield ok) else Pure.pure (ForInStep.yield r)
abbrev Ts (pr : Program) (w : World) (s₀ : Shared) (A : Around) (env : Env) (fs : Fs) (σ : Sto) (ifs : List Expr) (b : Bool) : Prop := Tr pr w s₀ A fs σ (testsT ifs env) (Pu fs σ (· = b))
theorem Ts.nil : Ts pr w s₀ A env fs σ [] true := fun s _ _ I q => wpAny_tests_nil (q _ _ _ _ ⟨rfl, rfl, rfl⟩ I)
theorem Ts.one {c : Expr} {b : Bool} (h : Tv pr w s₀ A env fs σ c b) : Ts pr w s₀ A env fs σ [c] b := fun s _ _ I q => wpAny_tests_one (h s _ _ I q)

end
section
variable {pr : Program} {w : World} {s₀ : Shared} {A : Around} {env : Env} {fs : Fs} {σ : Sto} {m mg mb : NsMap} {x y : Str} {v : Value} {pos p : Pos} {rest : List Stmt} {E : Value → Shared → Prop} {s : Shared} {R : Result → Shared → Prop}
/-- the loop of a comprehension, any target -/
theorem compLoop_own {elt target iter : Expr} {ifs : List Expr} {scope : Scope} {it acc : Value} (I : Nat → Shared → Prop)
    (turn : ∀ n s, I n s → wpAny (model pr w) A (pyNext it) (fun r s₁ => match r with
      | none => R (.ok .next) s₁
      | some v => wpAny (model pr w) A (letOwnedTupleGo target it v) (fun _ s₁ => wpAny (model pr w) A (assign target env v) (fun _ s₂ =>
          wpAny (model pr w) A (testsT ifs env) (fun ok s₃ =>
            if ok = true then wpAny (model pr w) A (eval elt env) (fun x s₄ =>
              wpAny (model pr w) A (call (.builtin "list.append") [acc, x]) (fun _ s₅ => ∃ m, m < n ∧ I m s₅) (notedBy (model pr w) A env fun e s' => R (.error e) s') s₄) (notedBy (model pr w) A env fun e s' => R (.error e) s') s₃
            else ∃ m, m < n ∧ I m s₃) (notedBy (model pr w) A env fun e s' => R (.error e) s') s₂) (notedBy (model pr w) A env fun e s' => R (.error e) s') s₁) (notedBy (model pr w) A env fun e s' => R (.error e) s') s₁) (notedBy (model pr w) A env fun e s' => R (.error e) s') s)
    (n : Nat) (h : I n s) :
    codeAny (model pr w) A (.compLoop (.ListComp elt [⟨target, iter, ifs, 0⟩] scope pos) 0 it acc env) R s := by
  refine codeAny_loop rfl I (fun n s hI => ?_) n h
  show wpAny _ A ((compTurn (.ListComp elt [⟨target, iter, ifs, 0⟩] scope pos) 0 it acc env).onRaise (fun x => do noteFrame x env; theTreesLotGoes x)) _ _ s
  refine wpAny_noted ?_
  rw [compTurn_list]
  refine wpAny_bind (wpAny_standAt (wpAny_bind (wpAny_mono (turn n s hI) (fun r s₁ h₁ => ?_) fun _ _ h' => h')))
  cases r with
  | none => exact wpAny_pure h₁
  | some v =>
    refine wpAny_bind (wpAny_mono h₁ (fun _ s₁ h₁ => ?_) fun _ _ h' => h')
    refine wpAny_bind (wpAny_mono h₁ (fun _ s₂ h₂ => wpAny_bind (wpAny_mono h₂ (fun ok s₃ h₃ => ?_) fun _ _ h' => h')) fun _ _ h' => h')
    cases ok with
    | false => exact wpAny_pure ⟨rfl, h₃⟩
    | true =>
      exact wpAny_bind (wpAny_bind (wpAny_mono h₃ (fun x s₄ h₄ => wpAny_bind (wpAny_mono h₄ (fun _ s₅ h₅ => wpAny_pure (wpAny_pure ⟨rfl, h₅⟩)) fun _ _ h' => h')) fun _ _ h' => h'))

def compTurnO (pr : Program) (w : World) (s₀ : Shared) (A : Around) (elt target : Expr) (ifs : List Expr) (it acc : Value) (cenv : Env) (J : Nat → Fs → Sto → Prop) (Fin : Fs → Sto → Prop) : Prop :=
  ∀ n fs σ, J n fs σ → ∀ K : Fs → Sto → Prop, (∀ k fs σ, k < n → J k fs σ → K fs σ) → Tr pr w s₀ A fs σ (pyNext it) (fun r fs1 σ1 => match r with
    | none => Fin fs1 σ1
    | some v => Tr pr w s₀ A fs1 σ1 (letOwnedTupleGo target it v) (fun _ fs1 σ1 => Tr pr w s₀ A fs1 σ1 (PySem.assign target cenv v) (fun _ fs2 σ2 => Tr pr w s₀ A fs2 σ2 (testsT ifs cenv) (fun ok fs3 σ3 =>
        if ok = true then Tr pr w s₀ A fs3 σ3 (eval elt cenv) (fun y fs4 σ4 => Tr pr w s₀ A fs4 σ4 (call (.builtin "list.append") [acc, y]) (fun _ fs5 σ5 => K fs5 σ5))
        else K fs3 σ3))))
theorem compLoopO {elt target iter : Expr} {ifs : List Expr} {scope : Scope} {it acc : Value} {cenv : Env} {J : Nat → Fs → Sto → Prop} {Fin : Fs → Sto → Prop}
    (turn : compTurnO pr w s₀ A elt target ifs it acc cenv J Fin) (n : Nat) (h0 : J n fs σ) (I : Inv s₀ fs σ s) (hR : ∀ fs' σ' s', Fin fs' σ' → Inv s₀ fs' σ' s' → R (.ok .next) s') :
    codeAny (model pr w) A (.compLoop (.ListComp elt [⟨target, iter, ifs, 0⟩] scope pos) 0 it acc cenv) R s := by
  refine compLoop_own (fun n s => ∃ fs σ, J n fs σ ∧ Inv s₀ fs σ s) ?_ n ⟨fs, σ, h0, I⟩
  rintro n s ⟨fs, σ, hJ, I⟩
  refine turn n fs σ hJ (fun fs σ => ∃ k, k < n ∧ J k fs σ) (fun k _ _ hk hj => ⟨k, hk, hj⟩) s _ _ I fun r fs1 σ1 s1 h1 I1 => ?_
  cases r with
  | none => exact hR _ _ _ h1 I1
  | some v =>
    refine h1 s1 _ _ I1 fun _ fs1 σ1 s1 h1 I1 => h1 s1 _ _ I1 fun _ fs2 σ2 s2 h2 I2 => h2 s2 _ _ I2 fun ok fs3 σ3 s3 h3 I3 => ?_
    cases ok with
    | false => rw [if_neg (by decide)] at h3 ⊢; obtain ⟨k, hk, hj⟩ := h3; exact ⟨k, hk, fs3, σ3, hj, I3⟩
    | true =>
      rw [if_pos rfl] at h3 ⊢
      exact h3 s3 _ _ I3 fun y fs4 σ4 s4 h4 I4 => h4 s4 _ _ I4 fun _ fs5 σ5 s5 ⟨k, hk, hj⟩ I5 => ⟨k, hk, fs5, σ5, hj, I5⟩
theorem compBlockO {elt target iter : Expr} {ifs : List Expr} {scope : Scope} {cl : List (Str × Addr)} {it : Value} {RR : Value → Addr → Result → Shared → Prop} {Fin : Addr → Addr → Fs → Sto → Prop}
    (hcell : ∀ y ∈ scope.names, y.2 ≠ .cell) (hkind : scope.kind = .function)
    (h : ∀ D C, D ≠ C → σ D = none → σ C = none → ∃ J n, J n fs (upd (upd σ D (.list [])) C (.ns fun _ => none)) ∧ Tr pr w s₀ A fs (upd (upd σ D (.list [])) C (.ns fun _ => none)) (pyIter it) (Pu fs (upd (upd σ D (.list [])) C (.ns fun _ => none)) (· = it)) ∧
      compTurnO pr w s₀ A elt target ifs it (.ref D) (compEnvC scope cl C env) J (Fin D C))
    (hR : ∀ D C fs' σ' s', Fin D C fs' σ' → Inv s₀ fs' σ' s' → RR (.ref D) C (.ok .next) s') (I : Inv s₀ fs σ s) :
    wpAny (model pr w) A (newList []) (fun acc s₃ => wpAny (model pr w) A (newFunctionEnv scope env.globals cl [] env.qual none .none (some env)) (fun cenv s₄ =>
      codeAny (model pr w) A (.compStart (.ListComp elt [⟨target, iter, ifs, 0⟩] scope pos) 0 it acc { cenv with scope := relabel scope env }) (RR acc cenv.locals) s₄) E s₃) E s := by
  refine wpAny_newObj_type (wpAny_newFunctionEnv hcell (by intro y hy; simp at hy) (fun h₁ hns₁ hsb₁ => ?_) hkind)
  obtain ⟨hn1, I1⟩ := I.push (x := .list []) (o := { cls := .type "list", dict := none, data := .seq ([] : List Value).toArray }) ⟨0, rfl⟩ rfl s.toks
  dsimp only at hns₁ hsb₁ ⊢
  obtain ⟨oc, es, ep, g1, g2, g3, g4⟩ := hns₁
  obtain ⟨hn2, I2⟩ := I1.more (h' := h₁) (a := (s.heap.push { cls := .type "list", dict := none, data := .seq ([] : List Value).toArray }).objs.size) (x := .ns fun _ => none) (o := oc)
    (fun b o hb => hsb₁.extBut b o (Nat.ne_of_lt (Heap.lt_size hb)) (Heap.get?_push_of_some _ hb)) (Heap.get?_none_of_le (Nat.le_refl _)) g1 ⟨es, ep, g2, g3, fun name => (g4 name).trans (by simp)⟩ (s.toks + ([] : List (Str × Value)).length)
  generalize hC : (s.heap.push { cls := .type "list", dict := none, data := .seq ([] : List Value).toArray }).objs.size = C at *
  generalize hD : s.heap.objs.size = D at *
  have hDC : D ≠ C := by
    rintro rfl
    rw [upd_self] at hn2; cases hn2
  have hCn : σ C = none := by rw [upd_ne (Ne.symm hDC)] at hn2; exact hn2
  obtain ⟨J, n, hj, hs, turn⟩ := h D C hDC hn1 hCn
  have loop : ∀ s', Inv s₀ fs (upd (upd σ D (.list [])) C (.ns fun _ => none)) s' → codeAny (model pr w) A (.compLoop (.ListComp elt [⟨target, iter, ifs, 0⟩] scope pos) 0 it (.ref D) (compEnvC scope cl C env)) (RR (.ref D) C) s' := fun s' I' =>
    compLoopO turn n hj I' (fun fs' σ' s'' hf I'' => hR D C fs' σ' s'' hf I'')
  refine codeAny_compStart_list (loop _ I2) (hs _ _ _ I2 ?_)
  rintro _ _ _ s' ⟨rfl, rfl, rfl⟩ I'
  exact loop _ I'
end
section
variable {pr : Program} {w : World} {s₀ : Shared} {A : Around} {env : Env} {fs : Fs} {σ : Sto} {m mg mb : NsMap} {x y : Str} {v : Value} {pos p : Pos} {P P₁ P₂ : Value → Prop} {rest : List Stmt} {E : Value → Shared → Prop} {s : Shared}
def compTurnT (pr : Program) (w : World) (s₀ : Shared) (A : Around) (elt target : Expr) (ifs : List Expr) (it acc : Value) (cenv : Env) (J : Nat → Fs → Sto → Prop) (Fin : Fs → Sto → Prop) : Prop :=
  ∀ n fs σ, J n fs σ → ∀ K : Fs → Sto → Prop, (∀ k fs σ, k < n → J k fs σ → K fs σ) → Tr pr w s₀ A fs σ (pyNext it) (fun r fs1 σ1 => match r with
    | none => Fin fs1 σ1
    | some v => Tr pr w s₀ A fs1 σ1 (PySem.assign target cenv v) (fun _ fs2 σ2 => Tr pr w s₀ A fs2 σ2 (testsT ifs cenv) (fun ok fs3 σ3 =>
        if ok = true then Tr pr w s₀ A fs3 σ3 (eval elt cenv) (fun y fs4 σ4 => Tr pr w s₀ A fs4 σ4 (call (.builtin "list.append") [acc, y]) (fun _ fs5 σ5 => K fs5 σ5))
        else K fs3 σ3)))
theorem compTurnT.toO {elt target : Expr} {ifs : List Expr} {it acc : Value} {cenv : Env} {J : Nat → Fs → Sto → Prop} {Fin : Fs → Sto → Prop} (ht : ∀ v, letOwnedTupleGo target it v = Pure.pure ()) (h : compTurnT pr w s₀ A elt target ifs it acc cenv J Fin) : compTurnO pr w s₀ A elt target ifs it acc cenv J Fin :=
  fun n fs σ hJ K hK => (h n fs σ hJ K hK).mono fun r fs1 σ1 h1 => by
    cases r with
    | none => exact h1
    | some v =>
      show Tr _ _ _ _ _ _ _ _
      rw [ht v]
      exact Tr.pure h1
theorem compBlock {elt target iter : Expr} {ifs : List Expr} {scope : Scope} {cl : List (Str × Addr)} {it : Value} {RR : Value → Addr → Result → Shared → Prop} {Fin : Addr → Addr → Fs → Sto → Prop}
    (hcell : ∀ y ∈ scope.names, y.2 ≠ .cell) (hkind : scope.kind = .function)
    (h : ∀ D C, D ≠ C → σ D = none → σ C = none → ∃ J n, J n fs (upd (upd σ D (.list [])) C (.ns fun _ => none)) ∧ Tr pr w s₀ A fs (upd (upd σ D (.list [])) C (.ns fun _ => none)) (pyIter it) (Pu fs (upd (upd σ D (.list [])) C (.ns fun _ => none)) (· = it)) ∧
      compTurnT pr w s₀ A elt target ifs it (.ref D) (compEnvC scope cl C env) J (Fin D C))
    (hR : ∀ D C fs' σ' s', Fin D C fs' σ' → Inv s₀ fs' σ' s' → RR (.ref D) C (.ok .next) s') (I : Inv s₀ fs σ s) (ht : ∀ v, letOwnedTupleGo target it v = Pure.pure ()) :
    wpAny (model pr w) A (newList []) (fun acc s₃ => wpAny (model pr w) A (newFunctionEnv scope env.globals cl [] env.qual none .none (some env)) (fun cenv s₄ =>
      codeAny (model pr w) A (.compStart (.ListComp elt [⟨target, iter, ifs, 0⟩] scope pos) 0 it acc { cenv with scope := relabel scope env }) (RR acc cenv.locals) s₄) E s₃) E s :=
  compBlockO hcell hkind (fun D C h1 h2 h3 => let ⟨J, n, a, b, c⟩ := h D C h1 h2 h3; ⟨J, n, a, b, c.toO ht⟩) hR I

/-- [elt for target in iter if ..] -/
theorem Tr.compG {elt target iter : Expr} {ifs : List Expr} {scope : Scope} {cl : List (Str × Addr)} {V : Value → Fs → Sto → Prop} {W : Value → Fs → Sto → Prop}
    (hi : Tr pr w s₀ A fs σ (eval iter env) W)
    (hp : ∀ v fs' σ', W v fs' σ' → Tr pr w s₀ A fs' σ' (pyIter v) (fun it fs1 σ1 => ∀ D C, D ≠ C → σ1 D = none → σ1 C = none → ∃ J n, J n fs1 (upd (upd σ1 D (.list [])) C (.ns fun _ => none)) ∧ Tr pr w s₀ A fs1 (upd (upd σ1 D (.list [])) C (.ns fun _ => none)) (pyIter it) (Pu fs1 (upd (upd σ1 D (.list [])) C (.ns fun _ => none)) (· = it)) ∧
      compTurnT pr w s₀ A elt target ifs it (.ref D) (compEnvC scope cl C env) J (fun fs2 σ2 => (∃ m, σ2 C = some (.ns m)) ∧ V (.ref D) fs2 (del σ2 C))))
    (hclos : closureFor scope env = Pure.pure cl := by rfl) (hcell : (scope.names.all fun y => y.2 != .cell) = true := by rfl) (hkind : scope.kind = .function := by rfl)
    (hnames : (scope.names.all fun y => y.2 != .local || scope.names.lookup y.1 == some .local) = true := by rfl)
    (hs : ∀ x, foldedSetIterable iter env x = Pure.pure x := by intro _; rfl) (ht : ∀ it v, letOwnedTupleGo target it v = Pure.pure () := by intro _ _; rfl) :
    Tr pr w s₀ A fs σ (eval (.ListComp elt [⟨target, iter, ifs, 0⟩] scope pos) env) V := fun s Q E I q => by
  have hcell' : ∀ y ∈ scope.names, y.2 ≠ .cell := fun y hy => by simpa using List.all_eq_true.mp hcell y hy
  have hnames' : ∀ y ∈ scope.names, y.2 = .local → scope.names.lookup y.1 = some .local := fun y hy e => by simpa [e] using List.all_eq_true.mp hnames y hy
  rw [eval_ListComp]
  refine wpAny_comprehension_free (use := none) rfl hs hclos hkind hnames' (hi s _ _ I fun v fs' σ' s1 hw I1 => hp v fs' σ' hw s1 _ _ I1 fun it fs1 σ1 s2 hj I2 => ?_)
  refine compBlock (RR := fun acc C => compPost (model pr w) A E none Q acc C) hcell' hkind hj ?_ I2 (ht it)
  rintro D C fs3 σ3 s3 ⟨⟨m, hm⟩, hv⟩ I3
  obtain ⟨o, ho, es, ep, h1, h2, h3⟩ := I3.get hm
  exact ⟨m, ⟨o, es, ep, ho, h1, h2, h3⟩, fun h' hs' => q _ _ _ _ hv (I3.drop hm hs'.extBut _)⟩
/-- y = [elt for ..], y a local, on one line -/
theorem Tr.compUse {elt target iter : Expr} {ifs : List Expr} {scope : Scope} {cl : List (Str × Addr)} {V : Flow → Fs → Sto → Prop} {W : Value → Fs → Sto → Prop} {py spos : Pos}
    (hi : Tr pr w s₀ A fs σ (eval iter env) W)
    (hp : ∀ v fs' σ', W v fs' σ' → Tr pr w s₀ A fs' σ' (pyIter v) (fun it fs1 σ1 => ∀ D C, D ≠ C → σ1 D = none → σ1 C = none → ∃ J n, J n fs1 (upd (upd σ1 D (.list [])) C (.ns fun _ => none)) ∧ Tr pr w s₀ A fs1 (upd (upd σ1 D (.list [])) C (.ns fun _ => none)) (pyIter it) (Pu fs1 (upd (upd σ1 D (.list [])) C (.ns fun _ => none)) (· = it)) ∧
      compTurnT pr w s₀ A elt target ifs it (.ref D) (compEnvC scope cl C env) J (fun fs2 σ2 => (∃ m, σ2 C = some (.ns m)) ∧ ∃ m2 fr, fs2 = (env, m2) :: fr ∧ Tr pr w s₀ A ((env, set1 m2 y (.ref D)) :: fr) (del σ2 C) (execs rest env) V)))
    (hl : env.kindOf y = some .local := by rfl)
    (hsw : swapsWith (.ListComp elt [⟨target, iter, ifs, 0⟩] scope pos) (some (.Name y py)) spos.line env = Pure.pure true := by rfl)
    (hclos : closureFor scope env = Pure.pure cl := by rfl) (hcell : (scope.names.all fun y => y.2 != .cell) = true := by rfl) (hkind : scope.kind = .function := by rfl)
    (hnames : (scope.names.all fun y => y.2 != .local || scope.names.lookup y.1 == some .local) = true := by rfl)
    (hs : ∀ x, foldedSetIterable iter env x = Pure.pure x := by intro _; rfl) (ht : ∀ it v, letOwnedTupleGo target it v = Pure.pure () := by intro _ _; rfl) :
    Tr pr w s₀ A fs σ (execs (.Assign [.Name y py] (.ListComp elt [⟨target, iter, ifs, 0⟩] scope pos) spos :: rest) env) V := fun s Q E I q => by
  have hcell' : ∀ y ∈ scope.names, y.2 ≠ .cell := fun y hy => by simpa using List.all_eq_true.mp hcell y hy
  have hnames' : ∀ y ∈ scope.names, y.2 = .local → scope.names.lookup y.1 = some .local := fun y hy e => by simpa [e] using List.all_eq_true.mp hnames y hy
  refine wpAny_execs_cons ?_
  rw [exec_Assign_Name_used _ _ _ _ hsw]
  refine wpAny_bind (wpAny_standAt (wpAny_bind ?_))
  show wpAny _ A (do let _ ← comprehension (.ListComp elt [⟨target, iter, ifs, 0⟩] scope pos) scope env _ (PySem.newList []) false (eval iter env) (some (PySem.assign (.Name y py) env))) _ _ s
  refine wpAny_bind (wpAny_mono (wpAny_comprehension_free (use := some (PySem.assign (.Name y py) env)) (Q := fun _ s' => wpAny (model pr w) A (execs rest env) Q E s') rfl hs hclos hkind hnames'
    (hi s _ _ I fun v fs' σ' s1 hw I1 => hp v fs' σ' hw s1 _ _ I1 fun it fs1 σ1 s2 hj I2 => ?_)) (fun _ s' hq => wpAny_pure (wpAny_pure hq)) fun _ _ e => e)
  refine compBlock (RR := fun acc C => compPost (model pr w) A E (some (PySem.assign (.Name y py) env)) (fun _ s' => wpAny (model pr w) A (execs rest env) Q E s') acc C) hcell' hkind hj ?_ I2 (ht it)
  rintro D C fs3 σ3 s3 ⟨⟨m, hm⟩, m2, fr, rfl, hv⟩ I3
  show wpAny _ A (PySem.assign (.Name y py) env (.ref D)) _ _ _
  refine Tr.assignName (Tr.store (V := fun _ fs' σ' => fs' = (env, set1 m2 y (.ref D)) :: fr ∧ σ' = σ3) ⟨rfl, rfl⟩ hl) s3 _ _ I3 ?_
  rintro _ _ _ s4 ⟨rfl, rfl⟩ I4
  obtain ⟨o, ho, es, ep, h1, h2, h3⟩ := I4.get hm
  exact ⟨m, ⟨o, es, ep, ho, h1, h2, h3⟩, fun h' hs' => hv _ _ _ (I4.drop hm hs'.extBut _) q⟩
end
end Mine
end
section
open PySem PySem.W PyProof.Rows
namespace Mine
section
variable {pr : Program} {w : World} {s₀ : Shared} {A : Around} {env : Env} {fs : Fs} {σ : Sto} {m mg mb : NsMap} {x y : Str} {v : Value} {pos p : Pos} {rest : List Stmt} {E : Value → Shared → Prop} {s : Shared}

/-- one turn of a comprehension that does nothing but compute -/
def Turn (pr : Program) (w : World) (s₀ : Shared) (A : Around) (env : Env) (fs : Fs) (σ : Sto) (scope : Scope) (cl : List (Str × Addr)) (x : Str) (ifs : List Expr) (elt : Expr) (n : Nat) (P : Nat → Value → Prop) (R : Nat → List Value → Prop) : Prop :=
  ∀ C σ1 i u ys m, Sub σ σ1 → σ1 C = some (.ns m) → P i u → i < n → R i ys → m x = some u → ∃ b, Ts pr w s₀ A (compEnvC scope cl C env) fs σ1 ifs b ∧ (b = false → R (i + 1) ys) ∧
    (b = true → Tr pr w s₀ A fs σ1 (eval elt (compEnvC scope cl C env)) (fun y fs' σ' => fs' = fs ∧ σ' = σ1 ∧ R (i + 1) (ys ++ [y])))
theorem compSrc {elt : Expr} {ifs : List Expr} {scope : Scope} {cl : List (Str × Addr)} {px : Pos} {n : Nat} {P : Nat → Value → Prop} {R : Nat → List Value → Prop} {Fin : Addr → Addr → Fs → Sto → Prop}
    (S : Src pr w s₀ A fs σ v n P) (hz : n ≤ 2 ^ 20) (hR0 : R 0 []) (turn : Turn pr w s₀ A env fs σ scope cl x ifs elt n P R) (hx : scope.names.lookup x = some .local) (hkind : scope.kind = .function)
    (hF : ∀ D C σ2 ys m, σ D = none → R n ys → σ2 C = some (.ns m) → Sub (upd σ D (.list ys)) (del σ2 C) → Fin D C fs σ2) :
    Tr pr w s₀ A fs σ (pyIter v) (fun it fs1 σ1 => ∀ D C, D ≠ C → σ1 D = none → σ1 C = none → ∃ J k, J k fs1 (upd (upd σ1 D (.list [])) C (.ns fun _ => none)) ∧ Tr pr w s₀ A fs1 (upd (upd σ1 D (.list [])) C (.ns fun _ => none)) (pyIter it) (Pu fs1 (upd (upd σ1 D (.list [])) C (.ns fun _ => none)) (· = it)) ∧
      compTurnT pr w s₀ A elt (.Name x px) ifs it (.ref D) (compEnvC scope cl C env) J (Fin D C)) := by
  refine Tr.mono S ?_
  rintro it fs σ1 ⟨rfl, I, fp, st, rfl, hI, W, hst, hag, hfp⟩ D C hDC hD hC
  have hDf : D ∉ fp := fun h => hfp D h hD
  have hCf : C ∉ fp := fun h => hfp C h hC
  have hDI : D ≠ I := fun h => hDf (h ▸ W.mem)
  have hCI : C ≠ I := fun h => hCf (h ▸ W.mem)
  have hσD : σ D = none := (hag D hDI) ▸ hD
  have hσC : σ C = none := (hag C hCI) ▸ hC
  have hst0 : st 0 (upd (upd σ1 D (.list [])) C (.ns fun _ => none)) := W.frame _ _ _ hst fun b hb => by
    rw [upd_ne (a := C) (fun h : b = C => hCf (h ▸ hb)), upd_ne (fun h : b = D => hDf (h ▸ hb))]
  refine ⟨fun k fs' σ' => ∃ i ys m, fs' = fs ∧ k = n + 1 - i ∧ i ≤ n ∧ ys.length ≤ i ∧ st i σ' ∧ σ' D = some (.list ys) ∧ σ' C = some (.ns m) ∧ Sub σ σ' ∧ R i ys, n + 1, ⟨0, [], _, rfl, rfl, Nat.zero_le _, Nat.le_refl _, hst0, (upd_ne hDC).trans (upd_self ..), upd_self .., ?_, hR0⟩, W.self 0 _ _ hst0, ?_⟩
  · intro b y hb
    rw [upd_ne (by rintro rfl; rw [hσC] at hb; cases hb), upd_ne (by rintro rfl; rw [hσD] at hb; cases hb), hag b (by rintro rfl; rw [hI] at hb; cases hb)]
    exact hb
  rintro k _ σ2 ⟨i, ys, m, rfl, rfl, hi, hyl, hst2, h2D, h2C, hsub, hR⟩ K hK
  by_cases hlt : i < n
  · refine (W.item i _ _ hlt hst2).mono ?_
    rintro _ _ σ3 ⟨u, rfl, hP, rfl, hst3, hag3⟩
    show Tr _ _ _ _ _ _ _ _
    have h3C : σ3 C = some (.ns m) := (hag3 C hCI).trans h2C
    refine Tr.assignName (Tr.storeNs (C := C) rfl h3C ?_ (by simp [compEnvC, relabel, hkind]) (lookup_relabel_local hx))
    show Tr _ _ _ _ _ _ _ _
    have hst4 : st (i + 1) (upd σ3 C (.ns (set1 m x u))) := W.frame _ _ _ hst3 fun b hb => upd_ne fun h : b = C => hCf (h ▸ hb)
    have h4D : upd σ3 C (.ns (set1 m x u)) D = some (.list ys) := (upd_ne hDC).trans ((hag3 D hDI).trans h2D)
    have hsub4 : Sub σ (upd σ3 C (.ns (set1 m x u))) := fun b y hb => by
      rw [upd_ne (by rintro rfl; rw [hσC] at hb; cases hb), hag3 b (by rintro rfl; rw [hI] at hb; cases hb)]; exact hsub b y hb
    obtain ⟨b, hT, hf, ht⟩ := turn C _ i u ys _ hsub4 (upd_self ..) hP hlt hR (by simp [set1])
    refine Tr.mono hT ?_
    rintro ok _ _ ⟨rfl, rfl, rfl⟩
    cases ok with
    | false =>
      rw [if_neg (by decide)]
      exact hK (n + 1 - (i + 1)) _ _ (by omega) ⟨i + 1, ys, _, rfl, rfl, hlt, by omega, hst4, h4D, upd_self .., hsub4, hf rfl⟩
    | true =>
      rw [if_pos rfl]
      refine (ht rfl).mono ?_
      rintro y _ _ ⟨rfl, rfl, hR'⟩
      refine Tr.appendB h4D (by rw [sizeLine_eq]; omega) (hK (n + 1 - (i + 1)) _ _ (by omega) ⟨i + 1, ys ++ [y], set1 m x u, rfl, rfl, hlt, by simp; omega, ?_, upd_self .., ?_, ?_, hR'⟩)
      · exact W.frame _ _ _ hst4 fun b hb => upd_ne fun h : b = D => hDf (h ▸ hb)
      · rw [upd_ne (Ne.symm hDC), upd_self]
      · intro b z hb
        rw [upd_ne (by rintro rfl; rw [hσD] at hb; cases hb)]; exact hsub4 b z hb
  · have hin : i = n := by omega
    subst hin
    refine (W.done _ _ hst2).mono ?_
    rintro _ _ σ3 ⟨rfl, rfl, hag3⟩
    refine hF D C σ3 ys m hσD hR ((hag3 C hCI).trans h2C) ?_
    intro b z hb
    unfold del
    by_cases hbD : b = D
    · subst hbD
      rw [upd_self] at hb
      rw [if_neg hDC, hag3 b hDI, h2D]; exact hb
    · rw [upd_ne hbD] at hb
      rw [if_neg (by rintro rfl; rw [hσC] at hb; cases hb), hag3 b (by rintro rfl; rw [hI] at hb; cases hb)]
      exact hsub b z hb

theorem Tr.comp {elt iter : Expr} {ifs : List Expr} {scope : Scope} {cl : List (Str × Addr)} {px : Pos} {V : Value → Fs → Sto → Prop} {W : Value → Fs → Sto → Prop}
    (hi : Tr pr w s₀ A fs σ (eval iter env) W)
    (hp : ∀ v fs' σ', W v fs' σ' → ∃ n P R, Src pr w s₀ A fs' σ' v n P ∧ n ≤ 2 ^ 20 ∧ R 0 [] ∧ Turn pr w s₀ A env fs' σ' scope cl x ifs elt n P R ∧ ∀ D ys, σ' D = none → R n ys → V (.ref D) fs' (upd σ' D (.list ys)))
    (hx : scope.names.lookup x = some .local := by rfl)
    (hclos : closureFor scope env = Pure.pure cl := by rfl) (hcell : (scope.names.all fun y => y.2 != .cell) = true := by rfl) (hkind : scope.kind = .function := by rfl)
    (hnames : (scope.names.all fun y => y.2 != .local || scope.names.lookup y.1 == some .local) = true := by rfl)
    (hs : ∀ x, foldedSetIterable iter env x = Pure.pure x := by intro _; rfl) :
    Tr pr w s₀ A fs σ (eval (.ListComp elt [⟨.Name x px, iter, ifs, 0⟩] scope pos) env) V := by
  refine Tr.forget ?_
  refine Tr.compG hi (fun v fs' σ' hw => ?_) hclos hcell hkind hnames hs
  obtain ⟨n, P, R, S, hz, hR0, turn, hV⟩ := hp v fs' σ' hw
  exact compSrc S hz hR0 turn hx hkind fun D C σ2 ys m hD hR hC hsub => ⟨⟨m, hC⟩, _, hsub, hV D ys hD hR⟩
theorem Tr.compU {elt iter : Expr} {ifs : List Expr} {scope : Scope} {cl : List (Str × Addr)} {px : Pos} {V : Flow → Fs → Sto → Prop} {W : Value → Fs → Sto → Prop} {py spos : Pos}
    (hi : Tr pr w s₀ A fs σ (eval iter env) W)
    (hp : ∀ v fs' σ', W v fs' σ' → ∃ n P R, Src pr w s₀ A fs' σ' v n P ∧ n ≤ 2 ^ 20 ∧ R 0 [] ∧ Turn pr w s₀ A env fs' σ' scope cl x ifs elt n P R ∧ ∀ D ys, σ' D = none → R n ys → ∃ m2 fr, fs' = (env, m2) :: fr ∧ Tr pr w s₀ A ((env, set1 m2 y (.ref D)) :: fr) (upd σ' D (.list ys)) (execs rest env) V)
    (hl : env.kindOf y = some .local := by rfl)
    (hsw : swapsWith (.ListComp elt [⟨.Name x px, iter, ifs, 0⟩] scope pos) (some (.Name y py)) spos.line env = Pure.pure true := by rfl)
    (hx : scope.names.lookup x = some .local := by rfl)
    (hclos : closureFor scope env = Pure.pure cl := by rfl) (hcell : (scope.names.all fun y => y.2 != .cell) = true := by rfl) (hkind : scope.kind = .function := by rfl)
    (hnames : (scope.names.all fun y => y.2 != .local || scope.names.lookup y.1 == some .local) = true := by rfl)
    (hs : ∀ x, foldedSetIterable iter env x = Pure.pure x := by intro _; rfl) :
    Tr pr w s₀ A fs σ (execs (.Assign [.Name y py] (.ListComp elt [⟨.Name x px, iter, ifs, 0⟩] scope pos) spos :: rest) env) V := by
  refine Tr.compUse hi (fun v fs' σ' hw => ?_) hl hsw hclos hcell hkind hnames hs
  obtain ⟨n, P, R, S, hz, hR0, turn, hV⟩ := hp v fs' σ' hw
  exact compSrc S hz hR0 turn hx hkind fun D C σ2 ys m hD hR hC hsub => by
    obtain ⟨m2, fr, e, ht⟩ := hV D ys hD hR
    exact ⟨⟨m, hC⟩, m2, fr, e, ht.weak hsub⟩

/-! in, not in -/
theorem cmp_in {a : Addr} {vs : List Value} {xs : List Int} {n : Int} (hs : σ a = some (.list vs)) (hi : IntsAre vs xs) (hv : IsI n v) : Tr pr w s₀ A fs σ (compareOp .In v (.ref a)) (Pu fs σ (IsB (xs.any (· == n)))) := by
  obtain ⟨t, rfl⟩ := hv
  exact fun s _ _ I q => in_list_ints (I.isList hs) hi (q _ _ _ _ ⟨rfl, rfl, rfl⟩ I)
theorem cmp_notIn {a : Addr} {vs : List Value} {xs : List Int} {n : Int} (hs : σ a = some (.list vs)) (hi : IntsAre vs xs) (hv : IsI n v) : Tr pr w s₀ A fs σ (compareOp .NotIn v (.ref a)) (Pu fs σ (IsB (!(xs.any (· == n))))) := by
  obtain ⟨t, rfl⟩ := hv
  exact fun s _ _ I q => notin_list_ints (I.isList hs) hi (q _ _ _ _ ⟨rfl, rfl, rfl⟩ I)
end
end Mine
end
section
open PySem PySem.W PyProof.Rows
namespace Mine
section
variable {pr : Program} {w : World} {s₀ : Shared} {A : Around} {env : Env} {fs : Fs} {σ : Sto} {m mg mb : NsMap} {x y : Str} {v : Value} {pos p : Pos} {P P₁ P₂ : Value → Prop} {rest : List Stmt} {E : Value → Shared → Prop} {s : Shared}

/-- src may be walked: its iterator goes through z, what it looks at is roots -/
structure Sz (pr : Program) (w : World) (s₀ : Shared) (A : Around) (fs : Fs) (σ : Sto) (src : Value) (n : Nat) (P : Nat → Value → Prop) (roots : List (Addr × AO)) (z : Nat → AO) : Prop where
  known : ∀ r ∈ roots, σ r.1 = some r.2
  make : Tr pr w s₀ A fs σ (pyIter src) (fun it fs' σ' => ∃ I, it = .ref I ∧ fs' = fs ∧ σ I = none ∧ σ' = upd σ I (z 0))
  item : ∀ I i fs σ, i < n → σ I = some (z i) → (∀ r ∈ roots, σ r.1 = some r.2) → Tr pr w s₀ A fs σ (pyNext (.ref I)) (fun r fs' σ' => ∃ v, r = some v ∧ P i v ∧ fs' = fs ∧ σ' = upd σ I (z (i + 1)))
  done : ∀ I fs σ, σ I = some (z n) → (∀ r ∈ roots, σ r.1 = some r.2) → Tr pr w s₀ A fs σ (pyNext (.ref I)) (fun r fs' σ' => r = none ∧ fs' = fs ∧ σ' = del σ I)
theorem upd_agree {σ σ' : Sto} {I : Addr} {x : AO} (h1 : σ' I = some x) (h2 : ∀ b, b ≠ I → σ' b = σ b) : σ' = upd σ I x := by
  funext b; unfold upd; split
  · subst b; exact h1
  · exact h2 b ‹_›
theorem Tr.doneE {I : Addr} {σ : Sto} {t : Sem (Option Value)} (h : Tr pr w s₀ A fs σ t (fun r fs' σ' => r = none ∧ fs' = fs ∧ ∀ b, b ≠ I → σ' b = σ b)) : Tr pr w s₀ A fs σ t (fun r fs' σ' => r = none ∧ fs' = fs ∧ σ' = del σ I) := by
  refine Tr.forget (h.mono ?_)
  rintro _ _ σ' ⟨rfl, rfl, hag⟩
  refine ⟨del σ I, fun b y hb => ?_, rfl, rfl, rfl⟩
  unfold del at hb
  split at hb
  · cases hb
  · rw [hag b ‹_›]; exact hb
theorem Sz.list (hh : A.handled = none) {l : Addr} {vs : List Value} (hs : σ l = some (.list vs)) : Sz pr w s₀ A fs σ (.ref l) vs.length (fun i v => vs[i]? = some v) [(l, .list vs)] (fun i => .rcd "list_iterator" #[.ref l, .int i 0]) where
  known := by simpa using hs
  make := fun s _ _ Iv q => by
    refine wpAny_pyIter_list (Iv.isList hs) ?_
    obtain ⟨n, I'⟩ := Iv.push (x := .rcd "list_iterator" #[.ref l, .int 0 0]) (o := { cls := .type "list_iterator", data := .fields #[.ref l, .int 0 0] }) ⟨rfl, rfl⟩ rfl s.toks
    exact q _ _ _ _ ⟨_, rfl, rfl, n, rfl⟩ I'
  item := fun I i fs σ hi h1 h2 => ((It.list hh (I := I) (l := l) (vs := vs)).item i fs σ hi ⟨h1, by simpa using h2⟩).mono fun r fs' σ' ⟨v, e1, e2, e3, e4, e5⟩ => ⟨v, e1, e2, e3, upd_agree e4.1 e5⟩
  done := fun I fs σ h1 h2 => Tr.doneE ((It.list hh (I := I) (l := l) (vs := vs)).done fs σ ⟨h1, by simpa using h2⟩)
theorem Sz.tuple (hh : A.handled = none) {l : Addr} {vs : List Value} (hs : σ l = some (.tup vs)) : Sz pr w s₀ A fs σ (.ref l) vs.length (fun i v => vs[i]? = some v) [(l, .tup vs)] (fun i => .rcd "tuple_iterator" #[.ref l, .int i 0]) where
  known := by simpa using hs
  make := fun s _ _ Iv q => by
    refine wpAny_pyIter_tuple (Iv.tuple hs) ?_
    obtain ⟨n, I'⟩ := Iv.push (x := .rcd "tuple_iterator" #[.ref l, .int 0 0]) (o := { cls := .type "tuple_iterator", data := .fields #[.ref l, .int 0 0] }) ⟨rfl, rfl⟩ rfl s.toks
    exact q _ _ _ _ ⟨_, rfl, rfl, n, rfl⟩ I'
  item := fun I i fs σ hi h1 h2 => ((It.tuple hh (I := I) (l := l) (vs := vs)).item i fs σ hi ⟨h1, by simpa using h2⟩).mono fun r fs' σ' ⟨v, e1, e2, e3, e4, e5⟩ => ⟨v, e1, e2, e3, upd_agree e4.1 e5⟩
  done := fun I fs σ h1 h2 => Tr.doneE ((It.tuple hh (I := I) (l := l) (vs := vs)).done fs σ ⟨h1, by simpa using h2⟩)
theorem Sz.range (hh : A.handled = none) {r : Addr} {n : Nat} {t u v : Tok} (hs : σ r = some (.obj (rangeO 0 n 1 t u v))) (hn : n < 2 ^ 61) : Sz pr w s₀ A fs σ (.ref r) n (fun i v => IsI i v) [] (fun i => .obj (rangeIterO ((0 : Int) + (i : Nat) * 1) ((n : Int) - (i : Nat)) 1)) where
  known := by simp
  make := fun s Q E Iv q => by
    have := Src.range (pr := pr) (w := w) (s₀ := s₀) (fs := fs) hh (a := 0) (n := n) (r := r) (t := t) (u := u) (v := v) (σ := σ) (by rw [Int.zero_add]; exact hs) (by decide) (by decide) hn
    obtain ⟨o, h1, h2⟩ := Iv.get hs
    cases h2
    refine wpAny_pyIter_range h1 (small_one (by omega) (by omega) (by omega) (by omega)) ?_
    obtain ⟨nn, I'⟩ := Iv.push (x := .obj (rangeIterO 0 n 1)) (o := rangeIterO 0 n 1) rfl rfl s.toks
    have e : Builtin.Range.rangeSize 0 n 1 = (n : Int) := by rw [rangeSize_one]; split <;> omega
    rw [e]
    refine q _ _ _ _ ⟨_, rfl, rfl, nn, ?_⟩ I'
    simp
  item := fun I i fs σ hi h1 h2 => ((It.range hh (I := I) (a := 0) (c := 1) (n := n)).item i fs σ hi h1).mono fun r fs' σ' ⟨v, e1, e2, e3, e4, e5⟩ => ⟨v, e1, by simpa using e2, e3, upd_agree e4 e5⟩
  done := fun I fs σ h1 h2 => Tr.doneE ((It.range hh (I := I) (a := 0) (c := 1) (n := n)).done fs σ h1)

/-- for over a source -/
theorem Tr.forZ {target iter : Expr} {body orelse : List Stmt} {V : Flow → Fs → Sto → Prop} {W : Value → Fs → Sto → Prop} (h : Tr pr w s₀ A fs σ (eval iter env) W)
    (hp : ∀ v fs' σ', W v fs' σ' → ∃ n P roots z, Sz pr w s₀ A fs' σ' v n P roots z ∧ ∀ I, σ' I = none → ∃ J : Nat → Fs → Sto → Prop, J 0 fs' (upd σ' I (z 0)) ∧
      (∀ i fs1 σ1, J i fs1 σ1 → σ1 I = some (z i) ∧ ∀ r ∈ roots, σ1 r.1 = some r.2) ∧
      (∀ i u fs1 σ1, i < n → P i u → J i fs1 σ1 → Tr pr w s₀ A fs1 (upd σ1 I (z (i + 1))) (PySem.assign target env u) (fun _ fs2 σ2 => Tr pr w s₀ A fs2 σ2 (execs body env) (fun f fs3 σ3 => match f with
        | .next | .cont => J (i + 1) fs3 σ3
        | .brk => Tr pr w s₀ A fs3 σ3 (execs rest env) V
        | .ret v => V (.ret v) fs3 σ3))) ∧
      (∀ fs1 σ1, J n fs1 σ1 → Tr pr w s₀ A fs1 (del σ1 I) (execs orelse env) (fun f fs'' σ'' => match f with | .next => Tr pr w s₀ A fs'' σ'' (execs rest env) V | f => V f fs'' σ'')))
    (hs : ∀ x, foldedSetIterable iter env x = Pure.pure x := by intro _; rfl) (ht : ∀ it v, letOwnedTupleGo target it v = Pure.pure () := by intro _ _; rfl) :
    Tr pr w s₀ A fs σ (execs (.For target iter body orelse pos :: rest) env) V := by
  refine Tr.for h (fun v fs' σ' hw => ?_) hs ht
  obtain ⟨n, P, roots, z, S, hJ⟩ := hp v fs' σ' hw
  refine S.make.mono fun it fs1 σ1 hm => ?_
  obtain ⟨I, e1, e2, hI, e3⟩ := hm
  subst e1 e2 e3
  obtain ⟨J, h0, h1, h2, h3⟩ := hJ I hI
  refine ⟨fun k fs1 σ1 => ∃ i, k = n - i ∧ i ≤ n ∧ J i fs1 σ1, n, ⟨0, rfl, Nat.zero_le _, h0⟩, fun k fs1 σ1 hk Vb v1 v2 v3 => ?_⟩
  obtain ⟨i, e, hi, hj⟩ := hk
  obtain ⟨hI, hr⟩ := h1 i fs1 σ1 hj
  by_cases hlt : i < n
  · refine (S.item I i fs1 σ1 hlt hI hr).mono fun r fs2 σ2 hu => ?_
    obtain ⟨u, e1, hP, e2, e3⟩ := hu
    subst e1 e2 e3
    refine (h2 i u _ _ hlt hP hj).mono fun _ fs2 σ2 ht => ht.mono fun f fs3 σ3 hf => ?_
    have hlt2 : n - (i + 1) < k := by rw [e]; exact Nat.sub_lt_sub_left hlt (Nat.lt_succ_self i)
    cases f with
    | next => exact (v1 _ _ _ hlt2 ⟨i + 1, rfl, hlt, hf⟩).1
    | cont => exact (v1 _ _ _ hlt2 ⟨i + 1, rfl, hlt, hf⟩).2
    | brk => exact v2 _ _ hf
    | ret v => exact v3 _ _ _ hf
  · obtain rfl : i = n := Nat.le_antisymm hi (Nat.not_lt.mp hlt)
    refine (S.done I fs1 σ1 hI hr).mono fun r fs2 σ2 hd => ?_
    obtain ⟨e1, e2, e3⟩ := hd
    subst e1 e2 e3
    exact h3 _ _ hj

/-! a ≤ b < c -/
theorem Tv.chain {l r₁ r₂ : Expr} {a b c : Int} (h1 : Pv pr w s₀ A env fs σ l (IsI a)) (h2 : Pv pr w s₀ A env fs σ r₁ (IsI b)) (h3 : Pv pr w s₀ A env fs σ r₂ (IsI c)) (hm : lastMarks [.LtE, .Lt] [r₁, r₂] = false := by rfl) : Tv pr w s₀ A env fs σ (.Compare l [.LtE, .Lt] [r₁, r₂] pos) (decide (a ≤ b) && decide (b < c)) :=
  fun s _ _ I q => isTrue_chain (h1 s _ _ I fun x _ _ s₁ ⟨e1, e2, hx⟩ I₁ => by
    subst e1 e2
    refine test_link (h2 s₁ _ _ I₁ fun y _ _ s₂ ⟨e1, e2, hy⟩ I₂ => ?_)
    subst e1 e2
    refine cmp_le hx hy s₂ _ _ I₂ ?_
    rintro _ _ _ s₃ ⟨rfl, rfl, rfl⟩ I₃
    refine wpAny_truthy_bool ?_
    cases hb : decide (a ≤ b) with
    | false => simp only [Bool.false_eq_true, if_false]; exact q _ _ _ _ ⟨rfl, rfl, by rw [hb]; rfl⟩ I₃
    | true =>
      simp only [if_true]
      refine test_last (h3 s₃ _ _ I₃ fun u _ _ s₄ ⟨e1, e2, hu⟩ I₄ => ?_)
      subst e1 e2
      refine cmp_lt hy hu s₄ _ _ I₄ ?_
      rintro _ _ _ s₅ ⟨rfl, rfl, rfl⟩ I₅
      exact wpAny_truthy_bool (q _ _ _ _ ⟨rfl, rfl, by rw [hb]; rfl⟩ I₅)) hm
/-! list + list -/
theorem Tr.binE {l r : Expr} {op : Operator} {V : Value → Fs → Sto → Prop} {W₁ : Value → Fs → Sto → Prop} {W₂ : Value → Value → Fs → Sto → Prop} (h1 : Tr pr w s₀ A fs σ (eval l env) W₁) (h2 : ∀ a fs' σ', W₁ a fs' σ' → Tr pr w s₀ A fs' σ' (eval r env) (W₂ a)) (h3 : ∀ a b fs' σ', W₂ a b fs' σ' → Tr pr w s₀ A fs' σ' (binaryOp op a b) V) : Tr pr w s₀ A fs σ (eval (.BinOp l op r pos) env) V :=
  fun s _ _ I q => wpAny_BinOp (h1 s _ _ I fun a fs1 σ1 s₁ ha I₁ => h2 a fs1 σ1 ha s₁ _ _ I₁ fun b fs2 σ2 s₂ hb I₂ => h3 a b fs2 σ2 hb s₂ _ _ I₂ q)
theorem Tr.addList {a b : Addr} {vs us : List Value} {V : Value → Fs → Sto → Prop} (h1 : σ a = some (.list vs)) (h2 : σ b = some (.list us)) (hz : vs.length + us.length ≤ 2 ^ 20) (h : ∀ D, σ D = none → V (.ref D) fs (upd σ D (.list (vs ++ us)))) : Tr pr w s₀ A fs σ (binaryOp .Add (.ref a) (.ref b)) V := fun s _ _ I q => by
  obtain ⟨n, hg⟩ := I.isL h1
  obtain ⟨n2, hg2⟩ := I.isL h2
  obtain ⟨hn, I'⟩ := I.push (x := .list (vs ++ us)) (o := { cls := .type "list", data := .seq (vs.toArray ++ us.toArray) }) ⟨0, by simp⟩ rfl s.toks
  exact P.add_list hg hg2 (q _ _ _ _ (h _ hn) I') (by simp [sizeLine_eq]; omega)
theorem Pv.pow {l r : Expr} {a b : Int} (h1 : Pv pr w s₀ A env fs σ l (IsI a)) (h2 : Pv pr w s₀ A env fs σ r (IsI b)) (hb : 0 < b) (ha : 1 < a) (hz : Builtin.Int.intTooBig (((Builtin.Int.intBits a : Nat) : Int) * b) = false) : Pv pr w s₀ A env fs σ (.BinOp l .Pow r pos) (IsI (a ^ b.toNat)) :=
  Pv.bin h1 h2 fun _ _ ⟨_, e1⟩ ⟨_, e2⟩ => by
    subst e1 e2
    exact fun s _ _ I q => AutoIntOps.pow_4 (by omega) (by simp; omega) (by simp; omega) (by simp; omega) (by rw [hz]; decide) (q _ _ _ _ ⟨rfl, rfl, _, rfl⟩ (I.tok _))
theorem Tr.intOf {n : Int} {t : Tok} : Tr pr w s₀ A fs σ (call (.type "int") [.int n t]) (Pu fs σ (IsI n)) := fun s _ _ I q => call_int_int (q _ _ _ _ ⟨rfl, rfl, _, rfl⟩ I)
end
end Mine
end
section
open PySem PySem.W PyProof.Rows
namespace Mine
section
variable {pr : Program} {w : World} {s₀ : Shared} {A : Around} {env : Env} {fs : Fs} {σ : Sto} {m mg mb : NsMap} {x y : Str} {v : Value} {pos p : Pos} {rest : List Stmt} {E : Value → Shared → Prop} {s : Shared} {R : Result → Shared → Prop}

theorem Inv.change {ch : Addr → Prop} {σ' : Sto} {h' : Heap} (I : Inv s₀ fs σ s) (hch : ∀ a, ch a → ∃ x, σ a = some x) (hk : ∀ b o, ¬ ch b → s.heap.get? b = some o → h'.get? b = some o)
    (hσ : ∀ a x, σ' a = some x → (¬ ch a ∧ σ a = some x) ∨ ((ch a ∨ s.heap.get? a = none) ∧ ∃ o, h'.get? a = some o ∧ x.Is o)) (t : Nat) : Inv s₀ fs σ' { s with heap := h', toks := t } := by
  have hb0 : ∀ a, ch a → s₀.heap.get? a = none := fun a ha => by obtain ⟨x, hx⟩ := hch a ha; exact (I.own a x hx).1
  refine ⟨?_, fun b o hb => ?_, fun a x ha => ?_, fun f hf => ?_, I.nd⟩
  · obtain ⟨hh, tk, e⟩ := I.same; rw [e]; exact ⟨_, _, rfl⟩
  · exact hk b o (fun hc => by rw [hb0 b hc] at hb; cases hb) (I.keep b o hb)
  · rcases hσ a x ha with ⟨hn, hs⟩ | ⟨hc, o, ho, hx⟩
    · obtain ⟨h0, o, ho, hx⟩ := I.own a x hs
      exact ⟨h0, o, hk a o hn ho, hx⟩
    · refine ⟨?_, o, ho, hx⟩
      rcases hc with hc | hc
      · exact hb0 a hc
      · cases q : s₀.heap.get? a with
        | none => rfl
        | some o' => rw [I.keep _ _ q] at hc; cases hc
  · obtain ⟨a1, a2, a3, a4, oL, es, ep, a5, a6⟩ := I.fr f hf
    have hnc : ¬ ch f.1.locals := fun hc => by obtain ⟨x, hx⟩ := hch _ hc; rw [a4] at hx; cases hx
    refine ⟨a1, a2, a3, ?_, oL, es, ep, hk _ _ hnc a5, a6⟩
    cases q : σ' f.1.locals with
    | none => rfl
    | some x =>
      rcases hσ _ x q with ⟨_, hs⟩ | ⟨hc, _⟩
      · rw [a4] at hs; cases hs
      · rcases hc with hc | hc
        · exact absurd hc hnc
        · rw [hc] at a5; cases a5

theorem Tr.compGO {elt target iter : Expr} {ifs : List Expr} {scope : Scope} {cl : List (Str × Addr)} {V : Value → Fs → Sto → Prop} {W : Value → Fs → Sto → Prop}
    (hi : Tr pr w s₀ A fs σ (eval iter env) W)
    (hp : ∀ v fs' σ', W v fs' σ' → Tr pr w s₀ A fs' σ' (pyIter v) (fun it fs1 σ1 => ∀ D C, D ≠ C → σ1 D = none → σ1 C = none → ∃ J n, J n fs1 (upd (upd σ1 D (.list [])) C (.ns fun _ => none)) ∧ Tr pr w s₀ A fs1 (upd (upd σ1 D (.list [])) C (.ns fun _ => none)) (pyIter it) (Pu fs1 (upd (upd σ1 D (.list [])) C (.ns fun _ => none)) (· = it)) ∧
      compTurnO pr w s₀ A elt target ifs it (.ref D) (compEnvC scope cl C env) J (fun fs2 σ2 => (∃ m, σ2 C = some (.ns m)) ∧ V (.ref D) fs2 (del σ2 C))))
    (hclos : closureFor scope env = Pure.pure cl := by rfl) (hcell : (scope.names.all fun y => y.2 != .cell) = true := by rfl) (hkind : scope.kind = .function := by rfl)
    (hnames : (scope.names.all fun y => y.2 != .local || scope.names.lookup y.1 == some .local) = true := by rfl)
    (hs : ∀ x, foldedSetIterable iter env x = Pure.pure x := by intro _; rfl) :
    Tr pr w s₀ A fs σ (eval (.ListComp elt [⟨target, iter, ifs, 0⟩] scope pos) env) V := fun s Q E I q => by
  have hcell' : ∀ y ∈ scope.names, y.2 ≠ .cell := fun y hy => by simpa using List.all_eq_true.mp hcell y hy
  have hnames' : ∀ y ∈ scope.names, y.2 = .local → scope.names.lookup y.1 = some .local := fun y hy e => by simpa [e] using List.all_eq_true.mp hnames y hy
  rw [eval_ListComp]
  refine wpAny_comprehension_free (use := none) rfl hs hclos hkind hnames' (hi s _ _ I fun v fs' σ' s1 hw I1 => hp v fs' σ' hw s1 _ _ I1 fun it fs1 σ1 s2 hj I2 => ?_)
  refine compBlockO (RR := fun acc C => compPost (model pr w) A E none Q acc C) hcell' hkind hj ?_ I2
  rintro D C fs3 σ3 s3 ⟨⟨m, hm⟩, hv⟩ I3
  obtain ⟨o, ho, es, ep, h1, h2, h3⟩ := I3.get hm
  exact ⟨m, ⟨o, es, ep, ho, h1, h2, h3⟩, fun h' hs' => q _ _ _ _ hv (I3.drop hm hs'.extBut _)⟩
/-! enumerate -/
def enumO (r : Value) (it : Addr) (i : Int) (old : Value) : Obj := { cls := .type "enumerate", dict := none, data := .fields #[r, .bool false, .ref it, rawInt i, .none, old], slots := #[] }
theorem Tr.enumerate {l : Addr} {vs : List Value} {V : Value → Fs → Sto → Prop} (hs : σ l = some (.list vs)) (h : ∀ e it, σ e = none → σ it = none → e ≠ it → V (.ref e) fs (upd (upd σ it (.rcd "list_iterator" #[.ref l, .int ((0 : Nat) : Int) 0])) e (.obj (enumO .none it ((0 : Nat) : Int) .none)))) :
    Tr pr w s₀ A fs σ (call (.type "enumerate") [.ref l]) V := fun s _ _ I q => by
  refine call_enumerate_list (I.isList hs) fun h' he hit hz hk => ?_
  obtain ⟨oi, h1, h2, h3⟩ := hit
  have nI : s.heap.get? s.heap.objs.size = none := Heap.get?_none_of_le (Nat.le_refl _)
  have nE : s.heap.get? (s.heap.objs.size + 1) = none := Heap.get?_none_of_le (Nat.le_succ _)
  have ne : s.heap.objs.size + 1 ≠ s.heap.objs.size := Nat.succ_ne_self _
  have fresh : ∀ b, s.heap.get? b = none → σ b = none := fun b hb => by
    cases e : σ b with
    | none => rfl
    | some z => obtain ⟨o, ho, _⟩ := I.get e; rw [hb] at ho; cases ho
  refine q _ _ _ _ (h (s.heap.objs.size + 1) s.heap.objs.size (fresh _ nE) (fresh _ nI) ne) ?_
  refine I.change (ch := fun _ => False) (fun _ f => f.elim) (fun b o _ hb => hk b o hb) (fun b z hb => ?_) s.toks
  unfold upd at hb
  split at hb
  · subst b; cases hb; exact .inr ⟨.inr nE, _, he, rfl⟩
  · split at hb
    · subst b; cases hb; exact .inr ⟨.inr nI, oi, h1, h2, h3⟩
    · exact .inl ⟨id, hb⟩
theorem Tr.enumIter {e it : Addr} {i : Int} {old : Value} (he : σ e = some (.obj (enumO .none it i old))) : Tr pr w s₀ A fs σ (pyIter (.ref e)) (Pu fs σ (· = .ref e)) := fun s _ _ I q => by
  obtain ⟨o, ho, rfl⟩ := I.get he
  exact wpAny_pyIter_enum ho (q _ _ _ _ ⟨rfl, rfl, rfl⟩ I)
theorem Tr.enumNext {e it l : Addr} {i : Nat} {vs : List Value} {x old : Value} (he : σ e = some (.obj (enumO .none it i old))) (hit : σ it = some (.rcd "list_iterator" #[.ref l, .int (i : Int) 0])) (hl : σ l = some (.list vs)) (hx : vs[i]? = some x) :
    Tr pr w s₀ A fs σ (pyNext (.ref e)) (fun r fs' σ' => ∃ T t, r = some (.ref T) ∧ fs' = fs ∧ σ T = none ∧ σ' = upd (upd (upd σ it (.rcd "list_iterator" #[.ref l, .int ((i + 1 : Nat) : Int) 0])) e (.obj (enumO (rawInt T) it ((i + 1 : Nat) : Int) x))) T (.tup [.int i t, x])) := fun s _ _ I q => by
  obtain ⟨o, ho, rfl⟩ := I.get he
  obtain ⟨oi, h1, h2, h3⟩ := I.get hit
  have hne : e ≠ it := by rintro rfl; rw [he] at hit; cases hit
  refine wpAny_pyNext_enum_item ho ⟨oi, h1, h2, h3⟩ (I.isList hl) (x := x) (by simpa using hx) hne fun h' heo ⟨oj, g1, g2, g3⟩ ht hz hk => ?_
  have nT : s.heap.get? s.heap.objs.size = none := Heap.get?_none_of_le (Nat.le_refl _)
  refine q _ _ _ _ ⟨s.heap.objs.size, s.toks, rfl, rfl, ?_, rfl⟩ ?_
  · cases e : σ s.heap.objs.size with
    | none => rfl
    | some z => obtain ⟨o, ho, _⟩ := I.get e; rw [nT] at ho; cases ho
  · refine I.change (ch := fun b => b = e ∨ b = it) (fun b hb => ?_) (fun b o hb ho => hk b o (fun x => hb (.inl x)) (fun x => hb (.inr x)) ho) (fun b z hb => ?_) (s.toks + 1)
    · rcases hb with rfl | rfl
      · exact ⟨_, he⟩
      · exact ⟨_, hit⟩
    · unfold upd at hb
      split at hb
      · subst b; cases hb; exact .inr ⟨.inr nT, _, ht, rfl, 0, rfl⟩
      · split at hb
        · subst b; cases hb
          refine .inr ⟨.inl (.inl rfl), _, heo, ?_⟩
          show _ = _
          rfl
        · split at hb
          · subst b; cases hb; exact .inr ⟨.inl (.inr rfl), oj, g1, g2, g3⟩
          · exact .inl ⟨fun hc => by rcases hc with hc | hc <;> contradiction, hb⟩
theorem Tr.enumGo {elts : List Expr} {k : Nat} {e it T : Addr} {i : Int} {old : Value} (he : σ e = some (.obj (enumO (rawInt T) it i old))) : Tr pr w s₀ A fs σ (letOwnedTupleGo (.Tuple elts k pos) (.ref e) (.ref T)) (fun _ fs' σ' => fs' = fs ∧ σ' = upd σ e (.obj (enumO .none it i old))) := fun s _ _ I q => by
  obtain ⟨o, ho, rfl⟩ := I.get he
  exact wpAny_letOwnedTupleGo_enum ho fun h' hh' hs' => q _ _ _ _ ⟨rfl, rfl⟩ (I.put (x' := .obj (enumO .none it i old)) he hs'.extBut hh' rfl _)
theorem Tr.enumEnd (hh : A.handled = none) {e it l : Addr} {i : Nat} {vs : List Value} {old : Value} (he : σ e = some (.obj (enumO .none it i old))) (hit : σ it = some (.rcd "list_iterator" #[.ref l, .int (i : Int) 0])) (hl : σ l = some (.list vs)) (hx : vs[i]? = none) :
    Tr pr w s₀ A fs σ (pyNext (.ref e)) (fun r fs' σ' => r = none ∧ fs' = fs ∧ σ' = del σ it) := fun s _ _ I q => by
  obtain ⟨o, ho, rfl⟩ := I.get he
  obtain ⟨oi, h1, h2, h3⟩ := I.get hit
  exact wpAny_pyNext_enum_end hh ho ⟨oi, h1, h2, h3⟩ (I.isList hl) (by simpa using hx) fun h' hx' => q _ _ _ _ ⟨rfl, rfl, rfl⟩ (I.drop hit hx' _)
/-- (xa, xb) = t in the space of a comprehension -/
theorem Tr.pairNs (hh : A.handled = none) {xa xb : Str} {pa pb : Pos} {k : Nat} {C T : Addr} {m : NsMap} {va vb : Value} {V : Unit → Fs → Sto → Prop} (hT : σ T = some (.tup [va, vb])) (hC : env.locals = C) (hs : σ C = some (.ns m))
    (h : V () fs (upd σ C (.ns (set1 (set1 m xa va) xb vb)))) (hk : env.scope.kind = .function := by rfl) (ha : env.kindOf xa = some .local := by rfl) (hb : env.kindOf xb = some .local := by rfl) :
    Tr pr w s₀ A fs σ (PySem.assign (.Tuple [.Name xa pa, .Name xb pb] k pos) env (.ref T)) V := fun s _ _ I q => by
  refine wpAny_assign_Tuple (items := [va, vb].toArray) hh (I.tuple hT) rfl rfl fun h' he => ?_
  have I1 := I.grow (h' := h') (fun b o hb => he b o (Nat.ne_of_lt (Heap.lt_size hb)) hb) s.toks
  show wpAny _ _ (do holding [vb] (PySem.assign (.Name xa pa) env va); assignInOrder [PySem.assign (.Name xb pb) env] [vb]) _ _ _
  refine wpAny_bind (wpAny_holding (Tr.assignName (Tr.storeNs (V := fun _ fs' σ' => fs' = fs ∧ σ' = upd σ C (.ns (set1 m xa va))) hC hs ⟨rfl, rfl⟩ hk ha) _ _ _ I1 ?_))
  rintro _ _ _ s2 ⟨rfl, rfl⟩ I2
  show wpAny _ _ (do holding [] (PySem.assign (.Name xb pb) env vb); assignInOrder [] []) _ _ _
  refine wpAny_bind (wpAny_holding (Tr.assignName (Tr.storeNs (V := fun _ fs' σ' => fs' = _ ∧ σ' = upd σ C (.ns (set1 (set1 m xa va) xb vb))) hC (upd_self ..) ⟨rfl, upd_upd ..⟩ hk hb) _ _ _ I2 ?_))
  rintro _ _ _ s3 ⟨rfl, rfl⟩ I3
  exact wpAny_pure (q _ _ _ _ h I3)
end
end Mine
end
section
open PySem PySem.W PyProof.Rows
namespace Mine

/-- what the call stands on -/
structure Gd (w : World) (s₀ : Shared) (mg mb : NsMap) : Prop where
  B : Bs s₀ mg mb
  X : (hd.heap_1 w.params).In s₀.heap
  bt : ∀ x : Str, x ≠ "__name__" → mb x = bootBuiltins x

section
variable {pr : Program} {w : World} {s₀ : Shared} {A : Around} {env : Env} {fs : Fs} {σ : Sto} {mg mb : NsMap} {x : Str} {v : Value} {pos : Pos}
theorem Pv.g (G : Gd w s₀ mg mb) (e : nsIn (hd.heap_1 w.params) mainGlobals x = some (some v)) (hg : env.globals = mainGlobals := by rfl) (hk : env.scope.kind = .function := by rfl) (hl : env.kindOf x = some .globalImplicit := by rfl) (hd : (x == ("__debug__" : Str)) = false := by decide) :
    Pv pr w s₀ A env fs σ (.Name x pos) (· = v) := Pv.glob G.B (mg_of G.X G.B.g e) hg hk hl hd
theorem Pv.b (G : Gd w s₀ mg mb) (e : nsIn (hd.heap_1 w.params) mainGlobals x = some Option.none) (hv : bootBuiltins x = some v) (hn : x ≠ "__name__" := by decide) (hg : env.globals = mainGlobals := by rfl) (hb : env.builtins = builtinsNs := by rfl) (hk : env.scope.kind = .function := by rfl) (hl : env.kindOf x = some .globalImplicit := by rfl) (hd : (x == ("__debug__" : Str)) = false := by decide) :
    Pv pr w s₀ A env fs σ (.Name x pos) (· = v) := Pv.built G.B (mg_none_of G.X G.B.g e) ((G.bt x hn).trans hv) hg hb hk hl hd
theorem Gd.isFn (G : Gd w s₀ mg mb) {a : Addr} {c : Value} {d : Option Addr} {fd : FuncData} {sl : Array (Option Value)} (e : (hd.heap_1 w.params).lookup a = some ⟨c, d, .func fd, sl⟩) : (∃ id, Value.ref a = .builtin id) ∨ (∃ T, Value.ref a = .type T) ∨ ∃ b o fd, Value.ref a = .ref b ∧ s₀.heap.get? b = some o ∧ o.data = .func fd :=
  .inr (.inr ⟨a, _, fd, rfl, G.X _ _ e, rfl⟩)
end

/-! _siftdown -/
def sdLoop (xs : List Int) (sp : Nat) (nw : Int) : Nat → List Int
  | 0 => xs.set 0 nw
  | p + 1 => if sp < p + 1 then (if nw < xs.getD (p / 2) 0 then sdLoop (xs.set (p + 1) (xs.getD (p / 2) 0)) sp nw (p / 2) else xs.set (p + 1) nw) else xs.set (p + 1) nw
termination_by p => p
decreasing_by omega

section
variable {pr : Program} {w : World} {s₀ : Shared} {A : Around} {fs : Fs} {σ : Sto} {mg mb : NsMap} 

theorem siftdown_spec (G : Gd w s₀ mg mb) {k : Nat} (O : Ok A fs (k + 1)) {a : Addr} {vs : List Value} {xs : List Int} {sp p : Nat} {t u : Tok} {V : Value → Fs → Sto → Prop}
    (hs : σ a = some (.list vs)) (hi : IntsAre vs xs) (hp : p < xs.length) (hz : xs.length < 2 ^ 62)
    (h : ∀ vs', IntsAre vs' (sdLoop xs sp (xs.getD p 0) p) → V .none fs (upd σ a (.list vs'))) :
    Tr pr w s₀ A fs σ (call (.ref 42) [.ref a, .int sp t, .int p u]) V := by
  refine Tr.fn (binds := [(Str.ofString "heap", .ref a), (Str.ofString "startpos", .int sp t), (Str.ofString "pos", .int p u)]) G.B G.X rfl rfl O rfl rfl rfl rfl rfl ?_
  intro L σ' hS O' hC
  refine Tr.weak ?_ hS
  refine Tr.absV fun Vf hV => ?_
  refine Tr.let (Pv.itemI (Pv.loc rfl) (Pv.locI rfl) hs hi (n := xs.getD p 0) (getD_some hp) hz) ?_
  intro v hv
  refine Tr.while (fun n fs' σ' => ∃ (m : NsMap) (t' : Tok) (vs' : List Value) (xs' : List Int), fs' = (fenv _ _ _ L 42, m) :: fs ∧ m (Str.ofString "heap") = some (.ref a) ∧ m (Str.ofString "startpos") = some (.int sp t) ∧ m (Str.ofString "pos") = some (.int (n : Int) t') ∧ m (Str.ofString "newitem") = some v ∧
    σ' = upd σ a (.list vs') ∧ IntsAre vs' xs' ∧ xs'.length = xs.length ∧ n < xs.length ∧ sdLoop xs' sp (xs.getD p 0) n = sdLoop xs sp (xs.getD p 0) p) p ⟨_, u, vs, xs, rfl, rfl, rfl, rfl, rfl, (upd_same hs).symm, hi, rfl, hp, rfl⟩ ?_
  rintro p' _ _ ⟨m, t', vs', xs', rfl, m1, m2, m3, m4, rfl, hi', hl, hp', hr⟩
  obtain ⟨tv, rfl⟩ := hv
  refine ⟨_, Tv.gt (Pv.locI m3) (Pv.locI m2), fun hb => ?_, fun hb => ?_⟩
  · refine Tr.absV fun Vw hVw => ?_
    have hlt : sp < p' := by simpa using hb
    obtain ⟨q, rfl⟩ : ∃ q, p' = q + 1 := ⟨p' - 1, by omega⟩
    refine Tr.let (Pv.shr1 (Pv.sub (Pv.locI m3) Pv.int) Pv.int (by omega)) ?_
    first | refine isE fun t1 => ?_ | rintro _ ⟨t1, rfl⟩
    have e1 : (((q + 1 : Nat) : Int) - 1) / 2 = ((q / 2 : Nat) : Int) := by omega
    rw [e1]
    refine Tr.let (Pv.itemI (Pv.loc (v := .ref a) m1) (Pv.locI rfl) (upd_self ..) hi' (n := xs'.getD (q / 2) 0) (getD_some (by omega)) (by omega)) ?_
    first | refine isE fun t2 => ?_ | rintro _ ⟨t2, rfl⟩
    refine Tr.ite (Tv.lt (Pv.locI (n := xs.getD p 0) (t := tv) m4) (Pv.locI rfl)) (fun hb2 => ?_) (fun hb2 => ?_)
    · refine Tr.setL (Pv.locI rfl) (Pv.loc (v := .ref a) m1) (Pv.locI (n := ((q + 1 : Nat) : Int)) (t := t') m3) (upd_self ..) (by rw [hi'.length]; omega) (by rw [hi'.length]; omega) ?_
      intro v2 hv2
      refine Tr.let (Pv.loc rfl) ?_
      first | refine eqE ?_ | rintro _ rfl
      refine Tr.cont (hVw _ _ _ ?_)
      refine ⟨q / 2, by omega, _, t1, _, _, rfl, m1, m2, rfl, m4, upd_upd .., ints_setV hi' hv2 _, by simp [hl], by omega, ?_⟩
      rw [← hr]
      conv => rhs; unfold sdLoop
      have hb2' : xs.getD p 0 < xs'.getD (q / 2) 0 := by simpa using hb2
      rw [if_pos hlt, if_pos hb2']
    · refine Tr.nil ?_
      show Tr _ _ _ _ _ _ _ _
      refine Tr.brk (hVw _ _ _ ?_)
      show Tr _ _ _ _ _ _ _ _
      refine Tr.setL (Pv.locI (n := xs.getD p 0) (t := tv) m4) (Pv.loc (v := .ref a) m1) (Pv.locI (n := ((q + 1 : Nat) : Int)) (t := t') m3) (upd_self ..) (by rw [hi'.length]; omega) (by rw [hi'.length]; omega) ?_
      intro v2 hv2
      refine Tr.nil (hV _ _ _ ⟨_, rfl, ?_⟩)
      rw [upd_upd]
      refine h _ ?_
      rw [← hr]
      have hb2' : ¬ xs.getD p 0 < xs'.getD (q / 2) 0 := by simpa using hb2
      unfold sdLoop
      rw [if_pos hlt, if_neg hb2']
      exact ints_setV hi' hv2 _
  · have hlt : ¬ sp < p' := by simpa using hb
    refine Tr.nil ?_
    show Tr _ _ _ _ _ _ _ _
    refine Tr.setL (Pv.locI (n := xs.getD p 0) (t := tv) m4) (Pv.loc (v := .ref a) m1) (Pv.locI (n := (p' : Int)) (t := t') m3) (upd_self ..) (by rw [hi'.length]; omega) (by rw [hi'.length]; omega) ?_
    intro v2 hv2
    refine Tr.nil (hV _ _ _ ⟨_, rfl, ?_⟩)
    rw [upd_upd]
    refine h _ ?_
    rw [← hr]
    cases p' with
    | zero => unfold sdLoop; exact ints_setV hi' hv2 _
    | succ q => unfold sdLoop; rw [if_neg hlt]; exact ints_setV hi' hv2 _

/-! _siftup -/
def suLoop (xs : List Int) : Nat → Nat → List Int × Nat
  | 0, p => (xs, p)
  | f + 1, p =>
    if 2 * p + 1 < xs.length then
      let c := if 2 * p + 2 < xs.length ∧ ¬ xs.getD (2 * p + 1) 0 < xs.getD (2 * p + 2) 0 then 2 * p + 2 else 2 * p + 1
      suLoop (xs.set p (xs.getD c 0)) f c
    else (xs, p)
def suF (xs : List Int) (p : Nat) : List Int :=
  let r := suLoop xs xs.length p
  sdLoop (r.1.set r.2 (xs.getD p 0)) p (xs.getD p 0) r.2
theorem suLoop_len : ∀ (f : Nat) (xs : List Int) (p : Nat), (suLoop xs f p).1.length = xs.length
  | 0, _, _ => rfl
  | f + 1, xs, p => by
    unfold suLoop
    split
    · simp only []
      rw [suLoop_len f]; simp
    · rfl

set_option maxHeartbeats 1000000 in
theorem siftup_spec (G : Gd w s₀ mg mb) {k : Nat} (O : Ok A fs (k + 2)) {a : Addr} {vs : List Value} {xs : List Int} {p : Nat} {u : Tok} {V : Value → Fs → Sto → Prop}
    (hs : σ a = some (.list vs)) (hi : IntsAre vs xs) (hp : p < xs.length) (hz : xs.length < 2 ^ 61)
    (h : ∀ vs', IntsAre vs' (suF xs p) → V .none fs (upd σ a (.list vs'))) :
    Tr pr w s₀ A fs σ (call (.ref 49) [.ref a, .int p u]) V := by
  refine Tr.fn (binds := [(Str.ofString "heap", .ref a), (Str.ofString "pos", .int p u)]) G.B G.X rfl rfl O rfl rfl rfl rfl rfl ?_
  intro L σ' hS O' hC
  refine Tr.weak ?_ hS
  refine Tr.absV fun Vf hV => ?_
  have hlen : vs.length = xs.length := hi.length
  refine Tr.let (Pv.len (Pv.b G rfl rfl) (Pv.loc (v := .ref a) rfl) hs (by omega)) ?_
  first | refine isE fun t0 => ?_ | rintro _ ⟨t0, rfl⟩
  refine Tr.let (Pv.loc rfl) ?_
  first | refine eqE ?_ | rintro _ rfl
  refine Tr.let (Pv.itemI (Pv.loc rfl) (Pv.locI rfl) hs hi (n := xs.getD p 0) (getD_some hp) (by omega)) ?_
  rintro v ⟨tv, rfl⟩
  refine Tr.let (Pv.add (Pv.mul Pv.int (Pv.locI rfl) (IntMulOk.of_left (by decide))) Pv.int) ?_
  first | refine isE fun t1 => ?_ | rintro _ ⟨t1, rfl⟩
  refine Tr.while (fun n fs' σ' => ∃ (m : NsMap) (p' : Nat) (t' t'' : Tok) (vs' : List Value) (xs' : List Int), fs' = (fenv _ _ _ L 49, m) :: fs ∧ m (Str.ofString "heap") = some (.ref a) ∧ m (Str.ofString "startpos") = some (.int p u) ∧ m (Str.ofString "endpos") = some (.int xs.length t0) ∧ m (Str.ofString "pos") = some (.int p' t') ∧ m (Str.ofString "childpos") = some (.int (2 * (p' : Int) + 1) t'') ∧ m (Str.ofString "newitem") = some (.int (xs.getD p 0) tv) ∧
    σ' = upd σ a (.list vs') ∧ IntsAre vs' xs' ∧ xs'.length = xs.length ∧ p' < xs.length ∧ xs.length ≤ n + p' ∧ suLoop xs' n p' = suLoop xs xs.length p) xs.length ⟨_, p, u, t1, vs, xs, rfl, rfl, rfl, by rw [← hlen]; rfl, rfl, rfl, rfl, (upd_same hs).symm, hi, rfl, hp, by omega, rfl⟩ ?_
  rintro n _ _ ⟨m, p', t', t'', vs', xs', rfl, m1, m2, m3, m4, m5, m6, rfl, hi', hl', hp', hn, hr⟩
  refine ⟨_, Tv.lt (Pv.locI m5) (Pv.locI m3), fun hb => ?_, fun hb => ?_⟩
  · refine Tr.absV fun Vw hVw => ?_
    have hlt' : 2 * (p' : Int) + 1 < xs.length := by simpa using hb
    have hlt : 2 * p' + 1 < xs.length := by omega
    clear hlt'
    obtain ⟨n, rfl⟩ : ∃ n', n = n' + 1 := ⟨n - 1, by omega⟩
    have hlen' : vs'.length = xs'.length := hi'.length
    refine Tr.let (Pv.add (Pv.locI m5) Pv.int) ?_
    first | refine isE fun t2 => ?_ | rintro _ ⟨t2, rfl⟩
    have e2 : 2 * (p' : Int) + 1 + 1 = ((2 * p' + 2 : Nat) : Int) := by omega
    rw [e2]
    have m5' : m (Str.ofString "childpos") = some (.int ((2 * p' + 1 : Nat) : Int) t'') := by rw [show (((2 * p' + 1 : Nat)) : Int) = 2 * (p' : Int) + 1 by omega]; exact m5
    have hcm : decide (((2 * p' + 2 : Nat) : Int) < xs.length) = true → 2 * p' + 2 < xs'.length := by intro q; rw [decide_eq_true_eq] at q; omega
    refine Tr.ite (b := decide (((2 * p' + 2 : Nat) : Int) < xs.length) && !decide (xs'.getD (2 * p' + 1) 0 < xs'.getD (2 * p' + 2) 0)) (Tv.and (Tv.lt (Pv.locI rfl) (Pv.locI m3)) (fun hb1 => Tv.not (Tv.lt
      (Pv.itemI (k := 2 * p' + 1) (Pv.loc (v := .ref a) m1) (Pv.locI (t := t'') m5') (upd_self ..) hi' (getD_some (by omega)) (by omega))
      (Pv.itemI (k := 2 * p' + 2) (Pv.loc (v := .ref a) m1) (Pv.locI rfl) (upd_self ..) hi' (getD_some (hcm hb1)) (by omega))))) (fun hb2 => ?_) (fun hb2 => ?_)
    · have hc : 2 * p' + 2 < xs'.length ∧ ¬ xs'.getD (2 * p' + 1) 0 < xs'.getD (2 * p' + 2) 0 := by
        simp only [Bool.and_eq_true, decide_eq_true_eq, Bool.not_eq_true', decide_eq_false_iff_not] at hb2
        exact ⟨by omega, hb2.2⟩
      refine Tr.let (Pv.loc rfl) ?_
      first | refine eqE ?_ | rintro _ rfl
      refine Tr.nil ?_
      show Tr _ _ _ _ _ _ _ _
      refine Tr.setL (Pv.itemI (k := 2 * p' + 2) (Pv.loc (v := .ref a) m1) (Pv.locI rfl) (upd_self ..) hi' (getD_some hc.1) (by omega)) (Pv.loc (v := .ref a) m1) (Pv.locI (n := (p' : Int)) (t := t') m4) (upd_self ..) (by omega) (by omega) ?_
      intro v2 hv2
      refine Tr.let (Pv.loc rfl) ?_
      first | refine eqE ?_ | rintro _ rfl
      refine Tr.let (Pv.add (Pv.mul Pv.int (Pv.locI rfl) (IntMulOk.of_left (by decide))) Pv.int) ?_
      first | refine isE fun t3 => ?_ | rintro _ ⟨t3, rfl⟩
      refine Tr.nil (hVw _ _ _ ⟨n, by omega, _, 2 * p' + 2, t2, t3, _, _, rfl, m1, m2, m3, rfl, rfl, m6, upd_upd .., ints_setV hi' hv2 _, by simp [hl'], by omega, by omega, ?_⟩)
      rw [← hr]
      conv => rhs; unfold suLoop
      rw [if_pos (by omega)]
      simp only [hc, not_false_eq_true, and_self, if_true]
    · have hc : ¬ (2 * p' + 2 < xs'.length ∧ ¬ xs'.getD (2 * p' + 1) 0 < xs'.getD (2 * p' + 2) 0) := by
        rintro ⟨h1, h2⟩
        have : decide (((2 * p' + 2 : Nat) : Int) < xs.length) = true := by rw [decide_eq_true_eq]; omega
        rw [this, Bool.true_and, Bool.not_eq_false', decide_eq_true_eq] at hb2
        exact h2 hb2
      refine Tr.nil ?_
      show Tr _ _ _ _ _ _ _ _
      refine Tr.setL (Pv.itemI (k := 2 * p' + 1) (Pv.loc (v := .ref a) m1) (Pv.locI (t := t'') m5') (upd_self ..) hi' (getD_some (by omega)) (by omega)) (Pv.loc (v := .ref a) m1) (Pv.locI (n := (p' : Int)) (t := t') m4) (upd_self ..) (by omega) (by omega) ?_
      intro v2 hv2
      refine Tr.let (Pv.loc (v := .int ((2 * p' + 1 : Nat) : Int) t'') m5') ?_
      first | refine eqE ?_ | rintro _ rfl
      refine Tr.let (Pv.add (Pv.mul Pv.int (Pv.locI rfl) (IntMulOk.of_left (by decide))) Pv.int) ?_
      first | refine isE fun t3 => ?_ | rintro _ ⟨t3, rfl⟩
      refine Tr.nil (hVw _ _ _ ⟨n, by omega, _, 2 * p' + 1, t'', t3, _, _, rfl, m1, m2, m3, rfl, rfl, m6, upd_upd .., ints_setV hi' hv2 _, by simp [hl'], by omega, by omega, ?_⟩)
      rw [← hr]
      conv => rhs; unfold suLoop
      rw [if_pos (by omega)]
      simp only [hc, if_false]
  · have hge : ¬ 2 * p' + 1 < xs'.length := by have : ¬ 2 * (p' : Int) + 1 < xs.length := by simpa using hb
                                               omega
    have hlen' : vs'.length = xs'.length := hi'.length
    have hr' : suLoop xs xs.length p = (xs', p') := by
      rw [← hr]
      cases n with
      | zero => rfl
      | succ n => unfold suLoop; rw [if_neg hge]
    refine Tr.nil ?_
    show Tr _ _ _ _ _ _ _ _
    refine Tr.setL (Pv.locI (n := xs.getD p 0) (t := tv) m6) (Pv.loc (v := .ref a) m1) (Pv.locI (n := (p' : Int)) (t := t') m4) (upd_self ..) (by omega) (by omega) ?_
    intro v2 hv2
    rw [upd_upd]
    refine Tr.expr (Tr.pcall3 (V := fun _ fs' σ' => ∃ vs', fs' = (fenv _ _ _ L 49, m) :: fs ∧ IntsAre vs' (suF xs p) ∧ σ' = upd σ a (.list vs')) (Pv.g G rfl) (G.isFn rfl) (Pv.loc (v := .ref a) m1) (Pv.loc (v := .int p u) m2) (Pv.loc (v := .int p' t') m4)
      (fun _ _ _ e1 e2 e3 => by
        subst e1 e2 e3
        refine siftdown_spec (xs := xs'.set p' (xs.getD p 0)) (sp := p) (p := p') G O'.top (upd_self ..) (ints_setV hi' hv2 p') (by simp; omega) (by simp; omega) ?_
        intro vs3 h3
        refine ⟨vs3, rfl, ?_, upd_upd ..⟩
        have e : (xs'.set p' (xs.getD p 0)).getD p' 0 = xs.getD p 0 := by
          rw [List.getD_eq_getElem?_getD, List.getElem?_set_self (by omega)]; rfl
        rw [e] at h3
        unfold suF
        rw [hr']
        exact h3)) ?_
    rintro _ _ _ ⟨vs3, rfl, h3, rfl⟩
    exact Tr.nil (hV _ _ _ ⟨_, rfl, h _ h3⟩)
end
end Mine
end
section
open PySem PySem.W PyProof.Rows
namespace Mine
section
variable {pr : Program} {w : World} {s₀ : Shared} {A : Around} {fs : Fs} {σ : Sto} {mg mb : NsMap}

theorem sdLoop_len (sp : Nat) (nw : Int) : ∀ (p : Nat) (xs : List Int), (sdLoop xs sp nw p).length = xs.length := by
  intro p
  induction p using Nat.strongRecOn with
  | ind p ih =>
    intro xs
    cases p with
    | zero => unfold sdLoop; simp
    | succ p =>
      unfold sdLoop
      split
      · split
        · rw [ih (p / 2) (by omega)]; simp
        · simp
      · simp
theorem suF_len (xs : List Int) (p : Nat) : (suF xs p).length = xs.length := by
  unfold suF; simp only [sdLoop_len, List.length_set, suLoop_len]
/-! heapify -/
def hpF (xs : List Int) : Nat → List Int
  | 0 => xs
  | j + 1 => hpF (suF xs j) j
theorem Sub.at {σ σ' : Sto} {a : Addr} {x : AO} (h : Sub σ σ') (e : σ a = some x) : σ' a = some x := h a x e
theorem Sub.agree {σ σ' σ'' : Sto} {I : Addr} (h : Sub σ σ') (hI : σ I = none) (e : ∀ b, b ≠ I → σ'' b = σ' b) : Sub σ σ'' := fun b y hb => (e b (by rintro rfl; rw [hI] at hb; cases hb)).trans (h b y hb)
theorem Sub.setA {σ σ' : Sto} {a : Addr} {x y : AO} (h : Sub (Mine.upd σ a x) σ') : Sub (Mine.upd σ a y) (Mine.upd σ' a y) := fun b z hb => by
  unfold Mine.upd at hb ⊢
  split
  · simpa [*] using hb
  · rename_i hne; rw [if_neg hne] at hb; exact h b z ((upd_ne hne).trans hb)

set_option maxHeartbeats 1000000 in
theorem heapify_spec (G : Gd w s₀ mg mb) {k : Nat} (O : Ok A fs (k + 3)) {a : Addr} {vs : List Value} {xs : List Int} {V : Value → Fs → Sto → Prop}
    (hs : σ a = some (.list vs)) (hi : IntsAre vs xs) (hz : xs.length < 2 ^ 60)
    (h : ∀ vs', IntsAre vs' (hpF xs (xs.length / 2)) → V .none fs (upd σ a (.list vs'))) :
    Tr pr w s₀ A fs σ (call (.ref 35) [.ref a]) V := by
  refine Tr.fn (binds := [(Str.ofString "x", .ref a)]) G.B G.X rfl rfl O rfl rfl rfl rfl rfl ?_
  intro L σ' hS O' hC
  let ev : Env := O'.env
  refine Tr.weak ?_ hS
  refine Tr.forget ?_
  have hlen : vs.length = xs.length := hi.length
  refine Tr.let (Pv.len (Pv.b G rfl rfl) (Pv.loc (v := .ref a) rfl) hs (by omega)) ?_
  first | refine isE fun t0 => ?_ | rintro _ ⟨t0, rfl⟩
  rw [hlen]
  refine Tr.for
    (W := fun v fs' σ' => ∃ Ia m, v = .ref Ia ∧ σ Ia = none ∧ fs' = (ev, m) :: fs ∧ m (Str.ofString "x") = some (.ref a) ∧ Sub σ σ' ∧ σ' Ia = some (.obj (rangeIterO (((xs.length / 2 : Nat) : Int) - 1) ((xs.length / 2 : Nat) : Int) (-1)))) ?_ ?_
  · refine Tr.call1 (Pv.b G rfl rfl) (.inr (.inl ⟨_, rfl⟩)) (W := fun v fs' σ' => ∃ r t u v' m, v = .ref r ∧ fs' = (ev, m) :: fs ∧ m (Str.ofString "x") = some (.ref a) ∧ σ r = none ∧ σ' = upd σ r (.obj (rangeO 0 ((xs.length / 2 : Nat) : Int) 1 t u v'))) ?_ ?_
    · refine Tr.pcall1 (Pv.b G rfl rfl) (.inr (.inl ⟨_, rfl⟩)) (Pv.fdiv2 (Pv.locI rfl) Pv.int (by omega)) ?_
      first | refine isE fun t1 => ?_ | rintro _ ⟨t1, rfl⟩
      exact Tr.range1 fun r u v hr => ⟨r, u, t1, v, _, rfl, rfl, rfl, hr, rfl⟩
    · rintro _ _ _ ⟨r, t, u, v', m, rfl, rfl, m1, hr, rfl⟩
      refine Tr.reversed (upd_self ..) (by omega) fun q hq => ⟨q, m, rfl, ?_, rfl, m1, ((Sub.refl σ).upd hr).upd ?_, upd_self ..⟩
      · cases e : σ q with
        | none => rfl
        | some y => rw [((Sub.refl σ).upd hr) q y e] at hq; cases hq
      · cases e : σ q with
        | none => rfl
        | some y => rw [((Sub.refl σ).upd hr) q y e] at hq; cases hq
  · rintro _ _ σ1 ⟨Ia, m, rfl, hIa, rfl, m1, hsub, hit⟩
    have W := It.range (pr := pr) (w := w) (s₀ := s₀) O'.handled (I := Ia) (a := ((xs.length / 2 : Nat) : Int) - 1) (c := -1) (n := xs.length / 2)
    refine (W.self 0 _ _ ?_).mono ?_
    · rw [hit]; simp
    · first | refine puE ?_ | rintro _ _ _ ⟨rfl, rfl, rfl⟩
      have hne : Ia ≠ a := by rintro rfl; rw [hIa] at hs; cases hs
      refine ⟨fun n fs' σ' => ∃ (m : NsMap) (vs' : List Value) (xs' : List Int), n ≤ xs.length / 2 ∧ fs' = (ev, m) :: fs ∧ m (Str.ofString "x") = some (.ref a) ∧ Sub (upd σ a (.list vs')) σ' ∧
        σ' Ia = some (.obj (rangeIterO ((n : Int) - 1) n (-1))) ∧ IntsAre vs' xs' ∧ xs'.length = xs.length ∧ hpF xs' n = hpF xs (xs.length / 2), xs.length / 2, ⟨m, vs, xs, Nat.le_refl _, rfl, m1, by rw [upd_same hs]; exact hsub, hit, hi, rfl, rfl⟩, ?_⟩
      clear hit hsub m1 m W σ1
      rintro n _ σ1 ⟨m, vs', xs', hn, rfl, m1, hsub, hit, hi', hl', hr⟩ Vb v1 v2 v3
      have W := It.range (pr := pr) (w := w) (s₀ := s₀) O'.handled (I := Ia) (a := (n : Int) - 1) (c := -1) (n := n)
      have hIa' : ∀ vs'', upd σ a (.list vs'') Ia = none := fun _ => (upd_ne hne).trans hIa
      cases n with
      | zero =>
        refine (W.done _ _ (by rw [hit]; simp)).mono ?_
        rintro _ _ σ2 ⟨rfl, rfl, hag⟩
        refine Tr.nil (Tr.nil ?_)
        exact ⟨_, hsub.agree (hIa' _) hag, _, rfl, h _ (by rw [← hr]; exact hi')⟩
      | succ j =>
        refine (W.item 0 _ _ (by omega) (by rw [hit]; simp)).mono ?_
        rintro _ _ σ2 ⟨v, rfl, ⟨t2, rfl⟩, rfl, hst, hag⟩
        have hsub2 := hsub.agree (hIa' _) hag
        refine Tr.assignName (Tr.store ?_)
        have e1 : ((j + 1 : Nat) : Int) - 1 + ((0 : Nat) : Int) * -1 = (j : Int) := by omega
        rw [e1]
        refine Tr.expr (Tr.pcall2 (V := fun _ fs' σ' => ∃ vs3, fs' = (ev, set1 m (Str.ofString "i") (.int j t2)) :: fs ∧ IntsAre vs3 (suF xs' j) ∧ σ' = upd σ2 a (.list vs3)) (Pv.g G rfl) (G.isFn rfl) (Pv.loc (v := .ref a) m1) (Pv.loc (v := .int j t2) rfl) ?_) ?_
        · intro _ _ e1 e2
          subst e1 e2
          refine siftup_spec (p := j) G O'.top (hsub2.at (upd_self ..)) hi' (by omega) (by omega) ?_
          intro vs3 h3
          exact ⟨vs3, rfl, h3, rfl⟩
        · rintro _ _ _ ⟨vs3, rfl, h3, rfl⟩
          refine Tr.nil (v1 j _ _ (by omega) ⟨set1 m (Str.ofString "i") (.int j t2), vs3, suF xs' j, by omega, rfl, m1, hsub2.setA, ?_, h3, by rw [suF_len, hl'], hr⟩).1
          rw [upd_ne hne, hst]
          have e2 : ((j + 1 : Nat) : Int) - 1 + ((0 + 1 : Nat) : Int) * -1 = (j : Int) - 1 := by omega
          have e3 : (((j + 1 : Nat) : Int) - ((0 + 1 : Nat) : Int)) = (j : Int) := by omega
          rw [e2, e3]
end
end Mine
end
section
open PySem PySem.W PyProof.Rows
namespace Mine
section
variable {pr : Program} {w : World} {s₀ : Shared} {A : Around} {fs : Fs} {σ : Sto} {mg mb : NsMap}

/-! heappop -/
def popR (xs : List Int) : Int := xs.getD 0 0
def popF (xs : List Int) : List Int := if xs.dropLast.isEmpty then [] else suF (xs.dropLast.set 0 (xs.getLast?.getD 0)) 0
theorem ints_last {vs : List Value} {xs : List Int} (h : IntsAre vs xs) (hne : xs ≠ []) : ∃ t, vs.getLast? = some (.int (xs.getLast?.getD 0) t) := by
  induction h with
  | nil => exact absurd rfl hne
  | cons i t h ih =>
    rename_i vs' xs'
    cases h with
    | nil => exact ⟨t, rfl⟩
    | cons j u h' =>
      obtain ⟨t', e⟩ := ih (by simp)
      exact ⟨t', by rw [List.getLast?_cons_cons, e, List.getLast?_cons_cons]⟩
theorem ints_drop {vs : List Value} {xs : List Int} (h : IntsAre vs xs) : IntsAre vs.dropLast xs.dropLast := by
  induction h with
  | nil => exact .nil
  | cons i t h ih =>
    cases h with
    | nil => exact .nil
    | cons j u h' => exact .cons i t ih

set_option maxHeartbeats 1000000 in
theorem heappop_spec (G : Gd w s₀ mg mb) {k : Nat} (O : Ok A fs (k + 3)) {a : Addr} {vs : List Value} {xs : List Int} {V : Value → Fs → Sto → Prop}
    (hs : σ a = some (.list vs)) (hi : IntsAre vs xs) (hne : xs ≠ []) (hz : xs.length < 2 ^ 20)
    (h : ∀ v vs', IsI (popR xs) v → IntsAre vs' (popF xs) → V v fs (upd σ a (.list vs'))) :
    Tr pr w s₀ A fs σ (call (.ref 28) [.ref a]) V := by
  refine Tr.fn (binds := [(Str.ofString "heap", .ref a)]) G.B G.X rfl rfl O rfl rfl rfl rfl rfl ?_
  intro L σ' hS O' hC
  let ev : Env := O'.env
  refine Tr.weak ?_ hS
  have hlen : vs.length = xs.length := hi.length
  obtain ⟨t0, e0⟩ := ints_last hi hne
  have hi2 := ints_drop hi
  refine Tr.assign (Tr.pop (V := fun v fs' σ' => v = .int (xs.getLast?.getD 0) t0 ∧ ∃ m, fs' = (ev, m) :: fs ∧ m (Str.ofString "heap") = some (.ref a) ∧ σ' = upd σ a (.list vs.dropLast)) (Pv.loc (v := .ref a) rfl) hs e0 (by rw [sizeLine_eq]; omega) ⟨rfl, _, rfl, rfl, rfl⟩) ?_
  rintro _ _ _ ⟨rfl, m, rfl, m1, rfl⟩
  refine Tr.store ?_
  have hl2 : vs.dropLast.length = xs.dropLast.length := hi2.length
  have hl3 : xs.dropLast.length ≤ xs.length := by simp
  refine Tr.ite (Tv.val (Pv.loc (v := .ref a) m1) (fun v e => by subst e; exact truthyList (upd_self ..) (by omega))) (fun hb => ?_) (fun hb => ?_)
  · have hpos : 0 < xs.dropLast.length := by
      rw [← hl2]
      cases h' : vs.dropLast with
      | nil => rw [h'] at hb; cases hb
      | cons => simp
    have h1 : 1 < xs.length := by simp at hpos; omega
    refine Tr.let (Pv.itemI (k := 0) (Pv.loc (v := .ref a) m1) Pv.int (upd_self ..) hi2 (n := popR xs) ?_ (by omega)) ?_
    · rw [List.getElem?_dropLast, if_pos (by omega), getD_some (by omega)]; rfl
    · first | refine isE fun t1 => ?_ | rintro _ ⟨t1, rfl⟩
      refine Tr.setL (k := 0) (Pv.locI rfl) (Pv.loc (v := .ref a) m1) Pv.int (upd_self ..) (by omega) (by omega) ?_
      intro v hv
      rw [upd_upd]
      refine Tr.expr (Tr.pcall2 (V := fun _ fs' σ' => ∃ vs3 m, fs' = (ev, m) :: fs ∧ m (Str.ofString "returnitem") = some (.int (popR xs) t1) ∧ IntsAre vs3 (popF xs) ∧ σ' = upd σ a (.list vs3)) (Pv.g G rfl) (G.isFn rfl) (Pv.loc (v := .ref a) m1) Pv.int ?_) ?_
      · rintro _ _ rfl ⟨t2, rfl⟩
        refine siftup_spec (p := 0) G O'.top (upd_self ..) (ints_setV hi2 hv 0) (by simp; omega) (by simp; omega) ?_
        intro vs3 h3
        refine ⟨vs3, _, rfl, rfl, ?_, upd_upd ..⟩
        unfold popF
        rw [if_neg]
        · exact h3
        · cases h' : xs.dropLast with
          | nil => rw [h'] at hpos; exact absurd hpos (Nat.lt_irrefl _)
          | cons => simp
      · rintro _ _ _ ⟨vs3, m', rfl, m2, h3, rfl⟩
        refine Tr.ret (Pv.loc (v := .int (popR xs) t1) m2) ?_
        first | refine puE ?_ | rintro _ _ _ ⟨rfl, rfl, rfl⟩
        exact ⟨_, rfl, h _ _ ⟨_, rfl⟩ h3⟩
  · have hnil : vs.dropLast = [] := by
      cases h' : vs.dropLast with
      | nil => rfl
      | cons => rw [h'] at hb; cases hb
    have hx : xs.dropLast = [] := List.length_eq_zero_iff.mp (by rw [← hl2, hnil]; rfl)
    refine Tr.nil ?_
    show Tr _ _ _ _ _ _ _ _
    refine Tr.ret (Pv.loc rfl) ?_
    first | refine puE ?_ | rintro _ _ _ ⟨rfl, rfl, rfl⟩
    refine ⟨_, rfl, h _ _ ⟨t0, ?_⟩ (by unfold popF; rw [hx, hnil]; exact .nil)⟩
    cases xs with
    | nil => exact absurd rfl hne
    | cons x r =>
      cases r with
      | nil => rfl
      | cons => simp at hx
end
end Mine
end
section
open PySem PySem.W PyProof.Rows
namespace Mine
section
variable {pr : Program} {w : World} {s₀ : Shared} {A : Around} {fs : Fs} {σ : Sto} {mg mb : NsMap}
theorem popF_len (xs : List Int) : (popF xs).length = xs.length - 1 := by
  unfold popF
  split
  · rename_i h
    have : xs.dropLast = [] := by simpa using h
    have := congrArg List.length this
    simp at this ⊢
    omega
  · rw [suF_len]; simp
theorem hpF_len : ∀ (j : Nat) (xs : List Int), (hpF xs j).length = xs.length
  | 0, _ => rfl
  | j + 1, xs => by unfold hpF; rw [hpF_len j, suF_len]
def leLoop : Nat → List Int → Int → Int
  | 0, _, l => l
  | f + 1, xs, l => if xs ≠ [] ∧ xs.getD 0 0 ≤ l then leLoop f (popF xs) (if popR xs == l then l + 1 else l) else l
def leastF (xs : List Int) : Int := leLoop xs.length (hpF xs (xs.length / 2)) 0

set_option maxHeartbeats 1000000 in
theorem least_spec (G : Gd w s₀ mg mb) {k : Nat} (O : Ok A fs (k + 4)) {a : Addr} {vs : List Value} {xs : List Int} {V : Value → Fs → Sto → Prop}
    (hs : σ a = some (.list vs)) (hi : IntsAre vs xs) (hz : xs.length < 2 ^ 20) (h : ∀ v, IsI (leastF xs) v → V v fs σ) :
    Tr pr w s₀ A fs σ (call (.ref 193) [.ref a]) V := by
  refine Tr.fn (binds := [(Str.ofString "met", .ref a)]) G.B G.X rfl rfl O rfl rfl rfl rfl rfl ?_
  intro L σ' hS O' hC
  let ev : Env := O'.env
  refine Tr.weak ?_ hS
  refine Tr.forget ?_
  refine Tr.absV fun Vf hV => ?_
  have hlen : vs.length = xs.length := hi.length
  refine Tr.pairAssign (x := Str.ofString "heap") (y := Str.ofString "least") O'.handled (W := fun v fs' σ' => ∃ t b u m, v = .ref t ∧ fs' = (ev, m) :: fs ∧ σ b = none ∧ Sub (upd σ b (.list vs)) σ' ∧ σ' t = some (.tup [.ref b, .int 0 u])) ?_ ?_
  · refine Tr.tuple (W := fun ws fs' σ' => ∃ b u m, ws = [.ref b, .int 0 u] ∧ fs' = (ev, m) :: fs ∧ σ b = none ∧ σ' = upd σ b (.list vs)) ?_ ?_
    · refine Tr.argsC (W := fun v fs' σ' => ∃ b m, v = .ref b ∧ fs' = (ev, m) :: fs ∧ σ b = none ∧ σ' = upd σ b (.list vs)) ?_ ?_
      · refine Tr.pcall1 (Pv.b G rfl rfl) (.inr (.inl ⟨_, rfl⟩)) (Pv.loc (v := .ref a) rfl) ?_
        first | refine eqE ?_ | rintro _ rfl
        exact Tr.listOf hs (by rw [sizeLine_eq]; omega) fun b hb => ⟨b, _, rfl, rfl, hb, rfl⟩
      · rintro _ _ _ ⟨b, m, rfl, rfl, hb, rfl⟩
        refine Tr.argsC Pv.int ?_
        first | refine puI fun u => ?_ | rintro _ _ _ ⟨rfl, rfl, u, rfl⟩
        exact Tr.args0 ⟨b, u, m, rfl, rfl, hb, rfl⟩
    · rintro _ _ _ ⟨b, u, m, rfl, rfl, hb, rfl⟩
      refine ⟨by simp [sizeLine_eq], fun t ht => ⟨t, b, u, m, rfl, rfl, hb, (Sub.refl _).upd ht, upd_self ..⟩⟩
  rintro _ _ σ1 ⟨t, b, u, m, rfl, rfl, hb, hsub, ht⟩
  refine ⟨t, _, _, rfl, ht, Tr.store (Tr.store ?_)⟩
  refine Tr.weak ?_ hsub
  refine Tr.expr (Tr.pcall1 (V := fun _ fs' σ' => ∃ vs' m, fs' = (ev, m) :: fs ∧ m (Str.ofString "heap") = some (.ref b) ∧ m (Str.ofString "least") = some (.int 0 u) ∧ IntsAre vs' (hpF xs (xs.length / 2)) ∧ σ' = upd σ b (.list vs')) (Pv.g G rfl) (G.isFn rfl) (Pv.loc (v := .ref b) rfl) ?_) ?_
  · first | refine eqE ?_ | rintro _ rfl
    refine heapify_spec G O'.top (upd_self ..) hi (by omega) ?_
    intro vs' h'
    exact ⟨vs', _, rfl, rfl, rfl, h', upd_upd ..⟩
  rintro _ _ _ ⟨vs', m, rfl, m1, m2, hi', rfl⟩
  refine Tr.whileE (I := fun n fs' σ' => ∃ (m : NsMap) (vs' : List Value) (xs' : List Int) (l : Int) (t : Tok), fs' = (ev, m) :: fs ∧ m (Str.ofString "heap") = some (.ref b) ∧ m (Str.ofString "least") = some (.int l t) ∧ IntsAre vs' xs' ∧ σ' = upd σ b (.list vs') ∧ xs'.length = n ∧ n ≤ xs.length ∧ leLoop n xs' l = leastF xs)
    (J := fun c n fs' σ' => ∃ (m : NsMap) (vs' : List Value) (xs' : List Int) (l : Int) (t : Tok), fs' = (ev, m) :: fs ∧ m (Str.ofString "heap") = some (.ref b) ∧ m (Str.ofString "least") = some (.int l t) ∧ IntsAre vs' xs' ∧ Sub (upd σ b (.list vs')) σ' ∧ xs'.length = n ∧ n ≤ xs.length ∧ leLoop n xs' l = leastF xs ∧ c = decide (xs' ≠ [] ∧ xs'.getD 0 0 ≤ l)) xs.length
    ⟨m, vs', _, 0, u, rfl, m1, m2, hi', rfl, hpF_len .., Nat.le_refl _, rfl⟩ ?_ ?_ ?_
  · rintro n _ _ ⟨m, vs', xs', l, t, rfl, m1, m2, hi', rfl, hn, hle, hr⟩
    have hl' : vs'.length = xs'.length := hi'.length
    refine Tr.andT (W := fun c fs' σ' => fs' = (ev, m) :: fs ∧ Sub (upd σ b (.list vs')) σ' ∧ c = decide (xs' ≠ [])) ?_ ?_ ?_
    · refine Tr.cmpT (W₂ := fun a c fs' σ' => ∃ d, fs' = (ev, m) :: fs ∧ a = .ref b ∧ c = .ref d ∧ upd σ b (.list vs') d = none ∧ σ' = upd (upd σ b (.list vs')) d (.list [])) (Pv.loc (v := .ref b) m1) ?_ ?_
      · first | refine puE ?_ | rintro _ _ _ ⟨rfl, rfl, rfl⟩
        exact Tr.nilList fun d hd => ⟨d, rfl, rfl, rfl, hd, rfl⟩
      · rintro _ _ _ _ ⟨d, rfl, rfl, rfl, hd, rfl⟩
        have hne : b ≠ d := by rintro rfl; rw [upd_self] at hd; cases hd
        refine (cmp_neInts (ys := []) (by have := O'.units; omega) ((upd_ne hne).trans (upd_self ..)) (upd_self ..) hi' .nil).mono ?_
        first | refine puE ?_ | rintro _ _ _ ⟨rfl, rfl, rfl⟩
        exact ⟨_, rfl, rfl, (Sub.refl _).upd hd, by simp⟩
    · rintro _ σ2 ⟨rfl, hsub2, hc⟩
      have hxne : xs' ≠ [] := by simpa using hc.symm
      have hpos : 0 < xs'.length := List.length_pos_iff.mpr hxne
      refine Tr.mono (Tv.le (Pv.itemI (k := 0) (xs := xs') (n := xs'.getD 0 0) (Pv.loc (v := .ref b) m1) Pv.int (hsub2.at (upd_self ..)) hi' (getD_some hpos) (by omega)) (Pv.locI m2)) ?_
      first | refine puE ?_ | rintro _ _ _ ⟨rfl, rfl, rfl⟩
      exact ⟨m, vs', xs', l, t, rfl, m1, m2, hi', hsub2, hn, hle, hr, by simp [hxne]⟩
    · rintro _ σ2 ⟨rfl, hsub2, hc⟩
      have hxe : ¬ xs' ≠ [] := by simpa using hc.symm
      exact ⟨m, vs', xs', l, t, rfl, m1, m2, hi', hsub2, hn, hle, hr, by simp [hxe]⟩
  · rintro n _ σ2 ⟨m, vs', xs', l, t, rfl, m1, m2, hi', hsub2, hn, hle, hr, hc⟩
    have hcc : xs' ≠ [] ∧ xs'.getD 0 0 ≤ l := of_decide_eq_true hc.symm
    have hpos : 0 < xs'.length := List.length_pos_iff.mpr hcc.1
    obtain ⟨n, rfl⟩ : ∃ n', n = n' + 1 := ⟨n - 1, by omega⟩
    refine Tr.weak ?_ hsub2
    refine Tr.absV fun Vw hVw => ?_
    refine Tr.iteE (W := fun c fs' σ' => ∃ vs3, fs' = (ev, m) :: fs ∧ IntsAre vs3 (popF xs') ∧ σ' = upd σ b (.list vs3) ∧ c = (popR xs' == l)) ?_ ?_ ?_
    · refine Tr.cmpT (W₁ := fun v fs' σ' => ∃ vs3, IsI (popR xs') v ∧ fs' = (ev, m) :: fs ∧ IntsAre vs3 (popF xs') ∧ σ' = upd σ b (.list vs3)) (W₂ := fun v u fs' σ' => ∃ vs3, IsI (popR xs') v ∧ IsI l u ∧ fs' = (ev, m) :: fs ∧ IntsAre vs3 (popF xs') ∧ σ' = upd σ b (.list vs3)) ?_ ?_ ?_
      · refine Tr.pcall1 (Pv.g G rfl) (G.isFn rfl) (Pv.loc (v := .ref b) m1) ?_
        first | refine eqE ?_ | rintro _ rfl
        refine heappop_spec G O'.top (upd_self ..) hi' hcc.1 (by omega) ?_
        intro v vs3 hv h3
        exact ⟨vs3, hv, rfl, h3, upd_upd ..⟩
      · rintro _ _ _ ⟨vs3, hv, rfl, h3, rfl⟩
        refine (Pv.locI m2).mono ?_
        rintro _ _ _ ⟨rfl, rfl, hu⟩
        exact ⟨vs3, hv, hu, rfl, h3, rfl⟩
      · rintro _ _ _ _ ⟨vs3, hv, hu, rfl, h3, rfl⟩
        refine (cmp_eq hv hu).mono ?_
        first | refine puE ?_ | rintro _ _ _ ⟨rfl, rfl, rfl⟩
        exact ⟨_, rfl, vs3, rfl, h3, rfl, rfl⟩
    · rintro _ _ ⟨vs3, rfl, h3, rfl, hc2⟩
      refine Tr.aug m2 Pv.int ?_
      intro u
      refine Tr.nil ?_
      show Tr _ _ _ _ _ _ _ _
      refine Tr.nil (hVw _ _ _ ⟨n, by omega, _, vs3, _, _, _, rfl, m1, rfl, h3, rfl, by rw [popF_len]; omega, by omega, ?_⟩)
      rw [← hr]
      conv => rhs; unfold leLoop
      rw [if_pos hcc, ← hc2, if_pos rfl]
    · rintro _ _ ⟨vs3, rfl, h3, rfl, hc2⟩
      refine Tr.nil ?_
      show Tr _ _ _ _ _ _ _ _
      refine Tr.nil (hVw _ _ _ ⟨n, by omega, _, vs3, _, _, _, rfl, m1, m2, h3, rfl, by rw [popF_len]; omega, by omega, ?_⟩)
      rw [← hr]
      conv => rhs; unfold leLoop
      rw [if_pos hcc, ← hc2, if_neg (by decide)]
  · rintro n _ σ2 ⟨m, vs', xs', l, t, rfl, m1, m2, hi', hsub2, hn, hle, hr, hc⟩
    have hcc : ¬ (xs' ≠ [] ∧ xs'.getD 0 0 ≤ l) := of_decide_eq_false hc.symm
    refine Tr.nil ?_
    show Tr _ _ _ _ _ _ _ _
    refine Tr.ret (Pv.loc (v := .int l t) m2) ?_
    first | refine puE ?_ | rintro _ _ _ ⟨rfl, rfl, rfl⟩
    refine hV _ _ _ ⟨σ, fun c y hy => hsub2 c y ((upd_ne (by rintro rfl; rw [hb] at hy; cases hy)).trans hy), _, rfl, h _ ⟨t, ?_⟩⟩
    rw [← hr]
    cases n with
    | zero => rfl
    | succ n => unfold leLoop; rw [if_neg hcc]; rfl
end
end Mine
end
section
open PySem PySem.W PyProof.Rows
namespace Mine
section
variable {pr : Program} {w : World} {s₀ : Shared} {A : Around} {env : Env} {fs : Fs} {σ : Sto} {m mg mb : NsMap} {x y : Str} {v : Value} {pos p : Pos} {P P₁ P₂ : Value → Prop} {rest : List Stmt} {E : Value → Shared → Prop} {s : Shared} {X : String} {L : Addr} {HX : Fs → Sto → Prop} {C : Value → Prop} {V : Flow → Fs → Sto → Prop}

theorem set1_set1 (m : NsMap) (x : Str) (v v' : Value) : set1 (set1 m x v) x v' = set1 m x v' := by funext y; simp only [set1]; split <;> rfl
theorem set1_same {m : NsMap} {x : Str} {v : Value} (h : m x = some v) : set1 m x v = m := by funext y; simp only [set1]; split <;> simp_all
theorem set1_ne {m : NsMap} {x y : Str} {v : Value} (h : y ≠ x) : set1 m x v y = m y := by simp only [set1, if_neg h]
theorem set1_self (m : NsMap) (x : Str) (v : Value) : set1 m x v x = some v := by simp only [set1, if_pos]

/-- while lst[x] == z: x += 1 -/
theorem skipW {lst x z : Str} {a : Addr} {vs : List Value} {xs : List Int} {i : Nat} {t te : Tok} {e : Int} {p1 p2 p3 p4 p5 p6 p7 p8 p9 : Pos} {kk : Nat} (hP : PassesOwn (model pr w) A env E) (hH : Hd C A σ)
    (m1 : m lst = some (.ref a)) (m2 : m z = some (.int e te)) (m3 : m x = some (.int i t)) (hs : σ a = some (.list vs)) (hi : IntsAre vs xs) (hz : xs.length < 2 ^ 60) (hil : i ≤ xs.length) (n1 : lst ≠ x) (n2 : z ≠ x)
    (hC : Catch C s₀ E "IndexError" L HX)
    (hX : (xs.drop i).dropWhile (· == e) = [] → ∀ t' ea ctx, σ ea = none → HX ((env, set1 m x (.int xs.length t')) :: fs) (upd σ ea (.exc "IndexError" none ctx)))
    (hn : ∀ k t', i ≤ k → k < xs.length → xs.drop k = (xs.drop i).dropWhile (· == e) → TrE pr w s₀ E A ((env, set1 m x (.int k t')) :: fs) σ (execs rest env) V)
    (k1 : env.kindOf lst = some .local := by rfl) (k2 : env.kindOf x = some .local := by rfl) (k3 : env.kindOf z = some .local := by rfl)
    (d1 : (lst == ("__debug__" : Str)) = false := by decide) (d2 : (x == ("__debug__" : Str)) = false := by decide) (d3 : (z == ("__debug__" : Str)) = false := by decide) :
    TrE pr w s₀ E A ((env, m) :: fs) σ (execs (.While (.Compare (.Subscript (.Name lst p1) (.Name x p2) p3) [.Eq] [.Name z p4] p5) [.AugAssign (.Name x p6) .Add (.Constant (.int 1) kk p7) p8] [] p9 :: rest) env) V := by
  refine TrE.while hP (I := fun n fs' σ' => ∃ (k : Nat) (t' : Tok), fs' = (env, set1 m x (.int k t')) :: fs ∧ σ' = σ ∧ k ≤ xs.length ∧ xs.length - k = n ∧ i ≤ k ∧ (xs.drop k).dropWhile (· == e) = (xs.drop i).dropWhile (· == e))
    (J := fun b n fs' σ' => ∃ (k : Nat) (t' : Tok) (u : Int), fs' = (env, set1 m x (.int k t')) :: fs ∧ σ' = σ ∧ xs[k]? = some u ∧ xs.length - k = n ∧ i ≤ k ∧ (xs.drop k).dropWhile (· == e) = (xs.drop i).dropWhile (· == e) ∧ b = (u == e)) (xs.length - i) ⟨i, t, by rw [set1_same m3], rfl, hil, rfl, Nat.le_refl _, rfl⟩ ?_ ?_ ?_
  · rintro n _ σ1 ⟨k, t', rfl, rfl, hk, hkn, hik, hd⟩
    refine TrE.cmpT (TrE.at hH (Pv.loc (v := .ref a) ((set1_ne n1).trans m1) k1 d1) (Pv.locI (set1_self ..) k2 d2) hs hi (by omega) (by omega) hC ?_ (fun _ => rfl) (fun _ _ => rfl)) (W₂ := fun c d fs' σ' => ∃ u, fs' = (env, set1 m x (.int k t')) :: fs ∧ σ' = σ1 ∧ xs[k]? = some u ∧ IsI u c ∧ IsI e d) ?_ ?_ (by rfl)
    · intro hlk ea ctx hea
      have : k = xs.length := by omega
      subst this
      refine hX ?_ t' ea ctx hea
      rw [← hd, List.drop_length]; rfl
    · rintro c _ _ ⟨rfl, rfl, u, hu, hc⟩
      refine Tr.toE ((Pv.locI (n := e) (t := te) ((set1_ne n2).trans m2) k3 d3).mono ?_)
      rintro d _ _ ⟨rfl, rfl, hd'⟩
      exact ⟨u, rfl, rfl, hu, hc, hd'⟩
    · rintro c d _ _ ⟨u, rfl, rfl, hu, hc, hd'⟩
      refine Tr.toE ((cmp_eq hc hd').mono ?_)
      first | refine puE ?_ | rintro _ _ _ ⟨rfl, rfl, rfl⟩
      exact ⟨_, rfl, k, t', u, rfl, rfl, hu, hkn, hik, hd, rfl⟩
  · rintro n _ _ ⟨k, t', u, rfl, rfl, hu, hkn, hik, hd, hb⟩
    obtain ⟨hlt, hget⟩ := List.getElem?_eq_some_iff.mp hu
    refine TrE.aug (set1_self ..) Pv.int ?_ k2
    intro t2
    refine TrE.nil ⟨xs.length - (k + 1), by omega, k + 1, t2, ?_, rfl, by omega, rfl, by omega, ?_⟩
    · rw [set1_set1]; rfl
    · rw [← hd, List.drop_eq_getElem_cons hlt, hget, List.dropWhile_cons_of_pos (p := (· == e)) hb.symm]
  · rintro n _ _ ⟨k, t', u, rfl, rfl, hu, hkn, hik, hd, hb⟩
    obtain ⟨hlt, hget⟩ := List.getElem?_eq_some_iff.mp hu
    refine TrE.nil ?_
    show TrE _ _ _ _ _ _ _ _ _
    refine hn k t' hik hlt ?_
    rw [← hd]
    conv => rhs; rw [List.drop_eq_getElem_cons hlt, hget]
    rw [List.dropWhile_cons_of_neg (p := (· == e)) (by rw [← hb]; decide), List.drop_eq_getElem_cons hlt, hget]
end
end Mine
end
section
open PySem PySem.W PyProof.Rows
namespace Mine
theorem dropWhile_len (p : Int → Bool) : ∀ l : List Int, (l.dropWhile p).length ≤ l.length
  | [] => Nat.le_refl _
  | a :: l => by
    rw [List.dropWhile_cons]
    split
    · exact Nat.le_succ_of_le (dropWhile_len p l)
    · exact Nat.le_refl _
def sldF : List Int → List Int → List Int
  | [], _ => []
  | x :: xs, [] => x :: xs
  | x :: xs, y :: ys => if x < y then x :: sldF (xs.dropWhile (· == x)) (y :: ys) else if y < x then sldF (x :: xs) (ys.dropWhile (· == y)) else sldF (xs.dropWhile (· == x)) (ys.dropWhile (· == y))
termination_by a b => a.length + b.length
decreasing_by
  · have := dropWhile_len (· == x) xs; simp; omega
  · have := dropWhile_len (· == y) ys; simp; omega
  · have := dropWhile_len (· == x) xs; have := dropWhile_len (· == y) ys; simp; omega
theorem sldF_nil1 (b : List Int) : sldF [] b = [] := by rw [sldF]
theorem sldF_nil2 (a : List Int) : sldF a [] = a := by cases a <;> rw [sldF]
theorem sldF_cc (x y : Int) (xs ys : List Int) : sldF (x :: xs) (y :: ys) = if x < y then x :: sldF (xs.dropWhile (· == x)) (y :: ys) else if y < x then sldF (x :: xs) (ys.dropWhile (· == y)) else sldF (xs.dropWhile (· == x)) (ys.dropWhile (· == y)) := by
  rw [sldF]

/-- the state of sorted_list_difference -/
structure SL (σ : Sto) (p q M U : Addr) (m : NsMap) (σ' : Sto) (i j : Nat) (mis : List Int) : Prop where
  e1 : m (Str.ofString "expected") = some (.ref p)
  e2 : m (Str.ofString "actual") = some (.ref q)
  e3 : m (Str.ofString "missing") = some (.ref M)
  e4 : m (Str.ofString "unexpected") = some (.ref U)
  fi : ∃ t, m (Str.ofString "i") = some (.int i t)
  fj : ∃ t, m (Str.ofString "j") = some (.int j t)
  sc : Sc σ σ'
  fM : ∃ ms, σ' M = some (.list ms) ∧ IntsAre ms mis
  fU : ∃ us, σ' U = some (.list us) ∧ us.length ≤ j
  le : mis.length ≤ i
section
variable {σ σ' : Sto} {p q M U : Addr} {m : NsMap} {i j : Nat} {mis : List Int}
theorem SL.keep {σ'' : Sto} (h : SL σ p q M U m σ' i j mis) (k : ∀ b y, (∀ fl', y ≠ .tbk fl') → (∀ Y t c, y ≠ .exc Y t c) → σ' b = some y → σ'' b = some y) : SL σ p q M U m σ'' i j mis := by
  obtain ⟨ms, h1, h2⟩ := h.fM
  obtain ⟨us, h3, h4⟩ := h.fU
  exact { h with sc := fun b y pl e => k b y pl.1 pl.2 (h.sc b y pl e), fM := ⟨ms, k _ _ (by simp) (by simp) h1, h2⟩, fU := ⟨us, k _ _ (by simp) (by simp) h3, h4⟩ }
theorem SL.up {ea : Addr} {x : AO} (h : SL σ p q M U m σ' i j mis) (hn : σ' ea = none) : SL σ p q M U m (upd σ' ea x) i j mis :=
  h.keep fun b y _ _ e => (upd_ne (by rintro rfl; rw [hn] at e; cases e)).trans e
theorem SL.name {x : Str} {v : Value} (h : SL σ p q M U m σ' i j mis) (hx : [Str.ofString "expected", Str.ofString "actual", Str.ofString "missing", Str.ofString "unexpected", Str.ofString "i", Str.ofString "j"].all (· != x) = true) : SL σ p q M U (set1 m x v) σ' i j mis := by
  simp only [List.all_cons, List.all_nil, Bool.and_true, Bool.and_eq_true, bne_iff_ne, ne_eq] at hx
  obtain ⟨h1, h2, h3, h4, h5, h6⟩ := hx
  exact { h with e1 := (set1_ne h1).trans h.e1, e2 := (set1_ne h2).trans h.e2, e3 := (set1_ne h3).trans h.e3, e4 := (set1_ne h4).trans h.e4, fi := ⟨_, (set1_ne h5).trans h.fi.choose_spec⟩, fj := ⟨_, (set1_ne h6).trans h.fj.choose_spec⟩ }
theorem SL.setI {k : Nat} {t : Tok} (h : SL σ p q M U m σ' i j mis) (hk : mis.length ≤ k) : SL σ p q M U (set1 m (Str.ofString "i") (.int k t)) σ' k j mis :=
  { h with e1 := (set1_ne (by decide)).trans h.e1, e2 := (set1_ne (by decide)).trans h.e2, e3 := (set1_ne (by decide)).trans h.e3, e4 := (set1_ne (by decide)).trans h.e4, fi := ⟨t, set1_self ..⟩, fj := ⟨_, (set1_ne (by decide)).trans h.fj.choose_spec⟩, le := hk }
theorem SL.setJ {k : Nat} {t : Tok} (h : SL σ p q M U m σ' i j mis) (hk : j ≤ k) : SL σ p q M U (set1 m (Str.ofString "j") (.int k t)) σ' i k mis :=
  { h with e1 := (set1_ne (by decide)).trans h.e1, e2 := (set1_ne (by decide)).trans h.e2, e3 := (set1_ne (by decide)).trans h.e3, e4 := (set1_ne (by decide)).trans h.e4, fi := ⟨_, (set1_ne (by decide)).trans h.fi.choose_spec⟩, fj := ⟨t, set1_self ..⟩, fU := by obtain ⟨us, a, b⟩ := h.fU; exact ⟨us, a, by omega⟩ }
end

section
variable {pr : Program} {w : World} {s₀ : Shared} {A : Around} {fs : Fs} {σ : Sto} {mg mb : NsMap}

set_option maxHeartbeats 4000000 in
theorem sld_spec (G : Gd w s₀ mg mb) {k : Nat} (O : Ok A fs (k + 1)) {p q : Addr} {vs us : List Value} {xs ys : List Int} {V : Value → Fs → Sto → Prop}
    (hp : σ p = some (.list vs)) (hq : σ q = some (.list us)) (hi : IntsAre vs xs) (hj : IntsAre us ys) (hz : xs.length < 2 ^ 18) (hz2 : ys.length < 2 ^ 18)
    (h : ∀ t M U ms σ', Sc σ σ' → σ' t = some (.tup [.ref M, .ref U]) → σ' M = some (.list ms) → IntsAre ms (sldF xs ys) → V (.ref t) fs σ') :
    Tr pr w s₀ A fs σ (call (.ref 176) [.ref p, .ref q]) V := by
  refine Tr.fn (binds := [(Str.ofString "expected", .ref p), (Str.ofString "actual", .ref q)]) G.B G.X rfl rfl O rfl rfl rfl rfl rfl ?_
  intro L σ' hS O' hC
  let ev : Env := O'.env
  refine Tr.weak ?_ hS
  refine Tr.absV fun Vf hV => ?_
  refine Tr.assign2 Pv.int ?_
  first | refine puI fun t0 => ?_ | rintro _ _ σ ⟨rfl, rfl, t0, rfl⟩
  refine Tr.store (Tr.store ?_)
  refine Tr.assign (Tr.nilList (V := fun v fs' σ1 => ∃ M m, v = .ref M ∧ fs' = (ev, m) :: fs ∧ m = _ ∧ σ M = none ∧ σ1 = upd σ M (.list [])) fun M hM => ⟨M, _, rfl, rfl, rfl, hM, rfl⟩) ?_
  rintro _ _ _ ⟨M, _, rfl, rfl, rfl, hM, rfl⟩
  refine Tr.store ?_
  refine Tr.assign (Tr.nilList (V := fun v fs' σ1 => ∃ U m, v = .ref U ∧ fs' = (ev, m) :: fs ∧ m = _ ∧ upd σ M (.list []) U = none ∧ σ1 = upd (upd σ M (.list [])) U (.list [])) fun U hU => ⟨U, _, rfl, rfl, rfl, hU, rfl⟩) ?_
  rintro _ _ _ ⟨U, _, rfl, rfl, rfl, hU, rfl⟩
  refine Tr.store ?_
  have hMU : M ≠ U := by rintro rfl; rw [upd_self] at hU; cases hU
  have hUn : σ U = none := by rw [upd_ne (Ne.symm hMU)] at hU; exact hU
  have hpM : p ≠ M := by rintro rfl; rw [hM] at hp; cases hp
  have hqM : q ≠ M := by rintro rfl; rw [hM] at hq; cases hq
  have hpU : p ≠ U := by rintro rfl; rw [hUn] at hp; cases hp
  have hqU : q ≠ U := by rintro rfl; rw [hUn] at hq; cases hq
  refine Tr.while (fun n fs' σ1 => ∃ m i j mis, fs' = (ev, m) :: fs ∧ SL σ p q M U m σ1 i j mis ∧ i ≤ xs.length ∧ j ≤ ys.length ∧ n = xs.length + ys.length - i - j ∧ mis ++ sldF (xs.drop i) (ys.drop j) = sldF xs ys) (xs.length + ys.length)
    ⟨_, 0, 0, [], rfl, ?_, by omega, by omega, by omega, rfl⟩ ?_
  · exact ⟨rfl, rfl, rfl, rfl, ⟨_, rfl⟩, ⟨_, rfl⟩, ((Sc.refl σ).new hM).new hU, ⟨[], (upd_ne hMU).trans (upd_self ..), .nil⟩, ⟨[], upd_self .., Nat.le_refl _⟩, Nat.le_refl _⟩
  rintro n _ σ1 ⟨m, i, j, mis, rfl, S, hil, hjl, rfl, hr⟩
  refine ⟨true, Tv.const, fun _ => ?_, fun hb => by cases hb⟩
  refine Tr.absV fun Vw hVw => ?_
  have hlen : vs.length = xs.length := hi.length
  have hlen2 : us.length = ys.length := hj.length
  refine Tr.tryExc (fun _ => True) (X := "IndexError") (HX := fun fs' σ2 => ∃ m i j mis, fs' = (ev, m) :: fs ∧ SL σ p q M U m σ2 i j mis ∧ i ≤ xs.length ∧ j ≤ ys.length ∧ mis ++ xs.drop i = sldF xs ys) rfl (fun m => O'.frames) F.isExc_IndexError F.notTuple_IndexError F.self_IndexError (fun _ _ _ => Pv.b G rfl rfl) ?_ ?_ ?_ ?_
  · rintro _ _ ⟨m, i, j, mis, rfl, _⟩; exact ⟨m, rfl⟩
  · rintro _ _ _ ⟨m, i, j, mis, rfl, S, a, b, c⟩ hk; exact ⟨m, i, j, mis, rfl, S.keep hk, a, b, c⟩
  · intro E hP hPm hCt
    have hH : Hd (fun _ => True) (A.deeper ev) σ1 := .inl ⟨O'.handled, trivial⟩
    obtain ⟨ti, hmi⟩ := S.fi
    obtain ⟨tj, hmj⟩ := S.fj
    refine TrE.assign (TrE.at hH (Pv.loc S.e1) (Pv.locI hmi) (S.sc _ _ Pl.list hp) hi (by omega) (by omega) hCt ?_) ?_
    · intro hge ea ctx hea
      refine ⟨m, i, j, mis, rfl, S.up hea, hil, hjl, ?_⟩
      rw [← hr, List.drop_eq_nil_of_le hge, sldF_nil1]
    rintro _ _ σ1 ⟨rfl, rfl, e, he, te, rfl⟩
    refine Tr.toE (Tr.store ?_)
    obtain ⟨hilt, hie⟩ := List.getElem?_eq_some_iff.mp he
    have S2 := S.name (x := Str.ofString "e") (v := .int e te) (by decide)
    refine TrE.assign (TrE.at hH (Pv.loc S2.e2) (Pv.locI (t := tj) hmj) (S.sc _ _ Pl.list hq) hj (by omega) (by omega) hCt ?_) ?_
    · intro hge ea ctx hea
      refine ⟨_, i, j, mis, rfl, S2.up hea, hil, hjl, ?_⟩
      rw [← hr, List.drop_eq_nil_of_le hge, sldF_nil2]
    rintro _ _ σ1 ⟨rfl, rfl, a, ha, ta, rfl⟩
    refine Tr.toE (Tr.store ?_)
    obtain ⟨hjlt, hja⟩ := List.getElem?_eq_some_iff.mp ha
    have S3 := S2.name (x := Str.ofString "a") (v := .int a ta) (by decide)
    have hdx : xs.drop i = e :: xs.drop (i + 1) := by rw [List.drop_eq_getElem_cons hilt, hie]
    have hdy : ys.drop j = a :: ys.drop (j + 1) := by rw [List.drop_eq_getElem_cons hjlt, hja]
    rw [hdx, hdy, sldF_cc] at hr
    refine TrE.ite (Tv.lt (Pv.locI (n := e) (t := te) rfl) (Pv.locI rfl)) (fun hb => ?_) (fun hb => ?_)
    · refine TrE.absV fun V2 hV2 => ?_
      have hlt : e < a := of_decide_eq_true hb
      rw [if_pos hlt] at hr
      obtain ⟨ms, hms, hmi2⟩ := S3.fM
      have hml : ms.length = mis.length := hmi2.length
      refine TrE.expr (Tr.toE (Tr.append (V := fun _ fs' σ2 => ∃ v, IsI e v ∧ fs' = _ ∧ σ2 = upd σ1 M (.list (ms ++ [v]))) (Pv.loc S3.e3) (Pv.locI (n := e) (t := te) rfl) hms (by rw [sizeLine_eq]; have := S3.le; omega) (fun v hv => ⟨v, hv, rfl, rfl⟩))) ?_
      rintro _ _ _ ⟨v, ⟨tv, rfl⟩, rfl, rfl⟩
      have S4 : SL σ p q M U (set1 (set1 m (Str.ofString "e") (.int e te)) (Str.ofString "a") (.int a ta)) (upd σ1 M (.list (ms ++ [.int e tv]))) (i + 1) j (mis ++ [e]) → SL σ p q M U (set1 (set1 m (Str.ofString "e") (.int e te)) (Str.ofString "a") (.int a ta)) (upd σ1 M (.list (ms ++ [.int e tv]))) (i + 1) j (mis ++ [e]) := id
      refine TrE.aug (a := (i : Int)) (t := ti) hmi Pv.int ?_
      intro u
      have hsc : Sc σ (upd σ1 M (.list (ms ++ [.int e tv]))) := fun b y pl hy => (upd_ne (by rintro rfl; rw [hM] at hy; cases hy)).trans (S3.sc b y pl hy)
      have S4 : SL σ p q M U (set1 (set1 (set1 m (Str.ofString "e") (.int e te)) (Str.ofString "a") (.int a ta)) (Str.ofString "i") (.int ((i + 1 : Nat) : Int) u)) (upd σ1 M (.list (ms ++ [.int e tv]))) (i + 1) j (mis ++ [e]) :=
        { e1 := S3.e1, e2 := S3.e2, e3 := S3.e3, e4 := S3.e4, fi := ⟨u, rfl⟩, fj := S3.fj, sc := hsc, fM := ⟨_, upd_self .., hmi2.append (.cons _ _ .nil)⟩, fU := by
            obtain ⟨un, h1, h2⟩ := S3.fU
            exact ⟨un, (upd_ne (Ne.symm hMU)).trans h1, h2⟩, le := by have := S3.le; simp; omega }
      have hH2 : Hd (fun _ => True) (A.deeper ev) (upd σ1 M (.list (ms ++ [.int e tv]))) := .inl ⟨O'.handled, trivial⟩
      refine skipW (i := i + 1) (t := u) (te := te) (e := e) hP hH2 S4.e1 rfl rfl (S4.sc _ _ Pl.list hp) hi (by omega) (by omega) (by decide) (by decide) hCt ?_ ?_
      · intro hnil t' ea ctx hea
        refine ⟨_, xs.length, j, mis ++ [e], rfl, (S4.setI (by have := S4.le; omega)).up hea, Nat.le_refl _, hjl, ?_⟩
        rw [List.drop_length, ← hr, hnil, sldF_nil1]; simp
      · intro k2 t' hik hk2 hdk
        refine TrE.nil (hV2 _ _ _ ?_)
        show TrE _ _ _ _ _ _ _ _ _
        refine TrE.nil ?_
        show Tr _ _ _ _ _ _ _ _
        refine Tr.nil (hVw _ _ _ ⟨xs.length + ys.length - k2 - j, by omega, _, k2, j, mis ++ [e], rfl, S4.setI (by have := S4.le; omega), by omega, hjl, rfl, ?_⟩)
        rw [← hr, hdk, hdy]; simp
    · refine TrE.absV fun V2 hV2 => ?_
      have hnlt : ¬ e < a := of_decide_eq_false hb
      rw [if_neg hnlt] at hr
      refine TrE.ite (Tv.gt (Pv.locI (n := e) (t := te) rfl) (Pv.locI rfl)) (fun hb2 => ?_) (fun hb2 => ?_)
      · refine TrE.absV fun V3 hV3 => ?_
        have hlt : a < e := of_decide_eq_true hb2
        rw [if_pos hlt] at hr
        obtain ⟨un, hun, hul⟩ := S3.fU
        refine TrE.expr (Tr.toE (Tr.append (V := fun _ fs' σ2 => ∃ v, IsI a v ∧ fs' = _ ∧ σ2 = upd σ1 U (.list (un ++ [v]))) (Pv.loc S3.e4) (Pv.locI (n := a) (t := ta) rfl) hun (by rw [sizeLine_eq]; omega) (fun v hv => ⟨v, hv, rfl, rfl⟩))) ?_
        rintro _ _ _ ⟨v, ⟨tv, rfl⟩, rfl, rfl⟩
        refine TrE.aug (a := (j : Int)) (t := tj) hmj Pv.int ?_
        intro u
        have hsc : Sc σ (upd σ1 U (.list (un ++ [.int a tv]))) := fun b y pl hy => (upd_ne (by rintro rfl; rw [hUn] at hy; cases hy)).trans (S3.sc b y pl hy)
        have S4 : SL σ p q M U (set1 (set1 (set1 m (Str.ofString "e") (.int e te)) (Str.ofString "a") (.int a ta)) (Str.ofString "j") (.int ((j + 1 : Nat) : Int) u)) (upd σ1 U (.list (un ++ [.int a tv]))) i (j + 1) mis :=
          { e1 := S3.e1, e2 := S3.e2, e3 := S3.e3, e4 := S3.e4, fi := S3.fi, fj := ⟨u, rfl⟩, sc := hsc, fM := by
              obtain ⟨ms, h1, h2⟩ := S3.fM
              exact ⟨ms, (upd_ne hMU).trans h1, h2⟩, fU := ⟨_, upd_self .., by simp; omega⟩, le := S3.le }
        have hH2 : Hd (fun _ => True) (A.deeper ev) (upd σ1 U (.list (un ++ [.int a tv]))) := .inl ⟨O'.handled, trivial⟩
        refine skipW (i := j + 1) (t := u) (te := ta) (e := a) hP hH2 S4.e2 rfl rfl (S4.sc _ _ Pl.list hq) hj (by omega) (by omega) (by decide) (by decide) hCt ?_ ?_
        · intro hnil t' ea ctx hea
          refine ⟨_, i, ys.length, mis, rfl, (S4.setJ (by omega)).up hea, hil, Nat.le_refl _, ?_⟩
          rw [← hr, hnil, sldF_nil2, hdx]
        · intro k2 t' hik hk2 hdk
          refine TrE.nil (hV3 _ _ _ ?_)
          show TrE _ _ _ _ _ _ _ _ _
          refine TrE.nil (hV2 _ _ _ ?_)
          show TrE _ _ _ _ _ _ _ _ _
          refine TrE.nil ?_
          show Tr _ _ _ _ _ _ _ _
          refine Tr.nil (hVw _ _ _ ⟨xs.length + ys.length - i - k2, by omega, _, i, k2, mis, rfl, S4.setJ (by omega), hil, by omega, rfl, ?_⟩)
          rw [← hr, hdk, hdx]
      · refine TrE.absV fun V3 hV3 => ?_
        have hnlt2 : ¬ a < e := of_decide_eq_false hb2
        rw [if_neg hnlt2] at hr
        refine TrE.aug (a := (i : Int)) (t := ti) hmi Pv.int ?_
        intro u
        have S4 := S3.setI (k := i + 1) (t := u) (by have := S3.le; omega)
        refine TrE.tryFin (C := fun _ => True) trivial (X := "IndexError") (L := L) (N := fun fs' σ2 => σ2 = σ1 ∧ ∃ k2 t', i + 1 ≤ k2 ∧ k2 < xs.length ∧ xs.drop k2 = (xs.drop (i + 1)).dropWhile (· == e) ∧ fs' = (ev, set1 (set1 (set1 m (Str.ofString "e") (.int e te)) (Str.ofString "a") (.int a ta)) (Str.ofString "i") (.int k2 t')) :: fs)
          (HB := fun fs' σ2 => ∃ m2, fs' = (ev, m2) :: fs ∧ SL σ p q M U m2 σ2 xs.length j mis ∧ mis = sldF xs ys ∧ m2 (Str.ofString "a") = some (.int a ta))
          (HF := fun ea fs' σ2 => ∃ m i j mis, fs' = (ev, m) :: fs ∧ SL σ p q M U m σ2 i j mis ∧ i ≤ xs.length ∧ j ≤ ys.length ∧ mis ++ xs.drop i = sldF xs ys) rfl (fun m => O'.frames) hP hCt hPm ?_ ?_ ?_ ?_ ?_ ?_
        · rintro _ _ ⟨m2, rfl, _⟩; exact ⟨m2, rfl⟩
        · rintro _ _ _ ⟨m2, rfl, S5, h1, h2⟩ hk; exact ⟨m2, rfl, S5.keep hk, h1, h2⟩
        · rintro ea _ _ _ ⟨m, i, j, mis, rfl, S5, a1, b1, c1⟩ hk; exact ⟨m, i, j, mis, rfl, S5.keep fun b y h1 _ e => hk b y h1 e, a1, b1, c1⟩
        · intro E1 hP1 hC1
          refine skipW (i := i + 1) (t := u) (te := te) (e := e) (C := (· = .none)) hP1 (.inl ⟨O'.handled, rfl⟩) S4.e1 rfl rfl (S4.sc _ _ Pl.list hp) hi (by omega) (by omega) (by decide) (by decide) hC1 ?_ ?_
          · intro hnil t' ea ctx hea
            refine ⟨_, rfl, (S4.setI (by have := S4.le; omega)).up hea, ?_, rfl⟩
            rw [← hr, hnil, sldF_nil1]; simp
          · intro k2 t' hik hk2 hdk
            refine TrE.nil ⟨rfl, rfl, k2, t', hik, hk2, hdk, ?_⟩
            rw [set1_set1]
        · rintro _ _ ⟨rfl, k2, t2, hk1, hk2, hdk, rfl⟩
          have S5 := S3.setI (k := k2) (t := t2) (by have := S3.le; omega)
          refine TrE.aug (a := (j : Int)) (t := tj) hmj Pv.int ?_
          intro u2
          have S6 := S5.setJ (k := j + 1) (t := u2) (by omega)
          refine skipW (i := j + 1) (t := u2) (te := ta) (e := a) hP hH S6.e2 rfl rfl (S6.sc _ _ Pl.list hq) hj (by omega) (by omega) (by decide) (by decide) hCt ?_ ?_
          · intro hnil t' ea ctx hea
            refine ⟨_, k2, ys.length, mis, rfl, (S6.setJ (by omega)).up hea, by omega, Nat.le_refl _, ?_⟩
            rw [← hr, hnil, sldF_nil2, hdk]
          · intro k3 t' hik hk3 hdk3
            refine TrE.nil ?_
            show TrE _ _ _ _ _ _ _ _ _
            refine TrE.nil (hV3 _ _ _ ?_)
            show TrE _ _ _ _ _ _ _ _ _
            refine TrE.nil (hV2 _ _ _ ?_)
            show TrE _ _ _ _ _ _ _ _ _
            refine TrE.nil ?_
            show Tr _ _ _ _ _ _ _ _
            refine Tr.nil (hVw _ _ _ ⟨xs.length + ys.length - k2 - k3, by omega, _, k2, k3, mis, rfl, S6.setJ (by omega), by omega, by omega, rfl, ?_⟩)
            rw [← hr, hdk, hdk3]
        · rintro ea _ σ5 ⟨m2, rfl, S5, hmis, hma⟩ hN E2 hP2 hC2
          obtain ⟨tj5, hmj5⟩ := S5.fj
          refine TrE.aug hmj5 Pv.int ?_
          intro u2
          have S6 := S5.setJ (k := j + 1) (t := u2) (by omega)
          have hH5 : Hd (fun _ => True) ((A.deeper ev).mark (some (.ref ea))) σ5 := by
            obtain ⟨⟨c, hc⟩, tb, n1, n2⟩ := hN
            subst hc
            exact .inr ⟨ea, _, _, rfl, n1, trivial⟩
          refine skipW (i := j + 1) (t := u2) (te := ta) (e := a) hP2 hH5 S6.e2 ((set1_ne (by decide)).trans hma) rfl (S6.sc _ _ Pl.list hq) hj (by omega) (by omega) (by decide) (by decide) hC2 ?_ ?_
          · intro hnil t' ea' ctx hea
            refine ⟨_, xs.length, ys.length, mis, rfl, (S6.setJ (by omega)).up hea, Nat.le_refl _, Nat.le_refl _, ?_⟩
            rw [List.drop_length, List.append_nil, hmis]
          · intro k3 t' hik hk3 hdk3
            refine TrE.nil ⟨rfl, ⟨_, xs.length, k3, mis, rfl, S6.setJ (by omega), Nat.le_refl _, by omega, ?_⟩, hN⟩
            rw [List.drop_length, List.append_nil, hmis]
  · rintro ea _ σ2 ⟨m2, i2, j2, mis2, rfl, S2, hi2, hj2, hr2⟩
    obtain ⟨ms, hms, hmi⟩ := S2.fM
    obtain ⟨un, hun, hul⟩ := S2.fU
    obtain ⟨ti, hmi2⟩ := S2.fi
    obtain ⟨tj, hmj2⟩ := S2.fj
    have hml : ms.length = mis2.length := hmi.length
    have hle := S2.le
    refine Tr.expr (Tr.extend (V := fun _ fs' σ3 => fs' = (ev, m2) :: fs ∧ ∃ ms', IntsAre ms' (sldF xs ys) ∧ σ3 M = some (.list ms') ∧ σ3 U = some (.list un) ∧ Sc σ σ3) (W := fun v fs' σ3 => ∃ b, v = .ref b ∧ fs' = (ev, m2) :: fs ∧ σ2 b = none ∧ σ3 = upd σ2 b (.list (vs.drop i2))) (Pv.loc S2.e3) ?_ ?_ hms) ?_
    · refine Tr.sliceG (Pv.loc S2.e1) (S2.sc _ _ Pl.list hp) (Part.i (Pv.locI hmi2)) Part.no Part.no (by simp) (by rw [sizeLine_eq]; omega) ?_
      intro b hb
      refine ⟨b, rfl, rfl, hb, ?_⟩
      rw [slicePick_from']
    · rintro _ _ _ ⟨b, rfl, rfl, hb, rfl⟩
      have hMb : M ≠ b := by rintro rfl; rw [hb] at hms; cases hms
      have hUb : U ≠ b := by rintro rfl; rw [hb] at hun; cases hun
      refine ⟨b, ms, vs.drop i2, rfl, hMb, (upd_ne hMb).trans hms, upd_self .., by simp; omega, rfl, ms ++ vs.drop i2, ?_, upd_self .., ?_, ?_⟩
      · rw [← hr2]; exact hmi.append (hi.drop i2)
      · rw [upd_ne (Ne.symm hMU), upd_ne hUb]; exact hun
      · intro c y pl hy
        have := S2.sc c y pl hy
        rw [upd_ne (by rintro rfl; rw [hM] at hy; cases hy), upd_ne (by rintro rfl; rw [hb] at this; cases this)]; exact this
    rintro _ _ σ3 ⟨rfl, ms', hms', h3M, h3U, hsc⟩
    refine Tr.expr (Tr.extend (V := fun _ fs' σ4 => fs' = (ev, m2) :: fs ∧ σ4 M = some (.list ms') ∧ Sc σ σ4) (W := fun v fs' σ4 => ∃ b, v = .ref b ∧ fs' = (ev, m2) :: fs ∧ σ3 b = none ∧ σ4 = upd σ3 b (.list (us.drop j2))) (Pv.loc S2.e4) ?_ ?_ h3U) ?_
    · refine Tr.sliceG (Pv.loc S2.e2) (hsc _ _ Pl.list hq) (Part.i (Pv.locI hmj2)) Part.no Part.no (by simp) (by rw [sizeLine_eq]; omega) ?_
      intro b hb
      refine ⟨b, rfl, rfl, hb, ?_⟩
      rw [slicePick_from']
    · rintro _ _ _ ⟨b, rfl, rfl, hb, rfl⟩
      have hMb : M ≠ b := by rintro rfl; rw [hb] at h3M; cases h3M
      have hUb : U ≠ b := by rintro rfl; rw [hb] at h3U; cases h3U
      refine ⟨b, un, us.drop j2, rfl, hUb, (upd_ne hUb).trans h3U, upd_self .., by simp; omega, rfl, ?_, ?_⟩
      · rw [upd_ne hMU, upd_ne hMb]; exact h3M
      · intro c y pl hy
        have := hsc c y pl hy
        rw [upd_ne (by rintro rfl; rw [hUn] at hy; cases hy), upd_ne (by rintro rfl; rw [hb] at this; cases this)]; exact this
    rintro _ _ σ4 ⟨rfl, h4M, hsc4⟩
    refine Tr.brk (hVw _ _ _ ?_)
    show Tr _ _ _ _ _ _ _ _
    refine Tr.ret (W := fun v fs' σ5 => ∃ t, v = .ref t ∧ fs' = (ev, m2) :: fs ∧ σ4 t = none ∧ σ5 = upd σ4 t (.tup [.ref M, .ref U])) ?_ ?_
    · refine Tr.tuple (W := Pu ((ev, m2) :: fs) σ4 (· = [.ref M, .ref U])) ?_ ?_
      · refine Tr.argsC (Pv.loc (v := .ref M) S2.e3) ?_
        first | refine puE ?_ | rintro _ _ _ ⟨rfl, rfl, rfl⟩
        refine Tr.argsC (Pv.loc (v := .ref U) S2.e4) ?_
        first | refine puE ?_ | rintro _ _ _ ⟨rfl, rfl, rfl⟩
        exact Tr.args0 ⟨rfl, rfl, rfl⟩
      · first | refine puE ?_ | rintro _ _ _ ⟨rfl, rfl, rfl⟩
        exact ⟨by simp [sizeLine_eq], fun t ht => ⟨t, rfl, rfl, ht, rfl⟩⟩
    · rintro _ _ _ ⟨t, rfl, rfl, ht, rfl⟩
      refine hV _ _ _ ⟨_, rfl, h t M U ms' _ (hsc4.new ht) (upd_self ..) ?_ hms'⟩
      exact (upd_ne (by rintro rfl; rw [ht] at h4M; cases h4M)).trans h4M
end
end Mine
end
section
open PySem PySem.W PyProof.Rows
namespace Mine
/-! plain: the least number that is lacking -/
def ups (n : Nat) : List Int := (List.range n).map fun (i : Nat) => (i : Int)
def mexL (xs : List Int) : List Int := (ups (xs.length + 1)).filter fun n => !(xs.any (· == n))
def mexF (xs : List Int) : Int := (mexL xs).headD 0
theorem sub_len {α : Type} [BEq α] [LawfulBEq α] : ∀ (l l' : List α), l.Nodup → (∀ x ∈ l, x ∈ l') → l.length ≤ l'.length
  | [], _, _, _ => Nat.zero_le _
  | a :: l, l', hn, hs => by
    have ha := hs a (.head _)
    have h1 := (List.nodup_cons.mp hn).1
    have := sub_len l (l'.erase a) (List.nodup_cons.mp hn).2 fun x hx => (List.mem_erase_of_ne (by rintro rfl; exact h1 hx)).mpr (hs x (.tail _ hx))
    rw [List.length_erase_of_mem ha] at this
    have hpos : 0 < l'.length := List.length_pos_of_mem ha
    simp; omega
theorem ups_nodup (n : Nat) : (ups n).Nodup := by
  unfold ups
  rw [List.nodup_iff_pairwise_ne, List.pairwise_map]
  exact (List.nodup_iff_pairwise_ne.mp List.nodup_range).imp fun h => by omega
theorem mem_ups {n : Nat} {x : Int} : x ∈ ups n ↔ 0 ≤ x ∧ x < n := by
  unfold ups
  simp only [List.mem_map, List.mem_range]
  constructor
  · rintro ⟨i, hi, rfl⟩; omega
  · rintro ⟨h0, h1⟩; exact ⟨x.toNat, by omega, by omega⟩
theorem ups_len (n : Nat) : (ups n).length = n := by simp [ups]
theorem mexL_ne (xs : List Int) : mexL xs ≠ [] := by
  intro h
  have hall : ∀ x ∈ ups (xs.length + 1), x ∈ xs := by
    intro x hx
    have := List.filter_eq_nil_iff.mp h x hx
    simpa using this
  have := sub_len _ _ (ups_nodup _) hall
  rw [ups_len] at this
  omega
/-- the least number that is lacking, told by what it is -/
def IsMex (xs : List Int) (n : Int) : Prop := 0 ≤ n ∧ n ∉ xs ∧ ∀ k, 0 ≤ k → k < n → k ∈ xs
theorem IsMex.uniq {xs : List Int} {a b : Int} (ha : IsMex xs a) (hb : IsMex xs b) : a = b := by
  obtain ⟨a0, a1, a2⟩ := ha
  obtain ⟨b0, b1, b2⟩ := hb
  rcases Int.lt_trichotomy a b with h | h | h
  · exact absurd (b2 a a0 h) a1
  · exact h
  · exact absurd (a2 b b0 h) b1
theorem filter_head {p : Int → Bool} : ∀ {l : List Int} {x : Int} {r : List Int}, l.filter p = x :: r → ∃ l1 l2, l = l1 ++ x :: l2 ∧ p x = true ∧ ∀ y ∈ l1, p y = false
  | [], x, r, h => by cases h
  | a :: l, x, r, h => by
    rw [List.filter_cons] at h
    cases hp : p a with
    | true => rw [hp, if_pos rfl] at h; injection h with h1 h2; subst h1; exact ⟨[], l, rfl, hp, by simp⟩
    | false =>
      rw [hp, if_neg (by decide)] at h
      obtain ⟨l1, l2, e, h1, h2⟩ := filter_head h
      exact ⟨a :: l1, l2, by rw [e]; rfl, h1, by intro y hy; rcases List.mem_cons.mp hy with rfl | hy; exact hp; exact h2 y hy⟩
theorem ups_split {n : Nat} {l1 l2 : List Int} {x : Int} (h : ups n = l1 ++ x :: l2) : ∀ k, 0 ≤ k → k < x → k ∈ l1 := by
  intro k h0 hk
  have hx : x ∈ ups n := by rw [h]; simp
  have hkm : k ∈ ups n := mem_ups.mpr ⟨h0, by have := (mem_ups.mp hx).2; omega⟩
  rw [h] at hkm
  rcases List.mem_append.mp hkm with h1 | h1
  · exact h1
  · exfalso
    have hp : (ups n).Pairwise (· < ·) := by
      unfold ups
      rw [List.pairwise_map]
      exact List.pairwise_lt_range.imp fun h => by omega
    rw [h] at hp
    have hp2 := (List.pairwise_append.mp hp).2.1
    rcases List.mem_cons.mp h1 with rfl | h1
    · omega
    · have := (List.pairwise_cons.mp hp2).1 k h1; omega
theorem mexF_is (xs : List Int) : IsMex xs (mexF xs) := by
  unfold mexF
  cases h : mexL xs with
  | nil => exact absurd h (mexL_ne xs)
  | cons x r =>
    obtain ⟨l1, l2, e, h1, h2⟩ := filter_head h
    refine ⟨?_, ?_, fun k h0 hk => ?_⟩
    · have : x ∈ ups (xs.length + 1) := by rw [e]; simp
      exact (mem_ups.mp this).1
    · intro hx
      have : xs.any (· == x) = true := List.any_eq_true.mpr ⟨x, hx, by simp⟩
      rw [this] at h1; cases h1
    · have := h2 k (ups_split e k h0 hk)
      simpa using this
end Mine
end
section
open PySem PySem.W PyProof.Rows
namespace Mine
theorem Sub.none {σ σ' : Sto} {a : Addr} (h : Sub σ σ') (hn : σ' a = none) : σ a = none := by
  cases q : σ a with
  | none => rfl
  | some y => rw [h a y q] at hn; cases hn
theorem ints_take {vs : List Value} {xs : List Int} (h : IntsAre vs xs) {i : Nat} {u : Value} (hu : vs[i]? = some u) : ∃ n, xs[i]? = some n ∧ IsI n u := by
  induction h generalizing i with
  | nil => simp at hu
  | cons n t h ih =>
    cases i with
    | zero => simp at hu; exact ⟨n, rfl, t, hu.symm⟩
    | succ i => simp at hu ⊢; exact ih hu
theorem take_snoc {xs : List Int} {i : Nat} {n : Int} (h : xs[i]? = some n) : xs.take (i + 1) = xs.take i ++ [n] := by rw [List.take_add_one, h]; rfl

/-! _law_reached -/
def reachedF (ms : List Int) (p : Int) : List Int := (ms.map (Builtin.bitXor p)).filter (fun q => decide (q < p))
section
variable {pr : Program} {w : World} {s₀ : Shared} {A : Around} {fs : Fs} {σ : Sto} {mg mb : NsMap}
theorem reachedF_snoc (ms : List Int) (n p : Int) : reachedF (ms ++ [n]) p = reachedF ms p ++ (if decide (Builtin.bitXor p n < p) then [Builtin.bitXor p n] else []) := by
  unfold reachedF
  rw [List.map_append, List.filter_append]
  congr 1
  simp only [List.map_cons, List.map_nil, List.filter_cons, List.filter_nil]

set_option maxHeartbeats 1000000 in
theorem reached_spec (G : Gd w s₀ mg mb) {k : Nat} (O : Ok A fs (k + 1)) {a : Addr} {vs : List Value} {ms : List Int} {p : Int} {t : Tok} {V : Value → Fs → Sto → Prop}
    (hs : σ a = some (.list vs)) (hi : IntsAre vs ms) (hz : ms.length ≤ 2 ^ 20) (h : ∀ D ys, σ D = none → IntsAre ys (reachedF ms p) → V (.ref D) fs (upd σ D (.list ys))) :
    Tr pr w s₀ A fs σ (call (.ref 198) [.ref a, .int p t]) V := by
  refine Tr.fn (binds := [(Str.ofString "moves", .ref a), (Str.ofString "position", .int p t)]) G.B G.X rfl rfl O rfl rfl rfl rfl rfl ?_
  intro L σ' hS O' hC
  obtain ⟨hc0, hc1⟩ := hC (Str.ofString "position") (L + 1) rfl
  replace hc1 : σ' (L + 1) = some (.cell (some (.int p t))) := hc1
  have hlen : vs.length = ms.length := hi.length
  refine Tr.forget ?_
  refine Tr.ret (W := fun v fs' σ2 => ∃ D ys m, v = .ref D ∧ fs' = (O'.env, m) :: fs ∧ σ' D = none ∧ IntsAre ys (reachedF ms p) ∧ σ2 = upd σ' D (.list ys)) (Tr.comp (W := fun v fs' σ2 => ∃ m, v = .ref a ∧ fs' = (O'.env, m) :: fs ∧ σ2 = σ') ?_ ?_) ?_
  · refine (Pv.loc (v := .ref a) rfl).mono ?_
    first | refine puE ?_ | rintro _ _ _ ⟨rfl, rfl, rfl⟩
    exact ⟨_, rfl, rfl, rfl⟩
  · rintro _ _ _ ⟨m, rfl, rfl, rfl⟩
    refine ⟨vs.length, _, fun i ys => IntsAre ys (reachedF (ms.take i) p), Src.list O'.handled (hS.at hs), by omega, .nil, ?_, ?_⟩
    · intro C σ1 i u ys m hsub hC1 hP hin hR hm
      obtain ⟨n, hn, tu, rfl⟩ := ints_take hi hP
      have hcell := hsub.at hc1
      have e := reachedF_snoc (ms.take i) n p
      rw [← take_snoc hn] at e
      refine ⟨decide (Builtin.bitXor p n < p), Ts.one (Tv.lt (Pv.xor ((Pv.cell hcell).mono fun _ _ _ ⟨a, b, c⟩ => ⟨a, b, t, c⟩) ((Pv.ns hC1 hm).mono fun _ _ _ ⟨a, b, c⟩ => ⟨a, b, tu, c⟩)) ((Pv.cell hcell).mono fun _ _ _ ⟨a, b, c⟩ => ⟨a, b, t, c⟩)), fun hb => ?_, fun hb => ?_⟩
      · show IntsAre _ _
        rw [e, hb]; simpa using hR
      · refine (Pv.xor ((Pv.cell hcell).mono fun _ _ _ ⟨a, b, c⟩ => ⟨a, b, t, c⟩) ((Pv.ns hC1 hm).mono fun _ _ _ ⟨a, b, c⟩ => ⟨a, b, tu, c⟩)).mono ?_
        first | refine puI fun t2 => ?_ | rintro _ _ _ ⟨rfl, rfl, t2, rfl⟩
        refine ⟨rfl, rfl, ?_⟩
        show IntsAre _ _
        rw [e, hb]
        exact hR.append (.cons _ _ .nil)
    · intro D ys hD hR
      refine ⟨D, ys, m, rfl, rfl, hD, ?_, rfl⟩
      rw [List.take_of_length_le (by omega)] at hR
      exact hR
  · rintro _ _ _ ⟨D, ys, m, rfl, rfl, hD, hys, rfl⟩
    exact ⟨_, Sub.both hS, _, rfl, h D ys (hS.none hD) hys⟩
end
end Mine
end
section
open PySem PySem.W PyProof.Rows
namespace Mine
/-! _law_coin_by_coin -/
def inRow (z : Int) (m : Int) : Bool := decide (z ≤ m) && decide (m < 2 * z)
def metF (moves ws : List Int) : List Int := (moves.filter (inRow ws.length)).map fun (m : Int) => ws.getD (m - (ws.length : Int)).toNat 0
def cbcStep (moves ws : List Int) : List Int := ws ++ ws.map fun x => Builtin.bitXor x (mexF (metF moves ws))
def cbcN (moves : List Int) : Nat → List Int
  | 0 => [0]
  | n + 1 => cbcStep moves (cbcN moves n)
theorem cbcN_len (moves : List Int) : ∀ n, (cbcN moves n).length = 2 ^ n
  | 0 => rfl
  | n + 1 => by rw [cbcN, cbcStep, List.length_append, List.length_map, cbcN_len moves n]; omega
theorem metF_snoc (ms ws : List Int) (n : Int) : metF (ms ++ [n]) ws = metF ms ws ++ (if inRow ws.length n then [ws.getD (n - (ws.length : Int)).toNat 0] else []) := by
  unfold metF
  rw [List.filter_append, List.map_append]
  congr 1
  rw [List.filter_cons]
  split <;> rfl
theorem mexL_snocF (ms : List Int) (l : List Int) (n : Int) : (l ++ [n]).filter (fun n => !(ms.any (· == n))) = l.filter (fun n => !(ms.any (· == n))) ++ (if !(ms.any (· == n)) then [n] else []) := by
  rw [List.filter_append, List.filter_cons]; rfl
theorem ups_take (n i : Nat) (h : i < n) : (ups n).take (i + 1) = (ups n).take i ++ [(i : Int)] := by
  refine take_snoc ?_
  unfold ups
  rw [List.getElem?_map, List.getElem?_range h]; rfl
section
variable {pr : Program} {w : World} {s₀ : Shared} {A : Around} {fs : Fs} {σ : Sto} {mg mb : NsMap} {env : Env} {x : Str} {pos : Pos}
theorem Pv.cellI {c : Addr} {n : Int} {t : Tok} (hs : σ c = some (.cell (some (.int n t)))) (hk : env.scope.kind = .function := by rfl) (hl : env.kindOf x = some .cell := by rfl) (hc : env.cells.lookup x = some c := by rfl) (hd : (x == ("__debug__" : Str)) = false := by decide) :
    Pv pr w s₀ A env fs σ (.Name x pos) (IsI n) := (Pv.cell hs hk hl hc hd).mono fun _ _ _ ⟨a, b, c⟩ => ⟨a, b, t, c⟩
theorem Pv.nsI {m : NsMap} {n : Int} {v : Value} (hs : σ env.locals = some (.ns m)) (hv : IsI n v) (hm : m x = some v) (hk : env.scope.kind = .function := by rfl) (hl : env.kindOf x = some .local := by rfl) (hd : (x == ("__debug__" : Str)) = false := by decide) : Pv pr w s₀ A env fs σ (.Name x pos) (IsI n) :=
  (Pv.ns hs hm hk hl hd).mono fun _ _ _ ⟨a, b, c⟩ => ⟨a, b, c ▸ hv⟩

theorem ne_none {σ : Sto} {a b : Addr} {x : AO} (h1 : σ a = some x) (h2 : σ b = none) : a ≠ b := by rintro rfl; rw [h1] at h2; cases h2
/-- the store of _law_coin_by_coin -/
structure KC (σ : Sto) (cw cs cm cg I D : Addr) (zi : AO) (ys : List Value) (σ1 : Sto) : Prop where
  sub : Sub σ σ1
  w : σ1 cw = some (.cell (some (.ref D)))
  d : σ1 D = some (.list ys)
  hI : σ1 I = some zi
  s : ∃ x, σ1 cs = some (.cell x)
  m : ∃ x, σ1 cm = some (.cell x)
  g : ∃ x, σ1 cg = some (.cell x)
theorem KC.new {cw cs cm cg I D E : Addr} {zi : AO} {ys : List Value} {σ1 : Sto} {x : AO} (K : KC σ cw cs cm cg I D zi ys σ1) (h : σ1 E = none) : KC σ cw cs cm cg I D zi ys (upd σ1 E x) := by
  obtain ⟨_, h4⟩ := K.s
  obtain ⟨_, h5⟩ := K.m
  obtain ⟨_, h6⟩ := K.g
  exact ⟨K.sub.upd (K.sub.none h), (upd_ne (ne_none K.w h)).trans K.w, (upd_ne (ne_none K.d h)).trans K.d, (upd_ne (ne_none K.hI h)).trans K.hI, ⟨_, (upd_ne (ne_none h4 h)).trans h4⟩, ⟨_, (upd_ne (ne_none h5 h)).trans h5⟩, ⟨_, (upd_ne (ne_none h6 h)).trans h6⟩⟩
/-- a change at an address apart -/
theorem KC.put {cw cs cm cg I D c : Addr} {zi : AO} {ys : List Value} {σ1 : Sto} {x : Option Value} (K : KC σ cw cs cm cg I D zi ys σ1) (hσ : σ c = none) (hz : ∀ v, zi ≠ .cell v) (hc : ∃ v, σ1 c = some (.cell v)) (h1 : cw ≠ c) : KC σ cw cs cm cg I D zi ys (upd σ1 c (.cell x)) := by
  obtain ⟨v, hc⟩ := hc
  have look : ∀ c', (∃ x, σ1 c' = some (.cell x)) → ∃ x', upd σ1 c (.cell x) c' = some (.cell x') := by
    rintro c' ⟨y, hy⟩
    by_cases e : c' = c
    · subst e; exact ⟨x, upd_self ..⟩
    · exact ⟨y, (upd_ne e).trans hy⟩
  refine ⟨K.sub.upd hσ, (upd_ne h1).trans K.w, (upd_ne ?_).trans K.d, (upd_ne ?_).trans K.hI, look _ K.s, look _ K.m, look _ K.g⟩
  · rintro rfl; rw [K.d] at hc; cases hc
  · rintro rfl; rw [K.hI] at hc; cases hc; exact hz _ rfl
theorem KC.it {cw cs cm cg I D : Addr} {zi zj : AO} {ys : List Value} {σ1 : Sto} (K : KC σ cw cs cm cg I D zi ys σ1) (hσ : σ I = none) (hz : ∀ v, zi ≠ .cell v) (hz2 : ∀ l, zi ≠ .list l) : KC σ cw cs cm cg I D zj ys (upd σ1 I zj) := by
  obtain ⟨_, h4⟩ := K.s
  obtain ⟨_, h5⟩ := K.m
  obtain ⟨_, h6⟩ := K.g
  have ne : ∀ c v, σ1 c = some (.cell v) → c ≠ I := fun c v hc => by rintro rfl; rw [K.hI] at hc; cases hc; exact hz _ rfl
  refine ⟨K.sub.upd hσ, (upd_ne (ne _ _ K.w)).trans K.w, (upd_ne ?_).trans K.d, upd_self .., ⟨_, (upd_ne (ne _ _ h4)).trans h4⟩, ⟨_, (upd_ne (ne _ _ h5)).trans h5⟩, ⟨_, (upd_ne (ne _ _ h6)).trans h6⟩⟩
  rintro rfl; have := K.d; rw [K.hI] at this; cases this; exact hz2 _ rfl

theorem KC.setW {cw cs cm cg I D E : Addr} {zi : AO} {ys ys' : List Value} {σ1 : Sto} (K : KC σ cw cs cm cg I D zi ys σ1) (hσ : σ cw = none) (hz : ∀ v, zi ≠ .cell v) (hE : σ1 E = some (.list ys')) : KC σ cw cs cm cg I E zi ys' (upd σ1 cw (.cell (some (.ref E)))) := by
  have look : ∀ c', (∃ x, σ1 c' = some (.cell x)) → ∃ x', upd σ1 cw (.cell (some (.ref E))) c' = some (.cell x') := by
    rintro c' ⟨y, hy⟩
    by_cases e : c' = cw
    · subst e; exact ⟨_, upd_self ..⟩
    · exact ⟨y, (upd_ne e).trans hy⟩
  have hc := K.w
  refine ⟨K.sub.upd hσ, upd_self .., (upd_ne ?_).trans hE, (upd_ne ?_).trans K.hI, look _ K.s, look _ K.m, look _ K.g⟩
  · rintro rfl; rw [hE] at hc; cases hc
  · rintro rfl; rw [K.hI] at hc; cases hc; exact hz _ rfl
theorem map_snoc {f : Int → Int} (l : List Int) (n : Int) : (l ++ [n]).map f = l.map f ++ [f n] := by simp

set_option maxHeartbeats 4000000 in
theorem coin_spec (G : Gd w s₀ mg mb) {k : Nat} (O : Ok A fs (k + 1)) {a : Addr} {vs : List Value} {ms : List Int} {V : Value → Fs → Sto → Prop}
    (hs : σ a = some (.list vs)) (hi : IntsAre vs ms) (hz : ms.length ≤ 2 ^ 10) (h : ∀ D ys, σ D = none → IntsAre ys (cbcN ms 4) → V (.ref D) fs (upd σ D (.list ys))) :
    Tr pr w s₀ A fs σ (call (.ref 186) [.ref a]) V := by
  refine Tr.fn (binds := [(Str.ofString "moves", .ref a)]) G.B G.X rfl rfl O rfl rfl rfl rfl rfl ?_
  intro L σ' hS O' hC
  let ev : Env := O'.env
  obtain ⟨hw0, hw1⟩ := hC (Str.ofString "worths") _ rfl
  obtain ⟨hs0, hs1⟩ := hC (Str.ofString "size") _ rfl
  obtain ⟨hm0, hm1⟩ := hC (Str.ofString "met") _ rfl
  obtain ⟨hg0, hg1⟩ := hC (Str.ofString "single") _ rfl
  replace hw0 : σ (L + 1) = none := hw0
  replace hs0 : σ (L + 1 + 1) = none := hs0
  replace hm0 : σ (L + 1 + 1 + 1) = none := hm0
  replace hg0 : σ (L + 1 + 1 + 1 + 1) = none := hg0
  replace hw1 : σ' (L + 1) = some (.cell none) := hw1
  replace hs1 : σ' (L + 1 + 1) = some (.cell none) := hs1
  replace hm1 : σ' (L + 1 + 1 + 1) = some (.cell none) := hm1
  replace hg1 : σ' (L + 1 + 1 + 1 + 1) = some (.cell none) := hg1
  have lt1 : ∀ n : Addr, n ≠ n + 1 := fun n => Nat.ne_of_lt (Nat.lt_succ_self n)
  have lt2 : ∀ n : Addr, n ≠ n + 1 + 1 := fun n => Nat.ne_of_lt (Nat.lt_succ_of_lt (Nat.lt_succ_self n))
  have lt3 : ∀ n : Addr, n ≠ n + 1 + 1 + 1 := fun n => Nat.ne_of_lt (Nat.lt_succ_of_lt (Nat.lt_succ_of_lt (Nat.lt_succ_self n)))
  have d1 := lt1 (L + 1)
  have d2 := lt2 (L + 1)
  have d3 := lt3 (L + 1)
  have d4 := lt1 (L + 1 + 1)
  have d5 := lt2 (L + 1 + 1)
  have d6 := lt1 (L + 1 + 1 + 1)
  have hcl : ∀ n, (ev).cells.lookup n = (fenv _ _ _ L 186).cells.lookup n := fun n => rfl
  generalize hcw : L + 1 = cw at *
  generalize hcs : cw + 1 = cs at *
  generalize hcm : cs + 1 = cm at *
  generalize hcg : cm + 1 = cg at *
  have lw : ev.cells.lookup (Str.ofString "worths") = some cw := by rw [← hcw]; rfl
  have ls : ev.cells.lookup (Str.ofString "size") = some cs := by rw [← hcs, ← hcw]; rfl
  have lm : ev.cells.lookup (Str.ofString "met") = some cm := by rw [← hcm, ← hcs, ← hcw]; rfl
  have lg : ev.cells.lookup (Str.ofString "single") = some cg := by rw [← hcg, ← hcm, ← hcs, ← hcw]; rfl
  have hlen : vs.length = ms.length := hi.length
  refine Tr.forget ?_
  refine Tr.absV fun Vf hV => ?_
  -- worths = [0]
  refine Tr.assign (W := fun v fs' σ1 => ∃ D t m, v = .ref D ∧ fs' = (ev, m) :: fs ∧ m (Str.ofString "moves") = some (.ref a) ∧ σ' D = none ∧ σ1 = upd σ' D (.list [.int 0 t])) ?_ ?_
  · refine Tr.list (W := fun us fs' σ1 => ∃ t m, us = [.int 0 t] ∧ fs' = (ev, m) :: fs ∧ m (Str.ofString "moves") = some (.ref a) ∧ σ1 = σ') (Tr.argsC Pv.int ?_) ?_
    · first | refine puI fun t => ?_ | rintro _ _ _ ⟨rfl, rfl, t, rfl⟩
      exact Tr.args0 ⟨t, _, rfl, rfl, rfl, rfl⟩
    · rintro _ _ _ ⟨t, m, rfl, rfl, m1, rfl⟩
      exact ⟨by simp [sizeLine_eq], fun D hD => ⟨D, t, m, rfl, rfl, m1, hD, rfl⟩⟩
  rintro _ _ _ ⟨D, t, m, rfl, rfl, m1, hD, rfl⟩
  refine Tr.storeCell (c := cw) (v₀ := none) ((upd_ne (ne_none hw1 hD)).trans hw1) ?_ rfl rfl lw
  have K0 : KC σ cw cs cm cg a D (.list vs) [.int 0 t] (upd (upd σ' D (.list [.int 0 t])) cw (.cell (some (.ref D)))) := by
    refine ⟨?_, upd_self .., (upd_ne ?_).trans (upd_self ..), ?_, ?_, ?_, ?_⟩
    · exact (hS.upd (hS.none hD)).upd hw0
    · exact (ne_none hw1 hD).symm
    · rw [upd_ne (ne_none hs hw0), upd_ne (ne_none hs (hS.none hD))]; exact hS.at hs
    · exact ⟨none, by rw [upd_ne d1.symm, upd_ne (ne_none hs1 hD)]; exact hs1⟩
    · exact ⟨none, by rw [upd_ne d2.symm, upd_ne (ne_none hm1 hD)]; exact hm1⟩
    · exact ⟨none, by rw [upd_ne d3.symm, upd_ne (ne_none hg1 hD)]; exact hg1⟩
  generalize hσ2 : upd (upd σ' D (.list [.int 0 t])) cw (.cell (some (.ref D))) = σ2 at K0
  clear hσ2
  -- the loop
  refine Tr.forZ (W := fun v fs' σ3 => ∃ R u2 u3 u4, v = .ref R ∧ fs' = (ev, m) :: fs ∧ σ2 R = none ∧ σ3 = upd σ2 R (.obj (rangeO 0 (4 : Nat) 1 u2 u3 u4))) ?_ ?_
  · refine Tr.pcall1 (Pv.b G rfl rfl) (.inr (.inl ⟨_, rfl⟩)) Pv.int ?_
    first | refine isE fun tt => ?_ | rintro _ ⟨tt, rfl⟩
    exact Tr.range1 fun R u v hR => ⟨R, _, _, _, rfl, rfl, hR, rfl⟩
  rintro _ _ _ ⟨R, u2, u3, u4, rfl, rfl, hR, rfl⟩
  have K1 := K0.new (x := .obj (rangeO 0 (4 : Nat) 1 u2 u3 u4)) hR
  refine ⟨4, _, _, _, Sz.range O'.handled (upd_self ..) (by decide), fun I hI => ?_⟩
  have hσI : σ I = none := K1.sub.none hI
  refine ⟨fun i fs1 σ1 => ∃ m D ys, fs1 = (ev, m) :: fs ∧ m (Str.ofString "moves") = some (.ref a) ∧ IntsAre ys (cbcN ms i) ∧ σ D = none ∧ KC σ cw cs cm cg I D (.obj (rangeIterO ((0 : Int) + (i : Nat) * 1) (((4 : Nat) : Int) - (i : Nat)) 1)) ys σ1, ?_, ?_, ?_, ?_⟩
  · refine ⟨m, D, [.int 0 t], rfl, m1, .cons _ _ .nil, hS.none hD, ?_⟩
    have K2 := K1.new (x := .obj (rangeIterO ((0 : Int) + ((0 : Nat) : Int) * 1) (((4 : Nat) : Int) - ((0 : Nat) : Int)) 1)) hI
    exact ⟨K2.sub, K2.w, K2.d, upd_self .., K2.s, K2.m, K2.g⟩
  · rintro i fs1 σ1 ⟨m, D, ys, rfl, _, _, _, K⟩
    exact ⟨K.hI, by simp⟩
  · rintro i u _ σ1 hlt ⟨tu, rfl⟩ ⟨m, D, ys, rfl, m1, hys, hσD, K⟩
    have K2 := K.it (zj := .obj (rangeIterO ((0 : Int) + ((i + 1 : Nat) : Int) * 1) (((4 : Nat) : Int) - ((i + 1 : Nat) : Int)) 1)) hσI (by simp) (by simp)
    generalize hz' : (AO.obj (rangeIterO ((0 : Int) + ((i + 1 : Nat) : Int) * 1) (((4 : Nat) : Int) - ((i + 1 : Nat) : Int)) 1)) = zz at K2 ⊢
    have hzz : ∀ v, zz ≠ .cell v := by rw [← hz']; simp
    have hzl : ∀ v, zz ≠ .list v := by rw [← hz']; simp
    generalize hσ2 : upd σ1 I zz = σ2 at K2 ⊢
    clear hσ2 K
    have hyl : ys.length = (cbcN ms i).length := hys.length
    have hyl2 := cbcN_len ms i
    have hi4 : 2 ^ i ≤ 2 ^ 4 := Nat.pow_le_pow_right (by decide) (by omega)
    refine Tr.assignName (Tr.store ?_)
    refine Tr.absV fun Vb hVb => ?_
    -- size = len(worths)
    refine Tr.assign (Pv.len (Pv.b G rfl rfl) (Pv.cell (c := cw) (v := .ref D) K2.w rfl rfl lw) K2.d (by omega)) ?_
    first | refine puI fun ts => ?_ | rintro _ _ σ2 ⟨rfl, rfl, ts, rfl⟩
    obtain ⟨x0, hx0⟩ := K2.s
    refine Tr.storeCell (c := cs) hx0 ?_ rfl rfl ls
    have K3 := K2.put (c := cs) (x := some (.int (ys.length : Int) ts)) hs0 hzz ⟨_, hx0⟩ d1
    have h3s : upd σ2 cs (.cell (some (.int (ys.length : Int) ts))) cs = some (.cell (some (.int (ys.length : Int) ts))) := upd_self ..
    generalize hσ3 : upd σ2 cs (.cell (some (.int (ys.length : Int) ts))) = σ3 at K3 h3s ⊢
    clear hσ3
    -- met
    refine Tr.assign (W := fun v fs' σ4 => ∃ F us m, v = .ref F ∧ fs' = (ev, m) :: fs ∧ m (Str.ofString "moves") = some (.ref a) ∧ σ3 F = none ∧ IntsAre us (metF ms (cbcN ms i)) ∧ σ4 = upd σ3 F (.list us)) (Tr.comp (W := fun v fs' σ4 => ∃ m, v = .ref a ∧ fs' = (ev, m) :: fs ∧ m (Str.ofString "moves") = some (.ref a) ∧ σ4 = σ3) ?_ ?_) ?_
    · refine (Pv.loc (v := .ref a) ((set1_ne (by decide)).trans m1)).mono ?_
      first | refine puE ?_ | rintro _ _ _ ⟨rfl, rfl, rfl⟩
      exact ⟨_, rfl, rfl, (set1_ne (by decide)).trans m1, rfl⟩
    · rintro _ _ _ ⟨m, rfl, rfl, m1, rfl⟩
      refine ⟨vs.length, _, fun j us => IntsAre us (metF (ms.take j) (cbcN ms i)), Src.list O'.handled (K3.sub.at hs), by omega, .nil, ?_, ?_⟩
      · intro C σ4 j u us mm hsub hC1 hP hjn hRR hmm
        obtain ⟨n, hn, hu⟩ := ints_take hi hP
        have e := metF_snoc (ms.take j) (cbcN ms i) n
        rw [← take_snoc hn] at e
        have hz1 : ((ys.length : Nat) : Int) = ((cbcN ms i).length : Int) := by rw [hyl]
        refine ⟨inRow (cbcN ms i).length n, Ts.one ?_, fun hb => ?_, fun hb => ?_⟩
        · unfold inRow
          rw [← hz1]
          exact Tv.chain (Pv.cellI (hsub.at h3s) rfl rfl (by rw [← hcs, ← hcw]; rfl)) (Pv.nsI hC1 hu hmm) (Pv.mul Pv.int (Pv.cellI (hsub.at h3s) rfl rfl (by rw [← hcs, ← hcw]; rfl)) (IntMulOk.of_left (by decide)))
        · show IntsAre _ _
          rw [e, hb]; simpa using hRR
        · unfold inRow at hb
          simp only [Bool.and_eq_true, decide_eq_true_eq] at hb
          have hidx : n - ((ys.length : Nat) : Int) = (((n - ((cbcN ms i).length : Int)).toNat : Nat) : Int) := by omega
          refine (Pv.itemI (a := D) (xs := cbcN ms i) (k := (n - ((cbcN ms i).length : Int)).toNat) (n := (cbcN ms i).getD (n - ((cbcN ms i).length : Int)).toNat 0) (Pv.cell (hsub.at K3.w) rfl rfl (by rw [← hcw]; rfl)) (by rw [← hidx]; exact Pv.sub (Pv.nsI hC1 hu hmm) (Pv.cellI (hsub.at h3s) rfl rfl (by rw [← hcs, ← hcw]; rfl))) (hsub.at K3.d) hys (getD_some (by omega)) (by omega)).mono ?_
          first | refine puI fun tt => ?_ | rintro _ _ _ ⟨rfl, rfl, tt, rfl⟩
          refine ⟨rfl, rfl, ?_⟩
          show IntsAre _ _
          rw [e, show inRow (cbcN ms i).length n = true by unfold inRow; simp [hb]]
          exact hRR.append (.cons _ _ .nil)
      · intro F us hF hRR
        refine ⟨F, us, m, rfl, rfl, m1, hF, ?_, rfl⟩
        rw [List.take_of_length_le (by omega)] at hRR
        exact hRR
    rintro _ _ _ ⟨F, us, m, rfl, rfl, m1, hF, hus, rfl⟩
    have K4 := K3.new (x := .list us) hF
    obtain ⟨x1, hx1⟩ := K4.m
    refine Tr.storeCell (c := cm) hx1 ?_ rfl rfl lm
    have K5 := K4.put (c := cm) (x := some (.ref F)) hm0 hzz ⟨_, hx1⟩ d2
    have h5m : upd (upd σ3 F (.list us)) cm (.cell (some (.ref F))) cm = some (.cell (some (.ref F))) := upd_self ..
    have h5F : upd (upd σ3 F (.list us)) cm (.cell (some (.ref F))) F = some (.list us) := (upd_ne (by rintro rfl; rw [upd_self] at hx1; cases hx1)).trans (upd_self ..)
    generalize hσ5 : upd (upd σ3 F (.list us)) cm (.cell (some (.ref F))) = σ5 at K5 h5m h5F ⊢
    clear hσ5 K4 hx1
    have hul : us.length = (metF ms (cbcN ms i)).length := hus.length
    have hul2 : (metF ms (cbcN ms i)).length ≤ ms.length := by unfold metF; rw [List.length_map]; exact List.length_filter_le _ _
    -- single
    refine Tr.assign (W := fun v fs' σ6 => ∃ m, IsI (mexF (metF ms (cbcN ms i))) v ∧ fs' = (ev, m) :: fs ∧ m (Str.ofString "moves") = some (.ref a) ∧ σ6 = σ5) ?_ ?_
    · refine Tr.forget ?_
      refine Tr.sub (W₁ := fun v fs' σ6 => ∃ H hs' m, v = .ref H ∧ fs' = (ev, m) :: fs ∧ m (Str.ofString "moves") = some (.ref a) ∧ Sub σ5 σ6 ∧ σ6 H = some (.list hs') ∧ IntsAre hs' (mexL (metF ms (cbcN ms i)))) (W₂ := fun v iv fs' σ6 => ∃ H hs' m tt, v = .ref H ∧ iv = .int ((0 : Nat) : Int) tt ∧ fs' = (ev, m) :: fs ∧ m (Str.ofString "moves") = some (.ref a) ∧ Sub σ5 σ6 ∧ σ6 H = some (.list hs') ∧ IntsAre hs' (mexL (metF ms (cbcN ms i)))) (Tr.comp (W := fun v fs' σ6 => ∃ R u2 u3 u4, v = .ref R ∧ fs' = (ev, m) :: fs ∧ σ5 R = none ∧ σ6 = upd σ5 R (.obj (rangeO 0 ((us.length + 1 : Nat) : Int) 1 u2 u3 u4))) ?_ ?_) ?_ ?_
      · refine Tr.pcall1 (Pv.b G rfl rfl) (.inr (.inl ⟨_, rfl⟩)) (Pv.add (Pv.len (Pv.b G rfl rfl) (Pv.cell (c := cm) (v := .ref F) h5m rfl rfl lm) h5F (by omega)) Pv.int) ?_
        first | refine isE fun tt => ?_ | rintro _ ⟨tt, rfl⟩
        exact Tr.range1 fun R u v hR => ⟨R, _, _, _, rfl, rfl, hR, rfl⟩
      · rintro _ _ _ ⟨R, u2, u3, u4, rfl, rfl, hR, rfl⟩
        refine ⟨us.length + 1, _, fun j ws => IntsAre ws (((ups (us.length + 1)).take j).filter fun n => !((metF ms (cbcN ms i)).any (· == n))), Src.range O'.handled (a := 0) (n := us.length + 1) (by rw [Int.zero_add]; exact upd_self ..) (by decide) (by decide) (by omega), by omega, .nil, ?_, ?_⟩
        · intro C σ7 j u ws mm hsub hC1 hP hjn hRR hmm
          have hu : IsI (j : Int) u := by rw [Int.zero_add] at hP; exact hP
          have e := mexL_snocF (metF ms (cbcN ms i)) ((ups (us.length + 1)).take j) j
          rw [← ups_take _ _ hjn] at e
          have hRF : F ≠ R := ne_none h5F hR
          have hRm : cm ≠ R := ne_none h5m hR
          refine ⟨!((metF ms (cbcN ms i)).any (· == (j : Int))), Ts.one (Tv.cmp (P₁ := IsI (j : Int)) (P₂ := (· = .ref F)) (Pv.nsI hC1 hu hmm) (Pv.cell (hsub.at ((upd_ne hRm).trans h5m)) rfl rfl (by rw [← hcm, ← hcs, ← hcw]; rfl)) (fun x y hx hy => by subst hy; exact cmp_notIn (hsub.at ((upd_ne hRF).trans h5F)) hus hx)), fun hb => ?_, fun hb => ?_⟩
          · show IntsAre _ _
            rw [e, hb]; simpa using hRR
          · refine (Pv.nsI hC1 hu hmm).mono ?_
            first | refine puI fun tt => ?_ | rintro _ _ _ ⟨rfl, rfl, tt, rfl⟩
            refine ⟨rfl, rfl, ?_⟩
            show IntsAre _ _
            rw [e, hb]
            exact hRR.append (.cons _ _ .nil)
        · intro H ws hH hRR
          refine ⟨H, ws, m, rfl, rfl, m1, ((Sub.refl σ5).upd hR).upd (((Sub.refl σ5).upd hR).none hH), upd_self .., ?_⟩
          rw [List.take_of_length_le (by rw [ups_len]; omega), hul] at hRR
          exact hRR
      · rintro _ _ _ ⟨H, hs', m, rfl, rfl, m1, hsub, hH, hhs⟩
        refine Pv.int.mono ?_
        first | refine puI fun tt => ?_ | rintro _ _ _ ⟨rfl, rfl, tt, rfl⟩
        exact ⟨H, hs', m, tt, rfl, rfl, rfl, m1, hsub, hH, hhs⟩
      · rintro _ _ _ _ ⟨H, hs', m, tt, rfl, rfl, rfl, m1, hsub, hH, hhs⟩
        refine ⟨list_get_ok hH, ⟨_, rfl⟩, ?_⟩
        have hne := mexL_ne (metF ms (cbcN ms i))
        have hll : hs'.length = _ := hhs.length
        have hle : (mexL (metF ms (cbcN ms i))).length ≤ (metF ms (cbcN ms i)).length + 1 := by
          unfold mexL; exact Nat.le_trans (List.length_filter_le _ _) (Nat.le_of_eq (ups_len _))
        have h0 : (mexL (metF ms (cbcN ms i)))[0]? = some (mexF (metF ms (cbcN ms i))) := by
          unfold mexF
          cases hq : mexL (metF ms (cbcN ms i)) with
          | nil => exact absurd hq hne
          | cons b r => rfl
        obtain ⟨t1, e1⟩ := ints_get hhs h0
        refine (getListTr hH e1 (by omega)).mono ?_
        first | refine puE ?_ | rintro _ _ _ ⟨rfl, rfl, rfl⟩
        exact ⟨σ5, hsub, m, ⟨_, rfl⟩, rfl, m1, rfl⟩
    rintro _ _ σ5 ⟨m, ⟨tg, rfl⟩, rfl, m1, rfl⟩
    obtain ⟨x2, hx2⟩ := K5.g
    refine Tr.storeCell (c := cg) hx2 ?_ rfl rfl lg
    have K6 := K5.put (c := cg) (x := some (.int (mexF (metF ms (cbcN ms i))) tg)) hg0 hzz ⟨_, hx2⟩ d3
    have h6g : upd σ5 cg (.cell (some (.int (mexF (metF ms (cbcN ms i))) tg))) cg = some (.cell (some (.int (mexF (metF ms (cbcN ms i))) tg))) := upd_self ..
    generalize hσ6 : upd σ5 cg (.cell (some (.int (mexF (metF ms (cbcN ms i))) tg))) = σ6 at K6 h6g ⊢
    clear hσ6
    -- worths = worths + [..]
    refine Tr.assign (W := fun v fs' σ7 => ∃ E zs m, v = .ref E ∧ fs' = (ev, m) :: fs ∧ m (Str.ofString "moves") = some (.ref a) ∧ σ E = none ∧ KC σ cw cs cm cg I D zz ys σ7 ∧ σ7 E = some (.list (ys ++ zs)) ∧ IntsAre zs ((cbcN ms i).map fun x => Builtin.bitXor x (mexF (metF ms (cbcN ms i))))) (Tr.binE (W₂ := fun v1 v2 fs' σ7 => ∃ H zs m, v1 = .ref D ∧ v2 = .ref H ∧ fs' = (ev, m) :: fs ∧ m (Str.ofString "moves") = some (.ref a) ∧ σ6 H = none ∧ IntsAre zs ((cbcN ms i).map fun x => Builtin.bitXor x (mexF (metF ms (cbcN ms i)))) ∧ σ7 = upd σ6 H (.list zs)) (Pv.cell (c := cw) (v := .ref D) K6.w rfl rfl lw) ?_ ?_) ?_
    · first | refine puE ?_ | rintro _ _ σ6 ⟨rfl, rfl, rfl⟩
      refine Tr.comp (W := fun v fs' σ7 => v = .ref D ∧ fs' = (ev, m) :: fs ∧ σ7 = σ6) ?_ ?_
      · refine (Pv.cell (c := cw) (v := .ref D) K6.w rfl rfl lw).mono ?_
        first | refine puE ?_ | rintro _ _ _ ⟨rfl, rfl, rfl⟩
        exact ⟨rfl, rfl, rfl⟩
      · first | refine puE ?_ | rintro _ _ _ ⟨rfl, rfl, rfl⟩
        refine ⟨ys.length, _, fun j ws => IntsAre ws (((cbcN ms i).take j).map fun x => Builtin.bitXor x (mexF (metF ms (cbcN ms i)))), Src.list O'.handled K6.d, by omega, .nil, ?_, ?_⟩
        · intro C σ7 j u ws mm hsub hC1 hP hjn hRR hmm
          obtain ⟨n, hn, hu⟩ := ints_take hys hP
          refine ⟨true, Ts.nil, fun hb => (by cases hb), fun _ => ?_⟩
          refine (Pv.xor (Pv.nsI hC1 hu hmm) (Pv.cellI (hsub.at h6g) rfl rfl (by rw [← hcg, ← hcm, ← hcs, ← hcw]; rfl))).mono ?_
          first | refine puI fun tt => ?_ | rintro _ _ _ ⟨rfl, rfl, tt, rfl⟩
          refine ⟨rfl, rfl, ?_⟩
          show IntsAre _ _
          rw [take_snoc hn, map_snoc]
          exact hRR.append (.cons _ _ .nil)
        · intro H zs hH hRR
          refine ⟨H, zs, m, rfl, rfl, rfl, m1, hH, ?_, rfl⟩
          rw [List.take_of_length_le (by omega)] at hRR
          exact hRR
    · rintro _ _ _ _ ⟨H, zs, m, rfl, rfl, rfl, m1, hH, hzs, rfl⟩
      have K7 := K6.new (x := .list zs) hH
      have hzl2 : zs.length = _ := hzs.length
      rw [List.length_map] at hzl2
      refine Tr.addList K7.d (upd_self ..) (by omega) fun E hE => ⟨E, zs, m, rfl, rfl, m1, K7.sub.none hE, K7.new hE, upd_self .., hzs⟩
    rintro _ _ σ7 ⟨E, zs, m, rfl, rfl, m1, hσE, K7, hE, hzs⟩
    refine Tr.storeCell (c := cw) K7.w ?_ rfl rfl lw
    refine Tr.nil (hVb _ _ _ ⟨m, E, ys ++ zs, rfl, m1, ?_, hσE, ?_⟩)
    · exact hys.append hzs
    · rw [hz']; exact K7.setW hw0 hzz hE
  · rintro _ σ1 ⟨m, D, ys, rfl, m1, hys, hσD, K⟩
    refine Tr.nil ?_
    show Tr _ _ _ _ _ _ _ _
    have hwI : cw ≠ I := by rintro rfl; have := K.w; rw [K.hI] at this; cases this
    have hDI : D ≠ I := by rintro rfl; have := K.d; rw [K.hI] at this; cases this
    refine Tr.ret (Pv.cell (c := cw) (v := .ref D) (by unfold del; rw [if_neg hwI]; exact K.w) rfl rfl lw) ?_
    first | refine puE ?_ | rintro _ _ _ ⟨rfl, rfl, rfl⟩
    refine hV _ _ _ ⟨upd σ D (.list ys), ?_, m, rfl, h D ys hσD hys⟩
    exact Sub.updL (K.sub.del hσI) (by unfold del; rw [if_neg hDI]; exact K.d)
end
end Mine
end
section
open PySem PySem.W PyProof.Rows
namespace Mine
/-! _law_moves -/
def upsFrom (a : Int) (n : Nat) : List Int := (List.range n).map fun (i : Nat) => a + (i : Int)
def mvF (ds : List Int) : List Int := (upsFrom 1 15).filter fun n => ds.any (· == n)
theorem upsFrom_take (a : Int) (n i : Nat) (h : i < n) : (upsFrom a n).take (i + 1) = (upsFrom a n).take i ++ [a + (i : Int)] := by
  refine take_snoc ?_
  unfold upsFrom
  rw [List.getElem?_map, List.getElem?_range h]; rfl
theorem filter_snoc (p : Int → Bool) (l : List Int) (n : Int) : (l ++ [n]).filter p = l.filter p ++ (if p n then [n] else []) := by
  rw [List.filter_append, List.filter_cons]; rfl
theorem mvF_lt (ds : List Int) : (mvF ds).Pairwise (· < ·) := by
  unfold mvF
  refine List.Pairwise.filter _ ?_
  unfold upsFrom
  rw [List.pairwise_map]
  exact List.pairwise_lt_range.imp fun h => by omega
theorem mvF_mem {ds : List Int} {n : Int} (h : n ∈ mvF ds) : 1 ≤ n ∧ n ≤ 15 := by
  have := (List.mem_filter.mp h).1
  unfold upsFrom at this
  simp only [List.mem_map, List.mem_range] at this
  obtain ⟨i, hi, rfl⟩ := this
  omega
theorem ints_all : ∀ {l : List Value}, (∀ v ∈ l, ∃ n t, v = .int n t) → ∃ xs, IntsAre l xs
  | [], _ => ⟨[], .nil⟩
  | v :: r, h => by
    obtain ⟨n, t, rfl⟩ := h v (.head _)
    obtain ⟨xs, hx⟩ := ints_all fun u hu => h u (.tail _ hu)
    exact ⟨n :: xs, .cons _ _ hx⟩
theorem ints_each : ∀ {l : List Value} {xs : List Int}, IntsAre l xs → ∀ v ∈ l, ∃ n t, v = .int n t
  | _, _, .nil, v, hv => by cases hv
  | _, _, .cons n t h, v, hv => by
    rcases List.mem_cons.mp hv with rfl | hv
    · exact ⟨n, t, rfl⟩
    · exact ints_each h v hv
theorem ints_pick {vs : List Value} {xs : List Int} (h : IntsAre vs xs) (lo hi st : Option Int) : ∃ ys, IntsAre (slicePick vs.toArray lo hi st).toList ys := by
  refine ints_all fun v hv => ?_
  unfold slicePick at hv
  simp only [List.mem_filterMap] at hv
  obtain ⟨j, _, hj⟩ := hv
  exact ints_each h v (by simpa using List.mem_of_getElem? (by simpa using hj))
section
variable {pr : Program} {w : World} {s₀ : Shared} {A : Around} {fs : Fs} {σ : Sto} {mg mb : NsMap} {env : Env} {x : Str} {pos : Pos}

set_option maxHeartbeats 4000000 in
theorem moves_spec (G : Gd w s₀ mg mb) {k : Nat} (O : Ok A fs (k + 1)) {a : Addr} {vs : List Value} {xs : List Int} {V : Value → Fs → Sto → Prop}
    (hs : σ a = some (.list vs)) (hi : IntsAre vs xs) (hz : xs.length ≤ 2 ^ 10) (h : ∀ D ys ds, σ D = none → IntsAre ys (mvF ds) → V (.ref D) fs (upd σ D (.list ys))) :
    Tr pr w s₀ A fs σ (call (.ref 181) [.ref a]) V := by
  refine Tr.fn (binds := [(Str.ofString "cells", .ref a)]) G.B G.X rfl rfl O rfl rfl rfl rfl rfl ?_
  intro L σ' hS O' hC
  let ev : Env := O'.env
  obtain ⟨hc0, hc1⟩ := hC (Str.ofString "cells") (L + 1) rfl
  obtain ⟨hd0, hd1⟩ := hC (Str.ofString "drawn") (L + 1 + 1) rfl
  replace hc1 : σ' (L + 1) = some (.cell (some (.ref a))) := hc1
  replace hd1 : σ' (L + 1 + 1) = some (.cell none) := hd1
  have lt1 : L + 1 ≠ L + 1 + 1 := Nat.ne_of_lt (Nat.lt_succ_self _)
  have hlen : vs.length = xs.length := hi.length
  refine Tr.forget ?_
  refine Tr.absV fun Vf hV => ?_
  refine Tr.assign (W := fun v fs' σ1 => ∃ l us m, v = .ref l ∧ fs' = (ev, m) :: fs ∧ σ' l = none ∧ IntsAre us [0, 1, 2, 3, 4, 5, 7] ∧ σ1 = upd σ' l (.list us)) ?_ ?_
  · refine Tr.list (W := fun us fs' σ1 => ∃ m, IntsAre us [0, 1, 2, 3, 4, 5, 7] ∧ fs' = (ev, m) :: fs ∧ σ1 = σ') (Tr.argsC Pv.int ?_) ?_
    · first | refine puI fun t0 => ?_ | rintro _ _ _ ⟨rfl, rfl, t0, rfl⟩
      refine Tr.argsC Pv.int ?_
      first | refine puI fun t1 => ?_ | rintro _ _ _ ⟨rfl, rfl, t1, rfl⟩
      refine Tr.argsC Pv.int ?_
      first | refine puI fun t2 => ?_ | rintro _ _ _ ⟨rfl, rfl, t2, rfl⟩
      refine Tr.argsC Pv.int ?_
      first | refine puI fun t3 => ?_ | rintro _ _ _ ⟨rfl, rfl, t3, rfl⟩
      refine Tr.argsC Pv.int ?_
      first | refine puI fun t4 => ?_ | rintro _ _ _ ⟨rfl, rfl, t4, rfl⟩
      refine Tr.argsC Pv.int ?_
      first | refine puI fun t5 => ?_ | rintro _ _ _ ⟨rfl, rfl, t5, rfl⟩
      refine Tr.argsC Pv.int ?_
      first | refine puI fun t6 => ?_ | rintro _ _ _ ⟨rfl, rfl, t6, rfl⟩
      exact Tr.args0 ⟨_, .cons _ _ (.cons _ _ (.cons _ _ (.cons _ _ (.cons _ _ (.cons _ _ (.cons _ _ .nil)))))), rfl, rfl⟩
    · rintro us _ _ ⟨m, hus, rfl, rfl⟩
      have : us.length = 7 := hus.length
      exact ⟨by rw [sizeLine_eq]; omega, fun l hl => ⟨l, us, m, rfl, rfl, hl, hus, rfl⟩⟩
  rintro _ _ _ ⟨l, us, m, rfl, rfl, hl, hus, rfl⟩
  refine Tr.store ?_
  have hul : us.length = 7 := hus.length
  have h1l : upd σ' l (.list us) l = some (.list us) := upd_self ..
  have h1c : upd σ' l (.list us) (L + 1) = some (.cell (some (.ref a))) := (upd_ne (ne_none hc1 hl)).trans hc1
  have h1d : upd σ' l (.list us) (L + 1 + 1) = some (.cell none) := (upd_ne (ne_none hd1 hl)).trans hd1
  have h1a : upd σ' l (.list us) a = some (.list vs) := (upd_ne (ne_none (hS.at hs) hl)).trans (hS.at hs)
  have hS1 : Sub σ (upd σ' l (.list us)) := hS.upd (hS.none hl)
  generalize hσ1 : upd σ' l (.list us) = σ1 at h1l h1c h1d h1a hS1 ⊢
  clear hσ1 hS hc1 hd1 hC hl
  -- drawn
  refine Tr.assign (W := fun v fs' σ2 => ∃ F ws ds m, v = .ref F ∧ fs' = (ev, m) :: fs ∧ σ1 F = none ∧ IntsAre ws ds ∧ σ2 = upd σ1 F (.list ws)) (Tr.forget (Tr.compGO (W := fun v fs' σ2 => ∃ e it, v = .ref e ∧ fs' = (ev, set1 m (Str.ofString "firsts") (.ref l)) :: fs ∧ σ1 e = none ∧ σ1 it = none ∧ e ≠ it ∧ σ2 = upd (upd σ1 it (.rcd "list_iterator" #[.ref l, .int ((0 : Nat) : Int) 0])) e (.obj (enumO .none it ((0 : Nat) : Int) .none))) ?_ ?_)) ?_
  · refine Tr.pcall1 (Pv.b G rfl rfl) (.inr (.inl ⟨_, rfl⟩)) (Pv.loc (v := .ref l) rfl) ?_
    first | refine eqE ?_ | rintro _ rfl
    exact Tr.enumerate h1l fun e it he hit hne => ⟨e, it, rfl, rfl, he, hit, hne, rfl⟩
  · rintro _ _ _ ⟨e, it, rfl, rfl, he, hit, hne, rfl⟩
    refine (Tr.enumIter (upd_self ..)).mono ?_
    rintro _ _ _ ⟨rfl, rfl, rfl⟩ D C hDC hD hC
    have hsub0 : Sub σ1 (upd (upd σ1 it (.rcd "list_iterator" #[.ref l, .int ((0 : Nat) : Int) 0])) e (.obj (enumO .none it ((0 : Nat) : Int) .none))) := ((Sub.refl σ1).upd hit).upd he
    have h1D : σ1 D = none := hsub0.none hD
    have h1C : σ1 C = none := hsub0.none hC
    have hDe : e ≠ D := ne_none (upd_self ..) hD
    have hCe : e ≠ C := ne_none (upd_self ..) hC
    have hDi : it ≠ D := ne_none ((upd_ne (Ne.symm hne)).trans (upd_self ..)) hD
    have hCi : it ≠ C := ne_none ((upd_ne (Ne.symm hne)).trans (upd_self ..)) hC
    refine ⟨fun k fs' σ' => ∃ i ys mm old ds, fs' = (ev, set1 m (Str.ofString "firsts") (.ref l)) :: fs ∧ k = 8 - i ∧ i ≤ 7 ∧ ys.length ≤ i ∧ IntsAre ys ds ∧ σ' e = some (.obj (enumO .none it ((i : Nat) : Int) old)) ∧ σ' it = some (.rcd "list_iterator" #[.ref l, .int ((i : Nat) : Int) 0]) ∧ σ' D = some (.list ys) ∧ σ' C = some (.ns mm) ∧ Sub σ1 σ', 8, ?_, ?_, ?_⟩
    · refine ⟨0, [], _, .none, [], rfl, rfl, by omega, by simp, .nil, ?_, ?_, ?_, upd_self .., ?_⟩
      · rw [upd_ne hCe, upd_ne hDe, upd_self]
      · rw [upd_ne hCi, upd_ne hDi, upd_ne (Ne.symm hne), upd_self]
      · rw [upd_ne hDC, upd_self]
      · exact (hsub0.upd h1D).upd h1C
    · refine Tr.enumIter (it := it) (i := ((0 : Nat) : Int)) (old := .none) ?_
      rw [upd_ne hCe, upd_ne hDe, upd_self]
    · rintro k _ σ2 ⟨i, ys, mm, old, ds, rfl, rfl, hi7, hyl, hds, h2e, h2i, h2D, h2C, hsub⟩ K hK
      have h2l := hsub.at h1l
      by_cases hlt : i < 7
      · obtain ⟨fv, hfv⟩ : ∃ fv, us[i]? = some fv := ⟨us[i], List.getElem?_eq_getElem (by omega)⟩
        obtain ⟨fn, hfn, hfi⟩ := ints_take hus hfv
        refine (Tr.enumNext h2e h2i h2l hfv).mono ?_
        rintro _ _ _ ⟨T, tt, rfl, rfl, hT, rfl⟩
        show Tr _ _ _ _ _ _ _ _
        have hTe : T ≠ e := (ne_none h2e hT).symm
        refine (Tr.enumGo (T := T) (it := it) (i := ((i + 1 : Nat) : Int)) (old := fv) ?_).mono ?_
        · rw [upd_ne (Ne.symm hTe), upd_self]
        rintro _ _ σ3 ⟨rfl, hσ3⟩
        have hTi : T ≠ it := (ne_none h2i hT).symm
        have hTC : T ≠ C := (ne_none h2C hT).symm
        have hTD : T ≠ D := (ne_none h2D hT).symm
        have hCs : C ≠ T := Ne.symm hTC
        have g3 : ∀ b, b ≠ e → b ≠ it → b ≠ T → σ3 b = σ2 b := fun b h1 h2 h3 => by rw [hσ3, upd_ne h1, upd_ne h3, upd_ne h1, upd_ne h2]
        have h3T : σ3 T = some (.tup [.int ((i : Nat) : Int) tt, fv]) := by rw [hσ3, upd_ne hTe, upd_self]
        have h3e : σ3 e = some (.obj (enumO .none it ((i + 1 : Nat) : Int) fv)) := by rw [hσ3, upd_self]
        have h3i : σ3 it = some (.rcd "list_iterator" #[.ref l, .int ((i + 1 : Nat) : Int) 0]) := by rw [hσ3, upd_ne (Ne.symm hne), upd_ne (Ne.symm hTi), upd_ne (Ne.symm hne), upd_self]
        have h3C : σ3 C = some (.ns mm) := (g3 C (Ne.symm hCe) (Ne.symm hCi) hCs).trans h2C
        have h3D : σ3 D = some (.list ys) := (g3 D (Ne.symm hDe) (Ne.symm hDi) (Ne.symm hTD)).trans h2D
        have hsub3 : Sub σ1 σ3 := fun b z hb => (g3 b (by rintro rfl; rw [he] at hb; cases hb) (by rintro rfl; rw [hit] at hb; cases hb) (by rintro rfl; rw [hsub b z hb] at hT; cases hT)).trans (hsub b z hb)
        clear hσ3 g3
        refine Tr.pairNs (C := C) O'.handled h3T rfl h3C ?_
        have h4C := upd_self σ3 C (.ns (set1 (set1 mm (Str.ofString "place") (.int ((i : Nat) : Int) tt)) (Str.ofString "first") fv))
        have h4e : upd σ3 C (.ns (set1 (set1 mm (Str.ofString "place") (.int ((i : Nat) : Int) tt)) (Str.ofString "first") fv)) e = _ := (upd_ne hCe).trans h3e
        have h4i : upd σ3 C (.ns (set1 (set1 mm (Str.ofString "place") (.int ((i : Nat) : Int) tt)) (Str.ofString "first") fv)) it = _ := (upd_ne hCi).trans h3i
        have h4D : upd σ3 C (.ns (set1 (set1 mm (Str.ofString "place") (.int ((i : Nat) : Int) tt)) (Str.ofString "first") fv)) D = _ := (upd_ne hDC).trans h3D
        have hsub4 : Sub σ1 (upd σ3 C (.ns (set1 (set1 mm (Str.ofString "place") (.int ((i : Nat) : Int) tt)) (Str.ofString "first") fv))) := hsub3.upd h1C
        generalize hσ4 : upd σ3 C (.ns (set1 (set1 mm (Str.ofString "place") (.int ((i : Nat) : Int) tt)) (Str.ofString "first") fv)) = σ4 at h4C h4e h4i h4D hsub4 ⊢
        clear hσ4
        refine Ts.nil.mono ?_
        first | refine puE ?_ | rintro _ _ σ4 ⟨rfl, rfl, rfl⟩
        rw [if_pos rfl]
        obtain ⟨ps, hps⟩ := ints_pick hi (some ((i : Nat) : Int)) none (some 7)
        refine Tr.mono (Pv.add (b := (fn + ps.sum).fmod 15) Pv.int (Pv.mod (Pv.add (a := fn) (b := ps.sum) (Pv.nsI h4C hfi rfl) ?_) Pv.int (by decide))) ?_
        · refine Tr.forget (Tr.call1 (W := fun v fs' σ5 => ∃ b, v = .ref b ∧ fs' = (ev, set1 m (Str.ofString "firsts") (.ref l)) :: fs ∧ σ4 b = none ∧ σ5 = upd σ4 b (.list (slicePick vs.toArray (some ((i : Nat) : Int)) none (some 7)).toList)) (Pv.b G rfl rfl) (.inl ⟨_, rfl⟩) (Tr.sliceG (Pv.cell (c := L + 1) (v := .ref a) (hsub4.at h1c)) (hsub4.at h1a) (Part.i (Pv.nsI h4C ⟨tt, rfl⟩ rfl)) Part.no (Part.i Pv.int) (by simp) (by rw [sizeLine_eq]; omega) fun b hb => ⟨b, rfl, rfl, hb, rfl⟩) ?_)
          rintro _ _ _ ⟨b, rfl, rfl, hb, rfl⟩
          exact Tr.sumL O'.handled (upd_self ..) hps fun t => ⟨σ4, (Sub.refl σ4).upd hb, rfl, rfl, t, rfl⟩
        rintro y _ _ ⟨rfl, rfl, ty, rfl⟩
        refine Tr.appendB h4D (by rw [sizeLine_eq]; omega) (hK (8 - (i + 1)) _ _ (by omega) ⟨i + 1, _, _, fv, ds ++ [1 + (fn + ps.sum).fmod 15], rfl, rfl, hlt, by simp; omega, hds.append (.cons _ _ .nil), (upd_ne hDe).trans h4e, (upd_ne hDi).trans h4i, upd_self .., (upd_ne (Ne.symm hDC)).trans h4C, hsub4.upd h1D⟩)
      · have hi' : i = 7 := by omega
        subst hi'
        refine (Tr.enumEnd O'.handled h2e h2i h2l (by rw [List.getElem?_eq_none]; omega)).mono ?_
        first | refine puE ?_ | rintro _ _ _ ⟨rfl, rfl, rfl⟩
        refine ⟨⟨mm, by unfold del; rw [if_neg (Ne.symm hCi)]; exact h2C⟩, upd σ1 D (.list ys), ?_, D, ys, ds, _, rfl, rfl, h1D, hds, rfl⟩
        refine Sub.updL ?_ ?_
        · exact (hsub.del hit).del h1C
        · unfold del; rw [if_neg hDC, if_neg (Ne.symm hDi)]; exact h2D
  rintro _ _ _ ⟨F, ws, ds, m, rfl, rfl, hF, hws, rfl⟩
  refine Tr.storeCell (c := L + 1 + 1) ((upd_ne (ne_none h1d hF)).trans h1d) ?_
  have hFd : F ≠ L + 1 + 1 := (ne_none h1d hF).symm
  have h3d := upd_self (upd σ1 F (.list ws)) (L + 1 + 1) (.cell (some (.ref F)))
  have h3F : upd (upd σ1 F (.list ws)) (L + 1 + 1) (.cell (some (.ref F))) F = some (.list ws) := (upd_ne hFd).trans (upd_self ..)
  have hS3 : Sub σ (upd (upd σ1 F (.list ws)) (L + 1 + 1) (.cell (some (.ref F)))) := (hS1.upd (hS1.none hF)).upd hd0
  generalize hσ3 : upd (upd σ1 F (.list ws)) (L + 1 + 1) (.cell (some (.ref F))) = σ3 at h3d h3F hS3 ⊢
  clear hσ3
  refine Tr.ret (W := fun v fs' σ4 => ∃ D ys m, v = .ref D ∧ fs' = (ev, m) :: fs ∧ σ D = none ∧ IntsAre ys (mvF ds) ∧ Sub (upd σ D (.list ys)) σ4) (Tr.comp (W := fun v fs' σ4 => ∃ R u2 u3 u4, v = .ref R ∧ fs' = (ev, m) :: fs ∧ σ3 R = none ∧ σ4 = upd σ3 R (.obj (rangeO 1 16 1 u2 u3 u4))) ?_ ?_) ?_
  · refine Tr.pcall2 (Pv.b G rfl rfl) (.inr (.inl ⟨_, rfl⟩)) Pv.int Pv.int ?_
    rintro _ _ ⟨t1, rfl⟩ ⟨t2, rfl⟩
    exact Tr.range2 fun R v hR => ⟨R, _, _, _, rfl, rfl, hR, rfl⟩
  · rintro _ _ _ ⟨R, u2, u3, u4, rfl, rfl, hR, rfl⟩
    have hRF : F ≠ R := ne_none h3F hR
    have hRd : L + 1 + 1 ≠ R := ne_none h3d hR
    have hS4 := hS3.upd (x := .obj (rangeO 1 16 1 u2 u3 u4)) (hS3.none hR)
    refine ⟨15, _, fun j ws => IntsAre ws (((upsFrom 1 15).take j).filter fun n => ds.any (· == n)), Src.range O'.handled (a := 1) (n := 15) (upd_self ..) (by decide) (by decide) (by decide), by decide, .nil, ?_, ?_⟩
    · intro C σ5 j u zs mm hsub hC1 hP hjn hRR hmm
      have e := filter_snoc (fun n => ds.any (· == n)) ((upsFrom 1 15).take j) (1 + (j : Int))
      rw [← upsFrom_take _ _ _ hjn] at e
      refine ⟨ds.any (· == (1 + (j : Int))), Ts.one (Tv.cmp (P₁ := IsI (1 + (j : Int))) (P₂ := (· = .ref F)) (Pv.nsI hC1 hP hmm) (Pv.cell (c := L + 1 + 1) (hsub.at ((upd_ne hRd).trans h3d))) (fun x y hx hy => by subst hy; exact cmp_in (hsub.at ((upd_ne hRF).trans h3F)) hws hx)), fun hb => ?_, fun hb => ?_⟩
      · show IntsAre _ _
        rw [e, hb]; simpa using hRR
      · refine (Pv.nsI hC1 hP hmm).mono ?_
        first | refine puI fun tt => ?_ | rintro _ _ _ ⟨rfl, rfl, tt, rfl⟩
        refine ⟨rfl, rfl, ?_⟩
        show IntsAre _ _
        rw [e, hb]
        exact hRR.append (.cons _ _ .nil)
    · intro D ys hD hRR
      refine ⟨D, ys, m, rfl, rfl, hS4.none hD, hRR, Sub.both hS4⟩
  · rintro _ _ σ4 ⟨D, ys, m, rfl, rfl, hD, hys, hsub⟩
    exact hV _ _ _ ⟨_, hsub, _, rfl, h D ys ds hD hys⟩
end
end Mine
end
section
open PySem PySem.W PyProof.Rows
namespace Mine
theorem att_look {m : NsMap} {k : Nat} {o : Obj} (name : Str) (h : (AO.att m k).Is o) : lookIn name o = some (m name) := by
  obtain ⟨es, ep, hd, hk, hz, hm⟩ := h
  unfold lookIn
  rw [hd]
  dsimp only
  have e := hm name
  unfold nsFind findBy at e
  rw [← Array.find?_toList] at e
  rw [← e]
  cases hf : es.toList.find? (·.key.isStr name) with
  | some en => rfl
  | none =>
    have : es.toList.any (·.refKey) = false := by
      rw [List.any_eq_false]
      intro e he; obtain ⟨n, t, h⟩ := hk e (Array.mem_toList_iff.mp he); simp [DictEntry.refKey, h]
    simp [this]
theorem att_put {m : NsMap} {k : Nat} {o : Obj} {name : Str} {h : Int} {t : Tok} {v : Value} (hi : (AO.att m k).Is o) : (AO.att (set1 m name v) (k + 1)).Is (o.putName name h (.str name t) v) ∧ ((m name).isSome = true → (AO.att (set1 m name v) k).Is (o.putName name h (.str name t) v)) ∧ (o.putName name h (.str name t) v).isFreed = false := by
  obtain ⟨es, ep, hd, hk, hz, hm⟩ := hi
  obtain ⟨c, d, dt, sl⟩ := o
  subst hd
  cases hi : es.findIdx? (·.key.isStr name) with
  | some i =>
    have h1 : (AO.att (set1 m name v) k).Is (Obj.putName name h (.str name t) v ⟨c, d, .dict es ep, sl⟩) := by
      refine ⟨_, ep, by simp only [Obj.putName_eq, Obj.putNameByArray, hi]; rfl, hk.modify _ _, by simpa using hz, fun x => ?_⟩
      show _ = if x = name then some v else m x
      rw [← hm]; exact findBy_modify (fun n v => v.isStr n) Value.isStr_inj es name x v i hi
    refine ⟨?_, fun _ => h1, by simp only [Obj.putName_eq, Obj.putNameByArray, hi]; rfl⟩
    obtain ⟨es', ep', a, b, c', d'⟩ := h1
    exact ⟨es', ep', a, b, Nat.le_succ_of_le c', d'⟩
  | none =>
    refine ⟨⟨_, ep + 1, by simp only [Obj.putName_eq, Obj.putNameByArray, hi]; rfl, hk.push _ _ _ _, by simp; exact hz, fun x => ?_⟩, fun hs => ?_, by simp only [Obj.putName_eq, Obj.putNameByArray, hi]; rfl⟩
    · show _ = if x = name then some v else m x
      rw [← hm]
      exact findBy_push (fun n v => v.isStr n) es name x _ _ v (fun y => by
        show (name == y) = decide (y = name)
        by_cases h : y = name
        · subst h; simp
        · have : ¬ name = y := fun e => h e.symm
          simp [h, this]) hi
    · exfalso
      rw [← hm name] at hs
      unfold nsFind at hs
      rw [findBy_of_findIdx?, hi] at hs
      cases hs
section
variable {pr : Program} {w : World} {s₀ : Shared} {A : Around} {env : Env} {fs : Fs} {σ : Sto} {m mg mb : NsMap} {x name : Str} {v : Value} {pos p : Pos} {P P₁ P₂ : Value → Prop} {rest : List Stmt} {E : Value → Shared → Prop} {s : Shared} {k : Nat} {C a dx : Addr}

theorem Inv.K (I : Inv s₀ fs σ s) (G : Gd w s₀ mg mb) : (hd.heap_1 w.params).In s.heap := G.X.keeps I.keep
theorem Inv.inst {ox od : Obj} (I : Inv s₀ fs σ s) (hx : σ a = some (.obj ox)) (hc : ox.cls = .ref C) (hn : notCls ox = true) (hdx : ox.dict = some dx) (hm : s.heap.get? dx = some od) : InstAt s.heap a ox C (some od) := by
  obtain ⟨o, ho, rfl⟩ := I.get hx
  exact ⟨ho, hc, hn, by rw [hdx]; exact hm⟩

/-- a read of an attribute that lies in the object itself -/
theorem Tr.getA (G : Gd w s₀ mg mb) {expr : Bool} {cd : ClassData} (hx : σ a = some (.obj (instObj C dx))) (hm : σ dx = some (.att m k)) (hv : m name = some v) (hh : handedIn v = true)
    (hga : findIn (hd.heap_1 w.params) (.ref C) "__getattribute__" = some (some (.builtin "object.__getattribute__"))) (hc : clsIn (hd.heap_1 w.params) C = some cd) (hcd : cd.hasDict = true) (ha : findIn (hd.heap_1 w.params) (.ref C) name = some none) :
    Tr pr w s₀ A fs σ (getAttr (.ref a) name expr) (Pu fs σ (· = v)) := fun s _ _ I q => by
  obtain ⟨od, hod, ho⟩ := I.get hm
  refine get_value (v := v) (I.K G) (I.inst hx rfl rfl rfl hod) hga ?_ hh (q _ _ _ _ ⟨rfl, rfl, rfl⟩ (I.tok _))
  unfold findObj
  rw [hc, Option.bind_some, ha, Option.bind_some]
  simp only [Option.bind_some]
  unfold PySem.W.ownOf
  rw [hcd, if_pos rfl]
  simp only []
  rw [att_look name ho, hv]
  rfl
/-- a store of an attribute into the object itself -/
theorem Tr.setA (G : Gd w s₀ mg mb) {cd : ClassData} {V : Unit → Fs → Sto → Prop} (hx : σ a = some (.obj (instObj C dx))) (hm : σ dx = some (.att m k)) (hz : k < 100)
    (hs : findIn (hd.heap_1 w.params) (.ref C) "__setattr__" = some (some (.builtin "object.__setattr__"))) (hp : plainOver (hd.heap_1 w.params) C = true) (hc : clsIn (hd.heap_1 w.params) C = some cd) (hcd : cd.hasDict = true) (ha : takerIn (hd.heap_1 w.params) C name = some none)
    (h : V () fs (upd σ dx (.att (set1 m name v) (if (m name).isSome then k else k + 1)))) : Tr pr w s₀ A fs σ (setAttr (.ref a) name v) V := fun s _ _ I q => by
  obtain ⟨od, hod, ho⟩ := I.get hm
  have X := I.K G
  have J := I.inst (a := a) hx rfl rfl rfl hod
  refine set_plain X J hs ?_
  have I1 := I.tok (s.toks + 1)
  refine osa_open (s := { s with toks := s.toks + 1 }) X J hp ha fun b => ?_
  obtain ⟨hxx, hcl, hn, -⟩ := J
  refine wpAny_bind (wpAny_pure (wpAny_bind (wpAny_bind (wpAny_loadPart hxx (wpAny_bind ((looks_clsIn (h := s.heap) X hc) _ _ _ _ (fun _ _ e => e) ?_))))))
  rw [hcd]
  refine wpAny_pure (a := some dx) (wpAny_bind (wpAny_pure (wpAny_bind ?_)))
  unfold nsSet
  refine wpAny_bind (wpAny_bind (wpAny_askSetting (wpAny_pure (wpAny_bind (wpAny_mkText (wpAny_bind (wpAny_loadPart hod ?_)))))))
  obtain ⟨es, ep, hd0, hk0, hz0, hm0⟩ := id ho
  rw [hd0]
  dsimp only
  have c : (!es.any (·.key.isStr name) && es.any (·.refKey)) = false := by
    have : es.any (·.refKey) = false := by
      rw [Array.any_eq_false']; intro e he; obtain ⟨n, t, h⟩ := hk0 e he; simp [DictEntry.refKey, h]
    rw [this, Bool.and_false]
  rw [aRefKeyMayBeTheName_at, c]
  obtain ⟨p1, p2, p3⟩ := att_put (name := name) (h := PyData.keyHash w.params name) (t := s.toks + 1) (v := v) ho
  refine wpAny_updatePart hod ?_
  have hnew := Heap.get?_update_self (Obj.putName name (PyData.keyHash w.params name) (.str name (s.toks + 1)) v) hod p3
  obtain ⟨es', ep', q1, q2, q3, q4⟩ := id p1
  refine wpAny_bind (wpAny_lookBehind hnew (by rw [q1]; exact pastItsLine_dict (by rw [sizeLine_eq]; omega)) ?_)
  refine wpAny_pure (q _ _ _ _ h (I.put hm (Heap.SameBut.update ..).extBut hnew ?_ _))
  split
  · exact p2 ‹_›
  · exact p1
end
end Mine
end
section
open PySem PySem.W PySem.Calls PyProof.Rows Builtin Builtin.ObjectAttr Builtin.Getset_descriptor
namespace Mine
/-- an object of _NodeInfo -/
def nodeO (hid : Addr) (vs : Array (Option Value)) : Obj := { cls := .ref 68, dict := some hid, data := .plain, slots := vs }
section
variable {pr : Program} {w : World} {s₀ : Shared} {A : Around} {env : Env} {fs : Fs} {σ : Sto} {m mg mb : NsMap} {x name : Str} {v : Value} {pos : Pos} {P P₁ P₂ : Value → Prop} {rest : List Stmt} {E : Value → Shared → Prop} {s : Shared} {k : Nat} {C a dx p : Addr} {vs : Array (Option Value)} {i : Nat}

theorem Tr.getS (G : Gd w s₀ mg mb) {expr : Bool} (hx : σ a = some (.obj (nodeO dx vs))) (hm : σ dx = some (.obj emptyDict)) (hp : slotIn (hd.heap_1 w.params) p 68 = some i) (hv : (vs[i]?).join = some v) (hh : handedIn v = true)
    (hf : findObj (hd.heap_1 w.params) 68 (some emptyDict) name = some (.bind (.builtin "member_descriptor.__get__") (.ref p)))
    (hga : findIn (hd.heap_1 w.params) (.ref 68) "__getattribute__" = some (some (.builtin "object.__getattribute__"))) (hk : findIn (hd.heap_1 w.params) (.ref 68) "__getattr__" = some none) :
    Tr pr w s₀ A fs σ (getAttr (.ref a) name expr) (Pu fs σ (· = v)) := fun s _ _ I q => by
  obtain ⟨od, hod, rfl⟩ := I.get hm
  have J : InstAt s.heap a (nodeO dx vs) 68 (some emptyDict) := I.inst hx rfl rfl rfl hod
  refine get_bind (I.K G) J hga hf hk (wpAny_call (slot_get (s := { s with toks := s.toks + 1 }) (I.K G) J hp hv ?_))
  show wpAny _ _ (handedOut v) _ _ _
  rw [handedOut_of hh]
  exact wpAny_pure (q _ _ _ _ ⟨rfl, rfl, rfl⟩ (I.tok _))
theorem Tr.setS (G : Gd w s₀ mg mb) {V : Unit → Fs → Sto → Prop} (hx : σ a = some (.obj (nodeO dx vs))) (hm : σ dx = some (.obj emptyDict)) (hp : slotIn (hd.heap_1 w.params) p 68 = some i) (hi : i < 1000)
    (hs : findIn (hd.heap_1 w.params) (.ref 68) "__setattr__" = some (some (.builtin "object.__setattr__"))) (hpl : plainOver (hd.heap_1 w.params) 68 = true) (ht : takerIn (hd.heap_1 w.params) 68 name = some (some (.ref p))) (hT : typeIn (hd.heap_1 w.params) (.ref p) = some (.type "member_descriptor"))
    (h : V () fs (upd σ a (.obj (nodeO dx ((vs ++ Array.replicate (i + 1 - vs.size) none).setIfInBounds i (some v)))))) :
    Tr pr w s₀ A fs σ (setAttr (.ref a) name v) V := fun s Q E I q => by
  obtain ⟨od, hod, rfl⟩ := I.get hm
  have J : InstAt s.heap a (nodeO dx vs) 68 (some emptyDict) := I.inst hx rfl rfl rfl hod
  have X := I.K G
  refine set_plain X J hs ?_
  refine osa_descr (s := { s with toks := s.toks + 1 }) KF.slot_mset X J hpl ht hT ?_
  obtain ⟨n, tn, owner, behind, tb, d, sl, cd, ho, hc, hmm, hb, rfl⟩ := slot_of X hp
  have hxx := J.at_
  have fin : Q () { s with heap := s.heap.update a (fun o => { o with slots := (o.slots ++ Array.replicate (cd.slotNames.length - 1 - behind.toNat + 1 - o.slots.size) none).setIfInBounds (cd.slotNames.length - 1 - behind.toNat) (some v) }), toks := s.toks + 1 } := by
    refine q _ _ _ _ h (I.put hx (Heap.SameBut.update ..).extBut (Heap.get?_update_self _ hxx rfl) ?_ _)
    rfl
  obtain ⟨hh, g, dr, t, os⟩ := s
  have L0 := J.type (M := model pr w)
  have L1 := looks_mroIn (M := model pr w) X hmm
  have L2 : Looks (model pr w) hh (Slots.slotNamesOf (.ref 68)) cd.slotNames := (looks_clsIn X hc).andThen .now
  dsimp only at ho hxx L0 L1 fin
  have f0 := looks_field (M := model pr w) ho 0 (v := .str n tn) rfl
  have f1 := looks_field (M := model pr w) ho 1 (v := owner) rfl
  have f3 := looks_field (M := model pr w) ho 3 (v := .builtin "proto.slot#set") rfl
  have f4 := looks_field (M := model pr w) ho 4 (v := .int behind tb) rfl
  refine codeAny_call_builtin KF.slot_mset.plain KF.entry_mset (KF.slot_mset.check _ _ _ _ _ _ _ _ ⟨_, ho, rfl⟩ (KF.args_mset _ _ _) ?_)
  unfold Builtin.«member_descriptor.__set__» descrSet descrStoreThrough descrCheckInstance descrNameAndClass isInstance
  have f5 : Looks (model pr w) hh (descrItself (.ref p)) [.ref p] := ((Looks.ld (part := none) ho).andThen .now).andThen (Looks.of_pure (by kernel_rfl))
  repeat lk
  refine ⟨Code.quiet_builtin _ (by decide +kernel), codeAny_builtin KF.entry_slotset ?_⟩
  unfold Builtin.«proto.slot#set» Slots.target
  repeat lk
  rw [if_neg hb]
  refine wpAny_pure (wpAny_bind ?_)
  unfold setSlotAt
  dsimp only
  rw [if_neg (by rw [sizeLine_eq]; omega)]
  exact wpAny_updatePart hxx (wpAny_pure fin)

/-! o.name, o.name = e, o.name op= e -/
theorem Tr.attr {o : Expr} {attr : Str} {V W : Value → Fs → Sto → Prop} (ho : Tr pr w s₀ A fs σ (eval o env) W) (h : ∀ ov fs' σ', W ov fs' σ' → Tr pr w s₀ A fs' σ' (getAttr ov attr true) V)
    (he : eval (.Attribute o attr pos) env = (do
      let o' ← eval o env
      standAt pos.atName
      let r ← holding [o'] (getAttr o' attr true)
      letTemporaryGo o o' r
      Pure.pure r) := by rfl) : Tr pr w s₀ A fs σ (eval (.Attribute o attr pos) env) V := fun s _ _ I q =>
  Attribute_any_ (ho s _ _ I fun ov fs' σ' s' hw I' => h ov fs' σ' hw s' _ _ I' q) he
theorem Pv.attr {o : Expr} {attr : Str} {ov : Value} (ho : Pv pr w s₀ A env fs σ o (· = ov)) (h : Tr pr w s₀ A fs σ (getAttr ov attr true) (Pu fs σ P))
    (he : eval (.Attribute o attr pos) env = (do
      let o' ← eval o env
      standAt pos.atName
      let r ← holding [o'] (getAttr o' attr true)
      letTemporaryGo o o' r
      Pure.pure r) := by rfl) : Pv pr w s₀ A env fs σ (.Attribute o attr pos) P :=
  Tr.attr ho (fun v _ _ ⟨e1, e2, e3⟩ => by subst e1 e2 e3; exact h) he
theorem Tr.assignA {o e : Expr} {attr : Str} {pos' : Pos} {V : Flow → Fs → Sto → Prop} {W : Value → Fs → Sto → Prop} (h : Tr pr w s₀ A fs σ (eval e env) W) (hn : ∀ v fs' σ', W v fs' σ' → Tr pr w s₀ A fs' σ' (eval o env) (fun ov fs1 σ1 => Tr pr w s₀ A fs1 σ1 (setAttr ov attr v) (fun _ fs2 σ2 => Tr pr w s₀ A fs2 σ2 (execs rest env) V)))
    (hs : swapsWith e (some (.Attribute o attr pos')) pos.line env = Pure.pure false := by rfl) : Tr pr w s₀ A fs σ (execs (.Assign [.Attribute o attr pos'] e pos :: rest) env) V := fun s _ _ I q =>
  wpAny_execs_cons (plainObj_wpAny_Assign_Attribute (h s _ _ I fun v fs' σ' s' hw I' => hn v fs' σ' hw s' _ _ I' fun ov fs1 σ1 s1 h1 I1 => h1 s1 _ _ I1 fun _ fs2 σ2 s2 h2 I2 => h2 s2 _ _ I2 q) hs)
theorem Tr.augA {o e : Expr} {attr : Str} {pos' : Pos} {op : Operator} {V : Flow → Fs → Sto → Prop} {W : Value → Fs → Sto → Prop} (h : Tr pr w s₀ A fs σ (eval o env) (fun ov fs1 σ1 => Tr pr w s₀ A fs1 σ1 (getAttr ov attr true) (fun old fs2 σ2 => Tr pr w s₀ A fs2 σ2 (eval e env) (fun v fs3 σ3 => Tr pr w s₀ A fs3 σ3 (inplaceOp op old v) (fun new fs4 σ4 => Tr pr w s₀ A fs4 σ4 (setAttr ov attr new) (fun _ fs5 σ5 => Tr pr w s₀ A fs5 σ5 (execs rest env) V)))))) :
    Tr pr w s₀ A fs σ (execs (.AugAssign (.Attribute o attr pos') op e pos :: rest) env) V := fun s _ _ I q =>
  wpAny_execs_cons (wpAny_AugAssign_AttributeAny (h s _ _ I fun ov fs1 σ1 s1 h1 I1 => h1 s1 _ _ I1 fun old fs2 σ2 s2 h2 I2 => h2 s2 _ _ I2 fun v fs3 σ3 s3 h3 I3 => h3 s3 _ _ I3 fun new fs4 σ4 s4 h4 I4 => h4 s4 _ _ I4 fun _ fs5 σ5 s5 h5 I5 => h5 s5 _ _ I5 q))
theorem Tr.iadd {a b : Int} {t u : Tok} : Tr pr w s₀ A fs σ (inplaceOp .Add (.int a t) (.int b u)) (Pu fs σ (IsI (a + b))) := fun s _ _ I q => AutoIntOps.iadd_0 (q _ _ _ _ ⟨rfl, rfl, _, rfl⟩ (I.tok _))
theorem Tr.isub {a b : Int} {t u : Tok} : Tr pr w s₀ A fs σ (inplaceOp .Sub (.int a t) (.int b u)) (Pu fs σ (IsI (a - b))) := fun s _ _ I q => AutoIntOps.isub_0 (q _ _ _ _ ⟨rfl, rfl, _, rfl⟩ (I.tok _))
end
end Mine
end
section
open PySem PySem.W PySem.Calls PyProof.Rows Builtin
namespace Mine
section
variable {pr : Program} {w : World} {s₀ : Shared} {A : Around} {env : Env} {fs : Fs} {σ : Sto} {m mg mb : NsMap} {x name : Str} {v : Value} {pos : Pos} {rest : List Stmt} {E : Value → Shared → Prop} {s : Shared} {k : Nat} {C a dx f q : Addr} {V : Value → Fs → Sto → Prop}

/-- the facts of a method of a class of the text -/
structure Mth (K : Frag) (C : Addr) (name : Str) (f : Addr) : Prop where
  ga : findIn K (.ref C) "__getattribute__" = some (some (.builtin "object.__getattribute__"))
  gn : findIn K (.ref C) "__getattr__" = some none
  at' : findIn K (.ref C) name = some (some (.ref f))
  ty : typeIn K (.ref f) = some (.type "function")
  fn : ∃ c d fd sl, K.lookup f = some ⟨c, d, .func fd, sl⟩
  get : specialIn K (.ref f) "__get__" = some (some (.builtin "function.__get__"))
  tk : takesIn K (.ref f) = some false
  cls : ∃ cd, clsIn K C = some cd ∧ cd.hasDict = true
  nc : copiedNames.contains name = false

theorem Mth.keep (M : Mth (hd.heap_1 w.params) C name f) (G : Gd w s₀ mg mb) (h : Heap) (hh : ∀ b o, s₀.heap.get? b = some o → h.get? b = some o) : ∃ k, (k = Keeper.frame ∨ k = Keeper.machine ∨ k = Keeper.boundFrame) ∧ Looks (model pr w) h (keeperOf (.ref f)) k := by
  obtain ⟨c, d, fd, sl, e⟩ := M.fn
  exact ⟨.frame, .inl rfl, (Looks.ld (part := none) (hh _ _ (G.X _ _ e))).andThen .now⟩

theorem Tr.methI (G : Gd w s₀ mg mb) (M : Mth (hd.heap_1 w.params) C name f) {o : Expr} {apos : Pos} {e : Expr} {args : List Expr} {pl : Sem Bool} {W : List Value → Fs → Sto → Prop} (ho : Pv pr w s₀ A env fs σ o (· = .ref a)) (hx : σ a = some (.obj (instObj C dx))) (hm : σ dx = some (.att m k)) (hmn : m name = none)
    (ha : Tr pr w s₀ A fs σ (spliced (backTo pos (starEach (e :: args) env))) W) (hc : ∀ vs fs' σ', W vs fs' σ' → Tr pr w s₀ A fs' σ' (call (.ref f) (.ref a :: vs)) V)
    (hse : starEach (e :: args) env = (false, eval e env) :: starEach args env := by rfl) (hp : (backTo pos (starEach args env)).any (·.1) = false := by rfl)
    (he : eval (.Call (.Attribute o name apos) (e :: args) [] pos) env = (do
      let ov ← eval o env
      standAt apos.atName
      let (f, first) ← holding [ov] (getMethod ov name pl)
      callWith pos f first (backTo pos (starEach (e :: args) env)) (backToKw pos (keywordEach [] env))) := by rfl) :
    Tr pr w s₀ A fs σ (eval (.Call (.Attribute o name apos) (e :: args) [] pos) env) V := fun s _ _ I q => by
  refine methodCall_KW (pl := pl) (ho s _ _ I fun ov _ _ s₁ ⟨e1, e2, e3⟩ I₁ => ?_) he
  subst e1 e2 e3
  obtain ⟨od, hod, hoi⟩ := I₁.get hm
  refine method_fn (I₁.K G) (I₁.inst hx rfl rfl rfl hod) M.ga M.gn M.at' M.ty (by show (lookIn name od).map _ = _; rw [att_look name hoi, hmn]; rfl) ?_
  rw [hse] at ha ⊢
  refine callWith_of (P := fun h => ∀ b o, s₀.heap.get? b = some o → h.get? b = some o) (by show ((false || (backTo pos (starEach args env)).any (·.1)) || false) = false; rw [hp]; rfl) (fun h hh => M.keep G h hh)
    (Calls.evalArgs_plain (ha s₁ _ _ I₁ fun vs fs' σ' s' hw I' => ⟨I'.keep, hc vs fs' σ' hw s' _ _ I' q⟩))
theorem Tr.methI0 (G : Gd w s₀ mg mb) (M : Mth (hd.heap_1 w.params) C name f) {o : Expr} {apos : Pos} {pl : Sem Bool} (ho : Pv pr w s₀ A env fs σ o (· = .ref a)) (hx : σ a = some (.obj (instObj C dx))) (hm : σ dx = some (.att m k)) (hmn : m name = none)
    (hc : Tr pr w s₀ A fs σ (call (.ref f) [.ref a]) V)
    (he : eval (.Call (.Attribute o name apos) [] [] pos) env = (do
      let ov ← eval o env
      standAt apos.atName
      let (f, first) ← holding [ov] (getMethod ov name pl)
      callWith pos f first (backTo pos (starEach [] env)) (backToKw pos (keywordEach [] env))) := by rfl) :
    Tr pr w s₀ A fs σ (eval (.Call (.Attribute o name apos) [] [] pos) env) V := fun s _ _ I q => by
  refine methodCall_KW (pl := pl) (ho s _ _ I fun ov _ _ s₁ ⟨e1, e2, e3⟩ I₁ => ?_) he
  subst e1 e2 e3
  obtain ⟨od, hod, hoi⟩ := I₁.get hm
  refine method_fn (I₁.K G) (I₁.inst hx rfl rfl rfl hod) M.ga M.gn M.at' M.ty (by show (lookIn name od).map _ = _; rw [att_look name hoi, hmn]; rfl) ?_
  exact callWith_of (P := fun h => ∀ b o, s₀.heap.get? b = some o → h.get? b = some o) rfl (fun h hh => M.keep G h hh) (evalArgs_nil3 ⟨I₁.keep, hc s₁ _ _ I₁ q⟩)

/-! bound methods and starred arguments -/
theorem Tr.bound (G : Gd w s₀ mg mb) (M : Mth (hd.heap_1 w.params) C name f) {expr : Bool} (hx : σ a = some (.obj (instObj C dx))) (hm : σ dx = some (.att m k)) (hmn : m name = none)
    (h : ∀ q, σ q = none → V (.ref q) fs (upd σ q (.obj (methodObj (.ref f) (.ref a))))) : Tr pr w s₀ A fs σ (getAttr (.ref a) name expr) V := fun s _ _ I q => by
  obtain ⟨od, hod, hoi⟩ := I.get hm
  obtain ⟨cd, hcd, hdict⟩ := M.cls
  have hf : findObj (hd.heap_1 w.params) C (some od) name = some (.bind (.builtin "function.__get__") (.ref f)) := by
    unfold findObj
    rw [hcd, Option.bind_some, M.at', Option.bind_some]
    simp only [M.get, M.tk, Option.bind_some]
    unfold PySem.W.ownOf
    rw [hdict, if_pos rfl]
    simp only []
    rw [att_look name hoi, hmn]
    simp only [Option.bind_some, M.nc, Bool.false_and, Bool.false_eq_true, if_false]
  refine get_bind (I.K G) (I.inst hx rfl rfl rfl hod) M.ga hf M.gn (wpAny_call (fn_get (s := { s with toks := s.toks + 1 }) (I.K G) M.ty ?_))
  obtain ⟨hn, I'⟩ := I.push (x := .obj (methodObj (.ref f) (.ref a))) (o := methodObj (.ref f) (.ref a)) rfl rfl (s.toks + 1)
  exact wpAny_pure (q _ _ _ _ (h _ hn) I')
def Tc (pr : Program) (w : World) (s₀ : Shared) (A : Around) (fs : Fs) (σ : Sto) (c : Code) (V : Value → Fs → Sto → Prop) : Prop :=
  ∀ (s : Shared) (Q : Value → Shared → Prop) (E : Value → Shared → Prop), Inv s₀ fs σ s → (∀ v fs' σ' s', V v fs' σ' → Inv s₀ fs' σ' s' → Q v s') → codeAny (model pr w) A c (fun r s' => match r with | .ok (.ret v) => Q v s' | .ok _ => False | .error e => E e s') s
theorem Tc.call {fv : Value} {args : List Value} (h : Tc pr w s₀ A fs σ (.call fv ⟨args, []⟩) V) : Tr pr w s₀ A fs σ (PySem.call fv args) V := fun s Q E I q => wpAny_call (h s Q E I q)
theorem Tc.meth {args : List Value} {self fv : Value} (hq : σ q = some (.obj (methodObj fv self))) (h : Tc pr w s₀ A fs σ (.call fv ⟨self :: args, []⟩) V) : Tc pr w s₀ A fs σ (.call (.ref q) ⟨args, []⟩) V := fun s Q E I qq => by
  obtain ⟨o, ho, rfl⟩ := I.get hq
  exact method_call ho (h s Q E I qq)
theorem Tc.callB {a : Addr} {fd : FuncData} {body : List Stmt} {args : Args} {k : Nat} (B : Bs s₀ mg mb) (D : Def s₀ a fd body) (O : Ok A fs (k + 1)) {W : List (Str × Value) → Fs → Sto → Prop}
    (hb : Tr pr w s₀ A.in1 fs σ (bindArgs fd args) W)
    (hkind : ∀ binds fs' σ', W binds fs' σ' → fs' = fs ∧ ∀ n, ∀ y ∈ binds, fd.scope.names.lookup y.1 = some .local ∨ (fd.scope.names.lookup y.1 = some .cell ∧ ((cellsFrom n fd.scope.names []).lookup y.1).isSome = true))
    (h : ∀ binds σ' L σ'', W binds fs σ' → Sub σ' σ'' → Ok (A.deeper (fenv fd.scope fd.qualname fd.code L a)) ((fenv fd.scope fd.qualname fd.code L a, bindL (fenv fd.scope fd.qualname fd.code L a).kindOf binds fun _ => none) :: fs) k →
      (∀ n c, (cellsFrom (L + 1) fd.scope.names []).lookup n = some c → σ' c = none ∧ σ'' c = some (.cell (bindC (fenv fd.scope fd.qualname fd.code L a).kindOf binds (fun _ => none) n))) →
      Tr pr w s₀ (A.deeper (fenv fd.scope fd.qualname fd.code L a)) ((fenv fd.scope fd.qualname fd.code L a, bindL (fenv fd.scope fd.qualname fd.code L a).kindOf binds fun _ => none) :: fs) σ'' (execs body (fenv fd.scope fd.qualname fd.code L a))
        (fun f fs' σ' => ∃ m', fs' = (fenv fd.scope fd.qualname fd.code L a, m') :: fs ∧ V (flowVal f) fs σ')) :
    Tc pr w s₀ A fs σ (.call (.ref a) args) V := fun s Q E I q => by
  obtain ⟨o, ho, hd⟩ := D.at'
  refine codeAny_call_function (by have := O.depth; omega) (I.keep _ _ ho) hd D.co D.gen D.body (D.code.keeps I.keep) ?_
  refine hb s _ _ I fun binds fs' σ' s₁ hw I₁ => ?_
  obtain ⟨rfl, hk⟩ := hkind binds fs' σ' hw
  rw [D.clo]
  refine wpAny_newFunctionEnv_cells D.kind (hk _) fun env he s₂ x => ?_
  refine ⟨(B.lim.keeps I₁.keep).keeps x.toInCall.keep, codeAny_func ?_⟩
  have he' : env = fenv fd.scope fd.qualname fd.code s₁.heap.objs.size a := by rw [he, D.glo, D.bui]; rfl
  have hL : env.locals = s₁.heap.objs.size := by rw [he']; rfl
  have hcs : env.cells = cellsFrom (s₁.heap.objs.size + 1) fd.scope.names [] := by rw [he']; rfl
  obtain ⟨σ'', hs, I₂, hc, hn⟩ := cells_get I₁ x (by rw [hL]; exact Nat.le_refl _)
  have I₃ : Inv s₀ ((env, bindL env.kindOf binds fun _ => none) :: fs') σ'' s₂ := by
    refine ⟨I₂.same, I₂.keep, I₂.own, fun f hf => ?_, ?_⟩
    · rcases List.mem_cons.mp hf with rfl | hf
      · refine ⟨by rw [he']; rfl, by rw [he']; exact D.kind, ?_, hn, x.toInCall.ns⟩
        cases q' : s₀.heap.get? env.locals with
        | none => rfl
        | some o' => have := Heap.lt_size (I₁.keep _ _ q'); rw [hL] at this; exact absurd this (Nat.lt_irrefl _)
      · exact I₂.fr f hf
    · refine List.nodup_cons.mpr ⟨fun hm => ?_, I₂.nd⟩
      obtain ⟨f, hf, e⟩ := List.mem_map.mp hm
      have := (I₁.fr f hf).2.2.2.2.lt
      have e' : f.1.locals = env.locals := e
      rw [e', hL] at this
      exact Nat.lt_irrefl _ this
  rw [he'] at I₃
  have := h binds σ' s₁.heap.objs.size σ'' hw hs O.deeper (fun n c e => by rw [hcs] at hc; have := hc n c e; rw [he'] at this; exact this)
  rw [he']
  refine this s₂ _ _ I₃ fun f fs' σ₃ s₃ ⟨m', e, hv⟩ I₄ => ?_
  subst e
  have := q _ _ _ _ hv I₄.pop
  cases f <;> exact this
/-- a def of the text whose binding is a tree -/
theorem Tc.fnB {K : Frag} {a : Addr} {oc : Value} {od : Option Addr} {osl : Array (Option Value)} {name qual : Str} {params : Arguments} {body : List Stmt} {scope : Scope} {dV kV doc pm : Value} {an : Option Addr} {cdv ct : Value} {args : Args} {k : Nat}
    (B : Bs s₀ mg mb) (X : K.In s₀.heap) (e : K.lookup a = some ⟨oc, od, .func (fnOf name qual params body scope dV kV doc pm an cdv ct), osl⟩) (hc : codeIn K cdv qual = true) (O : Ok A fs (k + 1)) {W : List (Str × Value) → Fs → Sto → Prop}
    (hb : Tr pr w s₀ A.in1 fs σ (bindArgs (fnOf name qual params body scope dV kV doc pm an cdv ct) args) W)
    (hkind : ∀ binds fs' σ', W binds fs' σ' → fs' = fs ∧ (binds.all fun y => scope.names.lookup y.1 == some .local || scope.names.lookup y.1 == some .cell) = true)
    (h4 : scope.isCoroutine = false) (h5 : scope.isGenerator = false) (h6 : scope.kind = .function)
    (h : ∀ binds σ' L σ'', W binds fs σ' → Sub σ' σ'' → Ok (A.deeper (fenv scope qual cdv L a)) ((fenv scope qual cdv L a, bindL (fenv scope qual cdv L a).kindOf binds fun _ => none) :: fs) k →
      (∀ n c, (cellsFrom (L + 1) scope.names []).lookup n = some c → σ' c = none ∧ σ'' c = some (.cell (bindC (fenv scope qual cdv L a).kindOf binds (fun _ => none) n))) →
      Tr pr w s₀ (A.deeper (fenv scope qual cdv L a)) ((fenv scope qual cdv L a, bindL (fenv scope qual cdv L a).kindOf binds fun _ => none) :: fs) σ'' (execs body (fenv scope qual cdv L a))
        (fun f fs' σ' => ∃ m', fs' = (fenv scope qual cdv L a, m') :: fs ∧ V (flowVal f) fs σ')) :
    Tc pr w s₀ A fs σ (.call (.ref a) args) V :=
  Tc.callB (fd := fnOf name qual params body scope dV kV doc pm an cdv ct) (body := body) B (mkDef X e rfl hc rfl rfl rfl h4 h5 h6) O hb (fun binds fs' σ' hw => ⟨(hkind binds fs' σ' hw).1, kindsX (hkind binds fs' σ' hw).2⟩) h
theorem Tr.collectL {l : Addr} {vs : List Value} {V : List Value → Fs → Sto → Prop} (hl : σ l = some (.list vs) ∨ σ l = some (.tup vs)) (hz : vs.length ≤ sizeLine) (h : V vs fs σ) : Tr pr w s₀ A fs σ (collect (.ref l)) V := fun s _ _ I q => by
  rcases hl with hl | hl
  · obtain ⟨n, hg⟩ := I.isL hl
    exact wpAny_collect_seq l (T := "list") (items := vs.toArray) (.inl rfl) hg rfl rfl (fun h' hk => q _ _ _ _ h (I.grow hk s.toks)) (by simpa using hz)
  · obtain ⟨o, ho, hc, n, hd⟩ := I.get hl
    exact wpAny_collect_seq l (T := "tuple") (items := vs.toArray) (.inr rfl) ho hc hd (fun h' hk => q _ _ _ _ h (I.grow hk s.toks)) (by simpa using hz)
theorem Tr.iterable {l : Addr} {vs : List Value} (hl : σ l = some (.list vs) ∨ σ l = some (.tup vs)) : Tr pr w s₀ A fs σ (notIterableAtAll (.ref l)) (Pu fs σ (· = false)) := fun s _ _ I q => by
  unfold notIterableAtAll
  rcases hl with hl | hl
  · exact wpAny_bind (wpAny_specialOf (I.isList hl).typeIs F.slot_list_iter.lookup (wpAny_pure (q _ _ _ _ ⟨rfl, rfl, rfl⟩ I)))
  · exact wpAny_bind (wpAny_specialOf (I.tuple hl).typeIs F.slot_tuple_iter.lookup (wpAny_pure (q _ _ _ _ ⟨rfl, rfl, rfl⟩ I)))
end
end Mine
end
section
open PySem PySem.W PySem.Calls PyProof.Rows Builtin
namespace Mine
section
variable {pr : Program} {w : World} {s₀ : Shared} {A : Around} {env : Env} {fs : Fs} {σ : Sto} {m mg mb : NsMap} {x name : Str} {v : Value} {pos : Pos} {E : Value → Shared → Prop} {s : Shared} {k : Nat} {C a dx f q : Addr} {V : Value → Fs → Sto → Prop}
theorem Ok.tc {C : Addr} {r : List Value} (O : Ok A fs (k + 1)) : Ok (A.under (.builtin "type.__call__" ⟨.ref C :: r, []⟩)) fs k := by
  have h1 : (Code.builtin "type.__call__" ⟨.ref C :: r, []⟩).weight = 1 := by kernel_rfl
  have h2 : (Code.builtin "type.__call__" ⟨.ref C :: r, []⟩).cUnits = 1 := by kernel_rfl
  have h3 : (Code.builtin "type.__call__" ⟨.ref C :: r, []⟩).envs = [] := by kernel_rfl
  refine ⟨?_, ?_, ?_, O.handled⟩
  · have := O.depth; show A.depth + (Code.builtin "type.__call__" ⟨.ref C :: r, []⟩).weight + k < _; rw [h1]; omega
  · have := O.units; show A.units + (Code.builtin "type.__call__" ⟨.ref C :: r, []⟩).cUnits + 20 * k + 20 < _; rw [h2]; omega
  · show pushEnvs (Code.builtin "type.__call__" ⟨.ref C :: r, []⟩).envs A.frames = _; rw [h3]; exact O.frames
/-- C(args), C a class of the text -/
theorem Tc.make (G : Gd w s₀ mg mb) {C fI : Addr} {rest : List Value} (X : AO) (hX : X.Is emptyDict) (hm : makesIn (hd.heap_1 w.params) C = true) (hi : findIn (hd.heap_1 w.params) (.ref C) "__init__" = some (some (.ref fI))) (hf : typeIn (hd.heap_1 w.params) (.ref fI) = some (.type "function"))
    (h : ∀ x dx, σ x = none → σ dx = none → x ≠ dx → Tc pr w s₀ (A.under (.builtin "type.__call__" ⟨.ref C :: rest, []⟩)) fs (upd (upd σ dx X) x (.obj (instObj C dx))) (.call (.ref fI) ⟨.ref x :: rest, []⟩) (fun v fs' σ' => v = .none ∧ V (.ref x) fs' σ')) :
    Tc pr w s₀ A fs σ (.call (.ref C) ⟨rest, []⟩) V := fun s Q E I q => by
  have XK := I.K G
  obtain ⟨n1, I1⟩ := I.push (x := X) (o := emptyDict) hX rfl s.toks
  obtain ⟨n2, I2⟩ := I1.push (x := .obj (instObj C s.heap.objs.size)) (o := instObj C s.heap.objs.size) rfl rfl s.toks
  have hne : (s.heap.push emptyDict).objs.size ≠ s.heap.objs.size := by rw [Heap.size_push]; exact Nat.succ_ne_self _
  have n3 : σ (s.heap.push emptyDict).objs.size = none := by
    have := n2
    dsimp only at this
    rw [upd_ne hne] at this; exact this
  have hh := h (s.heap.push emptyDict).objs.size s.heap.objs.size n3 n1 hne
  obtain ⟨hp, g, d, t, os⟩ := s
  refine make_core (makes_of XK hm) (looks_findIn XK hi) (fun self => bind_fn XK self hf) (.inl rfl) ?_
  dsimp only at hh I2
  rw [Heap.size_push] at hh I2
  refine codeAny_mono (hh _ (fun v s' => v = .none ∧ Q (.ref (hp.objs.size + 1)) s') E I2 (fun v fs' σ' s' ⟨e, hv⟩ I' => ⟨e, q _ _ _ _ hv I'⟩)) fun r s' z => ?_
  rcases r with e | (u | _ | _ | _) <;> first | exact z | exact z.elim

/-! dicts with ints for keys -/
theorem pairs_any {prog prog' : Program} {w w' : World} {es : List DictEntry} {kvs : List (Int × Value)} (h : Pairs (intKind prog w) es kvs) : Pairs (intKind prog' w') es kvs := by
  induction h with
  | nil => exact .nil
  | cons a b _ ih => exact .cons a b ih
theorem Inv.imap {d : Addr} {kvs : List (Int × Value)} {ep : Nat} (I : Inv s₀ fs σ s) (h : σ d = some (.imap kvs ep)) : s.heap.DictAt (intKind pr w) d kvs ep := by
  obtain ⟨o, ho, es, h1, h2, h3, h4⟩ := I.get h
  exact ⟨o, es, ho, h1, h2, (h3 pr w).1, (h3 pr w).2, h4⟩
theorem imap_of {h : Heap} {d : Addr} {kvs : List (Int × Value)} {ep : Nat} (x : h.DictAt (intKind pr w) d kvs ep) : ∃ o, h.get? d = some o ∧ (AO.imap kvs ep).Is o := by
  obtain ⟨o, es, ho, h1, h2, h3, h4, h5⟩ := x
  exact ⟨o, ho, es, h1, h2, fun prog' w' => ⟨h3, pairs_any h4⟩, h5⟩
end
end Mine
end
section
open PySem PySem.W PySem.Calls PyProof.Rows Builtin
namespace Mine
section
variable {pr : Program} {w : World} {s₀ : Shared} {A : Around} {env : Env} {fs : Fs} {σ : Sto} {m mg mb : NsMap} {x name : Str} {v : Value} {pos : Pos} {E : Value → Shared → Prop} {s : Shared} {n : Int} {d a : Addr} {kvs : List (Int × Value)} {ep : Nat} {t : Tok} {V : Value → Fs → Sto → Prop} {P : Value → Prop}

theorem Inv.imapOf (I : Inv s₀ fs σ s) (h : σ d = some (.imap kvs ep)) : s.heap.DictOf (intKind pr w) d kvs := (I.imap (pr := pr) (w := w) h).dictOf
theorem isInt_int : (intKind pr w).is n (.int n t) = true := by show Value.isInt n (.int n t) = true; simp [Value.isInt]
theorem Tr.dictNew (G : Gd w s₀ mg mb) (h : ∀ d, σ d = none → (d == sysModules) = false → V (.ref d) fs (upd σ d (.imap [] 0))) : Tr pr w s₀ A fs σ (eval (.Dict [] [] pos) env) V := fun s _ _ I q => by
  refine wpAny_Dict_empty ?_
  obtain ⟨hn, I'⟩ := I.push (x := .imap [] 0) (o := { cls := .type "dict", data := .dict #[] }) ⟨#[], ⟨rfl, rfl, rfl⟩, rfl, fun _ _ => ⟨fun _ he => by simp at he, .nil⟩, by simp⟩ rfl s.toks
  refine q _ _ _ _ (h _ hn ?_) I'
  obtain ⟨o, _, _, ho, _⟩ := G.B.g.keeps I.keep
  have h1 := ltN (Heap.lt_size ho)
  rw [beq_eq_false_iff_ne]
  intro e
  have h2 : s.heap.objs.size = 1 := e
  rw [h2] at h1
  have : ¬ ((mainGlobals : Nat) < 1) := by decide
  exact this h1
theorem dict_get_ok (hs : σ d = some (.imap kvs ep)) : ∀ s, Inv s₀ fs σ s → ∃ T id, s.TypeIs (.ref d) T ∧ typeLookup (.type T) "__getitem__" = Pure.pure (some (.builtin id)) := fun s I =>
  let ⟨o, ho, es, h1, _⟩ := I.get hs; ⟨_, _, ⟨o, ho, h1.1⟩, slot_dict_getitem.lookup⟩
theorem getDict (hs : σ d = some (.imap kvs ep)) (hv : valueAt kvs n = some v) : Tr pr w s₀ A fs σ (getItem (.ref d) (.int n t)) (Pu fs σ (· = v)) := fun s _ _ I q =>
  wpAny_getItem_of (knd := intKind pr w) isInt_int (I.imapOf hs).mapOf hv (q _ _ _ _ ⟨rfl, rfl, rfl⟩ (I.tok _))
theorem setDict {V : Unit → Fs → Sto → Prop} (hs : σ d = some (.imap kvs ep)) (hz : kvs.length ≤ 2 ^ 20) (h : ∀ ep', V () fs (upd σ d (.imap (stored kvs n v) ep'))) : Tr pr w s₀ A fs σ (setItem (.ref d) (.int n t) v) V := fun s _ _ I q => by
  refine wpAny_setItem_pairs (knd := intKind pr w) isInt_int (I.imapOf hs) (fun h' hd hsb => ?_) (by rw [sizeLine_eq]; omega)
  obtain ⟨ep', hd'⟩ := hd.dictAt
  obtain ⟨o, ho, hi⟩ := imap_of hd'
  exact q _ _ _ _ (h ep') (I.put hs hsb.extBut ho hi _)
theorem delDict {V : Unit → Fs → Sto → Prop} (hs : σ d = some (.imap kvs ep)) (hz : kvs.length ≤ 2 ^ 20) (hv : (valueAt kvs n).isSome = true) (h : ∀ ep', V () fs (upd σ d (.imap (without kvs n) ep'))) : Tr pr w s₀ A fs σ (delItem (.ref d) (.int n t)) V := fun s _ _ I q => by
  have hD := I.imapOf (pr := pr) (w := w) hs
  unfold delItem
  try with_reducible refine wpAny_holding ?_
  refine wpAny_bind (wpAny_sequenceKey hD.typeIs (by decide) ?_)
  refine wpAny_bind (wpAny_callSpecial?_slot (name := Str.ofString "__delitem__") hD.typeIs PySem.F.slot_dict_delitem
    (call_meetsIn PySem.F.slot_dict_delitem hD.typeIs PySem.F.entry_dict_delitem (PySem.F.args_dict_delitem_2 _ _) (meets_dict_delitem_pairs (intKind pr w) d isInt_int) ⟨kvs, hD, (by rw [sizeLine_eq]; omega), hv, fun h' hmm hsb => ?_⟩))
  obtain ⟨ep', hd'⟩ := hmm.dictAt
  obtain ⟨o, ho, hi⟩ := imap_of hd'
  exact wpAny_pure (q _ _ _ _ (h ep') (I.put hs hsb.extBut ho hi _))
theorem cmp_inDict (hs : σ d = some (.imap kvs ep)) (hd : (d == sysModules) = false) (hv : IsI n v) : Tr pr w s₀ A fs σ (compareOp .In v (.ref d)) (Pu fs σ (IsB (valueAt kvs n).isSome)) := by
  obtain ⟨t, rfl⟩ := hv
  exact fun s _ _ I q => wpAny_in_of (knd := intKind pr w) isInt_int hd (I.imapOf hs).mapOf (q _ _ _ _ ⟨rfl, rfl, rfl⟩ (I.tok _))
theorem dict_on (hs : σ d = some (.imap kvs ep)) : ∀ s, Inv s₀ fs σ s → s.TypeIs (.ref d) "dict" ∧ ∀ b, Value.ref d = .ref b → ∃ ob, s.heap.get? b = some ob ∧ ob.dict = none := fun s I =>
  let ⟨o, ho, es, h1, _⟩ := I.get hs; ⟨⟨o, ho, h1.1⟩, fun b e => by injection e with e; subst e; exact ⟨o, ho, h1.2.1⟩⟩
/-- d.get(k) -/
theorem Pv.dictGet {o e : Expr} {apos : Pos} (ho : Pv pr w s₀ A env fs σ o (· = .ref d)) (he : Pv pr w s₀ A env fs σ e (IsI n)) (hs : σ d = some (.imap kvs ep)) (hd : (d == sysModules) = false)
    (hbase : attributeBase o (Str.ofString "get") env (eval o env) = eval o env := by rfl) (hse : starEach [e] env = (false, eval e env) :: starEach [] env := by rfl)
    (hfew : ((backTo pos (starEach [e] env)).all (fun x => !x.1) && (backToKw pos (keywordEach [] env)).all (fun x => x.1.isSome) && decide ([e].length + ([] : List Keyword).length + (if ([] : List Keyword).isEmpty then 0 else 1) < 30)) = true := by rfl)
    (hline : (apos.endLine == pos.line) = true := by rfl) : Pv pr w s₀ A env fs σ (.Call (.Attribute o (Str.ofString "get") apos) [e] [] pos) (· = (valueAt kvs n).getD .none) :=
  Tr.meth F.plainAttrs_dict F.slot_dict_get F.type_dict_get ho (fun _ _ _ ⟨e1, e2, e3⟩ => by
    subst e1 e2 e3
    refine ⟨dict_on hs, Tr.cwB (W := Pu _ _ (fun ws => ∃ t, ws = [.int n t])) (Tr.argsC he (fun v _ _ ⟨e1, e2, t, hv⟩ => by subst e1 e2 hv; exact Tr.args0 ⟨rfl, rfl, t, rfl⟩) hse) ?_ hse⟩
    first | refine puI fun t => ?_ | rintro _ _ _ ⟨rfl, rfl, t, rfl⟩
    intro s _ _ I q
    exact call_meetsIn F.slot_dict_get (I.imapOf (pr := pr) (w := w) hs).typeIs F.entry_dict_get (F.args_dict_get_2 _ _) (meets_dict_get (intKind pr w) d isInt_int hd) ⟨_, (I.imapOf hs).mapOf, q _ _ _ _ ⟨rfl, rfl, rfl⟩ (I.tok _)⟩) hbase hfew hline
/-! walks -/
theorem Sz.keys (hh : A.handled = none) (hd : (d == sysModules) = false) (hs : σ d = some (.imap kvs ep)) : Sz pr w s₀ A fs σ (.ref d) kvs.length (fun i v => ∃ k u, kvs[i]? = some (k, u) ∧ IsI k v) [(d, .imap kvs ep)] (fun i => .rcd "dict_keyiterator" #[.ref d, .int i 0, .int kvs.length 0, .int ep 0]) where
  known := by simpa using hs
  make := fun s _ _ Iv q => by
    refine wpAny_pyIter_dict hd (Iv.imap (pr := pr) (w := w) hs) ?_
    obtain ⟨n, I'⟩ := Iv.push (x := .rcd "dict_keyiterator" #[.ref d, .int 0 0, .int kvs.length 0, .int ep 0]) (o := { cls := .type "dict_keyiterator", data := .fields #[.ref d, .int 0 0, .int kvs.length 0, .int ep 0] }) ⟨rfl, rfl⟩ rfl s.toks
    exact q _ _ _ _ ⟨_, rfl, rfl, n, rfl⟩ I'
  item := fun I i fs σ hi h1 h2 s _ _ Iv q => by
    obtain ⟨o, g1, g2, g3⟩ := Iv.rcd h1
    have hk : kvs[i]? = some (kvs[i].1, kvs[i].2) := by rw [List.getElem?_eq_getElem hi]
    refine wpAny_pyNext_dict_item ⟨o, g1, g2, g3⟩ (Iv.imap (pr := pr) (w := w) (h2 (d, .imap kvs ep) (by simp))) hk fun key h' hkey ⟨o', g1', g2', g3'⟩ sb => ?_
    obtain ⟨tt, rfl⟩ := Value.isInt_shape hkey
    exact q _ _ _ _ ⟨_, rfl, ⟨_, _, hk, tt, rfl⟩, rfl, rfl⟩ (Iv.put (x' := .rcd "dict_keyiterator" #[.ref d, .int (i + 1 : Nat) 0, .int kvs.length 0, .int ep 0]) h1 sb.extBut g1' ⟨g2', g3'⟩ _)
  done := fun I fs σ h1 h2 s _ _ Iv q => by
    obtain ⟨o, g1, g2, g3⟩ := Iv.rcd h1
    exact wpAny_pyNext_dict_end hh ⟨o, g1, g2, g3⟩ (Iv.imap (pr := pr) (w := w) (h2 (d, .imap kvs ep) (by simp))) (List.getElem?_eq_none (Nat.le_refl _)) fun h' e => q _ _ _ _ ⟨rfl, rfl, rfl⟩ (Iv.drop h1 e _)
/-! sets of ints -/
theorem Tr.setNew (h : ∀ a, σ a = none → V (.ref a) fs (upd σ a (.iset (fun _ => false) 0))) : Tr pr w s₀ A fs σ (call (.type "set") []) V := fun s _ _ I q => by
  refine call_set_0 fun led => ?_
  obtain ⟨n, I'⟩ := I.push (x := .iset (fun _ => false) 0) (o := { cls := .type "set", dict := none, data := .set #[] 0 (.fresh 0 0 led) }) (intSetOf_fresh led) rfl s.toks
  exact q _ _ _ _ (h _ n) I'
theorem Inv.iset {S : Int → Bool} {c : Nat} (I : Inv s₀ fs σ s) (h : σ a = some (.iset S c)) (hc : c < 1000) : s.heap.SetOf (intKind pr w) a S c := by
  obtain ⟨o, ho, hi⟩ := I.get h
  exact (hi.kind pr w).setOf ho (by show c < 4096; omega)
theorem cmp_inSet {S : Int → Bool} {c : Nat} (hs : σ a = some (.iset S c)) (hc : c < 1000) (hv : IsI n v) : Tr pr w s₀ A fs σ (compareOp .In v (.ref a)) (Pu fs σ (IsB (S n))) := by
  obtain ⟨t, rfl⟩ := hv
  exact fun s _ _ I q => wpAny_inSet_of (knd := intKind pr w) isInt_int rfl (I.iset hs hc) (q _ _ _ _ ⟨rfl, rfl, rfl⟩ (I.tok _))
theorem Tr.setAdd {o e : Expr} {apos : Pos} {S : Int → Bool} {c : Nat} (ho : Pv pr w s₀ A env fs σ o (· = .ref a)) (he : Pv pr w s₀ A env fs σ e (IsI n)) (hs : σ a = some (.iset S c)) (hc : c < 900) (h : V .none fs (upd σ a (.iset (fun k => S k || decide (k = n)) (if S n then c else c + 1))))
    (hbase : attributeBase o (Str.ofString "add") env (eval o env) = eval o env := by rfl) (hse : starEach [e] env = (false, eval e env) :: starEach [] env := by rfl)
    (hfew : ((backTo pos (starEach [e] env)).all (fun x => !x.1) && (backToKw pos (keywordEach [] env)).all (fun x => x.1.isSome) && decide ([e].length + ([] : List Keyword).length + (if ([] : List Keyword).isEmpty then 0 else 1) < 30)) = true := by rfl)
    (hline : (apos.endLine == pos.line) = true := by rfl) : Tr pr w s₀ A fs σ (eval (.Call (.Attribute o (Str.ofString "add") apos) [e] [] pos) env) V :=
  Tr.meth F.plainAttrs_set F.slot_set_add F.type_set_add ho (fun _ _ _ ⟨e1, e2, e3⟩ => by
    subst e1 e2 e3
    refine ⟨fun s I => ⟨(I.iset (pr := pr) (w := w) hs (by omega)).typeIs, (I.iset (pr := pr) (w := w) hs (by omega)).noDict⟩, Tr.cwB (W := Pu _ _ (fun ws => ∃ t, ws = [.int n t])) (Tr.argsC he (fun v _ _ ⟨e1, e2, t, hv⟩ => by subst e1 e2 hv; exact Tr.args0 ⟨rfl, rfl, t, rfl⟩) hse) ?_ hse⟩
    first | refine puI fun t => ?_ | rintro _ _ _ ⟨rfl, rfl, t, rfl⟩
    intro s _ _ I q
    refine call_set_add (knd := intKind pr w) isInt_int rfl (I.iset hs (by omega)) (by show c + 1 < 4096; omega) fun h' hsb hS => ?_
    obtain ⟨o, ho, hi⟩ := hS.objOf
    exact q _ _ _ _ h (I.put (x' := .iset (fun k => S k || decide (k = n)) (if S n then c else c + 1)) hs hsb.extBut ho hi.intSetOf _)) hbase hfew hline
end
end Mine
end
section
open PySem PySem.W PySem.Calls PyProof.Rows Builtin
namespace Mine
section
variable {pr : Program} {w : World} {s₀ : Shared} {A : Around} {env : Env} {fs : Fs} {σ : Sto} {m mg mb : NsMap} {x name : Str} {v : Value} {pos : Pos} {E : Value → Shared → Prop} {s : Shared} {n : Int} {t : Tok} {V : Value → Fs → Sto → Prop} {P : Value → Prop}

/-- C(e), C a class of the text -/
theorem Tr.callC (G : Gd w s₀ mg mb) {fe e : Expr} {C : Addr} {W : Value → Fs → Sto → Prop} (hf : Pv pr w s₀ A env fs σ fe (· = .ref C)) (hk : keepIn (hd.heap_1 w.params) (.ref C) = true) (he : Tr pr w s₀ A fs σ (eval e env) W)
    (hc : ∀ v fs' σ', W v fs' σ' → Tr pr w s₀ A fs' σ' (call (.ref C) [v]) V) (hse : starEach [e] env = (false, eval e env) :: starEach [] env := by rfl)
    (hev : eval (.Call fe [e] [] pos) env = (do callWith pos (← eval fe env) [] (backTo pos (starEach [e] env)) (backToKw pos (keywordEach [] env))) := by rfl) : Tr pr w s₀ A fs σ (eval (.Call fe [e] [] pos) env) V := fun s Q E I q => by
  refine Call_ (hf s _ _ I fun g _ _ s₁ ⟨e1, e2, e3⟩ I₁ => ?_) hev
  subst e1 e2 e3
  have ha : Tr pr w s₀ A _ _ (spliced (backTo pos (starEach [e] env))) (fun vs fs' σ' => ∃ v, vs = [v] ∧ W v fs' σ') := Tr.argsC he (fun v fs' σ' hv => Tr.args0 ⟨v, rfl, hv⟩) hse
  rw [hse] at ha ⊢
  refine callWith_of (P := (hd.heap_1 w.params).In) rfl (keeps_K hk) (Calls.evalArgs_plain (ha s₁ _ _ I₁ fun vs fs' σ' s' hw I' => ?_))
  obtain ⟨v, rfl, hv⟩ := hw
  exact ⟨I'.K G, hc v fs' σ' hv s' _ _ I' q⟩
theorem Tr.callC0 (G : Gd w s₀ mg mb) {fe : Expr} {C : Addr} (hf : Pv pr w s₀ A env fs σ fe (· = .ref C)) (hk : keepIn (hd.heap_1 w.params) (.ref C) = true) (hc : Tr pr w s₀ A fs σ (call (.ref C) []) V)
    (hev : eval (.Call fe [] [] pos) env = (do callWith pos (← eval fe env) [] (backTo pos (starEach [] env)) (backToKw pos (keywordEach [] env))) := by rfl) : Tr pr w s₀ A fs σ (eval (.Call fe [] [] pos) env) V := fun s Q E I q => by
  refine Call_ (hf s _ _ I fun g _ _ s₁ ⟨e1, e2, e3⟩ I₁ => ?_) hev
  subst e1 e2 e3
  exact callWith_of (P := (hd.heap_1 w.params).In) rfl (keeps_K hk) (evalArgs_nil3 ⟨I₁.K G, hc s₁ _ _ I₁ q⟩)

/-! _NodeInfo -/
def infO (hid suc : Addr) (np n : Int) (t u : Tok) : Obj := nodeO hid #[some (.int n u), some (.int np t), some (.ref suc)]
theorem sl69 (w : World) : slotIn (hd.heap_1 w.params) 69 68 = some 0 := by kernel_rfl
theorem sl70 (w : World) : slotIn (hd.heap_1 w.params) 70 68 = some 1 := by kernel_rfl
theorem sl71 (w : World) : slotIn (hd.heap_1 w.params) 71 68 = some 2 := by kernel_rfl
theorem sa68 (w : World) : findIn (hd.heap_1 w.params) (.ref 68) "__setattr__" = some (some (.builtin "object.__setattr__")) := by first | rfl | kernel_rfl
theorem ga68 (w : World) : findIn (hd.heap_1 w.params) (.ref 68) "__getattribute__" = some (some (.builtin "object.__getattribute__")) := by first | rfl | kernel_rfl
theorem gn68 (w : World) : findIn (hd.heap_1 w.params) (.ref 68) "__getattr__" = some none := by first | rfl | kernel_rfl
theorem po68 (w : World) : plainOver (hd.heap_1 w.params) 68 = true := by first | rfl | kernel_rfl
theorem tk69 (w : World) : takerIn (hd.heap_1 w.params) 68 (Str.ofString "node") = some (some (.ref 69)) := by first | rfl | kernel_rfl
theorem tk70 (w : World) : takerIn (hd.heap_1 w.params) 68 (Str.ofString "npredecessors") = some (some (.ref 70)) := by first | rfl | kernel_rfl
theorem tk71 (w : World) : takerIn (hd.heap_1 w.params) 68 (Str.ofString "successors") = some (some (.ref 71)) := by first | rfl | kernel_rfl
theorem ty69 (w : World) : typeIn (hd.heap_1 w.params) (.ref 69) = some (.type "member_descriptor") := by first | rfl | kernel_rfl
theorem ty70 (w : World) : typeIn (hd.heap_1 w.params) (.ref 70) = some (.type "member_descriptor") := by first | rfl | kernel_rfl
theorem ty71 (w : World) : typeIn (hd.heap_1 w.params) (.ref 71) = some (.type "member_descriptor") := by first | rfl | kernel_rfl
theorem fo69 (w : World) : findObj (hd.heap_1 w.params) 68 (some emptyDict) (Str.ofString "node") = some (.bind (.builtin "member_descriptor.__get__") (.ref 69)) := by first | rfl | kernel_rfl
theorem fo70 (w : World) : findObj (hd.heap_1 w.params) 68 (some emptyDict) (Str.ofString "npredecessors") = some (.bind (.builtin "member_descriptor.__get__") (.ref 70)) := by first | rfl | kernel_rfl
theorem fo71 (w : World) : findObj (hd.heap_1 w.params) 68 (some emptyDict) (Str.ofString "successors") = some (.bind (.builtin "member_descriptor.__get__") (.ref 71)) := by first | rfl | kernel_rfl
theorem mk68 (w : World) : makesIn (hd.heap_1 w.params) 68 = true := by first | rfl | kernel_rfl
theorem mk165 (w : World) : makesIn (hd.heap_1 w.params) 165 = true := by first | rfl | kernel_rfl
theorem kp68 (w : World) : keepIn (hd.heap_1 w.params) (.ref 68) = true := by first | rfl | kernel_rfl
theorem kp165 (w : World) : keepIn (hd.heap_1 w.params) (.ref 165) = true := by first | rfl | kernel_rfl
theorem in68 (w : World) : findIn (hd.heap_1 w.params) (.ref 68) "__init__" = some (some (.ref 64)) := by first | rfl | kernel_rfl
theorem ty64 (w : World) : typeIn (hd.heap_1 w.params) (.ref 64) = some (.type "function") := by first | rfl | kernel_rfl
/-! reads and stores of the three slots -/
theorem Tr.getNp (G : Gd w s₀ mg mb) {expr : Bool} {a hid suc : Addr} {np k : Int} {t u : Tok} (hx : σ a = some (.obj (infO hid suc np k t u))) (hm : σ hid = some (.obj emptyDict)) : Tr pr w s₀ A fs σ (getAttr (.ref a) (Str.ofString "npredecessors") expr) (Pu fs σ (· = .int np t)) :=
  Tr.getS (p := 70) (i := 1) G hx hm (sl70 w) rfl rfl (fo70 w) (ga68 w) (gn68 w)
theorem Tr.getNode (G : Gd w s₀ mg mb) {expr : Bool} {a hid suc : Addr} {np k : Int} {t u : Tok} (hx : σ a = some (.obj (infO hid suc np k t u))) (hm : σ hid = some (.obj emptyDict)) : Tr pr w s₀ A fs σ (getAttr (.ref a) (Str.ofString "node") expr) (Pu fs σ (· = .int k u)) :=
  Tr.getS (p := 69) (i := 0) G hx hm (sl69 w) rfl rfl (fo69 w) (ga68 w) (gn68 w)
theorem Tr.getSuc (G : Gd w s₀ mg mb) {expr : Bool} {a hid suc : Addr} {np k : Int} {t u : Tok} (hx : σ a = some (.obj (infO hid suc np k t u))) (hm : σ hid = some (.obj emptyDict)) : Tr pr w s₀ A fs σ (getAttr (.ref a) (Str.ofString "successors") expr) (Pu fs σ (· = .ref suc)) :=
  Tr.getS (p := 71) (i := 2) G hx hm (sl71 w) rfl rfl (fo71 w) (ga68 w) (gn68 w)
theorem Tr.setNp (G : Gd w s₀ mg mb) {a hid suc : Addr} {np np' k : Int} {t t' u : Tok} {V : Unit → Fs → Sto → Prop} (hx : σ a = some (.obj (infO hid suc np k t u))) (hm : σ hid = some (.obj emptyDict)) (h : V () fs (upd σ a (.obj (infO hid suc np' k t' u)))) : Tr pr w s₀ A fs σ (setAttr (.ref a) (Str.ofString "npredecessors") (.int np' t')) V :=
  Tr.setS (p := 70) (i := 1) G hx hm (sl70 w) (by decide) (sa68 w) (po68 w) (tk70 w) (ty70 w) h
set_option maxHeartbeats 1000000 in
theorem nodeinit_spec (G : Gd w s₀ mg mb) {k : Nat} (O : Ok A fs (k + 1)) {a hid : Addr} (hx : σ a = some (.obj (nodeO hid #[]))) (hh : σ hid = some (.obj emptyDict)) (hne : a ≠ hid)
    (h : ∀ c t', σ c = none → V .none fs (upd (upd σ c (.list [])) a (.obj (infO hid c 0 n t' t)))) : Tc pr w s₀ A fs σ (.call (.ref 64) ⟨[.ref a, .int n t], []⟩) V := by
  refine Tc.fnB (W := Pu fs σ (· = [(Str.ofString "self", .ref a), (Str.ofString "node", .int n t)])) G.B G.X rfl rfl O (Tr.pure ⟨rfl, rfl, rfl⟩) (fun _ _ _ ⟨e1, e2, e3⟩ => ⟨e1, by subst e3; rfl⟩) rfl rfl rfl ?_
  rintro _ σ L σ' ⟨_, rfl, rfl⟩ hS O' hC
  refine Tr.weak ?_ hS
  refine Tr.assignA (Pv.loc (v := .int n t) rfl) ?_
  first | refine puE ?_ | rintro _ _ σ ⟨rfl, rfl, rfl⟩
  refine (Pv.loc (v := .ref a) rfl).mono ?_
  first | refine puE ?_ | rintro _ _ σ ⟨rfl, rfl, rfl⟩
  refine Tr.setS (p := 69) (i := 0) G hx hh (sl69 w) (by decide) (sa68 w) (po68 w) (tk69 w) (ty69 w) ?_
  have h1 := upd_self σ a (.obj (nodeO hid #[some (.int n t)]))
  have h2 : upd σ a (.obj (nodeO hid #[some (.int n t)])) hid = some (.obj emptyDict) := (upd_ne (Ne.symm hne)).trans hh
  show Tr pr w s₀ _ _ (upd σ a (.obj (nodeO hid #[some (.int n t)]))) _ _
  refine Tr.assignA Pv.int ?_
  first | refine puI fun t2 => ?_ | rintro _ _ _ ⟨rfl, rfl, t2, rfl⟩
  refine (Pv.loc (v := .ref a) rfl).mono ?_
  first | refine puE ?_ | rintro _ _ _ ⟨rfl, rfl, rfl⟩
  refine Tr.setS (p := 70) (i := 1) G h1 h2 (sl70 w) (by decide) (sa68 w) (po68 w) (tk70 w) (ty70 w) ?_
  rw [upd_upd]
  show Tr pr w s₀ _ _ (upd σ a (.obj (nodeO hid #[some (.int n t), some (.int 0 t2)]))) _ _
  have h1 := upd_self σ a (.obj (nodeO hid #[some (.int n t), some (.int 0 t2)]))
  have h2 : upd σ a (.obj (nodeO hid #[some (.int n t), some (.int 0 t2)])) hid = some (.obj emptyDict) := (upd_ne (Ne.symm hne)).trans hh
  refine Tr.assignA (Tr.nilList (V := fun v fs' σ1 => ∃ c m, v = .ref c ∧ fs' = (O'.env, m) :: fs ∧ m = _ ∧ upd σ a (.obj (nodeO hid #[some (.int n t), some (.int 0 t2)])) c = none ∧ σ1 = upd (upd σ a (.obj (nodeO hid #[some (.int n t), some (.int 0 t2)]))) c (.list [])) fun c hc => ⟨c, _, rfl, rfl, rfl, hc, rfl⟩) ?_
  rintro _ _ _ ⟨c, _, rfl, rfl, rfl, hc, rfl⟩
  refine (Pv.loc (v := .ref a) rfl).mono ?_
  first | refine puE ?_ | rintro _ _ _ ⟨rfl, rfl, rfl⟩
  have hca : a ≠ c := ne_none' h1 hc
  have hch : hid ≠ c := ne_none' h2 hc
  refine Tr.setS (p := 71) (i := 2) G ((upd_ne hca).trans h1) ((upd_ne hch).trans h2) (sl71 w) (by decide) (sa68 w) (po68 w) (tk71 w) (ty71 w) ?_
  refine Tr.nil ⟨_, rfl, ?_⟩
  have hcn : σ c = none := by rw [upd_ne (Ne.symm hca)] at hc; exact hc
  have e := h c t2 hcn
  have e2 : upd (upd (upd σ a (.obj (nodeO hid #[some (.int n t), some (.int 0 t2)]))) c (.list [])) a (.obj (infO hid c 0 n t2 t)) = upd (upd σ c (.list [])) a (.obj (infO hid c 0 n t2 t)) := by
    rw [upd_comm σ _ _ hca, upd_upd]
  rw [← e2] at e
  exact e
where
  ne_none' {σ : Sto} {a b : Addr} {x : AO} (h1 : σ a = some x) (h2 : σ b = none) : a ≠ b := by rintro rfl; rw [h1] at h2; cases h2
end
end Mine
end
section
open PySem PySem.W PySem.Calls PyProof.Rows Builtin
namespace Mine
/-! what the sorter knows -/
structure Ab where
  ks : List Int
  np : Int → Int
  sc : Int → List Int
def Ab.touch (S : Ab) (n : Int) : Ab := if n ∈ S.ks then S else ⟨S.ks ++ [n], fun k => if k = n then 0 else S.np k, fun k => if k = n then [] else S.sc k⟩
def Ab.setNp (S : Ab) (n : Int) (v : Int) : Ab := { S with np := fun k => if k = n then v else S.np k }
def Ab.push (S : Ab) (p n : Int) : Ab := { S with sc := fun k => if k = p then S.sc p ++ [n] else S.sc k }

def attM (N : Addr) (rd : Value) (po fi : Int) (t u : Tok) : NsMap := fun y =>
  if y = Str.ofString "_node2info" then some (.ref N) else if y = Str.ofString "_ready_nodes" then some rd else if y = Str.ofString "_npassedout" then some (.int po t) else if y = Str.ofString "_nfinished" then some (.int fi u) else none
abbrev Ad := Int → Addr × Addr × Addr
structure Sor (σb σ : Sto) (x dx N : Addr) (ad : Ad) (S : Ab) (rd : Value) (po fi : Int) : Prop where
  sub : Sub σb σ
  o1 : σb x = none
  o2 : σb dx = none
  o3 : σb N = none
  o4 : ∀ k ∈ S.ks, σb (ad k).1 = none ∧ σb (ad k).2.1 = none ∧ σb (ad k).2.2 = none
  hx : σ x = some (.obj (instObj 165 dx))
  hdx : ∃ t u, σ dx = some (.att (attM N rd po fi t u) 4)
  hN : ∃ ep, σ N = some (.imap (S.ks.map fun k => (k, Value.ref (ad k).1)) ep)
  nN : (N == sysModules) = false
  nd : S.ks.Nodup
  info : ∀ k ∈ S.ks, ∃ t u, σ (ad k).1 = some (.obj (infO (ad k).2.1 (ad k).2.2 (S.np k) k t u))
  hid : ∀ k ∈ S.ks, σ (ad k).2.1 = some (.obj emptyDict)
  suc : ∀ k ∈ S.ks, ∃ vs, σ (ad k).2.2 = some (.list vs) ∧ IntsAre vs (S.sc k)
  inj : ∀ j ∈ S.ks, ∀ k ∈ S.ks, (ad j).2.2 = (ad k).2.2 → j = k
  few : S.ks.length ≤ 1000
section
variable {σb σ : Sto} {x dx N c : Addr} {ad : Ad} {S : Ab} {rd : Value} {po fi : Int} {z : AO} {n : Int}
theorem Sor.weakS {σ' : Sto} (h : Sor σb σ x dx N ad S rd po fi) (hs : Sub σ σ') : Sor σb σ' x dx N ad S rd po fi := by
  obtain ⟨a1, a2, a3, a4, a5, a6, ⟨t, u, a7⟩, ⟨ep, a8⟩, a9, b1, b2, b3, b4, b5, b6⟩ := h
  exact ⟨a1.trans hs, a2, a3, a4, a5, hs.at a6, ⟨t, u, hs.at a7⟩, ⟨ep, hs.at a8⟩, a9, b1, fun k hk => let ⟨t, u, e⟩ := b2 k hk; ⟨t, u, hs.at e⟩, fun k hk => hs.at (b3 k hk), fun k hk => let ⟨vs, e, i⟩ := b4 k hk; ⟨vs, hs.at e, i⟩, b5, b6⟩
theorem Sor.less {σb' : Sto} (h : Sor σb σ x dx N ad S rd po fi) (hs : Sub σb' σb) : Sor σb' σ x dx N ad S rd po fi :=
  { h with sub := hs.trans h.sub, o1 := hs.none h.o1, o2 := hs.none h.o2, o3 := hs.none h.o3, o4 := fun k hk => let ⟨a, b, c⟩ := h.o4 k hk; ⟨hs.none a, hs.none b, hs.none c⟩ }
/-- all the sorter's addresses are apart from c -/
theorem Sor.apart (h : Sor σb σ x dx N ad S rd po fi) (hc : x ≠ c ∧ dx ≠ c ∧ N ≠ c ∧ ∀ k ∈ S.ks, (ad k).1 ≠ c ∧ (ad k).2.1 ≠ c ∧ (ad k).2.2 ≠ c) : Sor (upd σb c z) (upd σ c z) x dx N ad S rd po fi := by
  obtain ⟨c1, c2, c3, c4⟩ := hc
  obtain ⟨a1, a2, a3, a4, a5, a6, ⟨t, u, a7⟩, ⟨ep, a8⟩, a9, b1, b2, b3, b4, b5, b6⟩ := h
  exact ⟨a1.both, (upd_ne c1).trans a2, (upd_ne c2).trans a3, (upd_ne c3).trans a4, fun k hk => ⟨(upd_ne (c4 k hk).1).trans (a5 k hk).1, (upd_ne (c4 k hk).2.1).trans (a5 k hk).2.1, (upd_ne (c4 k hk).2.2).trans (a5 k hk).2.2⟩,
    (upd_ne c1).trans a6, ⟨t, u, (upd_ne c2).trans a7⟩, ⟨ep, (upd_ne c3).trans a8⟩, a9, b1, fun k hk => let ⟨t, u, e⟩ := b2 k hk; ⟨t, u, (upd_ne (c4 k hk).1).trans e⟩, fun k hk => (upd_ne (c4 k hk).2.1).trans (b3 k hk), fun k hk => let ⟨vs, e, i⟩ := b4 k hk; ⟨vs, (upd_ne (c4 k hk).2.2).trans e, i⟩, b5, b6⟩
theorem Sor.out {y : AO} (h : Sor σb σ x dx N ad S rd po fi) (hc : σb c = some y) : Sor (upd σb c z) (upd σ c z) x dx N ad S rd po fi :=
  h.apart ⟨(ne_none2 hc h.o1), ne_none2 hc h.o2, ne_none2 hc h.o3, fun k hk => ⟨ne_none2 hc (h.o4 k hk).1, ne_none2 hc (h.o4 k hk).2.1, ne_none2 hc (h.o4 k hk).2.2⟩⟩
where
  ne_none2 {σ : Sto} {a b : Addr} {x : AO} (h1 : σ a = some x) (h2 : σ b = none) : b ≠ a := by rintro rfl; rw [h1] at h2; cases h2
theorem Sor.new (h : Sor σb σ x dx N ad S rd po fi) (hc : σ c = none) : Sor (upd σb c z) (upd σ c z) x dx N ad S rd po fi := by
  obtain ⟨t, u, h7⟩ := h.hdx
  obtain ⟨ep, h8⟩ := h.hN
  exact h.apart ⟨ne_n h.hx hc, ne_n h7 hc, ne_n h8 hc, fun k hk => ⟨(let ⟨_, _, e⟩ := h.info k hk; ne_n e hc), ne_n (h.hid k hk) hc, (let ⟨_, e, _⟩ := h.suc k hk; ne_n e hc)⟩⟩
where
  ne_n {σ : Sto} {a b : Addr} {x : AO} (h1 : σ a = some x) (h2 : σ b = none) : a ≠ b := by rintro rfl; rw [h1] at h2; cases h2
theorem inf_ne_165 {h s : Addr} {a b : Int} {t u : Tok} : (AO.obj (infO h s a b t u)) ≠ .obj (instObj 165 dx) := by
  intro e; injection e with e
  have := congrArg Obj.cls e
  simp [infO, nodeO] at this
theorem inf_ne_empty {h s : Addr} {a b : Int} {t u : Tok} : (AO.obj (infO h s a b t u)) ≠ .obj emptyDict := by
  intro e; injection e with e
  have := congrArg Obj.cls e
  simp [infO, nodeO] at this
theorem inf_inj {h s h' s' : Addr} {a b a' b' : Int} {t u t' u' : Tok} (e : (AO.obj (infO h s a b t u)) = .obj (infO h' s' a' b' t' u')) : b = b' := by
  injection e with e
  have := congrArg Obj.slots e
  simp [infO, nodeO] at this
  exact this.1.1
theorem Sor.setNp {v : Int} {t u : Tok} (h : Sor σb σ x dx N ad S rd po fi) (hn : n ∈ S.ks) (hu : ∃ t0, σ (ad n).1 = some (.obj (infO (ad n).2.1 (ad n).2.2 (S.np n) n t0 u))) : Sor σb (upd σ (ad n).1 (.obj (infO (ad n).2.1 (ad n).2.2 v n t u))) x dx N ad (S.setNp n v) rd po fi := by
  obtain ⟨a1, a2, a3, a4, a5, a6, ⟨t1, u1, a7⟩, ⟨ep, a8⟩, a9, b1, b2, b3, b4, b5, b6⟩ := h
  obtain ⟨t0, hu⟩ := hu
  refine ⟨a1.upd (a5 n hn).1, a2, a3, a4, a5, (upd_ne (ne_of_sto a6 hu (Ne.symm inf_ne_165))).trans a6, ⟨t1, u1, (upd_ne (ne_of_sto a7 hu (by simp))).trans a7⟩, ⟨ep, (upd_ne (ne_of_sto a8 hu (by simp))).trans a8⟩, a9, b1, fun k hk => ?_, fun k hk => (upd_ne (ne_of_sto (b3 k hk) hu (Ne.symm inf_ne_empty))).trans (b3 k hk), fun k hk => ?_, b5, b6⟩
  · by_cases e : k = n
    · subst e
      refine ⟨t, u, ?_⟩
      simp only [Ab.setNp, if_pos]; exact upd_self ..
    · obtain ⟨t2, u2, e2⟩ := b2 k hk
      refine ⟨t2, u2, ?_⟩
      simp only [Ab.setNp, if_neg e]
      exact (upd_ne (ne_of_sto e2 hu fun q => e (inf_inj q))).trans e2
  · obtain ⟨vs, e, i⟩ := b4 k hk
    exact ⟨vs, (upd_ne (ne_of_sto e hu (by simp))).trans e, i⟩
theorem Sor.setSuc {vs vs' : List Value} {m : Int} (h : Sor σb σ x dx N ad S rd po fi) (hn : n ∈ S.ks) (hu : σ (ad n).2.2 = some (.list vs)) (hi : IntsAre vs' (S.sc n ++ [m])) : Sor σb (upd σ (ad n).2.2 (.list vs')) x dx N ad (S.push n m) rd po fi := by
  obtain ⟨a1, a2, a3, a4, a5, a6, ⟨t1, u1, a7⟩, ⟨ep, a8⟩, a9, b1, b2, b3, b4, b5, b6⟩ := h
  refine ⟨a1.upd (a5 n hn).2.2, a2, a3, a4, a5, (upd_ne (ne_of_sto a6 hu (by simp))).trans a6, ⟨t1, u1, (upd_ne (ne_of_sto a7 hu (by simp))).trans a7⟩, ⟨ep, (upd_ne (ne_of_sto a8 hu (by simp))).trans a8⟩, a9, b1, fun k hk => ?_, fun k hk => (upd_ne (ne_of_sto (b3 k hk) hu (by simp))).trans (b3 k hk), fun k hk => ?_, b5, b6⟩
  · obtain ⟨t2, u2, e2⟩ := b2 k hk
    exact ⟨t2, u2, (upd_ne (ne_of_sto e2 hu (by simp))).trans e2⟩
  · by_cases e : k = n
    · subst e
      refine ⟨vs', upd_self .., ?_⟩
      simp only [Ab.push, if_pos]; exact hi
    · obtain ⟨ws, e1, i1⟩ := b4 k hk
      refine ⟨ws, (upd_ne fun q => e (b5 k hk n hn q)).trans e1, ?_⟩
      simp only [Ab.push, if_neg e]; exact i1
theorem Sor.setDx {rd' : Value} {po' fi' : Int} {t u : Tok} (h : Sor σb σ x dx N ad S rd po fi) : Sor σb (upd σ dx (.att (attM N rd' po' fi' t u) 4)) x dx N ad S rd' po' fi' := by
  obtain ⟨a1, a2, a3, a4, a5, a6, ⟨t1, u1, a7⟩, ⟨ep, a8⟩, a9, b1, b2, b3, b4, b5, b6⟩ := h
  refine ⟨a1.upd a3, a2, a3, a4, a5, (upd_ne (ne_of_sto a6 a7 (by simp))).trans a6, ⟨t, u, upd_self ..⟩, ⟨ep, (upd_ne (ne_of_sto a8 a7 (by simp))).trans a8⟩, a9, b1, fun k hk => ?_, fun k hk => (upd_ne (ne_of_sto (b3 k hk) a7 (by simp))).trans (b3 k hk), fun k hk => ?_, b5, b6⟩
  · obtain ⟨t2, u2, e2⟩ := b2 k hk
    exact ⟨t2, u2, (upd_ne (ne_of_sto e2 a7 (by simp))).trans e2⟩
  · obtain ⟨ws, e1, i1⟩ := b4 k hk
    exact ⟨ws, (upd_ne (ne_of_sto e1 a7 (by simp))).trans e1, i1⟩
end
end Mine
end
section
open PySem PySem.W PySem.Calls PyProof.Rows Builtin
namespace Mine
theorem valueAt_ks {ks : List Int} (f : Int → Value) (n : Int) : valueAt (ks.map fun k => (k, f k)) n = if n ∈ ks then some (f n) else none := by
  induction ks with
  | nil => rfl
  | cons a r ih =>
    unfold valueAt at ih ⊢
    rw [List.map_cons, List.find?_cons]
    by_cases e : a = n
    · subst e; simp
    · simp only [decide_eq_false e]
      rw [ih]
      by_cases hn : n ∈ r
      · rw [if_pos hn, if_pos (.tail _ hn)]
      · rw [if_neg hn, if_neg (by intro h; rcases List.mem_cons.mp h with h | h; exact e h.symm; exact hn h)]
theorem stored_ks {ks : List Int} (f : Int → Value) (n : Int) (v : Value) (hn : n ∉ ks) : stored (ks.map fun k => (k, f k)) n v = (ks.map fun k => (k, f k)) ++ [(n, v)] := by
  unfold stored
  rw [if_neg]
  simp only [List.any_map, List.any_eq_true, Function.comp, not_exists, not_and, decide_eq_true_eq]
  intro k hk e; exact hn (e ▸ hk)
theorem touch_mem (S : Ab) (n : Int) : n ∈ (S.touch n).ks := by unfold Ab.touch; split <;> simp_all
section
variable {σb σ : Sto} {x dx N : Addr} {ad : Ad} {S : Ab} {rd : Value} {po fi : Int} {n : Int} {a hd' c : Addr}
theorem Sor.addNode {t u : Tok} {ep : Nat} (h : Sor σb σ x dx N ad S rd po fi) (hn : n ∉ S.ks) (ha : σ a = none) (hh : σ hd' = none) (hc : σ c = none) (h1 : a ≠ hd') (h2 : a ≠ c) (h3 : hd' ≠ c) (hz : S.ks.length ≤ 900)
    (σ' : Sto) (hs : Sub (upd (upd (upd (upd σ hd' (.obj emptyDict)) c (.list [])) a (.obj (infO hd' c 0 n t u))) N (.imap ((S.ks.map fun k => (k, Value.ref (ad k).1)) ++ [(n, .ref a)]) ep)) σ') :
    Sor σb σ' x dx N (fun k => if k = n then (a, hd', c) else ad k) (S.touch n) rd po fi := by
  obtain ⟨a1, a2, a3, a4, a5, a6, ⟨t1, u1, a7⟩, ⟨ep1, a8⟩, a9, b1, b2, b3, b4, b5, b6⟩ := h
  have hNa : a ≠ N := by rintro rfl; rw [ha] at a8; cases a8
  have hNh : hd' ≠ N := by rintro rfl; rw [hh] at a8; cases a8
  have hNc : c ≠ N := by rintro rfl; rw [hc] at a8; cases a8
  have keep : ∀ b y, b ≠ N → σ b = some y → σ' b = some y := fun b y hb e => hs b y (by
    rw [upd_ne hb, upd_ne (by rintro rfl; rw [ha] at e; cases e), upd_ne (by rintro rfl; rw [hc] at e; cases e), upd_ne (by rintro rfl; rw [hh] at e; cases e)]; exact e)
  have eT : S.touch n = ⟨S.ks ++ [n], fun k => if k = n then 0 else S.np k, fun k => if k = n then [] else S.sc k⟩ := by unfold Ab.touch; rw [if_neg hn]
  have ne : ∀ k ∈ S.ks, k ≠ n := fun k hk e => hn (e ▸ hk)
  have adk : ∀ k ∈ S.ks, (if k = n then (a, hd', c) else ad k) = ad k := fun k hk => if_neg (ne k hk)
  rw [eT]
  refine ⟨fun b y e => keep b y (by rintro rfl; rw [a4] at e; cases e) (a1 b y e), a2, a3, a4, fun k hk => ?_, keep _ _ (ne_of_sto a6 a8 (by simp)) a6, ⟨t1, u1, keep _ _ (ne_of_sto a7 a8 (by simp)) a7⟩, ⟨ep, ?_⟩, a9, ?_, fun k hk => ?_, fun k hk => ?_, fun k hk => ?_, ?_, ?_⟩
  · rcases List.mem_append.mp hk with hk | hk
    · rw [adk k hk]; exact a5 k hk
    · obtain rfl := List.mem_singleton.mp hk
      simp only [if_pos]
      exact ⟨a1.none ha, a1.none hh, a1.none hc⟩
  · refine (hs _ _ (upd_self ..)).trans ?_
    congr 2
    rw [List.map_append]
    congr 1
    · refine List.map_congr_left fun k hk => ?_
      rw [adk k hk]
    · simp
  · exact List.nodup_append.mpr ⟨b1, by simp, fun k hk j hj e => by obtain rfl := List.mem_singleton.mp hj; exact hn (e ▸ hk)⟩
  · rcases List.mem_append.mp hk with hk | hk
    · obtain ⟨t2, u2, e⟩ := b2 k hk
      refine ⟨t2, u2, ?_⟩
      rw [adk k hk]
      simp only [if_neg (ne k hk)]
      exact keep _ _ (ne_of_sto e a8 (by simp)) e
    · obtain rfl := List.mem_singleton.mp hk
      refine ⟨t, u, hs _ _ ?_⟩
      simp only [if_pos]
      rw [upd_ne hNa, upd_self]
  · rcases List.mem_append.mp hk with hk | hk
    · rw [adk k hk]
      exact keep _ _ (ne_of_sto (b3 k hk) a8 (by simp)) (b3 k hk)
    · obtain rfl := List.mem_singleton.mp hk
      refine hs _ _ ?_
      simp only [if_pos]
      rw [upd_ne hNh, upd_ne (Ne.symm h1), upd_ne h3, upd_self]
  · rcases List.mem_append.mp hk with hk | hk
    · obtain ⟨vs, e, i⟩ := b4 k hk
      refine ⟨vs, ?_, ?_⟩
      · rw [adk k hk]
        exact keep _ _ (ne_of_sto e a8 (by simp)) e
      · simp only [if_neg (ne k hk)]; exact i
    · obtain rfl := List.mem_singleton.mp hk
      refine ⟨[], hs _ _ ?_, ?_⟩
      · simp only [if_pos]
        rw [upd_ne hNc, upd_ne (Ne.symm h2), upd_self]
      · simp only [if_pos]; exact .nil
  · intro j hj k hk e
    have old : ∀ k ∈ S.ks, (ad k).2.2 ≠ c := fun k hk q => by obtain ⟨vs, e, _⟩ := b4 k hk; rw [q, hc] at e; cases e
    rcases List.mem_append.mp hj with hj1 | hj1 <;> rcases List.mem_append.mp hk with hk1 | hk1
    · rw [adk j hj1, adk k hk1] at e; exact b5 j hj1 k hk1 e
    · have hkn := List.mem_singleton.mp hk1
      rw [adk j hj1, if_pos hkn] at e
      exact absurd e (old j hj1)
    · have hjn := List.mem_singleton.mp hj1
      rw [adk k hk1, if_pos hjn] at e
      exact absurd e.symm (old k hk1)
    · rw [List.mem_singleton.mp hj1, List.mem_singleton.mp hk1]
  · simp; omega
end
section
variable {pr : Program} {w : World} {s₀ : Shared} {A : Around} {env : Env} {fs : Fs} {σ σb : Sto} {m mg mb : NsMap} {name : Str} {v : Value} {pos : Pos} {E : Value → Shared → Prop} {s : Shared} {n : Int} {t : Tok} {V : Value → Fs → Sto → Prop} {x dx N : Addr} {ad : Ad} {S : Ab} {rd : Value} {po fi : Int}
theorem ga165 (w : World) : findIn (hd.heap_1 w.params) (.ref 165) "__getattribute__" = some (some (.builtin "object.__getattribute__")) := by first | rfl | kernel_rfl
theorem gn165 (w : World) : findIn (hd.heap_1 w.params) (.ref 165) "__getattr__" = some none := by first | rfl | kernel_rfl
theorem sa165 (w : World) : findIn (hd.heap_1 w.params) (.ref 165) "__setattr__" = some (some (.builtin "object.__setattr__")) := by first | rfl | kernel_rfl
theorem po165 (w : World) : plainOver (hd.heap_1 w.params) 165 = true := by first | rfl | kernel_rfl
theorem cl165 (w : World) : ∃ cd, clsIn (hd.heap_1 w.params) 165 = some cd ∧ cd.hasDict = true := ⟨_, rfl, rfl⟩
theorem fN165 (w : World) : findIn (hd.heap_1 w.params) (.ref 165) (Str.ofString "_node2info") = some none := by first | rfl | kernel_rfl
theorem fR165 (w : World) : findIn (hd.heap_1 w.params) (.ref 165) (Str.ofString "_ready_nodes") = some none := by first | rfl | kernel_rfl
theorem fP165 (w : World) : findIn (hd.heap_1 w.params) (.ref 165) (Str.ofString "_npassedout") = some none := by first | rfl | kernel_rfl
theorem fF165 (w : World) : findIn (hd.heap_1 w.params) (.ref 165) (Str.ofString "_nfinished") = some none := by first | rfl | kernel_rfl
theorem tN165 (w : World) : takerIn (hd.heap_1 w.params) 165 (Str.ofString "_node2info") = some none := by first | rfl | kernel_rfl
theorem tR165 (w : World) : takerIn (hd.heap_1 w.params) 165 (Str.ofString "_ready_nodes") = some none := by first | rfl | kernel_rfl
theorem tP165 (w : World) : takerIn (hd.heap_1 w.params) 165 (Str.ofString "_npassedout") = some none := by first | rfl | kernel_rfl
theorem tF165 (w : World) : takerIn (hd.heap_1 w.params) 165 (Str.ofString "_nfinished") = some none := by first | rfl | kernel_rfl
theorem Tr.gN (G : Gd w s₀ mg mb) {expr : Bool} (H : Sor σb σ x dx N ad S rd po fi) : Tr pr w s₀ A fs σ (getAttr (.ref x) (Str.ofString "_node2info") expr) (Pu fs σ (· = .ref N)) := by
  obtain ⟨t, u, e⟩ := H.hdx
  obtain ⟨cd, hc, hcd⟩ := cl165 w
  exact Tr.getA G H.hx e rfl rfl (ga165 w) hc hcd (fN165 w)
theorem Tr.gR (G : Gd w s₀ mg mb) {expr : Bool} (H : Sor σb σ x dx N ad S rd po fi) (hr : handedIn rd = true) : Tr pr w s₀ A fs σ (getAttr (.ref x) (Str.ofString "_ready_nodes") expr) (Pu fs σ (· = rd)) := by
  obtain ⟨t, u, e⟩ := H.hdx
  obtain ⟨cd, hc, hcd⟩ := cl165 w
  exact Tr.getA G H.hx e rfl hr (ga165 w) hc hcd (fR165 w)
theorem Tr.gP (G : Gd w s₀ mg mb) {expr : Bool} (H : Sor σb σ x dx N ad S rd po fi) : Tr pr w s₀ A fs σ (getAttr (.ref x) (Str.ofString "_npassedout") expr) (Pu fs σ (IsI po)) := by
  obtain ⟨t, u, e⟩ := H.hdx
  obtain ⟨cd, hc, hcd⟩ := cl165 w
  exact (Tr.getA G H.hx e rfl rfl (ga165 w) hc hcd (fP165 w)).mono fun _ _ _ ⟨a, b, c⟩ => ⟨a, b, t, c⟩
theorem Tr.gF (G : Gd w s₀ mg mb) {expr : Bool} (H : Sor σb σ x dx N ad S rd po fi) : Tr pr w s₀ A fs σ (getAttr (.ref x) (Str.ofString "_nfinished") expr) (Pu fs σ (IsI fi)) := by
  obtain ⟨t, u, e⟩ := H.hdx
  obtain ⟨cd, hc, hcd⟩ := cl165 w
  exact (Tr.getA G H.hx e rfl rfl (ga165 w) hc hcd (fF165 w)).mono fun _ _ _ ⟨a, b, c⟩ => ⟨a, b, u, c⟩
theorem attM_R {t u : Tok} {rd' : Value} : set1 (attM N rd po fi t u) (Str.ofString "_ready_nodes") rd' = attM N rd' po fi t u := by
  funext y; unfold attM set1; dsimp only; split
  · subst y; rfl
  · rfl
theorem attM_P {t u t' : Tok} {po' : Int} : set1 (attM N rd po fi t u) (Str.ofString "_npassedout") (.int po' t') = attM N rd po' fi t' u := by
  funext y; unfold attM set1; dsimp only; split
  · subst y; rfl
  · rfl
theorem attM_F {t u u' : Tok} {fi' : Int} : set1 (attM N rd po fi t u) (Str.ofString "_nfinished") (.int fi' u') = attM N rd po fi' t u' := by
  funext y; unfold attM set1; dsimp only; split
  · subst y; rfl
  · rfl
theorem Tr.sR (G : Gd w s₀ mg mb) {rd' : Value} {V : Unit → Fs → Sto → Prop} (H : Sor σb σ x dx N ad S rd po fi) (h : ∀ σ', Sor σb σ' x dx N ad S rd' po fi → V () fs σ') : Tr pr w s₀ A fs σ (setAttr (.ref x) (Str.ofString "_ready_nodes") rd') V := by
  obtain ⟨t, u, e⟩ := H.hdx
  obtain ⟨cd, hc, hcd⟩ := cl165 w
  refine Tr.setA G H.hx e (by decide) (sa165 w) (po165 w) hc hcd (tR165 w) ?_
  rw [attM_R]
  exact h _ H.setDx
theorem Tr.sP (G : Gd w s₀ mg mb) {po' : Int} {t' : Tok} {V : Unit → Fs → Sto → Prop} (H : Sor σb σ x dx N ad S rd po fi) (h : ∀ σ', Sor σb σ' x dx N ad S rd po' fi → V () fs σ') : Tr pr w s₀ A fs σ (setAttr (.ref x) (Str.ofString "_npassedout") (.int po' t')) V := by
  obtain ⟨t, u, e⟩ := H.hdx
  obtain ⟨cd, hc, hcd⟩ := cl165 w
  refine Tr.setA G H.hx e (by decide) (sa165 w) (po165 w) hc hcd (tP165 w) ?_
  rw [attM_P]
  exact h _ H.setDx
theorem Tr.sF (G : Gd w s₀ mg mb) {fi' : Int} {t' : Tok} {V : Unit → Fs → Sto → Prop} (H : Sor σb σ x dx N ad S rd po fi) (h : ∀ σ', Sor σb σ' x dx N ad S rd po fi' → V () fs σ') : Tr pr w s₀ A fs σ (setAttr (.ref x) (Str.ofString "_nfinished") (.int fi' t')) V := by
  obtain ⟨t, u, e⟩ := H.hdx
  obtain ⟨cd, hc, hcd⟩ := cl165 w
  refine Tr.setA G H.hx e (by decide) (sa165 w) (po165 w) hc hcd (tF165 w) ?_
  rw [attM_F]
  exact h _ H.setDx
theorem Tr.assignSubT {o i : Expr} {pos' : Pos} {V : Unit → Fs → Sto → Prop} (h : Tr pr w s₀ A fs σ (eval o env) (fun ov fs1 σ1 => Tr pr w s₀ A fs1 σ1 (eval i env) (fun iv fs2 σ2 => Tr pr w s₀ A fs2 σ2 (PySem.setItem ov iv v) V))) : Tr pr w s₀ A fs σ (PySem.assign (.Subscript o i pos') env v) V := fun s _ _ I q => by
  rw [arm_assign_Subscript]
  refine wpAny_bind (wpAny_holding (h s _ _ I fun ov fs1 σ1 s1 h1 I1 => wpAny_bind (wpAny_holding (h1 s1 _ _ I1 fun iv fs2 σ2 s2 h2 I2 => wpAny_bind (wpAny_standAt ?_)))))
  first
    | exact wpAny_holding (h2 s2 _ _ I2 q)
    | exact wpAny_bind (wpAny_holding (h2 s2 _ _ I2 fun _ fs3 σ3 s3 h3 I3 => wpAny_release' (q _ _ _ _ h3 I3)))
/-- t1 = t2 = e -/
theorem Tr.assignTwo {t₁ t₂ e : Expr} {rest : List Stmt} {V : Flow → Fs → Sto → Prop} {W : Value → Fs → Sto → Prop} (h : Tr pr w s₀ A fs σ (eval e env) W) (hn : ∀ v fs' σ', W v fs' σ' → Tr pr w s₀ A fs' σ' (PySem.assign t₁ env v) (fun _ fs1 σ1 => Tr pr w s₀ A fs1 σ1 (PySem.assign t₂ env v) (fun _ fs2 σ2 => Tr pr w s₀ A fs2 σ2 (execs rest env) V)))
    (he : (assignEach [t₁, t₂] env).map (·.2) = [PySem.assign t₁ env, PySem.assign t₂ env] := by rfl) (hw : swappedStores [t₁, t₂] e env = Pure.pure none := by rfl) : Tr pr w s₀ A fs σ (execs (.Assign [t₁, t₂] e pos :: rest) env) V := fun s _ _ I q =>
  wpAny_execs_cons (wpAny_Assign_two (h s _ _ I fun v fs' σ' s' hv I' => hn v fs' σ' hv s' _ _ I' fun _ fs1 σ1 s1 h1 I1 => h1 s1 _ _ I1 fun _ fs2 σ2 s2 h2 I2 => h2 s2 _ _ I2 q) he hw)
theorem Tr.named {y : Str} {py : Pos} {e : Expr} {W : Value → Fs → Sto → Prop} (h : Tr pr w s₀ A fs σ (eval e env) W) (hn : ∀ v fs' σ', W v fs' σ' → Tr pr w s₀ A fs' σ' (storeName env y v) (fun _ => V v)) : Tr pr w s₀ A fs σ (eval (.NamedExpr (.Name y py) e pos) env) V := fun s _ _ I q =>
  wpAny_NamedExpr (h s _ _ I fun v fs' σ' s' hv I' => Tr.assignName (hn v fs' σ' hv) s' _ _ I' fun _ fs1 σ1 s1 h1 I1 => q _ _ _ _ h1 I1)
end
end Mine
end
section
open PySem PySem.W PySem.Calls PyProof.Rows Builtin
namespace Mine
section
variable {pr : Program} {w : World} {s₀ : Shared} {A : Around} {fs : Fs} {σ σb : Sto} {mg mb : NsMap} {n : Int} {t : Tok} {V : Value → Fs → Sto → Prop} {x dx N : Addr} {ad : Ad} {S : Ab} {rd : Value} {po fi : Int}
set_option maxHeartbeats 2000000 in
theorem gni_spec (G : Gd w s₀ mg mb) {k : Nat} (O : Ok A fs (k + 3)) (H : Sor σb σ x dx N ad S rd po fi) (hz : S.ks.length ≤ 900)
    (h : ∀ ad' σ', Sor σb σ' x dx N ad' (S.touch n) rd po fi → V (.ref (ad' n).1) fs σ') : Tr pr w s₀ A fs σ (call (.ref 108) [.ref x, .int n t]) V := by
  refine Tr.fn (binds := [(Str.ofString "self", .ref x), (Str.ofString "node", .int n t)]) G.B G.X rfl rfl O rfl rfl rfl rfl rfl ?_
  intro L σ' hS O' hC
  let ev : Env := O'.env
  refine Tr.weak ?_ hS
  obtain ⟨ep, hN⟩ := H.hN
  refine Tr.iteE (W := fun b fs' σ1 => ∃ m, fs' = (ev, m) :: fs ∧ σ1 = σ ∧ m (Str.ofString "self") = some (.ref x) ∧ m (Str.ofString "node") = some (.int n t) ∧ (b = true → n ∉ S.ks) ∧ (b = false → n ∈ S.ks ∧ m (Str.ofString "result") = some (.ref (ad n).1))) ?_ ?_ ?_
  · refine Tr.cmpT (W₁ := fun v fs' σ1 => ∃ m, v = (if n ∈ S.ks then Value.ref (ad n).1 else .none) ∧ fs' = (ev, m) :: fs ∧ σ1 = σ ∧ m (Str.ofString "self") = some (.ref x) ∧ m (Str.ofString "node") = some (.int n t) ∧ m (Str.ofString "result") = some v)
      (W₂ := fun v u fs' σ1 => ∃ m, u = .none ∧ v = (if n ∈ S.ks then Value.ref (ad n).1 else .none) ∧ fs' = (ev, m) :: fs ∧ σ1 = σ ∧ m (Str.ofString "self") = some (.ref x) ∧ m (Str.ofString "node") = some (.int n t) ∧ m (Str.ofString "result") = some v) ?_ ?_ ?_
    · refine Tr.named (Pv.dictGet (Pv.attr (P := (· = .ref N)) (Pv.loc (v := .ref x) rfl) (Tr.gN G H)) (Pv.locI (n := n) (t := t) rfl) hN H.nN) ?_
      first | refine puE ?_ | rintro _ _ _ ⟨rfl, rfl, rfl⟩
      refine Tr.store ⟨_, ?_, rfl, rfl, rfl, rfl, rfl⟩
      rw [valueAt_ks (fun k => Value.ref (ad k).1)]
      split <;> rfl
    · rintro _ _ _ ⟨m, rfl, rfl, rfl, m1, m2, m3⟩
      refine Pv.none.mono ?_
      first | refine puE ?_ | rintro _ _ _ ⟨rfl, rfl, rfl⟩
      exact ⟨m, rfl, rfl, rfl, rfl, m1, m2, m3⟩
    · rintro _ _ _ _ ⟨m, rfl, rfl, rfl, rfl, m1, m2, m3⟩
      intro s _ _ I q
      refine is_none (q _ _ _ _ ⟨_, rfl, m, rfl, rfl, m1, m2, ?_, ?_⟩ I)
      · intro hb hn; rw [if_pos hn] at hb; simp at hb
      · intro hb
        by_cases hn : n ∈ S.ks
        · rw [if_pos hn] at m3; exact ⟨hn, m3⟩
        · rw [if_neg hn] at hb; simp at hb
  · rintro _ σ ⟨m, rfl, rfl, m1, m2, hb, _⟩
    have hn := hb rfl
    refine Tr.assignTwo (W := fun v fs' σ1 => ∃ a hd c u, v = .ref a ∧ fs' = (ev, m) :: fs ∧ σ a = none ∧ σ hd = none ∧ σ c = none ∧ a ≠ hd ∧ a ≠ c ∧ hd ≠ c ∧ σ1 = upd (upd (upd σ hd (.obj emptyDict)) c (.list [])) a (.obj (infO hd c 0 n u t))) ?_ ?_
    · refine Tr.callC G (Pv.g G rfl) (kp68 w) (Pv.loc (v := .int n t) m2) ?_
      first | refine puE ?_ | rintro _ _ σ ⟨rfl, rfl, rfl⟩
      refine Tc.call (Tc.make G (.obj emptyDict) rfl (mk68 w) (in68 w) (ty64 w) fun a hd ha hh hne => ?_)
      refine nodeinit_spec G (O'.top (m' := m)).tc (upd_self ..) ((upd_ne (Ne.symm hne)).trans (upd_self ..)) hne ?_
      intro c t' hc
      have hca : c ≠ a := by rintro rfl; rw [upd_self] at hc; cases hc
      have hch : c ≠ hd := by rintro rfl; rw [upd_ne (Ne.symm hne), upd_self] at hc; cases hc
      have hcn : σ c = none := by rw [upd_ne hca, upd_ne hch] at hc; exact hc
      refine ⟨rfl, a, hd, c, t', rfl, rfl, ha, hh, hcn, hne, Ne.symm hca, Ne.symm hch, ?_⟩
      rw [upd_comm _ _ _ (Ne.symm hca), upd_upd]
    · rintro _ _ _ ⟨a, hd, c, u, rfl, rfl, ha, hh, hc, h1, h2, h3, rfl⟩
      have hs0 : Sub σ (upd (upd (upd σ hd (.obj emptyDict)) c (.list [])) a (.obj (infO hd c 0 n u t))) := (((Sub.refl σ).upd hh).upd hc).upd ha
      have H1 := H.weakS hs0
      have hN1 := hs0.at hN
      refine Tr.assignSubT ((Pv.attr (P := (· = .ref N)) (Pv.loc (v := .ref x) m1) (Tr.gN G H1)).mono ?_)
      first | refine puE ?_ | rintro _ _ _ ⟨rfl, rfl, rfl⟩
      refine (Pv.loc (v := .int n t) m2).mono ?_
      first | refine puE ?_ | rintro _ _ _ ⟨rfl, rfl, rfl⟩
      refine setDict hN1 (by simp; omega) fun ep' => ?_
      refine Tr.assignName (Tr.store ?_)
      refine Tr.nil ?_
      show Tr _ _ _ _ _ _ _ _
      refine Tr.ret (Pv.loc (v := .ref a) rfl) ?_
      first | refine puE ?_ | rintro _ _ _ ⟨rfl, rfl, rfl⟩
      refine ⟨_, rfl, ?_⟩
      have := h (fun k => if k = n then (a, hd, c) else ad k) _ (H.addNode hn ha hh hc h1 h2 h3 hz _ (t := u) (u := t) (ep := ep') (by rw [← stored_ks (fun k => Value.ref (ad k).1) n (.ref a) hn]; exact Sub.refl _))
      simp only [if_pos] at this
      exact this
  · rintro _ _ ⟨m, rfl, rfl, m1, m2, _, hb⟩
    obtain ⟨hn, m3⟩ := hb rfl
    refine Tr.nil ?_
    show Tr _ _ _ _ _ _ _ _
    refine Tr.ret (Pv.loc (v := .ref (ad n).1) m3) ?_
    first | refine puE ?_ | rintro _ _ _ ⟨rfl, rfl, rfl⟩
    refine ⟨_, rfl, h ad _ ?_⟩
    unfold Ab.touch
    rw [if_pos hn]; exact H
end
end Mine
end
section
open PySem PySem.W PySem.Calls PyProof.Rows Builtin
namespace Mine
theorem Sor.del {σb σ : Sto} {x dx N I : Addr} {ad : Ad} {S : Ab} {rd : Value} {po fi : Int} {z : AO} (h : Sor (upd σb I z) σ x dx N ad S rd po fi) (hI : σb I = none) : Sor σb (Mine.del σ I) x dx N ad S rd po fi := by
  have ne : ∀ c, upd σb I z c = none → c ≠ I := by rintro c hc rfl; rw [upd_self] at hc; cases hc
  have dl : ∀ c y, c ≠ I → σ c = some y → Mine.del σ I c = some y := fun c y hc e => by unfold Mine.del; rw [if_neg hc]; exact e
  obtain ⟨a1, a2, a3, a4, a5, a6, ⟨t, u, a7⟩, ⟨ep, a8⟩, a9, b1, b2, b3, b4, b5, b6⟩ := h
  have back : ∀ c, upd σb I z c = none → σb c = none := fun c hc => by rw [upd_ne (ne c hc)] at hc; exact hc
  exact ⟨fun b y e => dl b y (by rintro rfl; rw [hI] at e; cases e) (a1 b y ((upd_ne (by rintro rfl; rw [hI] at e; cases e)).trans e)), back _ a2, back _ a3, back _ a4, fun k hk => ⟨back _ (a5 k hk).1, back _ (a5 k hk).2.1, back _ (a5 k hk).2.2⟩, dl _ _ (ne _ a2) a6, ⟨t, u, dl _ _ (ne _ a3) a7⟩, ⟨ep, dl _ _ (ne _ a4) a8⟩, a9, b1,
    fun k hk => let ⟨t, u, e⟩ := b2 k hk; ⟨t, u, dl _ _ (ne _ (a5 k hk).1) e⟩, fun k hk => dl _ _ (ne _ (a5 k hk).2.1) (b3 k hk), fun k hk => let ⟨vs, e, i⟩ := b4 k hk; ⟨vs, dl _ _ (ne _ (a5 k hk).2.2) e, i⟩, b5, b6⟩
def Ab.link (S : Ab) (n p : Int) : Ab := (S.touch p).push p n
def Ab.add (S : Ab) (n : Int) (ps : List Int) : Ab := ps.foldl (fun S p => S.link n p) ((S.touch n).setNp n ((S.touch n).np n + ps.length))
theorem touch_len (S : Ab) (n : Int) : (S.touch n).ks.length ≤ S.ks.length + 1 := by unfold Ab.touch; split <;> simp
theorem touch_sc (S : Ab) (n k : Int) : ((S.touch n).sc k).length ≤ (S.sc k).length := by
  unfold Ab.touch; split
  · exact Nat.le_refl _
  · dsimp only; split <;> simp
theorem link_sc (S : Ab) (n p k : Int) : ((S.link n p).sc k).length ≤ (S.sc k).length + 1 := by
  unfold Ab.link Ab.push
  dsimp only
  split
  · rename_i e; subst e
    have := touch_sc S k k
    simp; omega
  · have := touch_sc S p k; omega
theorem link_len (S : Ab) (n p : Int) : (S.link n p).ks.length ≤ S.ks.length + 1 := touch_len S p
theorem link_take {qs : List Int} {i : Nat} {q : Int} (h : qs[i]? = some q) (S : Ab) (n : Int) : (qs.take (i + 1)).foldl (fun S p => S.link n p) S = ((qs.take i).foldl (fun S p => S.link n p) S).link n q := by
  rw [take_snoc h, List.foldl_append]; rfl
section
variable {pr : Program} {w : World} {s₀ : Shared} {A : Around} {fs : Fs} {σ σb : Sto} {mg mb : NsMap} {n : Int} {t : Tok} {V : Value → Fs → Sto → Prop} {x dx N : Addr} {ad : Ad} {S : Ab} {rd : Value} {po fi : Int}
theorem Tr.of_eq {α : Type} {t t' : Sem α} {V : α → Fs → Sto → Prop} (e : t = t') (h : Tr pr w s₀ A fs σ t' V) : Tr pr w s₀ A fs σ t V := e ▸ h
theorem Tr.lenTup {a : Addr} {vs : List Value} (hs : σ a = some (.tup vs)) (hz : vs.length < 2 ^ 62) : Tr pr w s₀ A fs σ (call (.builtin "len") [.ref a]) (Pu fs σ (IsI (vs.length : Int))) := fun s _ _ I q => by
  obtain ⟨o, ho, hc, k, hd⟩ := I.get hs
  exact len_tuple ⟨o, ho, hc, k, hd⟩ (by simp; omega) (q _ _ _ _ ⟨rfl, rfl, s.toks + 1, by simp⟩ (I.tok _))
theorem Tr.methI1 (G : Gd w s₀ mg mb) {env : Env} {m : NsMap} {name : Str} {pos : Pos} {C f a dx : Addr} {k : Nat} {v : Value} (M : Mth (hd.heap_1 w.params) C name f) {o e : Expr} {apos : Pos} {pl : Sem Bool} (ho : Pv pr w s₀ A env fs σ o (· = .ref a)) (hx : σ a = some (.obj (instObj C dx))) (hm : σ dx = some (.att m k)) (hmn : m name = none)
    (ha : Pv pr w s₀ A env fs σ e (· = v)) (hc : Tr pr w s₀ A fs σ (call (.ref f) [.ref a, v]) V)
    (hse : starEach [e] env = (false, eval e env) :: starEach [] env := by rfl)
    (he : eval (.Call (.Attribute o name apos) [e] [] pos) env = (do
      let ov ← eval o env
      standAt apos.atName
      let (f, first) ← holding [ov] (getMethod ov name pl)
      callWith pos f first (backTo pos (starEach [e] env)) (backToKw pos (keywordEach [] env))) := by rfl) :
    Tr pr w s₀ A fs σ (eval (.Call (.Attribute o name apos) [e] [] pos) env) V :=
  Tr.methI (pl := pl) G M (W := Pu fs σ (· = [v])) ho hx hm hmn (Tr.argsC ha (fun _ _ _ ⟨e1, e2, e3⟩ => by subst e1 e2 e3; exact Tr.args0 ⟨rfl, rfl, rfl⟩) hse) (fun _ _ _ ⟨e1, e2, e3⟩ => by subst e1 e2 e3; exact hc) hse rfl he
theorem mth_gni (w : World) : Mth (hd.heap_1 w.params) 165 (Str.ofString "_get_nodeinfo") 108 := ⟨ga165 w, gn165 w, by first | rfl | kernel_rfl, by first | rfl | kernel_rfl, ⟨_, _, _, _, rfl⟩, by first | rfl | kernel_rfl, by first | rfl | kernel_rfl, cl165 w, by decide⟩

set_option maxHeartbeats 2000000 in
theorem add_spec (G : Gd w s₀ mg mb) {k : Nat} (O : Ok A fs (k + 4)) (H : Sor σb σ x dx N ad S .none po fi) {vs : List Value} {qs : List Int} (hq : IntsAre vs qs) (hz : S.ks.length + qs.length ≤ 800) (hl : ∀ k, (S.sc k).length + qs.length ≤ 800)
    (h : ∀ ad' σ', Sor σb σ' x dx N ad' (S.add n qs) .none po fi → V .none fs σ') : Tc pr w s₀ A fs σ (.call (.ref 115) ⟨.ref x :: .int n t :: vs, []⟩) V := by
  have hlen : vs.length = qs.length := hq.length
  refine Tc.fnB (W := fun binds fs' σ1 => ∃ T, fs' = fs ∧ σ T = none ∧ σ1 = upd σ T (.tup vs) ∧ binds = [(Str.ofString "self", .ref x), (Str.ofString "node", .int n t), (Str.ofString "predecessors", .ref T)]) G.B G.X rfl rfl O ?_ ?_ rfl rfl rfl ?_
  · refine Tr.of_eq (t' := newTuple vs >>= fun T => Pure.pure [(Str.ofString "self", Value.ref x), (Str.ofString "node", .int n t), (Str.ofString "predecessors", T)]) (by cases vs <;> rfl) ?_
    refine Tr.bind (Tr.newTuple (V := fun v fs' σ1 => ∃ T, v = .ref T ∧ fs' = fs ∧ σ T = none ∧ σ1 = upd σ T (.tup vs)) (by rw [sizeLine_eq]; omega) fun T hT => ⟨T, rfl, rfl, hT, rfl⟩) ?_
    rintro _ _ _ ⟨T, rfl, rfl, hT, rfl⟩
    exact Tr.pure ⟨T, rfl, hT, rfl, rfl⟩
  · rintro _ _ _ ⟨T, rfl, hT, rfl, rfl⟩
    exact ⟨rfl, rfl⟩
  · rintro _ _ L σ' ⟨T, _, hT, rfl, rfl⟩ hS O' hC
    let ev : Env := O'.env
    refine Tr.weak ?_ hS
    refine Tr.absV fun Vf hV => ?_
    have HT := H.new (z := .tup vs) hT
    have hTb : σb T = none := H.sub.none hT
    obtain ⟨td, ud, hdx⟩ := HT.hdx
    refine Tr.ite (Tv.isNotNone (v := .none) (Pv.attr (Pv.loc (v := .ref x) rfl) (Tr.gR G HT rfl)) Pv.none) (fun hb => absurd hb (by decide)) (fun _ => ?_)
    refine Tr.nil ?_
    show Tr _ _ _ _ _ _ _ _
    refine Tr.assign (W := fun v fs' σ1 => ∃ ad1 m, v = .ref (ad1 n).1 ∧ fs' = (ev, m) :: fs ∧ m (Str.ofString "self") = some (.ref x) ∧ m (Str.ofString "node") = some (.int n t) ∧ m (Str.ofString "predecessors") = some (.ref T) ∧ Sor (upd σb T (.tup vs)) σ1 x dx N ad1 (S.touch n) .none po fi) ?_ ?_
    · refine Tr.methI1 (pl := _) G (mth_gni w) (Pv.loc (v := .ref x) rfl) HT.hx hdx rfl (Pv.loc (v := .int n t) rfl) ?_
      exact gni_spec G O' HT (by omega) fun ad1 σ1 h1 => ⟨ad1, _, rfl, rfl, rfl, rfl, rfl, h1⟩
    rintro _ _ σ1 ⟨ad1, m, rfl, rfl, m1, m2, m3, H1⟩
    refine Tr.store ?_
    have hn := touch_mem S n
    obtain ⟨t0, u0, hi0⟩ := H1.info n hn
    have hh0 := H1.hid n hn
    have hT1 : σ1 T = some (.tup vs) := H1.sub.at (upd_self ..)
    refine Tr.augA (W := fun _ _ _ => True) ?_
    refine (Pv.loc (v := .ref (ad1 n).1) rfl).mono ?_
    first | refine puE ?_ | rintro _ _ _ ⟨rfl, rfl, rfl⟩
    refine (Tr.getNp G hi0 hh0).mono ?_
    first | refine puE ?_ | rintro _ _ _ ⟨rfl, rfl, rfl⟩
    refine Tr.mono (Tr.pcall1 (V := Pu _ _ (IsI (qs.length : Int))) (Pv.b G rfl rfl) (.inl ⟨_, rfl⟩) (Pv.loc (v := .ref T) m3) (fun v e => by subst e; rw [← hlen]; exact Tr.lenTup hT1 (by omega))) ?_
    first | refine puI fun t2 => ?_ | rintro _ _ _ ⟨rfl, rfl, t2, rfl⟩
    refine Tr.iadd.mono ?_
    first | refine puI fun t3 => ?_ | rintro _ _ σ1 ⟨rfl, rfl, t3, rfl⟩
    refine Tr.setNp G hi0 hh0 ?_
    have H2 := H1.setNp (v := (S.touch n).np n + qs.length) (t := t3) hn ⟨_, hi0⟩
    generalize upd σ1 (ad1 n).1 (.obj (infO (ad1 n).2.1 (ad1 n).2.2 ((S.touch n).np n + qs.length) n t3 u0)) = σ2 at H2 ⊢
    have hT2 : σ2 T = some (.tup vs) := H2.sub.at (upd_self ..)
    -- the loop
    refine Tr.forZ (W := Pu _ σ2 (· = .ref T)) (Pv.loc (v := .ref T) m3) ?_
    first | refine puE ?_ | rintro _ _ σ2 ⟨rfl, rfl, rfl⟩
    refine ⟨vs.length, _, _, _, Sz.tuple O'.handled hT2, fun I hI => ?_⟩
    have hIb : upd σb T (.tup vs) I = none := H2.sub.none hI
    refine ⟨fun i fs1 σ1 => ∃ m ad1, fs1 = (ev, m) :: fs ∧ m (Str.ofString "self") = some (.ref x) ∧ m (Str.ofString "node") = some (.int n t) ∧ (((qs.take i).foldl (fun S p => S.link n p) ((S.touch n).setNp n ((S.touch n).np n + qs.length))).ks.length ≤ S.ks.length + 1 + i) ∧ (∀ k, (((qs.take i).foldl (fun S p => S.link n p) ((S.touch n).setNp n ((S.touch n).np n + qs.length))).sc k).length ≤ (S.sc k).length + i) ∧
      Sor (upd (upd σb T (.tup vs)) I (.rcd "tuple_iterator" #[.ref T, .int i 0])) σ1 x dx N ad1 ((qs.take i).foldl (fun S p => S.link n p) ((S.touch n).setNp n ((S.touch n).np n + qs.length))) .none po fi, ?_, ?_, ?_, ?_⟩
    · exact ⟨_, ad1, rfl, m1, m2, touch_len S n, fun k => touch_sc S n k, H2.new hI⟩
    · rintro i _ σ3 ⟨m, ad3, rfl, _, _, _, _, H3⟩
      refine ⟨H3.sub.at (upd_self ..), ?_⟩
      have hTI : T ≠ I := by rintro rfl; rw [upd_self] at hIb; cases hIb
      simpa using H3.sub.at ((upd_ne hTI).trans (upd_self ..))
    · rintro i u _ σ3 hlt hu ⟨m, ad3, rfl, m1, m2, hl1, hl2, H3⟩
      obtain ⟨q, hqi, tq, rfl⟩ := ints_take hq hu
      have H4 := H3.out (z := .rcd "tuple_iterator" #[.ref T, .int ((i + 1 : Nat) : Int) 0]) (upd_self ..)
      rw [upd_upd] at H4
      generalize upd σ3 I (.rcd "tuple_iterator" #[.ref T, .int ((i + 1 : Nat) : Int) 0]) = σ4 at H4 ⊢
      refine Tr.assignName (Tr.store ?_)
      refine Tr.absV fun Vb hVb => ?_
      obtain ⟨td4, ud4, hdx4⟩ := H4.hdx
      have hlq : i < qs.length := by omega
      refine Tr.assign (W := fun v fs' σ1 => ∃ ad5 m, v = .ref (ad5 q).1 ∧ fs' = (ev, m) :: fs ∧ m (Str.ofString "self") = some (.ref x) ∧ m (Str.ofString "node") = some (.int n t) ∧ Sor (upd (upd σb T (.tup vs)) I (.rcd "tuple_iterator" #[.ref T, .int ((i + 1 : Nat) : Int) 0])) σ1 x dx N ad5 (((qs.take i).foldl (fun S p => S.link n p) ((S.touch n).setNp n ((S.touch n).np n + qs.length))).touch q) .none po fi) ?_ ?_
      · refine Tr.methI1 (pl := _) G (mth_gni w) (Pv.loc (v := .ref x) ((set1_ne (by decide)).trans m1)) H4.hx hdx4 rfl (Pv.loc (v := .int q tq) rfl) ?_
        exact gni_spec G O'.top H4 (by omega) fun ad5 σ5 h5 => ⟨ad5, _, rfl, rfl, (set1_ne (by decide)).trans m1, (set1_ne (by decide)).trans m2, h5⟩
      rintro _ _ σ5 ⟨ad5, m, rfl, rfl, m1, m2, H5⟩
      refine Tr.store ?_
      have hq5 := touch_mem ((qs.take i).foldl (fun S p => S.link n p) ((S.touch n).setNp n ((S.touch n).np n + qs.length))) q
      obtain ⟨t5, u5, hi5⟩ := H5.info q hq5
      obtain ⟨ws, hws, hwi⟩ := H5.suc q hq5
      have hwl : ws.length = _ := hwi.length
      have hl3 := hl2 q
      have hl4 := touch_sc ((qs.take i).foldl (fun S p => S.link n p) ((S.touch n).setNp n ((S.touch n).np n + qs.length))) q q
      have hl5 := hl q
      refine Tr.expr (Tr.append (V := fun _ fs' σ6 => ∃ v, IsI n v ∧ fs' = _ ∧ σ6 = upd σ5 (ad5 q).2.2 (.list (ws ++ [v]))) (Pv.attr (P := (· = .ref (ad5 q).2.2)) (Pv.loc (v := .ref (ad5 q).1) rfl) (Tr.getSuc G hi5 (H5.hid q hq5))) (Pv.locI (n := n) (t := t) ((set1_ne (by decide)).trans m2)) hws (by rw [sizeLine_eq]; omega) fun v hv => ⟨v, hv, rfl, rfl⟩) ?_
      rintro _ _ _ ⟨v, ⟨tv, rfl⟩, rfl, rfl⟩
      refine Tr.nil (hVb _ _ _ ⟨_, ad5, rfl, (set1_ne (by decide)).trans m1, (set1_ne (by decide)).trans m2, ?_, fun k => ?_, ?_⟩)
      · rw [link_take hqi]
        have := link_len ((qs.take i).foldl (fun S p => S.link n p) ((S.touch n).setNp n ((S.touch n).np n + qs.length))) n q
        omega
      · rw [link_take hqi]
        have := link_sc ((qs.take i).foldl (fun S p => S.link n p) ((S.touch n).setNp n ((S.touch n).np n + qs.length))) n q k
        have := hl2 k
        omega
      · rw [link_take hqi]
        exact H5.setSuc hq5 hws (hwi.append (.cons _ _ .nil))
    · rintro _ σ3 ⟨m, ad3, rfl, m1, m2, _, _, H3⟩
      refine Tr.nil ?_
      show Tr _ _ _ _ _ _ _ _
      refine Tr.nil (hV _ _ _ ⟨m, rfl, ?_⟩)
      have H4 := H3.del hIb
      refine h ad3 _ ?_
      have H5 := H4.less (σb' := σb) ((Sub.refl σb).upd hTb)
      rw [List.take_of_length_le (by omega)] at H5
      exact H5
end
end Mine
end
section
open PySem PySem.W PySem.Calls PyProof.Rows Builtin
namespace Mine
def ab0 : Ab := ⟨[], fun _ => 0, fun _ => []⟩
def ad0 : Ad := fun _ => (0, 0, 0)
section
variable {pr : Program} {w : World} {s₀ : Shared} {A : Around} {fs : Fs} {σ σb : Sto} {mg mb : NsMap} {n : Int} {t : Tok} {V : Value → Fs → Sto → Prop} {x dx N : Addr} {ad : Ad} {S : Ab} {rd : Value} {po fi : Int}
theorem in165 (w : World) : findIn (hd.heap_1 w.params) (.ref 165) "__init__" = some (some (.ref 101)) := by first | rfl | kernel_rfl
theorem ty101 (w : World) : typeIn (hd.heap_1 w.params) (.ref 101) = some (.type "function") := by first | rfl | kernel_rfl
theorem attM_init {t u : Tok} : set1 (set1 (set1 (set1 (fun _ => none) (Str.ofString "_node2info") (.ref N)) (Str.ofString "_ready_nodes") .none) (Str.ofString "_npassedout") (.int 0 t)) (Str.ofString "_nfinished") (.int 0 u) = attM N .none 0 0 t u := by
  funext y
  unfold attM
  by_cases h1 : y = Str.ofString "_node2info"
  · subst h1; rfl
  · by_cases h2 : y = Str.ofString "_ready_nodes"
    · subst h2; rfl
    · by_cases h3 : y = Str.ofString "_npassedout"
      · subst h3; rfl
      · by_cases h4 : y = Str.ofString "_nfinished"
        · subst h4; rfl
        · simp only [set1, if_neg h1, if_neg h2, if_neg h3, if_neg h4]

set_option maxHeartbeats 2000000 in
theorem sorter_spec (G : Gd w s₀ mg mb) {k : Nat} (O : Ok A fs (k + 2)) (h : ∀ x dx N σ', Sor σ σ' x dx N ad0 ab0 .none 0 0 → V (.ref x) fs σ') : Tr pr w s₀ A fs σ (call (.ref 165) []) V := by
  refine Tc.call (Tc.make G (.att (fun _ => none) 0) ⟨#[], 0, rfl, fun _ he => by simp at he, Nat.le_refl _, fun _ => rfl⟩ (mk165 w) (in165 w) (ty101 w) fun x dx hx hdx hne => ?_)
  have g1 : upd (upd σ dx (.att (fun _ => none) 0)) x (.obj (instObj 165 dx)) x = some (.obj (instObj 165 dx)) := upd_self ..
  have g2 : upd (upd σ dx (.att (fun _ => none) 0)) x (.obj (instObj 165 dx)) dx = some (.att (fun _ => none) 0) := (upd_ne (Ne.symm hne)).trans (upd_self ..)
  have g3 : Sub σ (upd (upd σ dx (.att (fun _ => none) 0)) x (.obj (instObj 165 dx))) := ((Sub.refl σ).upd hdx).upd hx
  generalize upd (upd σ dx (.att (fun _ => none) 0)) x (.obj (instObj 165 dx)) = σ1 at g1 g2 g3 ⊢
  obtain ⟨cd, hc, hcd⟩ := cl165 w
  refine Tc.fnB (W := Pu fs σ1 (· = [(Str.ofString "self", .ref x), (Str.ofString "graph", .none)])) G.B G.X rfl rfl O.tc ?_ (fun _ _ _ ⟨e1, e2, e3⟩ => ⟨e1, by subst e3; rfl⟩) rfl rfl rfl ?_
  · intro s Q E I q
    exact binds_K (I.K G) rfl rfl rfl rfl rfl _ _ _ _ (q _ _ _ _ ⟨rfl, rfl, rfl⟩ I)
  rintro _ σ1 L σ' ⟨_, rfl, rfl⟩ hS O' hC
  refine Tr.weak ?_ hS
  refine Tr.absV fun Vf hV => ?_
  refine Tr.assignA (W := fun v fs' σ2 => ∃ N m, v = .ref N ∧ fs' = (O'.env, m) :: fs ∧ m = _ ∧ σ1 N = none ∧ (N == sysModules) = false ∧ σ2 = upd σ1 N (.imap [] 0)) (Tr.dictNew G fun N hN hs => ⟨N, _, rfl, rfl, rfl, hN, hs, rfl⟩) ?_
  rintro _ _ _ ⟨N, _, rfl, rfl, rfl, hN, hsN, rfl⟩
  refine (Pv.loc (v := .ref x) rfl).mono ?_
  first | refine puE ?_ | rintro _ _ _ ⟨rfl, rfl, rfl⟩
  have hxN : x ≠ N := by rintro rfl; rw [g1] at hN; cases hN
  have hdN : dx ≠ N := by rintro rfl; rw [g2] at hN; cases hN
  have hxd : x ≠ dx := hne
  refine Tr.setA G ((upd_ne hxN).trans g1) ((upd_ne hdN).trans g2) (by decide) (sa165 w) (po165 w) hc hcd (tN165 w) ?_
  refine Tr.assignA Pv.none ?_
  first | refine puE ?_ | rintro _ _ _ ⟨rfl, rfl, rfl⟩
  refine (Pv.loc (v := .ref x) rfl).mono ?_
  first | refine puE ?_ | rintro _ _ _ ⟨rfl, rfl, rfl⟩
  refine Tr.setA G ((upd_ne hxd).trans ((upd_ne hxN).trans g1)) (upd_self ..) (by show 1 < 100; decide) (sa165 w) (po165 w) hc hcd (tR165 w) ?_
  rw [upd_upd]
  refine Tr.assignA Pv.int ?_
  first | refine puI fun t1 => ?_ | rintro _ _ _ ⟨rfl, rfl, t1, rfl⟩
  refine (Pv.loc (v := .ref x) rfl).mono ?_
  first | refine puE ?_ | rintro _ _ _ ⟨rfl, rfl, rfl⟩
  refine Tr.setA G ((upd_ne hxd).trans ((upd_ne hxN).trans g1)) (upd_self ..) (by show 2 < 100; decide) (sa165 w) (po165 w) hc hcd (tP165 w) ?_
  rw [upd_upd]
  refine Tr.assignA Pv.int ?_
  first | refine puI fun t2 => ?_ | rintro _ _ _ ⟨rfl, rfl, t2, rfl⟩
  refine (Pv.loc (v := .ref x) rfl).mono ?_
  first | refine puE ?_ | rintro _ _ _ ⟨rfl, rfl, rfl⟩
  refine Tr.setA G ((upd_ne hxd).trans ((upd_ne hxN).trans g1)) (upd_self ..) (by show 3 < 100; decide) (sa165 w) (po165 w) hc hcd (tF165 w) ?_
  rw [upd_upd]
  refine Tr.ite (Tv.isNotNone (v := .none) (Pv.loc (v := .none) rfl) Pv.none) (fun hb => absurd hb (by decide)) (fun _ => ?_)
  refine Tr.nil ?_
  show Tr _ _ _ _ _ _ _ _
  refine Tr.nil (hV _ _ _ ⟨_, rfl, rfl, h x dx N _ ?_⟩)
  have e := attM_init (N := N) (t := t1) (u := t2)
  refine ⟨(g3.upd (g3.none hN)).upd hdx, hx, hdx, g3.none hN, fun k hk => (by cases hk), ?_, ⟨t1, t2, ?_⟩, ⟨0, ?_⟩, hsN, List.nodup_nil, fun k hk => (by cases hk), fun k hk => (by cases hk), fun k hk => (by cases hk), fun k hk => (by cases hk), by decide⟩
  · rw [upd_ne hxd, upd_ne hxN]; exact g1
  · rw [← e]; exact upd_self ..
  · rw [upd_ne (Ne.symm hdN)]; exact upd_self ..
end
end Mine
end
section
open PySem PySem.W PySem.Calls PyProof.Rows Builtin
namespace Mine
section
variable {pr : Program} {w : World} {s₀ : Shared} {A : Around} {env : Env} {fs : Fs} {σ σb : Sto} {mg mb : NsMap} {n : Int} {t : Tok} {V : Value → Fs → Sto → Prop} {x dx N R : Addr} {ad : Ad} {S : Ab} {rd : Value} {po fi : Int} {pos : Pos}
theorem Tr.boolL {l : Addr} {vs : List Value} (hs : σ l = some (.list vs)) (hz : vs.length < 2 ^ 62) : Tr pr w s₀ A fs σ (call (.type "bool") [.ref l]) (Pu fs σ (· = .bool (!vs.isEmpty))) := fun s Q E I q => by
  have g : Meets (Builtin.«bool.__new__» ⟨[.type "bool", .ref l], []⟩) (fun A R s => s.heap.IsList l vs.toArray ∧ R (.ok (.ret (.bool (!vs.isEmpty)))) { s with toks := s.toks + 1 + 1 }) :=
    Meets.of_wp fun prog w A R s ⟨hl, hs⟩ => by
      obtain ⟨hp, g, d, tk, os⟩ := s
      have f1 := F.conv_sub_bool
      repeat (any_goals (first | assumption | (with_reducible refine wpAny_truthy_list hl (by simp; omega) ?_) | wp_step))
      exact ⟨_, rfl, by simpa using hs⟩
  exact call_bool_1 g ⟨I.isList hs, rfl, q _ _ _ _ ⟨rfl, rfl, rfl⟩ (I.tok _)⟩
theorem Pv.ditem {l i : Expr} {d : Addr} {kvs : List (Int × Value)} {ep : Nat} {v : Value} (h1 : Pv pr w s₀ A env fs σ l (· = .ref d)) (h2 : Pv pr w s₀ A env fs σ i (IsI n)) (hs : σ d = some (.imap kvs ep)) (hv : valueAt kvs n = some v)
    (hsub : ∀ t, ∃ ops, subscripted i false (.ref d) (.int n t) = operate ops (getItem (.ref d) (.int n t)) := by intro _; exact ⟨_, rfl⟩) : Pv pr w s₀ A env fs σ (.Subscript l i pos) (· = v) := by
  refine Tr.sub (W₁ := Pu fs σ (· = .ref d)) (W₂ := fun o iv fs' σ' => fs' = fs ∧ σ' = σ ∧ o = .ref d ∧ IsI n iv) h1 ?_ ?_
  · rintro _ _ _ ⟨e1, e2, e3⟩
    subst e1 e2 e3
    exact h2.mono fun _ _ _ ⟨a, b, c⟩ => ⟨a, b, rfl, c⟩
  · rintro _ _ _ _ ⟨e1, e2, e3, tt, e4⟩
    subst e1 e2 e3 e4
    exact ⟨dict_get_ok hs, hsub tt, getDict hs hv⟩
theorem Tr.orE {e₁ e₂ : Expr} {b : Bool} (h1 : Pv pr w s₀ A env fs σ e₁ (IsB b)) (h2 : b = true → V (.bool true) fs σ) (h3 : b = false → Tr pr w s₀ A fs σ (eval e₂ env) V) : Tr pr w s₀ A fs σ (eval (.BoolOp .Or [e₁, e₂] pos) env) V := fun s Q E I q => by
  refine BoolOp_or (h1 s _ _ I ?_)
  rintro _ _ _ s1 ⟨rfl, rfl, rfl⟩ I1
  refine wpAny_truthy_bool ?_
  cases b with
  | true => exact q _ _ _ _ (h2 rfl) I1
  | false => exact BoolOp_one (h3 rfl s1 _ _ I1 q)
set_option maxHeartbeats 1000000 in
theorem active_spec (G : Gd w s₀ mg mb) {k : Nat} (O : Ok A fs (k + 1)) (H : Sor σb σ x dx N ad S (.ref R) po fi) {rs : List Value} (hR : σb R = some (.list rs)) (hz : rs.length ≤ 2 ^ 20)
    (h : V (.bool (decide (fi < po) || !rs.isEmpty)) fs σ) : Tr pr w s₀ A fs σ (call (.ref 134) [.ref x]) V := by
  refine Tr.fn (binds := [(Str.ofString "self", .ref x)]) G.B G.X rfl rfl O rfl rfl rfl rfl rfl ?_
  intro L σ' hS O' hC
  let ev : Env := O'.env
  refine Tr.weak ?_ hS
  refine Tr.ite (Tv.isNone (v := .ref R) (Pv.attr (Pv.loc (v := .ref x) rfl) (Tr.gR G H rfl)) Pv.none) (fun hb => absurd hb (by simp)) (fun _ => ?_)
  refine Tr.nil ?_
  show Tr _ _ _ _ _ _ _ _
  refine Tr.ret (W := fun v fs' σ1 => ∃ m, v = .bool (decide (fi < po) || !rs.isEmpty) ∧ fs' = (ev, m) :: fs ∧ σ1 = σ) ?_ ?_
  · refine Tr.orE (b := decide (fi < po)) (Pv.cmp (Pv.attr (P := IsI fi) (Pv.loc (v := .ref x) rfl) (Tr.gF G H)) (Pv.attr (P := IsI po) (Pv.loc (v := .ref x) rfl) (Tr.gP G H)) (fun _ _ => cmp_lt) rfl) (fun hb => ⟨_, by rw [hb]; rfl, rfl, rfl⟩) (fun hb => ?_)
    refine Tr.mono (Tr.pcall1 (V := Pu _ _ (· = .bool (!rs.isEmpty))) (Pv.b G rfl rfl) (.inr (.inl ⟨_, rfl⟩)) (Pv.attr (P := (· = .ref R)) (Pv.loc (v := .ref x) rfl) (Tr.gR G H rfl)) (fun v e => by subst e; exact Tr.boolL (H.sub.at hR) (by omega))) ?_
    first | refine puE ?_ | rintro _ _ _ ⟨rfl, rfl, rfl⟩
    exact ⟨_, by rw [hb]; rfl, rfl, rfl⟩
  · rintro _ _ _ ⟨m, rfl, rfl, rfl⟩
    exact ⟨m, rfl, h⟩

/-! get_ready -/
def Ab.outs (S : Ab) (qs : List Int) : Ab := qs.foldl (fun S q => S.setNp q (-1)) S
theorem outs_take {qs : List Int} {i : Nat} {q : Int} (h : qs[i]? = some q) (S : Ab) : S.outs (qs.take (i + 1)) = (S.outs (qs.take i)).setNp q (-1) := by
  unfold Ab.outs; rw [take_snoc h, List.foldl_append]; rfl
theorem outs_ks (S : Ab) (qs : List Int) : (S.outs qs).ks = S.ks := by
  unfold Ab.outs
  induction qs generalizing S with
  | nil => rfl
  | cons q r ih => rw [List.foldl_cons, ih]; rfl
set_option maxHeartbeats 2000000 in
theorem ready_spec (G : Gd w s₀ mg mb) {k : Nat} (O : Ok A fs (k + 1)) (H : Sor σb σ x dx N ad S (.ref R) po fi) {rs : List Value} {qs : List Int} (hR : σb R = some (.list rs)) (hq : IntsAre rs qs) (hz : qs.length ≤ 1000) (hk : ∀ q ∈ qs, q ∈ S.ks)
    (h : ∀ T σ', σb T = none → Sor (upd (upd σb R (.list [])) T (.tup rs)) σ' x dx N ad (S.outs qs) (.ref R) (po + qs.length) fi → V (.ref T) fs σ') : Tr pr w s₀ A fs σ (call (.ref 127) [.ref x]) V := by
  refine Tr.fn (binds := [(Str.ofString "self", .ref x)]) G.B G.X rfl rfl O rfl rfl rfl rfl rfl ?_
  intro L σ' hS O' hC
  let ev : Env := O'.env
  refine Tr.weak ?_ hS
  refine Tr.absV fun Vf hV => ?_
  have hlen : rs.length = qs.length := hq.length
  refine Tr.ite (Tv.isNone (v := .ref R) (Pv.attr (Pv.loc (v := .ref x) rfl) (Tr.gR G H rfl)) Pv.none) (fun hb => absurd hb (by simp)) (fun _ => ?_)
  refine Tr.nil ?_
  show Tr _ _ _ _ _ _ _ _
  refine Tr.assign (W := fun v fs' σ1 => ∃ T m, v = .ref T ∧ fs' = (ev, m) :: fs ∧ m (Str.ofString "self") = some (.ref x) ∧ σ T = none ∧ σ1 = upd σ T (.tup rs)) ?_ ?_
  · refine Tr.pcall1 (Pv.b G rfl rfl) (.inr (.inl ⟨_, rfl⟩)) (Pv.attr (P := (· = .ref R)) (Pv.loc (v := .ref x) rfl) (Tr.gR G H rfl)) ?_
    first | refine eqE ?_ | rintro _ rfl
    exact Tr.tupleOf (H.sub.at hR) (by rw [sizeLine_eq]; omega) fun T hT => ⟨T, _, rfl, rfl, rfl, hT, rfl⟩
  rintro _ _ _ ⟨T, m, rfl, rfl, m1, hT, rfl⟩
  refine Tr.store ?_
  have H1 := H.new (z := .tup rs) hT
  have hTb : σb T = none := H.sub.none hT
  have hRT : R ≠ T := by rintro rfl; rw [hR] at hTb; cases hTb
  generalize upd σ T (.tup rs) = σ1 at H1 ⊢
  refine Tr.let (Pv.attr (P := (· = .ref N)) (Pv.loc (v := .ref x) ((set1_ne (by decide)).trans m1)) (Tr.gN G H1)) ?_
  first | refine eqE ?_ | rintro _ rfl
  have m1' : set1 (set1 m (Str.ofString "result") (.ref T)) (Str.ofString "n2i") (.ref N) (Str.ofString "self") = some (.ref x) := (set1_ne (by decide)).trans ((set1_ne (by decide)).trans m1)
  have m2 : set1 (set1 m (Str.ofString "result") (.ref T)) (Str.ofString "n2i") (.ref N) (Str.ofString "result") = some (.ref T) := (set1_ne (by decide)).trans (set1_self ..)
  have m3 : set1 (set1 m (Str.ofString "result") (.ref T)) (Str.ofString "n2i") (.ref N) (Str.ofString "n2i") = some (.ref N) := set1_self ..
  generalize set1 (set1 m (Str.ofString "result") (.ref T)) (Str.ofString "n2i") (.ref N) = m' at m1' m2 m3 ⊢
  have hT1 : σ1 T = some (.tup rs) := H1.sub.at (upd_self ..)
  refine Tr.forZ (W := Pu ((ev, m') :: fs) σ1 (· = .ref T)) (Pv.loc (v := .ref T) m2) ?_
  first | refine puE ?_ | rintro _ _ σ1 ⟨rfl, rfl, rfl⟩
  refine ⟨rs.length, _, _, _, Sz.tuple O'.handled hT1, fun I hI => ?_⟩
  have hIb : upd σb T (.tup rs) I = none := H1.sub.none hI
  have hTI : T ≠ I := by rintro rfl; rw [upd_self] at hIb; cases hIb
  refine ⟨fun i fs1 σ2 => ∃ m, fs1 = (ev, m) :: fs ∧ m (Str.ofString "self") = some (.ref x) ∧ m (Str.ofString "result") = some (.ref T) ∧ m (Str.ofString "n2i") = some (.ref N) ∧ Sor (upd (upd σb T (.tup rs)) I (.rcd "tuple_iterator" #[.ref T, .int i 0])) σ2 x dx N ad (S.outs (qs.take i)) (.ref R) po fi, ?_, ?_, ?_, ?_⟩
  · exact ⟨m', rfl, m1', m2, m3, H1.new hI⟩
  · rintro i _ σ3 ⟨m, rfl, _, _, _, H3⟩
    refine ⟨H3.sub.at (upd_self ..), ?_⟩
    simpa using H3.sub.at ((upd_ne hTI).trans (upd_self ..))
  · rintro i u _ σ3 hlt hu ⟨m, rfl, m1, m2, m3, H3⟩
    obtain ⟨q, hqi, tq, rfl⟩ := ints_take hq hu
    have hqk : q ∈ (S.outs (qs.take i)).ks := by rw [outs_ks]; exact hk q (List.mem_of_getElem? hqi)
    have H4 := H3.out (z := .rcd "tuple_iterator" #[.ref T, .int ((i + 1 : Nat) : Int) 0]) (upd_self ..)
    rw [upd_upd] at H4
    generalize upd σ3 I (.rcd "tuple_iterator" #[.ref T, .int ((i + 1 : Nat) : Int) 0]) = σ4 at H4 ⊢
    refine Tr.assignName (Tr.store ?_)
    refine Tr.absV fun Vb hVb => ?_
    obtain ⟨ep, hN⟩ := H4.hN
    obtain ⟨t0, u0, hi0⟩ := H4.info q hqk
    refine Tr.assignA (Pv.g G rfl) ?_
    first | refine puE ?_ | rintro _ _ _ ⟨rfl, rfl, rfl⟩
    refine Tr.mono (Pv.ditem (v := .ref (ad q).1) (Pv.loc (v := .ref N) ((set1_ne (by decide)).trans m3)) (Pv.locI (n := q) (t := tq) rfl) hN (by rw [valueAt_ks (fun k => Value.ref (ad k).1), if_pos hqk])) ?_
    first | refine puE ?_ | rintro _ _ _ ⟨rfl, rfl, rfl⟩
    refine Tr.setNp G hi0 (H4.hid q hqk) ?_
    refine Tr.nil (hVb _ _ _ ⟨_, rfl, (set1_ne (by decide)).trans m1, (set1_ne (by decide)).trans m2, (set1_ne (by decide)).trans m3, ?_⟩)
    rw [outs_take hqi]
    exact H4.setNp hqk ⟨_, hi0⟩
  · rintro _ σ3 ⟨m, rfl, m1, m2, m3, H3⟩
    refine Tr.nil ?_
    show Tr _ _ _ _ _ _ _ _
    have H4 := H3.del hIb
    rw [List.take_of_length_le (by omega)] at H4
    generalize del σ3 I = σ4 at H4 ⊢
    have hR4 : upd σb T (.tup rs) R = some (.list rs) := (upd_ne hRT).trans hR
    refine Tr.expr (Tr.clear (V := fun _ fs' σ5 => fs' = (ev, m) :: fs ∧ σ5 = upd σ4 R (.list [])) (Pv.attr (P := (· = .ref R)) (Pv.loc (v := .ref x) m1) (Tr.gR G H4 rfl)) (H4.sub.at hR4) (by rw [sizeLine_eq]; omega) ⟨rfl, rfl⟩) ?_
    rintro _ _ _ ⟨rfl, rfl⟩
    have H5 := H4.out (z := .list []) hR4
    generalize upd σ4 R (.list []) = σ5 at H5 ⊢
    have hT5 : σ5 T = some (.tup rs) := H5.sub.at ((upd_ne (Ne.symm hRT)).trans (upd_self ..))
    refine Tr.augA (W := fun _ _ _ => True) ?_
    refine (Pv.loc (v := .ref x) m1).mono ?_
    first | refine puE ?_ | rintro _ _ _ ⟨rfl, rfl, rfl⟩
    refine (Tr.gP G H5).mono ?_
    first | refine puI fun t1 => ?_ | rintro _ _ _ ⟨rfl, rfl, t1, rfl⟩
    refine Tr.mono (Tr.pcall1 (V := Pu _ _ (IsI (qs.length : Int))) (Pv.b G rfl rfl) (.inl ⟨_, rfl⟩) (Pv.loc (v := .ref T) m2) (fun v e => by subst e; rw [← hlen]; exact Tr.lenTup hT5 (by omega))) ?_
    first | refine puI fun t2 => ?_ | rintro _ _ _ ⟨rfl, rfl, t2, rfl⟩
    refine Tr.iadd.mono ?_
    first | refine puI fun t3 => ?_ | rintro _ _ σ5 ⟨rfl, rfl, t3, rfl⟩
    refine Tr.sP G H5 fun σ6 H6 => ?_
    refine Tr.ret (Pv.loc (v := .ref T) m2) ?_
    first | refine puE ?_ | rintro _ _ _ ⟨rfl, rfl, rfl⟩
    refine hV _ _ _ ⟨m, rfl, h T _ hTb ?_⟩
    rw [upd_comm _ _ _ hRT]
    exact H6
end
end Mine
end
section
open PySem PySem.W PySem.Calls PyProof.Rows Builtin
namespace Mine
/-! done -/
def decS (st : Ab × List Int) (s : Int) : Ab × List Int := (st.1.setNp s (st.1.np s - 1), if st.1.np s - 1 = 0 then st.2 ++ [s] else st.2)
def finS (st : Ab × List Int) (q : Int) : Ab × List Int := (st.1.sc q).foldl decS (st.1.setNp q (-2), st.2)
theorem decF_ks (l : List Int) : ∀ st : Ab × List Int, (l.foldl decS st).1.ks = st.1.ks ∧ (l.foldl decS st).1.sc = st.1.sc := by
  induction l with
  | nil => intro st; exact ⟨rfl, rfl⟩
  | cons a r ih => intro st; rw [List.foldl_cons]; obtain ⟨h1, h2⟩ := ih (decS st a); exact ⟨h1, h2⟩
theorem finF_ks (l : List Int) : ∀ st : Ab × List Int, (l.foldl finS st).1.ks = st.1.ks ∧ (l.foldl finS st).1.sc = st.1.sc := by
  induction l with
  | nil => intro st; exact ⟨rfl, rfl⟩
  | cons a r ih =>
    intro st; rw [List.foldl_cons]
    obtain ⟨h1, h2⟩ := ih (finS st a)
    obtain ⟨h3, h4⟩ := decF_ks (st.1.sc a) (st.1.setNp a (-2), st.2)
    exact ⟨h1.trans h3, h2.trans h4⟩
theorem fold_take {α : Type} (f : α → Int → α) {qs : List Int} {i : Nat} {q : Int} (h : qs[i]? = some q) (s : α) : (qs.take (i + 1)).foldl f s = f ((qs.take i).foldl f s) q := by
  rw [take_snoc h, List.foldl_append]; rfl
section
variable {pr : Program} {w : World} {s₀ : Shared} {A : Around} {env : Env} {fs : Fs} {σ σb : Sto} {mg mb : NsMap} {n : Int} {t : Tok} {V : Value → Fs → Sto → Prop} {x dx N R : Addr} {ad : Ad} {S : Ab} {rd : Value} {po fi : Int} {pos : Pos}

theorem Tr.sorNp (G : Gd w s₀ mg mb) {v : Int} {V : Unit → Fs → Sto → Prop} (H : Sor σb σ x dx N ad S rd po fi) (hn : n ∈ S.ks) (h : ∀ σ', Sor σb σ' x dx N ad (S.setNp n v) rd po fi → (∀ b, b ≠ (ad n).1 → σ' b = σ b) → V () fs σ') : Tr pr w s₀ A fs σ (setAttr (.ref (ad n).1) (Str.ofString "npredecessors") (.int v t)) V := by
  obtain ⟨t0, u0, hi0⟩ := H.info n hn
  exact Tr.setNp G hi0 (H.hid n hn) (h _ (H.setNp hn ⟨_, hi0⟩) fun b hb => upd_ne hb)
set_option maxHeartbeats 8000000 in
theorem done_spec (G : Gd w s₀ mg mb) {k : Nat} (O : Ok A fs (k + 1)) (H : Sor σb σ x dx N ad S (.ref R) po fi) {rs vs : List Value} {r0 qs : List Int} (hR : σb R = some (.list rs)) (hr : IntsAre rs r0) (hq : IntsAre vs qs)
    (hk : ∀ q ∈ qs, q ∈ S.ks) (hsc : ∀ k ∈ S.ks, ∀ s ∈ S.sc k, s ∈ S.ks) (hpre : ∀ i q, qs[i]? = some q → ((qs.take i).foldl finS (S, r0)).1.np q = -1) (hz : qs.length ≤ 300) (hz2 : ∀ k, (S.sc k).length ≤ 300) (hz3 : r0.length ≤ 300)
    (h : ∀ σ' rs', Sor (upd σb R (.list rs')) σ' x dx N ad (qs.foldl finS (S, r0)).1 (.ref R) po (fi + qs.length) → IntsAre rs' (qs.foldl finS (S, r0)).2 → V .none fs σ') : Tc pr w s₀ A fs σ (.call (.ref 148) ⟨.ref x :: vs, []⟩) V := by
  have hlen : vs.length = qs.length := hq.length
  refine Tc.fnB (W := fun binds fs' σ1 => ∃ T, fs' = fs ∧ σ T = none ∧ σ1 = upd σ T (.tup vs) ∧ binds = [(Str.ofString "self", .ref x), (Str.ofString "nodes", .ref T)]) G.B G.X rfl rfl O ?_ ?_ rfl rfl rfl ?_
  · refine Tr.of_eq (t' := newTuple vs >>= fun T => Pure.pure [(Str.ofString "self", Value.ref x), (Str.ofString "nodes", T)]) (by cases vs <;> rfl) ?_
    refine Tr.bind (Tr.newTuple (V := fun v fs' σ1 => ∃ T, v = .ref T ∧ fs' = fs ∧ σ T = none ∧ σ1 = upd σ T (.tup vs)) (by rw [sizeLine_eq]; omega) fun T hT => ⟨T, rfl, rfl, hT, rfl⟩) ?_
    rintro _ _ _ ⟨T, rfl, rfl, hT, rfl⟩
    exact Tr.pure ⟨T, rfl, hT, rfl, rfl⟩
  · rintro _ _ _ ⟨T, rfl, hT, rfl, rfl⟩
    exact ⟨rfl, rfl⟩
  rintro _ _ L σ' ⟨T, _, hT, rfl, rfl⟩ hS O' hC
  let ev : Env := O'.env
  refine Tr.weak ?_ hS
  refine Tr.absV fun Vf hV => ?_
  have HT := H.new (z := .tup vs) hT
  have hTb : σb T = none := H.sub.none hT
  have hRT : R ≠ T := by rintro rfl; rw [hR] at hTb; cases hTb
  have hR1 : upd σb T (.tup vs) R = some (.list rs) := (upd_ne hRT).trans hR
  have HT' : Sor (upd (upd σb T (.tup vs)) R (.list rs)) (upd σ T (.tup vs)) x dx N ad S (.ref R) po fi := by rw [upd_same hR1]; exact HT
  generalize upd σ T (.tup vs) = σ1 at HT HT' ⊢
  refine Tr.ite (Tv.isNone (v := .ref R) (Pv.attr (Pv.loc (v := .ref x) rfl) (Tr.gR G HT rfl)) Pv.none) (fun hb => absurd hb (by simp)) (fun _ => ?_)
  refine Tr.nil ?_
  show Tr _ _ _ _ _ _ _ _
  refine Tr.let (Pv.attr (P := (· = .ref N)) (Pv.loc (v := .ref x) rfl) (Tr.gN G HT)) ?_
  first | refine eqE ?_ | rintro _ rfl
  have hT1 : σ1 T = some (.tup vs) := HT.sub.at (upd_self ..)
  refine Tr.forZ (W := fun v fs' σ2 => ∃ m, v = .ref T ∧ fs' = (ev, m) :: fs ∧ m (Str.ofString "self") = some (.ref x) ∧ m (Str.ofString "n2i") = some (.ref N) ∧ σ2 = σ1) ((Pv.loc (v := .ref T) rfl).mono fun _ _ _ ⟨e1, e2, e3⟩ => ⟨_, e3, e1, rfl, rfl, e2⟩) ?_
  rintro _ _ σ1 ⟨m, rfl, rfl, m1, m3, rfl⟩
  refine ⟨vs.length, _, _, _, Sz.tuple O'.handled hT1, fun I hI => ?_⟩
  have hIb : upd (upd σb T (.tup vs)) R (.list rs) I = none := HT'.sub.none hI
  have hIR : R ≠ I := by rintro rfl; rw [upd_self] at hIb; cases hIb
  have hIT : T ≠ I := by rintro rfl; rw [upd_ne (Ne.symm hRT), upd_self] at hIb; cases hIb
  have hIb1 : upd σb T (.tup vs) I = none := by rw [upd_ne (Ne.symm hIR)] at hIb; exact hIb
  have hIb0 : σb I = none := by rw [upd_ne (Ne.symm hIT)] at hIb1; exact hIb1
  refine ⟨fun i fs1 σ2 => ∃ m rs1, fs1 = (ev, m) :: fs ∧ m (Str.ofString "self") = some (.ref x) ∧ m (Str.ofString "n2i") = some (.ref N) ∧ IntsAre rs1 ((qs.take i).foldl finS (S, r0)).2 ∧ rs1.length ≤ 300 + 300 * i ∧
    Sor (upd (upd (upd σb T (.tup vs)) R (.list rs1)) I (.rcd "tuple_iterator" #[.ref T, .int i 0])) σ2 x dx N ad ((qs.take i).foldl finS (S, r0)).1 (.ref R) po (fi + i), ?_, ?_, ?_, ?_⟩
  · refine ⟨m, rs, rfl, m1, m3, hr, by have := hr.length; omega, ?_⟩
    have := HT'.new (z := .rcd "tuple_iterator" #[.ref T, .int ((0 : Nat) : Int) 0]) hI
    simpa using this
  · rintro i _ σ3 ⟨m, rs1, rfl, _, _, _, _, H3⟩
    refine ⟨H3.sub.at (upd_self ..), ?_⟩
    simpa using H3.sub.at ((upd_ne hIT).trans ((upd_ne (Ne.symm hRT)).trans (upd_self ..)))
  · rintro i u _ σ3 hlt hu ⟨m, rs1, rfl, m1, m3, hr1, hrl, H3⟩
    obtain ⟨q, hqi, tq, rfl⟩ := ints_take hq hu
    obtain ⟨eks, esc⟩ := finF_ks (qs.take i) (S, r0)
    have hnp := hpre i q hqi
    have hnext := fold_take finS hqi (S, r0)
    generalize (qs.take i).foldl finS (S, r0) = st at eks esc hnp hr1 H3 hnext
    have hqS : q ∈ S.ks := hk q (List.mem_of_getElem? hqi)
    have hqk : q ∈ st.1.ks := eks ▸ hqS
    have H4 := H3.out (z := .rcd "tuple_iterator" #[.ref T, .int ((i + 1 : Nat) : Int) 0]) (upd_self ..)
    rw [upd_upd] at H4
    generalize upd σ3 I (.rcd "tuple_iterator" #[.ref T, .int ((i + 1 : Nat) : Int) 0]) = σ4 at H4 ⊢
    refine Tr.assignName (Tr.store ?_)
    refine Tr.absV fun Vb hVb => ?_
    obtain ⟨ep, hN⟩ := H4.hN
    obtain ⟨t0, u0, hi0⟩ := H4.info q hqk
    have hh0 := H4.hid q hqk
    refine Tr.iteE (W := fun b fs' σ5 => ∃ m, fs' = (ev, m) :: fs ∧ σ5 = σ4 ∧ b = false ∧ m (Str.ofString "self") = some (.ref x) ∧ m (Str.ofString "n2i") = some (.ref N) ∧ m (Str.ofString "nodeinfo") = some (.ref (ad q).1)) ?_ ?_ ?_
    · refine Tr.cmpT (W₁ := fun v fs' σ5 => ∃ m, v = .ref (ad q).1 ∧ fs' = (ev, m) :: fs ∧ σ5 = σ4 ∧ m (Str.ofString "self") = some (.ref x) ∧ m (Str.ofString "n2i") = some (.ref N) ∧ m (Str.ofString "nodeinfo") = some (.ref (ad q).1))
        (W₂ := fun v z fs' σ5 => ∃ m, z = .none ∧ v = .ref (ad q).1 ∧ fs' = (ev, m) :: fs ∧ σ5 = σ4 ∧ m (Str.ofString "self") = some (.ref x) ∧ m (Str.ofString "n2i") = some (.ref N) ∧ m (Str.ofString "nodeinfo") = some (.ref (ad q).1)) ?_ ?_ ?_
      · refine Tr.named (Pv.dictGet (Pv.loc (v := .ref N) ((set1_ne (by decide)).trans m3)) (Pv.locI (n := q) (t := tq) rfl) hN H4.nN) ?_
        first | refine puE ?_ | rintro _ _ σ4 ⟨rfl, rfl, rfl⟩
        rw [valueAt_ks (fun k => Value.ref (ad k).1), if_pos hqk]
        exact Tr.store ⟨_, rfl, rfl, rfl, (set1_ne (by decide)).trans ((set1_ne (by decide)).trans m1), (set1_ne (by decide)).trans ((set1_ne (by decide)).trans m3), rfl⟩
      · rintro _ _ _ ⟨m, rfl, rfl, rfl, m1, m2, m3⟩
        refine Pv.none.mono ?_
        first | refine puE ?_ | rintro _ _ _ ⟨rfl, rfl, rfl⟩
        exact ⟨m, rfl, rfl, rfl, rfl, m1, m2, m3⟩
      · rintro _ _ _ _ ⟨m, rfl, rfl, rfl, rfl, m1, m2, m3⟩
        intro s _ _ I' q'
        exact is_none (q' _ _ _ _ ⟨_, rfl, m, rfl, rfl, by simp, m1, m2, m3⟩ I')
    · rintro _ _ ⟨m, _, _, hb, _⟩; cases hb
    rintro _ σ4 ⟨m, rfl, rfl, _, m1, m3, m4⟩
    refine Tr.nil ?_
    show Tr _ _ _ _ _ _ _ _
    refine Tr.let (Pv.attr (P := (· = .int (st.1.np q) t0)) (Pv.loc (v := .ref (ad q).1) m4) (Tr.getNp G hi0 hh0)) ?_
    first | refine eqE ?_ | rintro _ rfl
    rw [hnp]
    refine Tr.ite (b := false) (Tv.ne (a := -1) (b := -1) (Pv.locI (n := -1) (t := t0) rfl) ((Pv.g G rfl).mono fun _ _ _ ⟨a, b, c⟩ => ⟨a, b, _, c⟩)) (fun hb => by cases hb) (fun _ => ?_)
    refine Tr.nil ?_
    show Tr _ _ _ _ _ _ _ _
    refine Tr.assignA (Pv.g G rfl) ?_
    first | refine puE ?_ | rintro _ _ _ ⟨rfl, rfl, rfl⟩
    refine (Pv.loc (v := .ref (ad q).1) ((set1_ne (by decide)).trans m4)).mono ?_
    first | refine puE ?_ | rintro _ _ σ4 ⟨rfl, rfl, rfl⟩
    obtain ⟨ws, hws, hwi⟩ := H4.suc q hqk
    have hsi : (ad q).2.2 ≠ (ad q).1 := ne_of_sto hws hi0 (by simp)
    refine Tr.sorNp G H4 hqk fun σ5 H5 hag5 => ?_
    have hws5 : σ5 (ad q).2.2 = some (.list ws) := (hag5 _ hsi).trans hws
    have hwl : ws.length = (st.1.sc q).length := hwi.length
    have hscq : (st.1.sc q).length ≤ 300 := by rw [esc]; exact hz2 q
    have hqk5 : q ∈ (st.1.setNp q (-2)).ks := hqk
    obtain ⟨t5, u5, hi5⟩ := H5.info q hqk5
    -- the successors
    refine Tr.forZ (W := fun v fs' σ6 => ∃ m, v = .ref (ad q).2.2 ∧ fs' = (ev, m) :: fs ∧ m (Str.ofString "self") = some (.ref x) ∧ m (Str.ofString "n2i") = some (.ref N) ∧ σ6 = σ5) ((Pv.attr (P := (· = .ref (ad q).2.2)) (Pv.loc (v := .ref (ad q).1) ((set1_ne (by decide)).trans m4)) (Tr.getSuc G hi5 (H5.hid q hqk5))).mono fun _ _ _ ⟨e1, e2, e3⟩ => ⟨_, e3, e1, (set1_ne (by decide)).trans m1, (set1_ne (by decide)).trans m3, e2⟩) ?_
    rintro _ _ σ5 ⟨m, rfl, rfl, m1, m3, rfl⟩
    refine ⟨ws.length, _, _, _, Sz.list O'.handled hws5, fun I2 hI2 => ?_⟩
    have hI2b : upd (upd (upd σb T (.tup vs)) R (.list rs1)) I (.rcd "tuple_iterator" #[.ref T, .int ((i + 1 : Nat) : Int) 0]) I2 = none := H5.sub.none hI2
    have hI2I : I ≠ I2 := by rintro rfl; rw [upd_self] at hI2b; cases hI2b
    have hI2R : R ≠ I2 := by rintro rfl; rw [upd_ne hIR, upd_self] at hI2b; cases hI2b
    have hsI2 : (ad q).2.2 ≠ I2 := by rintro e; rw [← e, hws5] at hI2; cases hI2
    refine ⟨fun j fs1 σ6 => ∃ m rs2, fs1 = (ev, m) :: fs ∧ m (Str.ofString "self") = some (.ref x) ∧ m (Str.ofString "n2i") = some (.ref N) ∧ IntsAre rs2 (((st.1.sc q).take j).foldl decS (st.1.setNp q (-2), st.2)).2 ∧ rs2.length ≤ 300 + 300 * i + j ∧ σ6 (ad q).2.2 = some (.list ws) ∧
      Sor (upd (upd (upd (upd σb T (.tup vs)) R (.list rs2)) I (.rcd "tuple_iterator" #[.ref T, .int ((i + 1 : Nat) : Int) 0])) I2 (.rcd "list_iterator" #[.ref (ad q).2.2, .int j 0])) σ6 x dx N ad (((st.1.sc q).take j).foldl decS (st.1.setNp q (-2), st.2)).1 (.ref R) po (fi + i), ?_, ?_, ?_, ?_⟩
    · exact ⟨m, rs1, rfl, m1, m3, hr1, by omega, (upd_ne hsI2).trans hws5, H5.new hI2⟩
    · rintro j _ σ6 ⟨m, rs2, rfl, _, _, _, _, hw6, H6⟩
      refine ⟨H6.sub.at (upd_self ..), by simpa using hw6⟩
    · rintro j u _ σ6 hlt2 hu2 ⟨m, rs2, rfl, m1, m3, hr2, hrl2, hw6, H6⟩
      obtain ⟨s, hsj, ts, rfl⟩ := ints_take hwi hu2
      obtain ⟨eks2, esc2⟩ := decF_ks ((st.1.sc q).take j) (st.1.setNp q (-2), st.2)
      have hnext2 := fold_take decS hsj (st.1.setNp q (-2), st.2)
      generalize ((st.1.sc q).take j).foldl decS (st.1.setNp q (-2), st.2) = st2 at eks2 esc2 hr2 H6 hnext2
      have hss : s ∈ st2.1.ks := by
        rw [eks2]; show s ∈ st.1.ks; rw [eks]
        exact hsc q hqS s (by rw [← esc]; exact List.mem_of_getElem? hsj)
      have H7 := H6.out (z := .rcd "list_iterator" #[.ref (ad q).2.2, .int ((j + 1 : Nat) : Int) 0]) (upd_self ..)
      rw [upd_upd] at H7
      have hw7 : upd σ6 I2 (.rcd "list_iterator" #[.ref (ad q).2.2, .int ((j + 1 : Nat) : Int) 0]) (ad q).2.2 = some (.list ws) := (upd_ne hsI2).trans hw6
      generalize upd σ6 I2 (.rcd "list_iterator" #[.ref (ad q).2.2, .int ((j + 1 : Nat) : Int) 0]) = σ7 at H7 hw7 ⊢
      refine Tr.assignName (Tr.store ?_)
      refine Tr.absV fun V2 hV2 => ?_
      obtain ⟨ep7, hN7⟩ := H7.hN
      refine Tr.let (Pv.ditem (v := .ref (ad s).1) (Pv.loc (v := .ref N) ((set1_ne (by decide)).trans m3)) (Pv.locI (n := s) (t := ts) rfl) hN7 (by rw [valueAt_ks (fun k => Value.ref (ad k).1), if_pos hss])) ?_
      first | refine eqE ?_ | rintro _ rfl
      obtain ⟨t7, u7, hi7⟩ := H7.info s hss
      refine Tr.augA (W := fun _ _ _ => True) ?_
      refine (Pv.loc (v := .ref (ad s).1) rfl).mono ?_
      first | refine puE ?_ | rintro _ _ _ ⟨rfl, rfl, rfl⟩
      refine (Tr.getNp G hi7 (H7.hid s hss)).mono ?_
      first | refine puE ?_ | rintro _ _ _ ⟨rfl, rfl, rfl⟩
      refine Pv.int.mono ?_
      first | refine puI fun t8 => ?_ | rintro _ _ _ ⟨rfl, rfl, t8, rfl⟩
      refine Tr.isub.mono ?_
      first | refine puI fun t9 => ?_ | rintro _ _ σ7 ⟨rfl, rfl, t9, rfl⟩
      refine Tr.sorNp G H7 hss fun σ8 H8 hag8 => ?_
      have hsi8 : (ad q).2.2 ≠ (ad s).1 := ne_of_sto hw7 hi7 (by simp)
      have hw8 : σ8 (ad q).2.2 = some (.list ws) := (hag8 _ hsi8).trans hw7
      obtain ⟨ta, ua, hia⟩ := H8.info s hss
      have e1 : (st2.1.setNp s (st2.1.np s - 1)).np s = st2.1.np s - 1 := by simp [Ab.setNp]
      rw [e1] at hia
      refine Tr.ite (Tv.eq (a := st2.1.np s - 1) (b := 0) (Pv.attr (P := IsI (st2.1.np s - 1)) (Pv.loc (v := .ref (ad s).1) rfl) ((Tr.getNp G hia (H8.hid s hss)).mono fun _ _ _ ⟨a, b, c⟩ => ⟨a, b, _, c⟩)) Pv.int) (fun hb => ?_) (fun hb => ?_)
      · have hb0 : st2.1.np s - 1 = 0 := by simpa using hb
        have hR8 : upd (upd (upd (upd σb T (.tup vs)) R (.list rs2)) I (.rcd "tuple_iterator" #[.ref T, .int ((i + 1 : Nat) : Int) 0])) I2 (.rcd "list_iterator" #[.ref (ad q).2.2, .int ((j + 1 : Nat) : Int) 0]) R = some (.list rs2) := by
          rw [upd_ne hI2R, upd_ne hIR, upd_self]
        have hRs : (ad q).2.2 ≠ R := Sor.out.ne_none2 hR8 (H8.o4 q (by show q ∈ st2.1.ks; rw [eks2]; exact hqk5)).2.2
        refine Tr.expr (Tr.append (V := fun _ fs' σ9 => ∃ v m, IsI s v ∧ fs' = (ev, m) :: fs ∧ m (Str.ofString "self") = some (.ref x) ∧ m (Str.ofString "n2i") = some (.ref N) ∧ σ9 = upd σ8 R (.list (rs2 ++ [v]))) (Pv.attr (P := (· = .ref R)) (Pv.loc (v := .ref x) ((set1_ne (by decide)).trans ((set1_ne (by decide)).trans m1))) (Tr.gR G H8 rfl)) (Pv.locI (n := s) (t := ts) rfl) (H8.sub.at hR8) (by rw [sizeLine_eq]; omega) fun v hv => ⟨v, _, hv, rfl, (set1_ne (by decide)).trans ((set1_ne (by decide)).trans m1), (set1_ne (by decide)).trans ((set1_ne (by decide)).trans m3), rfl⟩) ?_
        rintro _ _ _ ⟨v, m, ⟨tv, rfl⟩, rfl, m1, m3, rfl⟩
        refine Tr.nil ?_
        show Tr _ _ _ _ _ _ _ _
        have H9 := H8.out (z := .list (rs2 ++ [.int s tv])) hR8
        rw [upd_comm _ _ _ (Ne.symm hI2R), upd_comm (upd (upd σb T (.tup vs)) R (.list rs2)) _ _ (Ne.symm hIR), upd_upd] at H9
        have e2 : decS st2 s = (st2.1.setNp s (st2.1.np s - 1), st2.2 ++ [s]) := by unfold decS; rw [if_pos hb0]
        refine Tr.nil (hV2 _ _ _ ⟨m, rs2 ++ [.int s tv], rfl, m1, m3, ?_, by simp; omega, (upd_ne hRs).trans hw8, ?_⟩)
        · rw [hnext2, e2]; exact hr2.append (.cons _ _ .nil)
        · rw [hnext2, e2]; exact H9
      · have hb0 : ¬ st2.1.np s - 1 = 0 := by simpa using hb
        refine Tr.nil ?_
        show Tr _ _ _ _ _ _ _ _
        have e2 : decS st2 s = (st2.1.setNp s (st2.1.np s - 1), st2.2) := by unfold decS; rw [if_neg hb0]
        refine Tr.nil (hV2 _ _ _ ⟨_, rs2, rfl, (set1_ne (by decide)).trans ((set1_ne (by decide)).trans m1), (set1_ne (by decide)).trans ((set1_ne (by decide)).trans m3), ?_, by omega, hw8, ?_⟩)
        · rw [hnext2, e2]; exact hr2
        · rw [hnext2, e2]; exact H8
    · rintro _ σ6 ⟨m, rs2, rfl, m1, m3, hr2, hrl2, hw6, H6⟩
      refine Tr.nil ?_
      show Tr _ _ _ _ _ _ _ _
      have hI2c : upd (upd (upd σb T (.tup vs)) R (.list rs2)) I (.rcd "tuple_iterator" #[.ref T, .int ((i + 1 : Nat) : Int) 0]) I2 = none := by
        rw [upd_ne (Ne.symm hI2I), upd_ne (Ne.symm hI2R)] at hI2b ⊢; exact hI2b
      have H7 := H6.del hI2c
      rw [List.take_of_length_le (by omega)] at H7 hr2
      generalize del σ6 I2 = σ7 at H7 ⊢
      refine Tr.augA (W := fun _ _ _ => True) ?_
      refine (Pv.loc (v := .ref x) m1).mono ?_
      first | refine puE ?_ | rintro _ _ _ ⟨rfl, rfl, rfl⟩
      refine (Tr.gF G H7).mono ?_
      first | refine puI fun t8 => ?_ | rintro _ _ _ ⟨rfl, rfl, t8, rfl⟩
      refine Pv.int.mono ?_
      first | refine puI fun t9 => ?_ | rintro _ _ _ ⟨rfl, rfl, t9, rfl⟩
      refine Tr.iadd.mono ?_
      first | refine puI fun ta => ?_ | rintro _ _ σ7 ⟨rfl, rfl, ta, rfl⟩
      refine Tr.sF G H7 fun σ8 H8 => ?_
      refine Tr.nil (hVb _ _ _ ⟨m, rs2, rfl, m1, m3, ?_, by omega, ?_⟩)
      · rw [hnext]; exact hr2
      · rw [hnext]
        have e : fi + ((i + 1 : Nat) : Int) = fi + (i : Int) + 1 := by omega
        rw [e]; exact H8
  · rintro _ σ3 ⟨m, rs1, rfl, m1, m3, hr1, _, H3⟩
    refine Tr.nil ?_
    show Tr _ _ _ _ _ _ _ _
    refine Tr.nil (hV _ _ _ ⟨m, rfl, ?_⟩)
    have H4 := H3.del ((upd_ne (Ne.symm hIR)).trans hIb1)
    rw [List.take_of_length_le (by omega)] at H4 hr1
    rw [hlen] at H4
    refine h _ rs1 (H4.less ?_) hr1
    rw [upd_comm _ _ _ (Ne.symm hRT)]
    exact (Sub.refl _).upd ((upd_ne (Ne.symm hRT)).trans hTb)
end
end Mine
end
section
open PySem PySem.W PySem.Calls PyProof.Rows Builtin
namespace Mine
theorem lk_ga2 : typeLookup (.type "list_iterator") "__getattribute__" = Pure.pure (some (.builtin "object.__getattribute__")) := by rw [typeLookup_type, builtinLookup_eq_fast]; kernel_rfl
theorem lk_nx : typeLookup (.type "list_iterator") "__next__" = Pure.pure (some (.builtin "list_iterator.__next__")) := by rw [typeLookup_type, builtinLookup_eq_fast]; kernel_rfl
theorem ty_nx : typeOf (.builtin "list_iterator.__next__") = Pure.pure (.type "wrapper_descriptor") := by show builtinType _ = _; rw [builtinType_eq_fast]; kernel_rfl
theorem lk_wg : typeLookup (.type "wrapper_descriptor") "__get__" = Pure.pure (some (.builtin "wrapper_descriptor.__get__")) := by rw [typeLookup_type, builtinLookup_eq_fast]; kernel_rfl
theorem lk_ws : typeLookup (.type "wrapper_descriptor") "__set__" = Pure.pure none := by rw [typeLookup_type, builtinLookup_eq_fast]; kernel_rfl
theorem lk_wd : typeLookup (.type "wrapper_descriptor") "__delete__" = Pure.pure none := by rw [typeLookup_type, builtinLookup_eq_fast]; kernel_rfl
theorem slot_wg : Slot "wrapper_descriptor" "__get__" "wrapper_descriptor.__get__" :=
  .of (owner := "wrapper_descriptor") (n := "__get__") (by rw [typeLookup_type, builtinLookup_eq_fast]; kernel_rfl) (by decide +kernel) (by decide +kernel) (by decide +kernel)
    (by first | exact .inl (by decide +kernel) | exact .inr (by decide +kernel)) (by rw [isSubtype_type]; kernel_rfl)
theorem entry_wg : entryFor table "wrapper_descriptor.__get__" = some Builtin.«wrapper_descriptor.__get__» := entryFor_of_tree (by kernel_rfl)
theorem args_wg (a b c : Value) : argsOk "wrapper_descriptor.__get__" ⟨[a, b, c], []⟩ := by unfold argsOk; kernel_rfl
theorem slot_liga : Slot "list_iterator" "__getattribute__" "object.__getattribute__" :=
  .of (owner := "object") (n := "__getattribute__") (by rw [typeLookup_type, builtinLookup_eq_fast]; kernel_rfl) (by decide +kernel) (by decide +kernel) (by decide +kernel)
    (by first | exact .inl (by decide +kernel) | exact .inr (by decide +kernel)) (by rw [isSubtype_type]; kernel_rfl)
theorem owner_nx : (".".intercalate ("list_iterator.__next__".cutAt '.').dropLast) = "list_iterator" := by
  have e0 : "list_iterator.__next__".cutAt '.' = ["list_iterator", "__next__"] := by first | rfl | decide +kernel
  rw [e0]; decide +kernel
def mwO (it : Addr) : Obj := { cls := .type "method-wrapper", data := .fields #[.builtin "list_iterator.__next__", .ref it] }
theorem sub_li : isSubtype (.type "list_iterator") (.type "list_iterator") = Pure.pure true := by rw [isSubtype_type]; kernel_rfl
section
variable {prog : Program} {w : World} {A : Around} {E : Value → Shared → Prop} {h : Heap} {g : Array GenState} {d : Drawn} {t : Nat} {os : OsState} {a l : Addr} {i : Nat} {o : Obj}
theorem nx_get {R : Result → Shared → Prop} (hx : h.get? a = some o) (hc : o.cls = .type "list_iterator") (hq : R (.ok (.ret (.ref h.objs.size))) ⟨h.push (mwO a), g, d, t, os⟩) :
    codeAny (model prog w) A (.call (.builtin "wrapper_descriptor.__get__") ⟨[.builtin "list_iterator.__next__", .ref a, .type "list_iterator"], []⟩) R ⟨h, g, d, t, os⟩ := by
  have hT : (⟨h, g, d, t, os⟩ : Shared).TypeIs (.ref a) "list_iterator" := ⟨_, hx, hc⟩
  have hT5 : (⟨h, g, d, t, os⟩ : Shared).TypeIs (.builtin "list_iterator.__next__") "wrapper_descriptor" := ty_nx
  have f8 : isSubtype (.type "list_iterator") (.type (".".intercalate ("list_iterator.__next__".cutAt '.').dropLast)) = Pure.pure true := by rw [owner_nx]; exact sub_li
  refine codeAny_call_builtin slot_wg.plain entry_wg (slot_wg.check _ _ _ _ _ _ _ _ hT5 (args_wg _ _ _) ?_)
  repeat (any_goals (first | assumption | wp_step))
theorem nx_entry {tk : Tok} {Q : Fin → Shared → Prop} (hx : h.get? a = some o) (hc : o.cls = .type "list_iterator") (hd : o.dict = none) (hf : ∃ vs, o.data = .fields vs) (hq : Q (.done (.ret (.ref h.objs.size))) ⟨h.push (mwO a), g, d, t, os⟩) :
    wpAny (model prog w) A (Builtin.«object.__getattribute__» ⟨[.ref a, .str "__next__" tk], []⟩) Q E ⟨h, g, d, t, os⟩ := by
  have hT : (⟨h, g, d, t, os⟩ : Shared).TypeIs (.ref a) "list_iterator" := ⟨_, hx, hc⟩
  have f4 := lk_nx
  have f5 := ty_nx
  have f6 := lk_wg
  have f7 := lk_ws
  have f8 := lk_wd
  obtain ⟨oc, od, odt, osl⟩ := o
  obtain ⟨vs, rfl⟩ := hf
  dsimp only at hc hd
  subst hc hd
  repeat (any_goals (first | assumption | wp_step))
  refine nx_get hx rfl ?_
  exact wpAny_pure hq
theorem nx_call {tk : Tok} {R : Result → Shared → Prop} (hx : h.get? a = some o) (hc : o.cls = .type "list_iterator") (hd : o.dict = none) (hf : ∃ vs, o.data = .fields vs) (hq : R (.ok (.ret (.ref h.objs.size))) ⟨h.push (mwO a), g, d, t, os⟩) :
    codeAny (model prog w) A (.call (.builtin "object.__getattribute__") ⟨[.ref a, .str "__next__" tk], []⟩) R ⟨h, g, d, t, os⟩ :=
  codeAny_call_builtin slot_liga.plain F.entry_object_getattribute (slot_liga.check _ _ _ _ _ _ _ _ (show (⟨h, g, d, t, os⟩ : Shared).TypeIs (.ref a) "list_iterator" from ⟨_, hx, hc⟩) (F.args_object_getattribute_2 _ _) (nx_entry hx hc hd hf hq))
theorem nx_by {tk : Tok} {fill expr : Bool} {Q : Value → Shared → Prop} (hx : h.get? a = some o) (hc : o.cls = .type "list_iterator") (hd : o.dict = none) (hf : ∃ vs, o.data = .fields vs) (hq : Q (.ref h.objs.size) ⟨h.push (mwO a), g, d, t, os⟩) :
    wpAny (model prog w) A (getAttrBy (.ref a) (.str "__next__" tk) fill expr) Q E ⟨h, g, d, t, os⟩ := by
  have hT : (⟨h, g, d, t, os⟩ : Shared).TypeIs (.ref a) "list_iterator" := ⟨_, hx, hc⟩
  have f2 := slot_liga.lookup
  have f3 := slot_liga.bind (.ref a)
  have hx0 : (expr && onTheHeap (Value.builtin "object.__getattribute__")) = false := by cases expr <;> rfl
  repeat (any_goals (first | assumption | wp_step))
  refine nx_call hx hc hd hf ?_
  exact wpAny_pure hq
theorem nx_attr {expr : Bool} {Q : Value → Shared → Prop} (hx : h.get? a = some o) (hc : o.cls = .type "list_iterator") (hd : o.dict = none) (hf : ∃ vs, o.data = .fields vs) (hq : Q (.ref h.objs.size) ⟨h.push (mwO a), g, d, t + 1, os⟩) :
    wpAny (model prog w) A (getAttr (.ref a) "__next__" expr) Q E ⟨h, g, d, t, os⟩ := by
  unfold getAttr
  repeat (any_goals (first | assumption | with_reducible apply nx_by hx hc hd hf | wp_step))
theorem plain_nx : plainId "list_iterator.__next__" = true := by decide +kernel
theorem bound_nx (it : Addr) : checkBoundCall "list_iterator.__next__" ⟨[.ref it], []⟩ = Pure.pure () := by kernel_rfl
/-- a bound __next__ is called -/
theorem mw_call {R : Result → Shared → Prop} {s : Shared} {q it : Addr} (ho : s.heap.get? q = some (mwO it))
    (h : wpAny (model prog w) A.in1 (Builtin.«list_iterator.__next__» ⟨[.ref it], []⟩) (fun fin s' => match fin with | .done f => R (.ok f) s' | .again c' => c'.quiet = true ∧ codeAny (model prog w) A c' R s') (fun e s' => R (.error e) s') s) : codeAny (model prog w) A (.call (.ref q) ⟨[], []⟩) R s := by
  obtain ⟨hh, g, dr, t, os⟩ := s
  refine codeAny_of_tree ?_
  show wpAny _ _ (callAny (.ref q) _) _ _ _
  dsimp only at ho
  refine nd_load ho ?_
  show wpAny _ _ (checkBoundCall "list_iterator.__next__" ⟨[.ref it], []⟩ >>= fun _ => again (.builtin "list_iterator.__next__" ⟨[.ref it], []⟩)) _ _ _
  refine wpAny_bind (wpAny_of_eq (bound_nx it) (wpAny_pure ⟨plainId_quiet plain_nx _, codeAny_builtin entry_listiter_next ?_⟩))
  rw [Around.under_plainId plain_nx _]
  exact h
end
end Mine
end
section
open PySem PySem.W PySem.Calls PyProof.Rows Builtin
namespace Mine
section
variable {pr : Program} {w : World} {s₀ : Shared} {A : Around} {env : Env} {fs : Fs} {σ : Sto} {m mg mb : NsMap} {v : Value} {pos : Pos} {E : Value → Shared → Prop} {s : Shared} {V : Value → Fs → Sto → Prop} {it q l : Addr} {vs : List Value} {i : Nat} {C : Value → Prop} {L : Addr} {HX : Fs → Sto → Prop}

/-- an iterator over a list, as an object -/
def liO (l : Addr) (i : Nat) : Obj := { cls := .type "list_iterator", dict := none, data := .fields #[.ref l, .int i 0], slots := #[] }
theorem Tr.iterL (hs : σ l = some (.list vs)) (h : ∀ it, σ it = none → V (.ref it) fs (upd σ it (.obj (liO l 0)))) : Tr pr w s₀ A fs σ (pyIter (.ref l)) V := fun s _ _ I q => by
  refine wpAny_pyIter_list (I.isList hs) ?_
  obtain ⟨n, I'⟩ := I.push (x := .obj (liO l 0)) (o := { cls := .type "list_iterator", data := .fields #[.ref l, .int 0 0] }) rfl rfl s.toks
  exact q _ _ _ _ (h _ n) I'
theorem Tr.getNext {expr : Bool} (hit : σ it = some (.obj (liO l i))) (h : ∀ q, σ q = none → V (.ref q) fs (upd σ q (.obj (mwO it)))) : Tr pr w s₀ A fs σ (getAttr (.ref it) (Str.ofString "__next__") expr) V := fun s _ _ I q => by
  obtain ⟨o, ho, rfl⟩ := I.get hit
  obtain ⟨n, I'⟩ := I.push (x := .obj (mwO it)) (o := mwO it) rfl rfl (s.toks + 1)
  obtain ⟨hh, g, d, t, os⟩ := s
  exact nx_attr ho rfl rfl ⟨_, rfl⟩ (q _ _ _ _ (h _ n) I')
/-- a bound __next__ of a list's iterator -/
theorem TrE.nextMw (hh : A.handled = none) (hC0 : C .none) (hw : σ q = some (.obj (mwO it))) (hit : σ it = some (.obj (liO l i))) (hl : σ l = some (.list vs)) (hC : Catch C s₀ E "StopIteration" L HX)
    (hX : vs.length ≤ i → ∀ ea, del σ it ea = none → HX fs (upd (del σ it) ea (.exc "StopIteration" none .none))) :
    TrE pr w s₀ E A fs σ (call (.ref q) []) (fun v fs' σ' => fs' = fs ∧ vs[i]? = some v ∧ σ' = upd σ it (.obj (liO l (i + 1)))) := fun s Q I qq => by
  obtain ⟨ow, how, rfl⟩ := I.get hw
  obtain ⟨oi, hoi, rfl⟩ := I.get hit
  obtain ⟨ol, hol, _, nl, hdl⟩ := I.isList hl
  refine wpAny_call (mw_call how ?_)
  show wpAny _ _ (field (.ref it) 0 >>= _) _ _ s
  refine wpAny_bind (wpAny_field hoi rfl (x := .ref l) rfl ?_)
  show wpAny _ _ (if (Value.ref l == Value.none) = true then _ else _) _ _ s
  rw [if_neg (show ¬ ((Value.ref l == Value.none) = true) from Bool.false_ne_true)]
  show wpAny _ _ (field (.ref it) 1 >>= _) _ _ s
  refine wpAny_bind (wpAny_field hoi rfl (x := .int i 0) rfl ?_)
  show wpAny _ _ (seqItems? (.ref l) >>= _) _ _ s
  refine wpAny_bind (wpAny_seqItems hol hdl ?_)
  cases hx : vs[i]? with
  | some x =>
    simp only [Int.toNat_natCast, List.getElem?_toArray, hx]
    refine wpAny_bind (wpAny_setField hoi rfl (by simp) (wpAny_pure (qq _ _ _ _ ⟨rfl, hx, rfl⟩ ?_)))
    refine I.put hit (Heap.SameBut.update ..).extBut (Heap.get?_update_self _ hoi rfl) ?_ s.toks
    show _ = _
    simp [Obj.mapFields, liO, rawInt]
  | none =>
    simp only [Int.toNat_natCast, List.getElem?_toArray, hx]
    refine wpAny_bind (wpAny_rule (wpAny_bind (wpAny_setField hoi rfl (by simp) ?_)))
    show wpAny _ _ (newExc (.type "StopIteration") [] >>= _) _ _ _
    refine wpAny_bind ?_
    simp only [newExc, newTuple]
    refine wpAny_bind (wpAny_newObj_type ?_ (by size_fits))
    refine wpAny_bind (m := firstArgMember _ _) (wpAny_of_eq (a := Value.none) (by first | rfl | (simp only [firstArgMember]; rfl)) ?_)
    refine wpAny_newObj_type ?_ (by size_fits)
    simp only [raiseNew]
    refine wpAny_bind (wpAny_handled ?_)
    first | rw [show A.in1.handled = none from hh] | rw [hh]
    refine wpAny_bind (wpAny_pure (wpAny_throw ?_))
    have I1 := I.drop (h' := s.heap.update it (Obj.mapFields fun x => x.setIfInBounds 0 Value.none)) hit (Heap.SameBut.update ..).extBut s.toks
    have I2 := I1.grow (h' := (s.heap.update it (Obj.mapFields fun x => x.setIfInBounds 0 Value.none)).push { cls := Value.type "tuple", data := Data.seq #[] }) (fun b o hb => Heap.get?_push_of_some _ hb) s.toks
    obtain ⟨n, I3⟩ := I2.push (x := .exc "StopIteration" none .none) (o := { cls := Value.type "StopIteration", data := Data.fields (#[Value.ref (s.heap.update it (Obj.mapFields fun x => x.setIfInBounds 0 Value.none)).objs.size, Value.none, Value.none, Value.none, Value.bool false, Value.none] ++ ownMembersOf (Value.type "StopIteration") []) }) ⟨rfl, _, rfl, rfl, rfl⟩ rfl s.toks
    exact hC _ fs _ _ (hX (by simpa using hx) _ n) ⟨⟨.none, hC0⟩, .inl (upd_self ..)⟩ I3
end
end Mine
end
section
open PySem PySem.W PySem.Calls PyProof.Rows Builtin
namespace Mine
theorem isExc_Stop : isSubtype (.type "StopIteration") (.type "BaseException") = Pure.pure true := by rw [isSubtype_type]; kernel_rfl
theorem notTuple_Stop : isSubtype (.type ((Manifest.find? "StopIteration").elim "type" fun x => x.metatype)) (.type "tuple") = Pure.pure false := by
  rw [show ((Manifest.find? "StopIteration").elim "type" fun x => x.metatype) = "type" from by decide +kernel, isSubtype_type]; kernel_rfl
theorem self_Stop : isSubtype (.type "StopIteration") (.type "StopIteration") = Pure.pure true := by rw [isSubtype_type]; kernel_rfl
abbrev Clean (B : Sto) : Prop := ∀ b y, B b = some y → Pl y
theorem Clean.upd {B : Sto} {a : Addr} {x : AO} (h : Clean B) (hx : Pl x) : Clean (Mine.upd B a x) := fun b y e => by
  unfold Mine.upd at e; split at e
  · cases e; exact hx
  · exact h b y e
theorem Clean.del {B : Sto} {a : Addr} (h : Clean B) : Clean (Mine.del B a) := fun b y e => by
  unfold Mine.del at e; split at e
  · cases e
  · exact h b y e
theorem Sor.plain {B σ σ' : Sto} {x dx N : Addr} {ad : Ad} {S : Ab} {rd : Value} {po fi : Int} (h : Sor B σ x dx N ad S rd po fi) (hc : Clean B) (k : ∀ b y, (∀ fl', y ≠ .tbk fl') → (∀ Y t c, y ≠ .exc Y t c) → σ b = some y → σ' b = some y) : Sor B σ' x dx N ad S rd po fi := by
  obtain ⟨a1, a2, a3, a4, a5, a6, ⟨t, u, a7⟩, ⟨ep, a8⟩, a9, b1, b2, b3, b4, b5, b6⟩ := h
  exact ⟨fun b y e => k b y (hc b y e).1 (hc b y e).2 (a1 b y e), a2, a3, a4, a5, k _ _ (by simp) (by simp) a6, ⟨t, u, k _ _ (by simp) (by simp) a7⟩, ⟨ep, k _ _ (by simp) (by simp) a8⟩, a9, b1,
    fun j hj => let ⟨t, u, e⟩ := b2 j hj; ⟨t, u, k _ _ (by simp) (by simp) e⟩, fun j hj => k _ _ (by simp) (by simp) (b3 j hj), fun j hj => let ⟨vs, e, i⟩ := b4 j hj; ⟨vs, k _ _ (by simp) (by simp) e, i⟩, b5, b6⟩
/-- an outside object goes -/
theorem Sor.lose {B σ : Sto} {x dx N I : Addr} {ad : Ad} {S : Ab} {rd : Value} {po fi : Int} {z : AO} (h : Sor B σ x dx N ad S rd po fi) (hI : B I = some z) : Sor (Mine.del B I) (Mine.del σ I) x dx N ad S rd po fi := by
  have ne : ∀ c, B c = none → c ≠ I := by rintro c hc rfl; rw [hI] at hc; cases hc
  have dl : ∀ c y, c ≠ I → σ c = some y → Mine.del σ I c = some y := fun c y hc e => by unfold Mine.del; rw [if_neg hc]; exact e
  have db : ∀ c, B c = none → Mine.del B I c = none := fun c hc => by unfold Mine.del; rw [if_neg (ne c hc)]; exact hc
  obtain ⟨a1, a2, a3, a4, a5, a6, ⟨t, u, a7⟩, ⟨ep, a8⟩, a9, b1, b2, b3, b4, b5, b6⟩ := h
  refine ⟨fun b y e => ?_, db _ a2, db _ a3, db _ a4, fun k hk => ⟨db _ (a5 k hk).1, db _ (a5 k hk).2.1, db _ (a5 k hk).2.2⟩, dl _ _ (ne _ a2) a6, ⟨t, u, dl _ _ (ne _ a3) a7⟩, ⟨ep, dl _ _ (ne _ a4) a8⟩, a9, b1,
    fun k hk => let ⟨t, u, e⟩ := b2 k hk; ⟨t, u, dl _ _ (ne _ (a5 k hk).1) e⟩, fun k hk => dl _ _ (ne _ (a5 k hk).2.1) (b3 k hk), fun k hk => let ⟨vs, e, i⟩ := b4 k hk; ⟨vs, dl _ _ (ne _ (a5 k hk).2.2) e, i⟩, b5, b6⟩
  unfold Mine.del at e
  split at e
  · cases e
  · exact dl b y ‹_› (a1 b y e)

/-- a frame of the search: node, bound __next__, iterator, place -/
abbrev Fm := Int × Addr × Addr × Nat
structure FC (σb B : Sto) (ad : Ad) (S : Ab) (st its se nd : Addr) (ns nk : List Int) (qs : List Addr) (F : List Fm) (Sf : Int → Bool) (c : Nat) : Prop where
  sub : Sub σb B
  cl : Clean B
  hst : ∃ vs, B st = some (.list vs) ∧ IntsAre vs ns
  hits : B its = some (.list (qs.map Value.ref))
  hse : B se = some (.iset Sf c)
  hnd : ∃ kvs ep, B nd = some (.imap kvs ep) ∧ kvs.map (·.1) = nk
  fr : ∀ f ∈ F, f.1 ∈ S.ks ∧ Sf f.1 = true ∧ B f.2.1 = some (.obj (mwO f.2.2.1)) ∧ B f.2.2.1 = some (.obj (liO (ad f.1).2.2 f.2.2.2)) ∧ f.2.2.2 ≤ (S.sc f.1).length
  dis : (F.map (·.2.2.1)).Nodup
  o1 : σb st = none
  o2 : σb its = none
  o3 : σb se = none
  o4 : σb nd = none
  o5 : ∀ f ∈ F, σb f.2.2.1 = none
  ne : st ≠ its
section
variable {σb B : Sto} {ad : Ad} {S : Ab} {st its se nd a : Addr} {ns nk : List Int} {qs : List Addr} {F : List Fm} {Sf : Int → Bool} {c : Nat} {z : AO}
theorem FC.new (h : FC σb B ad S st its se nd ns nk qs F Sf c) (ha : B a = none) (hz : Pl z) : FC σb (upd B a z) ad S st its se nd ns nk qs F Sf c := by
  have k : ∀ b y, B b = some y → upd B a z b = some y := fun b y e => (upd_ne (by rintro rfl; rw [ha] at e; cases e)).trans e
  obtain ⟨vs, h1, h2⟩ := h.hst
  obtain ⟨kvs, ep, h3, h4⟩ := h.hnd
  exact { h with sub := fun b y e => k b y (h.sub b y e), cl := h.cl.upd hz, hst := ⟨vs, k _ _ h1, h2⟩, hits := k _ _ h.hits, hse := k _ _ h.hse, hnd := ⟨kvs, ep, k _ _ h3, h4⟩, fr := fun f hf => let ⟨a1, a2, a3, a4, a5⟩ := h.fr f hf; ⟨a1, a2, k _ _ a3, k _ _ a4, a5⟩ }
theorem FC.setSt {vs : List Value} {ns' : List Int} (h : FC σb B ad S st its se nd ns nk qs F Sf c) (hv : IntsAre vs ns') : FC σb (upd B st (.list vs)) ad S st its se nd ns' nk qs F Sf c := by
  obtain ⟨vs0, h1, h2⟩ := h.hst
  obtain ⟨kvs, ep, h3, h4⟩ := h.hnd
  have k : ∀ b y, (∀ l, y ≠ .list l) → B b = some y → upd B st (.list vs) b = some y := fun b y hy e => (upd_ne (by rintro rfl; rw [h1] at e; cases e; exact hy _ rfl)).trans e
  exact { h with sub := h.sub.upd h.o1, cl := h.cl.upd Pl.list, hst := ⟨vs, upd_self .., hv⟩, hits := (upd_ne (Ne.symm h.ne)).trans h.hits, hse := k _ _ (by simp) h.hse, hnd := ⟨kvs, ep, k _ _ (by simp) h3, h4⟩, fr := fun f hf => let ⟨a1, a2, a3, a4, a5⟩ := h.fr f hf; ⟨a1, a2, k _ _ (by simp) a3, k _ _ (by simp) a4, a5⟩ }
theorem FC.setIts {qs' : List Addr} (h : FC σb B ad S st its se nd ns nk qs F Sf c) : FC σb (upd B its (.list (qs'.map Value.ref))) ad S st its se nd ns nk qs' F Sf c := by
  obtain ⟨vs0, h1, h2⟩ := h.hst
  obtain ⟨kvs, ep, h3, h4⟩ := h.hnd
  have k : ∀ b y, (∀ l, y ≠ .list l) → B b = some y → upd B its (.list (qs'.map Value.ref)) b = some y := fun b y hy e => (upd_ne (by rintro rfl; rw [h.hits] at e; cases e; exact hy _ rfl)).trans e
  exact { h with sub := h.sub.upd h.o2, cl := h.cl.upd Pl.list, hst := ⟨vs0, (upd_ne h.ne).trans h1, h2⟩, hits := upd_self .., hse := k _ _ (by simp) h.hse, hnd := ⟨kvs, ep, k _ _ (by simp) h3, h4⟩, fr := fun f hf => let ⟨a1, a2, a3, a4, a5⟩ := h.fr f hf; ⟨a1, a2, k _ _ (by simp) a3, k _ _ (by simp) a4, a5⟩ }
theorem FC.setNd {kvs : List (Int × Value)} {ep : Nat} (h : FC σb B ad S st its se nd ns nk qs F Sf c) : FC σb (upd B nd (.imap kvs ep)) ad S st its se nd ns (kvs.map (·.1)) qs F Sf c := by
  obtain ⟨vs0, h1, h2⟩ := h.hst
  obtain ⟨kvs0, ep0, h3, h4⟩ := h.hnd
  have k : ∀ b y, (∀ l n, y ≠ .imap l n) → B b = some y → upd B nd (.imap kvs ep) b = some y := fun b y hy e => (upd_ne (by rintro rfl; rw [h3] at e; cases e; exact hy _ _ rfl)).trans e
  exact { h with sub := h.sub.upd h.o4, cl := h.cl.upd ⟨by simp, by simp⟩, hst := ⟨vs0, k _ _ (by simp) h1, h2⟩, hits := k _ _ (by simp) h.hits, hse := k _ _ (by simp) h.hse, hnd := ⟨kvs, ep, upd_self .., rfl⟩, fr := fun f hf => let ⟨a1, a2, a3, a4, a5⟩ := h.fr f hf; ⟨a1, a2, k _ _ (by simp) a3, k _ _ (by simp) a4, a5⟩ }
/-- a frame more -/
theorem FC.frame {k : Int} {q it : Addr} (h : FC σb B ad S st its se nd ns nk qs F Sf c) (hk : k ∈ S.ks) (hs : Sf k = true) (hit : B it = none) (hq : B q = none) (hne : it ≠ q) : FC σb (upd (upd B it (.obj (liO (ad k).2.2 0))) q (.obj (mwO it))) ad S st its se nd ns nk qs (F ++ [(k, q, it, 0)]) Sf c := by
  have h1 := (h.new (z := .obj (liO (ad k).2.2 0)) hit ⟨by simp, by simp⟩)
  have h2 := h1.new (a := q) (z := .obj (mwO it)) ((upd_ne (Ne.symm hne)).trans hq) ⟨by simp, by simp⟩
  refine { h2 with fr := fun f hf => ?_, dis := ?_, o5 := fun f hf => ?_ }
  · rcases List.mem_append.mp hf with hf | hf
    · exact h2.fr f hf
    · obtain rfl := List.mem_singleton.mp hf
      exact ⟨hk, hs, upd_self .., (upd_ne hne).trans (upd_self ..), Nat.zero_le _⟩
  · rw [List.map_append, List.nodup_append]
    refine ⟨h.dis, by simp, fun a ha b hb => ?_⟩
    obtain ⟨f, hf, rfl⟩ := List.mem_map.mp ha
    have hb' : b = it := by simpa using hb
    subst hb'
    obtain ⟨_, _, _, a4, _⟩ := h.fr f hf
    rintro e
    rw [e, hit] at a4; cases a4
  · rcases List.mem_append.mp hf with hf | hf
    · exact h2.o5 f hf
    · obtain rfl := List.mem_singleton.mp hf
      exact h.sub.none hit
theorem FC.setSe {Sf' : Int → Bool} {c' : Nat} (h : FC σb B ad S st its se nd ns nk qs F Sf c) (hm : ∀ k, Sf k = true → Sf' k = true) : FC σb (upd B se (.iset Sf' c')) ad S st its se nd ns nk qs F Sf' c' := by
  obtain ⟨vs0, h1, h2⟩ := h.hst
  obtain ⟨kvs, ep, h3, h4⟩ := h.hnd
  have k : ∀ b y, (∀ l n, y ≠ .iset l n) → B b = some y → upd B se (.iset Sf' c') b = some y := fun b y hy e => (upd_ne (by rintro rfl; rw [h.hse] at e; cases e; exact hy _ _ rfl)).trans e
  exact { h with sub := h.sub.upd h.o3, cl := h.cl.upd ⟨by simp, by simp⟩, hst := ⟨vs0, k _ _ (by simp) h1, h2⟩, hits := k _ _ (by simp) h.hits, hse := upd_self .., hnd := ⟨kvs, ep, k _ _ (by simp) h3, h4⟩, fr := fun f hf => let ⟨a1, a2, a3, a4, a5⟩ := h.fr f hf; ⟨a1, hm _ a2, k _ _ (by simp) a3, k _ _ (by simp) a4, a5⟩ }
/-- the next item of the frame on top -/
theorem FC.step {k : Int} {q it : Addr} {p : Nat} (h : FC σb B ad S st its se nd ns nk qs (F ++ [(k, q, it, p)]) Sf c) (hp : p < (S.sc k).length) : FC σb (upd B it (.obj (liO (ad k).2.2 (p + 1)))) ad S st its se nd ns nk qs (F ++ [(k, q, it, p + 1)]) Sf c := by
  obtain ⟨vs0, h1, h2⟩ := h.hst
  obtain ⟨kvs, ep, h3, h4⟩ := h.hnd
  obtain ⟨b1, b2, b3, b4, b5⟩ := h.fr (k, q, it, p) (by simp)
  have kk : ∀ b y, y ≠ .obj (liO (ad k).2.2 p) → B b = some y → upd B it (.obj (liO (ad k).2.2 (p + 1))) b = some y := fun b y hy e => (upd_ne (by rintro rfl; rw [b4] at e; cases e; exact hy rfl)).trans e
  have mw : ∀ a : Addr, AO.obj (mwO a) ≠ .obj (liO (ad k).2.2 p) := fun a e => by injection e with e; have := congrArg Obj.cls e; simp [mwO, liO] at this
  refine { h with sub := h.sub.upd (h.o5 (k, q, it, p) (by simp)), cl := h.cl.upd ⟨by simp, by simp⟩, hst := ⟨vs0, kk _ _ (by simp) h1, h2⟩, hits := kk _ _ (by simp) h.hits, hse := kk _ _ (by simp) h.hse, hnd := ⟨kvs, ep, kk _ _ (by simp) h3, h4⟩, fr := fun f hf => ?_, dis := by simpa using h.dis, o5 := fun f hf => ?_ }
  · rcases List.mem_append.mp hf with hf | hf
    · obtain ⟨a1, a2, a3, a4, a5⟩ := h.fr f (List.mem_append_left _ hf)
      refine ⟨a1, a2, kk _ _ (mw _) a3, (upd_ne ?_).trans a4, a5⟩
      have := h.dis
      rw [List.map_append, List.nodup_append] at this
      exact this.2.2 _ (List.mem_map.mpr ⟨f, hf, rfl⟩) it (by simp)
    · obtain rfl := List.mem_singleton.mp hf
      exact ⟨b1, b2, kk _ _ (mw _) b3, upd_self .., hp⟩
  · rcases List.mem_append.mp hf with hf | hf
    · exact h.o5 f (List.mem_append_left _ hf)
    · obtain rfl := List.mem_singleton.mp hf
      exact h.o5 (k, q, it, p) (by simp)
/-- the iterator on top is at its end -/
theorem FC.end_ {k : Int} {q it : Addr} {p : Nat} (h : FC σb B ad S st its se nd ns nk qs (F ++ [(k, q, it, p)]) Sf c) : FC σb (del B it) ad S st its se nd ns nk qs F Sf c := by
  obtain ⟨vs0, h1, h2⟩ := h.hst
  obtain ⟨kvs, ep, h3, h4⟩ := h.hnd
  obtain ⟨b1, b2, b3, b4, b5⟩ := h.fr (k, q, it, p) (by simp)
  have kk : ∀ b y, y ≠ .obj (liO (ad k).2.2 p) → B b = some y → del B it b = some y := fun b y hy e => by
    unfold del; rw [if_neg (by rintro rfl; rw [b4] at e; cases e; exact hy rfl)]; exact e
  have mw : ∀ a : Addr, AO.obj (mwO a) ≠ .obj (liO (ad k).2.2 p) := fun a e => by injection e with e; have := congrArg Obj.cls e; simp [mwO, liO] at this
  have hd := h.dis
  rw [List.map_append, List.nodup_append] at hd
  refine { h with sub := h.sub.del (h.o5 (k, q, it, p) (by simp)), cl := h.cl.del, hst := ⟨vs0, kk _ _ (by simp) h1, h2⟩, hits := kk _ _ (by simp) h.hits, hse := kk _ _ (by simp) h.hse, hnd := ⟨kvs, ep, kk _ _ (by simp) h3, h4⟩, fr := fun f hf => ?_, dis := hd.1, o5 := fun f hf => h.o5 f (List.mem_append_left _ hf) }
  obtain ⟨a1, a2, a3, a4, a5⟩ := h.fr f (List.mem_append_left _ hf)
  refine ⟨a1, a2, kk _ _ (mw _) a3, ?_, a5⟩
  unfold del
  rw [if_neg (hd.2.2 _ (List.mem_map.mpr ⟨f, hf, rfl⟩) it (by simp))]
  exact a4
end
end Mine
end
section
open PySem PySem.W PySem.Calls PyProof.Rows Builtin
namespace Mine
theorem FC.baseI {σb B : Sto} {ad : Ad} {S : Ab} {st its se nd I : Addr} {ns nk : List Int} {qs : List Addr} {F : List Fm} {Sf : Int → Bool} {c : Nat} {T T' : String} {zs zs' : Array Value} (h : FC (upd σb I (.rcd T zs)) B ad S st its se nd ns nk qs F Sf c) :
    FC (upd σb I (.rcd T' zs')) (upd B I (.rcd T' zs')) ad S st its se nd ns nk qs F Sf c := by
  have hI : B I = some (.rcd T zs) := h.sub I _ (upd_self ..)
  obtain ⟨vs0, h1, h2⟩ := h.hst
  obtain ⟨kvs, ep, h3, h4⟩ := h.hnd
  have k : ∀ b y, y ≠ .rcd T zs → B b = some y → upd B I (.rcd T' zs') b = some y := fun b y hy e => (upd_ne (by rintro rfl; rw [hI] at e; cases e; exact hy rfl)).trans e
  have o : ∀ b, upd σb I (.rcd T zs) b = none → upd σb I (.rcd T' zs') b = none := fun b hb => by
    have : b ≠ I := by rintro rfl; rw [upd_self] at hb; cases hb
    rw [upd_ne this] at hb ⊢; exact hb
  refine { h with sub := fun b y e => ?_, cl := h.cl.upd ⟨by simp, by simp⟩, hst := ⟨vs0, k _ _ (by simp) h1, h2⟩, hits := k _ _ (by simp) h.hits, hse := k _ _ (by simp) h.hse, hnd := ⟨kvs, ep, k _ _ (by simp) h3, h4⟩, fr := fun f hf => let ⟨a1, a2, a3, a4, a5⟩ := h.fr f hf; ⟨a1, a2, k _ _ (by simp) a3, k _ _ (by simp) a4, a5⟩, o1 := o _ h.o1, o2 := o _ h.o2, o3 := o _ h.o3, o4 := o _ h.o4, o5 := fun f hf => o _ (h.o5 f hf) }
  unfold upd at e ⊢
  split
  · rename_i hb; rw [if_pos hb] at e; exact e
  · rename_i hb; rw [if_neg hb] at e; exact h.sub b y ((upd_ne hb).trans e)
theorem unseen_lt {Sf : Int → Bool} {n : Int} : ∀ {ks : List Int}, n ∈ ks → Sf n = false → (ks.filter fun k => !(Sf k || decide (k = n))).length < (ks.filter fun k => !(Sf k)).length
  | a :: r, hn, hs => by
    have mono : ∀ l : List Int, (l.filter fun k => !(Sf k || decide (k = n))).length ≤ (l.filter fun k => !(Sf k)).length := by
      intro l
      induction l with
      | nil => exact Nat.le_refl _
      | cons b l ih =>
        rw [List.filter_cons, List.filter_cons]
        cases hb : Sf b with
        | true => simpa using ih
        | false =>
          by_cases e : b = n
          · simp [e]; simp at ih; omega
          · simp [e]; simpa using ih
    rw [List.filter_cons, List.filter_cons]
    by_cases e : a = n
    · subst e
      rw [hs]
      simp
      have := mono r
      simp at this
      omega
    · have hn' : n ∈ r := by rcases List.mem_cons.mp hn with h | h; exact absurd h.symm e; exact h
      have ih := unseen_lt hn' hs
      cases hb : Sf a with
      | true => simpa using ih
      | false => simp [e]; simpa using ih
section
variable {pr : Program} {w : World} {s₀ : Shared} {A : Around} {env : Env} {fs : Fs} {σ : Sto} {mg mb : NsMap} {v : Value} {pos : Pos} {E : Value → Shared → Prop} {s : Shared} {V : Value → Fs → Sto → Prop} {rest : List Stmt}
/-- T(), T a built-in type -/
theorem Tr.callT0 {fe : Expr} {T : String} (hf : Pv pr w s₀ A env fs σ fe (· = .type T)) (hc : Tr pr w s₀ A fs σ (call (.type T) []) V)
    (hev : eval (.Call fe [] [] pos) env = (do callWith pos (← eval fe env) [] (backTo pos (starEach [] env)) (backToKw pos (keywordEach [] env))) := by rfl) : Tr pr w s₀ A fs σ (eval (.Call fe [] [] pos) env) V := fun s Q E I q => by
  refine Call_ (hf s _ _ I fun g _ _ s₁ ⟨e1, e2, e3⟩ I₁ => ?_) hev
  subst e1 e2 e3
  exact callWith_of (P := fun _ => True) rfl (fun h _ => ⟨.machine, .inr (.inl rfl), Looks.of_pure rfl⟩) (evalArgs_nil3 ⟨trivial, hc s₁ _ _ I₁ q⟩)
/-- q(), q a bound __next__ -/
theorem TrE.callMw {fe : Expr} {W : Value → Fs → Sto → Prop} (hf : Tr pr w s₀ A fs σ (eval fe env) W) (hc : ∀ fv fs' σ', W fv fs' σ' → ∃ q it, fv = .ref q ∧ σ' q = some (.obj (mwO it)) ∧ TrE pr w s₀ E A fs' σ' (call (.ref q) []) V)
    (hev : eval (.Call fe [] [] pos) env = (do callWith pos (← eval fe env) [] (backTo pos (starEach [] env)) (backToKw pos (keywordEach [] env))) := by rfl) : TrE pr w s₀ E A fs σ (eval (.Call fe [] [] pos) env) V := fun s Q I qq => by
  refine Call_ (hf s _ _ I fun g fs1 σ1 s₁ hw I₁ => ?_) hev
  obtain ⟨q, it, rfl, hq, ht⟩ := hc g fs1 σ1 hw
  obtain ⟨o, ho, rfl⟩ := I₁.get hq
  exact callWith_of (P := fun h => h.get? q = some (mwO it)) rfl (fun h hh => ⟨.machine, .inr (.inl rfl), (Looks.ld (part := none) hh).andThen .now⟩) (evalArgs_nil3 ⟨ho, ht s₁ _ I₁ qq⟩)
/-- del o[i] -/
theorem Tr.delSub {o i : Expr} {p2 : Pos} {V : Flow → Fs → Sto → Prop} (h : Tr pr w s₀ A fs σ (eval o env) (fun ov fs1 σ1 => Tr pr w s₀ A fs1 σ1 (eval i env) (fun iv fs2 σ2 => Tr pr w s₀ A fs2 σ2 (delItem ov iv) (fun _ fs3 σ3 => Tr pr w s₀ A fs3 σ3 (execs rest env) V)))) : Tr pr w s₀ A fs σ (execs (.Delete [.Subscript o i p2] pos :: rest) env) V := fun s Q E I q => by
  refine wpAny_execs_cons (wpAny_Delete (wpAny_deleteEach_cons ?_))
  rw [arm_delete_Subscript]
  refine wpAny_bind (h s _ _ I fun ov fs1 σ1 s1 h1 I1 => wpAny_bind (wpAny_holding (h1 s1 _ _ I1 fun iv fs2 σ2 s2 h2 I2 => wpAny_bind (wpAny_standAt ?_))))
  first
    | exact wpAny_holding (h2 s2 _ _ I2 fun _ fs3 σ3 s3 h3 I3 => wpAny_deleteEach_nil (h3 s3 _ _ I3 q))
    | exact wpAny_bind (wpAny_holding (h2 s2 _ _ I2 fun _ fs3 σ3 s3 h3 I3 => wpAny_release' (wpAny_deleteEach_nil (h3 s3 _ _ I3 q))))
end
end Mine
end
section
open PySem PySem.W PySem.Calls PyProof.Rows Builtin
namespace Mine
section
variable {pr : Program} {w : World} {s₀ : Shared} {A : Around} {env : Env} {fs : Fs} {σ : Sto} {mg mb : NsMap} {v : Value} {pos : Pos} {E : Value → Shared → Prop} {s : Shared} {V : Value → Fs → Sto → Prop} {rest : List Stmt}
theorem kind_iter : builtinKind "iter" = none := by decide +kernel
theorem plain_iter : plainId "iter" = true := by decide +kernel
theorem entry_iter : entryFor table "iter" = some Builtin.«iter» := entryFor_of_tree (by kernel_rfl)
theorem args_iter (a : Value) : argsOk "iter" ⟨[a], []⟩ := by unfold argsOk; kernel_rfl
theorem Tr.iterCall {l : Addr} {vs : List Value} (hs : σ l = some (.list vs)) (h : ∀ it, σ it = none → V (.ref it) fs (upd σ it (.obj (liO l 0)))) : Tr pr w s₀ A fs σ (call (.builtin "iter") [.ref l]) V := fun s _ _ I q => by
  refine Calls.call_function_entry kind_iter plain_iter entry_iter (args_iter _) ?_
  unfold Builtin.«iter»
  refine wpAny_bind (wpAny_of_eq (a := [.ref l]) (by first | rfl | kernel_rfl) ?_)
  dsimp only
  exact wpAny_bind (Tr.iterL (pr := pr) (w := w) (V := V) hs h s _ _ I fun v fs' σ' s' hv I' => wpAny_pure ⟨_, rfl, q _ _ _ _ hv I'⟩)
theorem Pv.neg {e : Expr} {n : Int} (h : Pv pr w s₀ A env fs σ e (IsI n)) : Pv pr w s₀ A env fs σ (.UnaryOp .USub e pos) (IsI (-n)) := fun s _ _ I q => by
  refine wpAny_UnaryOp (h s _ _ I ?_)
  rintro _ _ _ s1 ⟨rfl, rfl, t, rfl⟩ I1
  exact PyProof.Rows.neg_int (q _ _ _ _ ⟨rfl, rfl, _, rfl⟩ (I1.tok _))
/-- l.append(e), e any expression -/
theorem Tr.appendE {o e : Expr} {apos : Pos} {a : Addr} {vs : List Value} {W : Value → Fs → Sto → Prop} (ho : Pv pr w s₀ A env fs σ o (· = .ref a)) (hs : σ a = some (.list vs)) (he : Tr pr w s₀ A fs σ (eval e env) W)
    (h : ∀ v fs' σ', W v fs' σ' → ∃ vs, σ' a = some (.list vs) ∧ vs.length ≤ sizeLine ∧ V .none fs' (upd σ' a (.list (vs ++ [v]))))
    (hbase : attributeBase o (Str.ofString "append") env (eval o env) = eval o env := by rfl) (hse : starEach [e] env = (false, eval e env) :: starEach [] env := by rfl)
    (hfew : ((backTo pos (starEach [e] env)).all (fun x => !x.1) && (backToKw pos (keywordEach [] env)).all (fun x => x.1.isSome) && decide ([e].length + ([] : List Keyword).length + (if ([] : List Keyword).isEmpty then 0 else 1) < 30)) = true := by rfl)
    (hline : (apos.endLine == pos.line) = true := by rfl) : Tr pr w s₀ A fs σ (eval (.Call (.Attribute o (Str.ofString "append") apos) [e] [] pos) env) V :=
  Tr.meth F.plainAttrs_list F.slot_list_append F.type_list_append ho (fun _ _ _ ⟨e1, e2, e3⟩ => by
    subst e1 e2 e3
    refine ⟨list_on hs, Tr.cwB (W := fun ws fs' σ' => ∃ v, ws = [v] ∧ W v fs' σ') (Tr.argsC he (fun v fs' σ' hv => Tr.args0 ⟨v, rfl, hv⟩) hse) ?_ hse⟩
    rintro _ fs' σ' ⟨v, rfl, hw⟩
    obtain ⟨us, h1, h2, h3⟩ := h v fs' σ' hw
    exact Tr.appendB h1 h2 h3) hbase hfew hline
end
end Mine
end
section
open PySem PySem.W PySem.Calls PyProof.Rows Builtin
namespace Mine
structure Nm (m : NsMap) (N st its se nd : Addr) : Prop where
  n2i : m (Str.ofString "n2i") = some (.ref N)
  st : m (Str.ofString "stack") = some (.ref st)
  its : m (Str.ofString "itstack") = some (.ref its)
  se : m (Str.ofString "seen") = some (.ref se)
  nd : m (Str.ofString "node2stacki") = some (.ref nd)
theorem Nm.node {m : NsMap} {N st its se nd : Addr} {v : Value} (h : Nm m N st its se nd) : Nm (set1 m (Str.ofString "node") v) N st its se nd :=
  ⟨(set1_ne (by decide)).trans h.n2i, (set1_ne (by decide)).trans h.st, (set1_ne (by decide)).trans h.its, (set1_ne (by decide)).trans h.se, (set1_ne (by decide)).trans h.nd⟩
def phi (S : Ab) (Sf : Int → Bool) (F : List Fm) : Nat := 400 * (S.ks.filter fun k => !(Sf k)).length + (F.map fun f => (S.sc f.1).length - f.2.2.2 + 1).sum
theorem valueAt_none {kvs : List (Int × Value)} {n : Int} (h : n ∉ kvs.map (·.1)) : valueAt kvs n = none := by
  unfold valueAt
  rw [Option.map_eq_none_iff, List.find?_eq_none]
  intro x hx e
  exact h (List.mem_map.mpr ⟨x, hx, of_decide_eq_true e⟩)
theorem valueAt_some {kvs : List (Int × Value)} {n : Int} (h : n ∈ kvs.map (·.1)) : (valueAt kvs n).isSome = true := by
  obtain ⟨x, hx, rfl⟩ := List.mem_map.mp h
  unfold valueAt
  rw [Option.isSome_map, List.find?_isSome]
  exact ⟨x, hx, by simp⟩
theorem stored_new {kvs : List (Int × Value)} {n : Int} {v : Value} (h : n ∉ kvs.map (·.1)) : stored kvs n v = kvs ++ [(n, v)] := by
  unfold stored
  rw [if_neg]
  simp only [List.any_eq_true, not_exists, not_and, decide_eq_true_eq]
  intro x hx e
  exact h (List.mem_map.mpr ⟨x, hx, e⟩)
theorem without_last {kvs : List (Int × Value)} {ns : List Int} {n : Int} (h : kvs.map (·.1) = ns ++ [n]) (hn : n ∉ ns) : (without kvs n).map (·.1) = ns := by
  have e : (without kvs n).map (·.1) = (kvs.map (·.1)).filter fun k => decide (k ≠ n) := by
    unfold without
    rw [List.filter_map]
    rfl
  rw [e, h, List.filter_append]
  have h1 : ns.filter (fun k => decide (k ≠ n)) = ns := List.filter_eq_self.mpr fun k hk => by
    simp; rintro rfl; exact hn hk
  rw [h1]
  simp
section
variable {pr : Program} {w : World} {s₀ : Shared} {A : Around} {fs : Fs} {σ σb : Sto} {mg mb : NsMap} {V : Value → Fs → Sto → Prop} {x dx N : Addr} {ad : Ad} {S : Ab} {rd : Value} {po fi : Int}
theorem FC.newBase {σb B : Sto} {ad : Ad} {S : Ab} {st its se nd I : Addr} {ns nk : List Int} {qs : List Addr} {F : List Fm} {Sf : Int → Bool} {c : Nat} {z : AO} (h : FC σb B ad S st its se nd ns nk qs F Sf c) (hI : B I = none) (hz : Pl z) : FC (upd σb I z) (upd B I z) ad S st its se nd ns nk qs F Sf c := by
  have h1 := h.new (a := I) hI hz
  have o : ∀ b y, B b = some y → σb b = none → upd σb I z b = none := fun b y e e2 => (upd_ne (by rintro rfl; rw [hI] at e; cases e)).trans e2
  obtain ⟨_, a1, _⟩ := h.hst
  obtain ⟨_, _, a2, _⟩ := h.hnd
  exact { h1 with sub := h.sub.both, o1 := o _ _ a1 h.o1, o2 := o _ _ h.hits h.o2, o3 := o _ _ h.hse h.o3, o4 := o _ _ a2 h.o4, o5 := fun f hf => o _ _ (h.fr f hf).2.2.2.1 (h.o5 f hf) }
theorem Tr.iteK {env : Env} {pos : Pos} {rest : List Stmt} {test : Expr} {body orelse : List Stmt} {b : Bool} {V : Flow → Fs → Sto → Prop} (K : Fs → Sto → Prop) (h : Tv pr w s₀ A env fs σ test b) (h1 : b = true → Tr pr w s₀ A fs σ (execs body env) (fun f fs' σ' => f = .next ∧ K fs' σ')) (h2 : b = false → Tr pr w s₀ A fs σ (execs orelse env) (fun f fs' σ' => f = .next ∧ K fs' σ')) (h3 : ∀ fs' σ', K fs' σ' → Tr pr w s₀ A fs' σ' (execs rest env) V) :
    Tr pr w s₀ A fs σ (execs (.If test body orelse pos :: rest) env) V :=
  Tr.ite h (fun hb => (h1 hb).mono fun f fs' σ' ⟨e, hk⟩ => by subst e; exact h3 fs' σ' hk) (fun hb => (h2 hb).mono fun f fs' σ' ⟨e, hk⟩ => by subst e; exact h3 fs' σ' hk)
theorem Sor.atN {B : Sto} {c : Addr} {y z z' : AO} (H : Sor B σ x dx N ad S rd po fi) (hc : B c = some y) (hN : σ N = some z) : upd σ c z' N = some z := (upd_ne (Sor.out.ne_none2 hc H.o3)).trans hN

set_option maxHeartbeats 16000000 in
theorem cycle_spec (G : Gd w s₀ mg mb) {k : Nat} (O : Ok A fs (k + 1)) (H : Sor σb σ x dx N ad S rd po fi) (hcl : Clean σb) (hup : ∀ k ∈ S.ks, ∀ s ∈ S.sc k, k < s ∧ s ∈ S.ks) (hz : S.ks.length ≤ 300) (hz2 : ∀ k, (S.sc k).length ≤ 300)
    (h : ∀ σ', Sor σb σ' x dx N ad S rd po fi → V .none fs σ') : Tr pr w s₀ A fs σ (call (.ref 155) [.ref x]) V := by
  refine Tr.fn (binds := [(Str.ofString "self", .ref x)]) G.B G.X rfl rfl O rfl rfl rfl rfl rfl ?_
  intro L σ' hS O' hC
  let ev : Env := O'.env
  refine Tr.weak ?_ hS
  refine Tr.absV fun Vf hV => ?_
  refine Tr.let (Pv.attr (P := (· = .ref N)) (Pv.loc (v := .ref x) rfl) (Tr.gN G H)) ?_
  first | refine eqE ?_ | rintro _ rfl
  refine Tr.assign (Tr.nilList (V := fun v fs' σ1 => ∃ a m, v = .ref a ∧ fs' = (ev, m) :: fs ∧ m = _ ∧ σ a = none ∧ σ1 = upd σ a (.list [])) fun a ha => ⟨a, _, rfl, rfl, rfl, ha, rfl⟩) ?_
  rintro _ _ _ ⟨st, _, rfl, rfl, rfl, hst, rfl⟩
  refine Tr.store ?_
  refine Tr.assign (Tr.nilList (V := fun v fs' σ1 => ∃ a m, v = .ref a ∧ fs' = (ev, m) :: fs ∧ m = _ ∧ upd σ st (.list []) a = none ∧ σ1 = upd (upd σ st (.list [])) a (.list [])) fun a ha => ⟨a, _, rfl, rfl, rfl, ha, rfl⟩) ?_
  rintro _ _ _ ⟨its, _, rfl, rfl, rfl, hits, rfl⟩
  refine Tr.store ?_
  refine Tr.assign (W := fun v fs' σ1 => ∃ a m, v = .ref a ∧ fs' = (ev, m) :: fs ∧ m = _ ∧ upd (upd σ st (.list [])) its (.list []) a = none ∧ σ1 = upd (upd (upd σ st (.list [])) its (.list [])) a (.iset (fun _ => false) 0)) (Tr.callT0 (Pv.b G rfl rfl) (Tr.setNew fun a ha => ⟨a, _, rfl, rfl, rfl, ha, rfl⟩)) ?_
  rintro _ _ _ ⟨se, _, rfl, rfl, rfl, hse, rfl⟩
  refine Tr.store ?_
  refine Tr.assign (W := fun v fs' σ1 => ∃ a m, v = .ref a ∧ fs' = (ev, m) :: fs ∧ m = _ ∧ (a == sysModules) = false ∧ upd (upd (upd σ st (.list [])) its (.list [])) se (.iset (fun _ => false) 0) a = none ∧ σ1 = upd (upd (upd (upd σ st (.list [])) its (.list [])) se (.iset (fun _ => false) 0)) a (.imap [] 0)) (Tr.dictNew G fun a ha hs => ⟨a, _, rfl, rfl, rfl, hs, ha, rfl⟩) ?_
  rintro _ _ _ ⟨nd, _, rfl, rfl, rfl, hsd, hnd, rfl⟩
  refine Tr.store ?_
  have H1 := H.new (z := .list []) hst
  have H2 := H1.new (z := .list []) hits
  have H3 := H2.new (z := .iset (fun _ => false) 0) hse
  have H4 := H3.new (z := .imap [] 0) hnd
  have b1 : σb st = none := H.sub.none hst
  have b2 : upd σb st (.list []) its = none := H1.sub.none hits
  have b3 : upd (upd σb st (.list [])) its (.list []) se = none := H2.sub.none hse
  have b4 : upd (upd (upd σb st (.list [])) its (.list [])) se (.iset (fun _ => false) 0) nd = none := H3.sub.none hnd
  have n1 : st ≠ its := by rintro rfl; rw [upd_self] at b2; cases b2
  have n2 : st ≠ se := by rintro rfl; rw [upd_ne n1, upd_self] at b3; cases b3
  have n3 : its ≠ se := by rintro rfl; rw [upd_self] at b3; cases b3
  have n4 : st ≠ nd := by rintro rfl; rw [upd_ne n2, upd_ne n1, upd_self] at b4; cases b4
  have n5 : its ≠ nd := by rintro rfl; rw [upd_ne n3, upd_self] at b4; cases b4
  have n6 : se ≠ nd := by rintro rfl; rw [upd_self] at b4; cases b4
  have c2 : σb its = none := by rw [upd_ne (Ne.symm n1)] at b2; exact b2
  have c3 : σb se = none := by rw [upd_ne (Ne.symm n3), upd_ne (Ne.symm n2)] at b3; exact b3
  have c4 : σb nd = none := by rw [upd_ne (Ne.symm n6), upd_ne (Ne.symm n5), upd_ne (Ne.symm n4)] at b4; exact b4
  have FC0 : FC σb (upd (upd (upd (upd σb st (.list [])) its (.list [])) se (.iset (fun _ => false) 0)) nd (.imap [] 0)) ad S st its se nd [] [] [] [] (fun _ => false) 0 := by
    refine ⟨((((Sub.refl σb).upd b1).upd c2).upd c3).upd c4, (((hcl.upd Pl.list).upd Pl.list).upd ⟨by simp, by simp⟩).upd ⟨by simp, by simp⟩, ⟨[], ?_, .nil⟩, ?_, ?_, ⟨[], 0, upd_self .., rfl⟩, (by intro f hf; cases hf), List.nodup_nil, b1, c2, c3, c4, (by intro f hf; cases hf), n1⟩
    · rw [upd_ne n4, upd_ne n2, upd_ne n1, upd_self]
    · rw [upd_ne n5, upd_ne n3, upd_self]; rfl
    · rw [upd_ne n6, upd_self]
  generalize upd (upd (upd (upd σb st (.list [])) its (.list [])) se (.iset (fun _ => false) 0)) nd (.imap [] 0) = B0 at H4 FC0
  generalize upd (upd (upd (upd σ st (.list [])) its (.list [])) se (.iset (fun _ => false) 0)) nd (.imap [] 0) = σ4 at H4 ⊢
  obtain ⟨ep, hN⟩ := H4.hN
  refine Tr.forZ (W := fun v fs' σ5 => ∃ m, v = .ref N ∧ fs' = (ev, m) :: fs ∧ Nm m N st its se nd ∧ σ5 = σ4) ((Pv.loc (v := .ref N) rfl).mono fun _ _ _ ⟨e1, e2, e3⟩ => ⟨_, e3, e1, ⟨rfl, rfl, rfl, rfl, rfl⟩, e2⟩) ?_
  rintro _ _ σ4 ⟨m, rfl, rfl, nm, rfl⟩
  refine ⟨_, _, _, _, Sz.keys O'.handled H4.nN hN, fun I hI => ?_⟩
  have hIB : B0 I = none := H4.sub.none hI
  have hIb : σb I = none := FC0.sub.none hIB
  have hNI : N ≠ I := by rintro rfl; rw [hN] at hI; cases hI
  generalize hkv : (S.ks.map fun k => (k, Value.ref (ad k).1)) = kvs at hN ⊢
  refine ⟨fun i fs1 σ1 => ∃ m B Sf c, fs1 = (ev, m) :: fs ∧ Nm m N st its se nd ∧ FC (upd σb I (.rcd "dict_keyiterator" #[.ref N, .int i 0, .int kvs.length 0, .int ep 0])) B ad S st its se nd [] [] [] [] Sf c ∧ Sor B σ1 x dx N ad S rd po fi ∧ σ1 N = some (.imap kvs ep) ∧ c + (S.ks.filter fun k => !(Sf k)).length ≤ S.ks.length, ?_, ?_, ?_, ?_⟩
  · exact ⟨m, _, _, 0, rfl, nm, FC0.newBase hIB ⟨by simp, by simp⟩, H4.new hI, (upd_ne hNI).trans hN, by simpa using List.length_filter_le _ _⟩
  · rintro i _ σ5 ⟨m, B, Sf, c, rfl, _, hF, H5, hN5, _⟩
    exact ⟨H5.sub.at (hF.sub.at (upd_self ..)), by simpa using hN5⟩
  · rintro i u _ σ5 hlt ⟨k0, u0, hk0, tk, rfl⟩ ⟨m, B, Sf, c, rfl, nm, hF, H5, hN5, hcU⟩
    have hkin : k0 ∈ S.ks := by
      rw [← hkv] at hk0
      have := List.mem_of_getElem? hk0
      obtain ⟨k1, h1, h2⟩ := List.mem_map.mp this
      injection h2 with h2 h3
      exact h2 ▸ h1
    have hIB5 := hF.sub.at (upd_self ..)
    have H6 := H5.out (z := .rcd "dict_keyiterator" #[.ref N, .int ((i + 1 : Nat) : Int) 0, .int kvs.length 0, .int ep 0]) hIB5
    have hF6 := hF.baseI (T' := "dict_keyiterator") (zs' := #[.ref N, .int ((i + 1 : Nat) : Int) 0, .int kvs.length 0, .int ep 0])
    have hN6 := H5.atN (z' := .rcd "dict_keyiterator" #[.ref N, .int ((i + 1 : Nat) : Int) 0, .int kvs.length 0, .int ep 0]) hIB5 hN5
    generalize upd σ5 I (.rcd "dict_keyiterator" #[.ref N, .int ((i + 1 : Nat) : Int) 0, .int kvs.length 0, .int ep 0]) = σ6 at H6 hN6 ⊢
    generalize upd B I (.rcd "dict_keyiterator" #[.ref N, .int ((i + 1 : Nat) : Int) 0, .int kvs.length 0, .int ep 0]) = B6 at H6 hF6
    refine Tr.assignName (Tr.store ?_)
    refine Tr.absV fun Vb hVb => ?_
    refine Tr.ite (Tv.cmp (P₁ := IsI k0) (P₂ := (· = .ref se)) (Pv.locI (n := k0) (t := tk) rfl) (Pv.loc (v := .ref se) nm.node.se) (fun _ _ hx hy => by subst hy; exact cmp_inSet (H6.sub.at hF6.hse) (by omega) hx)) (fun hb => Tr.cont (hVb _ _ _ ⟨_, B6, Sf, c, rfl, nm.node, hF6, H6, hN6, hcU⟩)) (fun hb => ?_)
    refine Tr.nil ?_
    show Tr _ _ _ _ _ _ _ _
    refine Tr.while (fun n fs1 σ1 => ∃ m B Sf c F v tv, fs1 = (ev, m) :: fs ∧ Nm m N st its se nd ∧ m (Str.ofString "node") = some (.int v tv) ∧ v ∈ S.ks ∧ (∀ f ∈ F, f.1 < v) ∧ (F.map (·.1)).Pairwise (· < ·) ∧
        FC (upd σb I (.rcd "dict_keyiterator" #[.ref N, .int ((i + 1 : Nat) : Int) 0, .int kvs.length 0, .int ep 0])) B ad S st its se nd (F.map (·.1)) (F.map (·.1)) (F.map (·.2.1)) F Sf c ∧ Sor B σ1 x dx N ad S rd po fi ∧ σ1 N = some (.imap kvs ep) ∧ c + (S.ks.filter fun k => !(Sf k)).length ≤ S.ks.length ∧ phi S Sf F = n) (phi S Sf [])
      ⟨_, B6, Sf, c, [], k0, tk, rfl, nm.node, rfl, hkin, (by intro f hf; cases hf), List.Pairwise.nil, hF6, H6, hN6, hcU, rfl⟩ ?_
    rintro n _ σ7 ⟨m, B, Sf, c, F, v, tv, rfl, nm, hm, hv, hlt, hinc, hF, H7, hN7, hcU, hphi⟩
    refine ⟨true, Tv.const, fun _ => ?_, fun hb => by cases hb⟩
    refine Tr.absV fun Vw hVw => ?_
    have hvn : v ∉ F.map (·.1) := fun hmem => by
      obtain ⟨f, hf, e⟩ := List.mem_map.mp hmem
      have := hlt f hf
      omega
    refine Tr.iteK (fun fs' σ8 => ∃ m B Sf c F, fs' = (ev, m) :: fs ∧ Nm m N st its se nd ∧ (F.map (·.1)).Pairwise (· < ·) ∧
        FC (upd σb I (.rcd "dict_keyiterator" #[.ref N, .int ((i + 1 : Nat) : Int) 0, .int kvs.length 0, .int ep 0])) B ad S st its se nd (F.map (·.1)) (F.map (·.1)) (F.map (·.2.1)) F Sf c ∧ Sor B σ8 x dx N ad S rd po fi ∧ σ8 N = some (.imap kvs ep) ∧ c + (S.ks.filter fun k => !(Sf k)).length ≤ S.ks.length ∧ phi S Sf F ≤ n)
      (Tv.cmp (P₁ := IsI v) (P₂ := (· = .ref se)) (Pv.locI (n := v) (t := tv) hm) (Pv.loc (v := .ref se) nm.se) (fun _ _ hx hy => by subst hy; exact cmp_inSet (H7.sub.at hF.hse) (by omega) hx)) (fun hb => ?_) (fun hb => ?_) ?_
    · -- seen before: not on the stack
      refine Tr.absV fun Vk hVk => ?_
      obtain ⟨kv, ep2, hnd7, hkeys⟩ := hF.hnd
      have hnone : valueAt kv v = none := valueAt_none (by rw [hkeys]; exact hvn)
      refine Tr.ite (b := false) (Tv.cmp (P₁ := IsI v) (P₂ := (· = .ref nd)) (Pv.locI (n := v) (t := tv) hm) (Pv.loc (v := .ref nd) nm.nd) (fun _ _ hx hy => by subst hy; have := cmp_inDict (pr := pr) (w := w) (s₀ := s₀) (A := A.deeper ev) (fs := (ev, m) :: fs) (H7.sub.at hnd7) hsd hx; rw [hnone] at this; exact this)) (fun hb => by cases hb) (fun _ => ?_)
      refine Tr.nil ?_
      show Tr _ _ _ _ _ _ _ _
      exact Tr.nil (hVk _ _ _ ⟨rfl, m, B, Sf, c, F, rfl, nm, hinc, hF, H7, hN7, hcU, by omega⟩)
    · refine Tr.absV fun Vk hVk => ?_
      have hUlt := unseen_lt (Sf := Sf) hv hb
      obtain ⟨vs0, hst7, hsti⟩ := hF.hst
      have hs0l : vs0.length = (F.map (·.1)).length := hsti.length
      have hFl : F.length ≤ 300 := by
        have hnd2 : (F.map (·.1)).Nodup := hinc.imp fun hh => by omega
        have := sub_len (F.map (·.1)) S.ks hnd2 (fun y hy => by obtain ⟨f, hf, rfl⟩ := List.mem_map.mp hy; exact (hF.fr f hf).1)
        rw [List.length_map] at this; omega
      rw [List.length_map] at hs0l
      refine Tr.expr (Tr.setAdd (V := fun _ fs' σ8 => fs' = (ev, m) :: fs ∧ σ8 = upd σ7 se (.iset (fun k => Sf k || decide (k = v)) (if Sf v then c else c + 1))) (Pv.loc (v := .ref se) nm.se) (Pv.locI (n := v) (t := tv) hm) (H7.sub.at hF.hse) (by omega) ⟨rfl, rfl⟩) ?_
      rintro _ _ _ ⟨rfl, rfl⟩
      rw [hb, if_neg (by decide)]
      have hF8 := hF.setSe (Sf' := fun k => Sf k || decide (k = v)) (c' := c + 1) (fun k hk => by rw [hk]; rfl)
      have H8 := H7.out (z := .iset (fun k => Sf k || decide (k = v)) (c + 1)) hF.hse
      have hN8 := H7.atN (z' := .iset (fun k => Sf k || decide (k = v)) (c + 1)) hF.hse hN7
      have hSv : (fun k => Sf k || decide (k = v)) v = true := by simp
      generalize upd σ7 se (.iset (fun k => Sf k || decide (k = v)) (c + 1)) = σ8 at H8 hN8 ⊢
      generalize upd B se (.iset (fun k => Sf k || decide (k = v)) (c + 1)) = B8 at H8 hF8
      obtain ⟨ti, ui, hi8⟩ := H8.info v hv
      obtain ⟨ws, hws, hwi⟩ := H8.suc v hv
      refine Tr.expr (Tr.appendE (V := fun _ fs' σ9 => ∃ q it, fs' = (ev, m) :: fs ∧ σ8 it = none ∧ upd σ8 it (.obj (liO (ad v).2.2 0)) q = none ∧ it ≠ q ∧ its ≠ it ∧ its ≠ q ∧ σ9 = upd (upd (upd σ8 it (.obj (liO (ad v).2.2 0))) q (.obj (mwO it))) its (.list ((F.map (·.2.1) ++ [q]).map Value.ref)))
        (W := fun v' fs' σ9 => ∃ q it, v' = .ref q ∧ fs' = (ev, m) :: fs ∧ σ8 it = none ∧ upd σ8 it (.obj (liO (ad v).2.2 0)) q = none ∧ it ≠ q ∧ σ9 = upd (upd σ8 it (.obj (liO (ad v).2.2 0))) q (.obj (mwO it))) (Pv.loc (v := .ref its) nm.its) (H8.sub.at hF8.hits) ?_ ?_) ?_
      · refine Tr.attr (W := fun v' fs' σ9 => ∃ it, v' = .ref it ∧ fs' = (ev, m) :: fs ∧ σ8 it = none ∧ σ9 = upd σ8 it (.obj (liO (ad v).2.2 0))) ?_ ?_
        · refine Tr.pcall1 (Pv.b G rfl rfl) (.inl ⟨_, rfl⟩) (Pv.attr (P := (· = .ref (ad v).2.2)) (Pv.ditem (v := .ref (ad v).1) (Pv.loc (v := .ref N) nm.n2i) (Pv.locI (n := v) (t := tv) hm) hN8 (by rw [← hkv, valueAt_ks (fun k => Value.ref (ad k).1), if_pos hv])) (Tr.getSuc G hi8 (H8.hid v hv))) ?_
          first | refine eqE ?_ | rintro _ rfl
          exact Tr.iterCall hws fun it hit => ⟨it, rfl, rfl, hit, rfl⟩
        · rintro _ _ _ ⟨it, rfl, rfl, hit, rfl⟩
          exact Tr.getNext (upd_self ..) fun q hq => ⟨q, it, rfl, rfl, hit, hq, (by rintro rfl; rw [upd_self] at hq; cases hq), rfl⟩
      · rintro _ _ _ ⟨q, it, rfl, rfl, hit, hq, hne, rfl⟩
        have h8i := H8.sub.at hF8.hits
        have e1 : its ≠ it := by rintro rfl; rw [hit] at h8i; cases h8i
        have e2 : its ≠ q := by rintro rfl; rw [upd_ne e1, h8i] at hq; cases hq
        refine ⟨_, (upd_ne e2).trans ((upd_ne e1).trans h8i), by simp [sizeLine_eq]; omega, q, it, rfl, hit, hq, hne, e1, e2, ?_⟩
        simp
      rintro _ _ _ ⟨q, it, rfl, hit, hq, hne, e1, e2, rfl⟩
      have hB8i : B8 it = none := H8.sub.none hit
      have hqn : σ8 q = none := by rw [upd_ne (Ne.symm hne)] at hq; exact hq
      have hB8q : B8 q = none := H8.sub.none hqn
      have H9 := (H8.new (z := .obj (liO (ad v).2.2 0)) hit).new (z := .obj (mwO it)) hq
      have hF9 := hF8.frame hv hSv hB8i hB8q hne
      have hN9 : upd (upd σ8 it (.obj (liO (ad v).2.2 0))) q (.obj (mwO it)) N = some (.imap kvs ep) := by
        rw [upd_ne (by rintro rfl; rw [hqn] at hN8; cases hN8), upd_ne (by rintro rfl; rw [hit] at hN8; cases hN8)]; exact hN8
      have H10 := H9.out (z := .list ((F.map (·.2.1) ++ [q]).map Value.ref)) hF9.hits
      have hN10 := H9.atN (z' := .list ((F.map (·.2.1) ++ [q]).map Value.ref)) hF9.hits hN9
      have hF10 := hF9.setIts (qs' := F.map (·.2.1) ++ [q])
      generalize upd (upd (upd σ8 it (.obj (liO (ad v).2.2 0))) q (.obj (mwO it))) its (.list ((F.map (·.2.1) ++ [q]).map Value.ref)) = σ10 at H10 hN10 ⊢
      generalize upd (upd (upd B8 it (.obj (liO (ad v).2.2 0))) q (.obj (mwO it))) its (.list ((F.map (·.2.1) ++ [q]).map Value.ref)) = B10 at H10 hF10
      obtain ⟨vs1, hst10, hsti1⟩ := hF10.hst
      obtain ⟨kv, ep2, hnd10, hkeys⟩ := hF10.hnd
      have hs1l : vs1.length = (F.map (·.1)).length := hsti1.length
      rw [List.length_map] at hs1l
      have hkl : kv.length = F.length := by have := congrArg List.length hkeys; simpa using this
      refine Tr.assignSub (Pv.len (Pv.b G rfl rfl) (Pv.loc (v := .ref st) nm.st) (H10.sub.at hst10) (by omega)) ?_
      first | refine puI fun tl => ?_ | rintro _ _ _ ⟨rfl, rfl, tl, rfl⟩
      refine (Pv.loc (v := .ref nd) nm.nd).mono ?_
      first | refine puE ?_ | rintro _ _ _ ⟨rfl, rfl, rfl⟩
      refine (Pv.loc (v := .int v tv) hm).mono ?_
      first | refine puE ?_ | rintro _ _ σ10 ⟨rfl, rfl, rfl⟩
      refine setDict (H10.sub.at hnd10) (by omega) fun ep' => ?_
      have est := stored_new (kvs := kv) (n := v) (v := .int (vs1.length : Int) tl) (by rw [hkeys]; exact hvn)
      rw [est]
      have H11 := H10.out (z := .imap (kv ++ [(v, .int (vs1.length : Int) tl)]) ep') hnd10
      have hN11 := H10.atN (z' := .imap (kv ++ [(v, .int (vs1.length : Int) tl)]) ep') hnd10 hN10
      have hF11 := hF10.setNd (kvs := kv ++ [(v, .int (vs1.length : Int) tl)]) (ep := ep')
      rw [List.map_append, hkeys] at hF11
      generalize upd σ10 nd (.imap (kv ++ [(v, .int (vs1.length : Int) tl)]) ep') = σ11 at H11 hN11 ⊢
      generalize upd B10 nd (.imap (kv ++ [(v, .int (vs1.length : Int) tl)]) ep') = B11 at H11 hF11
      obtain ⟨vs2, hst11, hsti2⟩ := hF11.hst
      have hs2l : vs2.length = (F.map (·.1)).length := hsti2.length
      rw [List.length_map] at hs2l
      refine Tr.expr (Tr.append (V := fun _ fs' σ12 => ∃ v', IsI v v' ∧ fs' = (ev, m) :: fs ∧ σ12 = upd σ11 st (.list (vs2 ++ [v']))) (Pv.loc (v := .ref st) nm.st) (Pv.locI (n := v) (t := tv) hm) (H11.sub.at hst11) (by rw [sizeLine_eq]; omega) fun v' hv' => ⟨v', hv', rfl, rfl⟩) ?_
      rintro _ _ _ ⟨v', ⟨tv2, rfl⟩, rfl, rfl⟩
      have H12 := H11.out (z := .list (vs2 ++ [.int v tv2])) hst11
      have hN12 := H11.atN (z' := .list (vs2 ++ [.int v tv2])) hst11 hN11
      have hF12 := hF11.setSt (vs := vs2 ++ [.int v tv2]) (ns' := F.map (·.1) ++ [v]) (hsti2.append (.cons _ _ .nil))
      refine Tr.nil (hVk _ _ _ ⟨rfl, m, _, (fun k => Sf k || decide (k = v)), c + 1, F ++ [(v, q, it, 0)], rfl, nm, ?_, ?_, H12, hN12, (by show c + 1 + (S.ks.filter fun k => !(Sf k || decide (k = v))).length ≤ _; omega), ?_⟩)
      · rw [List.map_append, List.pairwise_append]
        refine ⟨hinc, by simp, fun a ha b hb' => ?_⟩
        have hbv : b = v := by simpa using hb'
        obtain ⟨f, hf, rfl⟩ := List.mem_map.mp ha
        rw [hbv]; exact hlt f hf
      · simpa using hF12
      · have hscv := hz2 v
        unfold phi at hphi ⊢
        show 400 * (S.ks.filter fun k => !(Sf k || decide (k = v))).length + _ ≤ n
        rw [List.map_append, List.sum_append]
        simp only [List.map_cons, List.map_nil, List.sum_cons, List.sum_nil]
        omega
    · rintro _ σ8 ⟨m, B, Sf, c, F, rfl, nm, hinc, hF, H8, hN8, hcU, hph⟩
      refine Tr.while (fun n2 fs1 σ1 => ∃ m B F, fs1 = (ev, m) :: fs ∧ Nm m N st its se nd ∧ (F.map (·.1)).Pairwise (· < ·) ∧
        FC (upd σb I (.rcd "dict_keyiterator" #[.ref N, .int ((i + 1 : Nat) : Int) 0, .int kvs.length 0, .int ep 0])) B ad S st its se nd (F.map (·.1)) (F.map (·.1)) (F.map (·.2.1)) F Sf c ∧ Sor B σ1 x dx N ad S rd po fi ∧ σ1 N = some (.imap kvs ep) ∧ phi S Sf F = n2 ∧ n2 ≤ n) (phi S Sf F) ⟨m, B, F, rfl, nm, hinc, hF, H8, hN8, rfl, hph⟩ ?_
      rintro n2 _ σ9 ⟨m, B, F, rfl, nm, hinc, hF, H9, hN9, hphi2, hle⟩
      obtain ⟨vs, hst9, hsti⟩ := hF.hst
      have hvl : vs.length = (F.map (·.1)).length := hsti.length
      have hFl : F.length ≤ 300 := by
        have hnd2 : (F.map (·.1)).Nodup := hinc.imp fun hh => by omega
        have := sub_len (F.map (·.1)) S.ks hnd2 (fun y hy => by obtain ⟨f, hf, rfl⟩ := List.mem_map.mp hy; exact (hF.fr f hf).1)
        rw [List.length_map] at this; omega
      rw [List.length_map] at hvl
      refine ⟨_, Tv.val (Pv.loc (v := .ref st) nm.st) (fun v e => by subst e; exact truthyList (H9.sub.at hst9) (by omega)), fun hb => ?_, fun hb => ?_⟩
      · refine Tr.absV fun V2 hV2 => ?_
        have hne : F ≠ [] := by
          rintro rfl
          cases vs with
          | nil => cases hb
          | cons => simp at hvl
        obtain ⟨F0, ⟨k, q, it, p⟩, rfl⟩ : ∃ F0 f, F = F0 ++ [f] := ⟨F.dropLast, F.getLast hne, (List.dropLast_concat_getLast hne).symm⟩
        obtain ⟨hk, hsk, hq, hit, hp⟩ := hF.fr (k, q, it, p) (by simp)
        dsimp only at hk hsk hq hit hp
        have hF0l : F0.length ≤ 300 := by simp only [List.length_append, List.length_cons, List.length_nil] at hFl; omega
        obtain ⟨ws, hws, hwi⟩ := H9.suc k hk
        have hwl : ws.length = (S.sc k).length := hwi.length
        have hNit : N ≠ it := Sor.out.ne_none2 hit H9.o3
        refine Tr.tryExc (fun _ => True) (X := "StopIteration") (HX := fun fs' σ2 => ∃ m B, fs' = (ev, m) :: fs ∧ Nm m N st its se nd ∧ FC (upd σb I (.rcd "dict_keyiterator" #[.ref N, .int ((i + 1 : Nat) : Int) 0, .int kvs.length 0, .int ep 0])) B ad S st its se nd ((F0 ++ [(k, q, it, p)]).map (·.1)) ((F0 ++ [(k, q, it, p)]).map (·.1)) ((F0 ++ [(k, q, it, p)]).map (·.2.1)) F0 Sf c ∧ Sor B σ2 x dx N ad S rd po fi ∧ σ2 N = some (.imap kvs ep)) rfl (fun m => O'.frames) isExc_Stop notTuple_Stop self_Stop (fun _ _ _ => Pv.b G rfl rfl) ?_ ?_ ?_ ?_
        · rintro _ _ ⟨m, B, rfl, _⟩; exact ⟨m, rfl⟩
        · rintro _ _ _ ⟨m, B, rfl, nm, hF2, H2, hN2⟩ hkp
          exact ⟨m, B, rfl, nm, hF2, H2.plain hF2.cl hkp, hkp _ _ (by simp) (by simp) hN2⟩
        · intro E hP hPm hCt
          refine TrE.assign (TrE.callMw (W := fun fv fs' σ' => fv = .ref q ∧ fs' = (ev, m) :: fs ∧ σ' = σ9) (V := fun v fs' σ' => fs' = (ev, m) :: fs ∧ ws[p]? = some v ∧ σ' = upd σ9 it (.obj (liO (ad k).2.2 (p + 1)))) ?_ ?_) ?_
          · refine Tr.sub (W₂ := fun o iv fs' σ' => ∃ t, o = .ref its ∧ iv = .int (-1) t ∧ fs' = (ev, m) :: fs ∧ σ' = σ9) (Pv.loc (v := .ref its) nm.its) ?_ ?_
            · first | refine puE ?_ | rintro _ _ _ ⟨rfl, rfl, rfl⟩
              refine (Pv.neg Pv.int).mono ?_
              first | refine puI fun t => ?_ | rintro _ _ _ ⟨rfl, rfl, t, rfl⟩
              exact ⟨t, rfl, rfl, rfl, rfl⟩
            · rintro _ _ _ _ ⟨t, rfl, rfl, rfl, rfl⟩
              refine ⟨list_get_ok (H9.sub.at hF.hits), ⟨_, rfl⟩, (getListNeg (v := .ref q) (H9.sub.at hF.hits) (by simp) (by simp; omega)).mono ?_⟩
              first | refine puE ?_ | rintro _ _ _ ⟨rfl, rfl, rfl⟩
              exact ⟨rfl, rfl, rfl⟩
          · first | refine puE ?_ | rintro _ _ σ9 ⟨rfl, rfl, rfl⟩
            refine ⟨q, it, rfl, H9.sub.at hq, TrE.nextMw O'.handled trivial (H9.sub.at hq) (H9.sub.at hit) hws hCt fun hge ea hea => ?_⟩
            refine ⟨m, del B it, rfl, nm, hF.end_, (H9.lose hit).weakS ((Sub.refl _).upd hea), ?_⟩
            have hdN : del σ9 it N = some (.imap kvs ep) := by unfold del; rw [if_neg hNit]; exact hN9
            exact (upd_ne (by rintro rfl; rw [hdN] at hea; cases hea)).trans hdN
          · rintro v' _ _ ⟨rfl, hv', rfl⟩
            obtain ⟨s, hs, ts, rfl⟩ := ints_take hwi hv'
            have hplt : p < (S.sc k).length := (List.getElem?_eq_some_iff.mp hs).1
            obtain ⟨hks, hsks⟩ := hup k hk s (List.mem_of_getElem? hs)
            refine Tr.toE (Tr.store ?_)
            refine Tr.toE (Tr.brk (hV2 _ _ _ ?_))
            show Tr _ _ _ _ _ _ _ _
            have hinc' := hinc
            rw [List.map_append, List.pairwise_append] at hinc'
            refine Tr.nil (hVw _ _ _ ⟨phi S Sf (F0 ++ [(k, q, it, p + 1)]), ?_, _, _, Sf, c, F0 ++ [(k, q, it, p + 1)], s, ts, rfl, nm.node, rfl, hsks, ?_, by simpa using hinc, by simpa using hF.step hplt, H9.out hit, H9.atN hit hN9, hcU, rfl⟩)
            · unfold phi at hphi2 ⊢
              rw [List.map_append, List.sum_append] at hphi2 ⊢
              simp only [List.map_cons, List.map_nil, List.sum_cons, List.sum_nil] at hphi2 ⊢
              omega
            · intro f hf
              rcases List.mem_append.mp hf with hf | hf
              · have := hinc'.2.2 f.1 (List.mem_map.mpr ⟨f, hf, rfl⟩) k (by simp)
                omega
              · obtain rfl := List.mem_singleton.mp hf
                exact hks
        · rintro ea _ σ2 ⟨m, B, rfl, nm, hF2, H2, hN2⟩
          obtain ⟨vs2, hst2, hsti2⟩ := hF2.hst
          obtain ⟨kv, ep2, hnd2, hkeys⟩ := hF2.hnd
          have hvl2 : vs2.length = _ := hsti2.length
          rw [List.length_map] at hvl2
          simp only [List.length_append, List.length_cons, List.length_nil] at hvl2 hFl
          obtain ⟨tk2, hlast⟩ := ints_last hsti2 (by simp)
          have hlast' : vs2.getLast? = some (.int k tk2) := by rw [hlast]; simp
          have hkn : k ∉ F0.map (·.1) := fun hmem => by
            have hinc' := hinc
            rw [List.map_append, List.pairwise_append] at hinc'
            have := hinc'.2.2 k hmem k (by simp)
            omega
          have hkl : kv.length = F0.length + 1 := by have := congrArg List.length hkeys; simpa using this
          refine Tr.delSub ((Pv.loc (v := .ref nd) nm.nd).mono ?_)
          first | refine puE ?_ | rintro _ _ σ2 ⟨rfl, rfl, rfl⟩
          refine Tr.mono (Tr.pop (V := fun v fs' σ3 => v = .int k tk2 ∧ fs' = (ev, m) :: fs ∧ σ3 = upd σ2 st (.list vs2.dropLast)) (Pv.loc (v := .ref st) nm.st) (H2.sub.at hst2) hlast' (by rw [sizeLine_eq]; omega) ⟨rfl, rfl, rfl⟩) ?_
          first | refine puE ?_ | rintro _ _ _ ⟨rfl, rfl, rfl⟩
          have H3 := H2.out (z := .list vs2.dropLast) hst2
          have hN3 := H2.atN (z' := .list vs2.dropLast) hst2 hN2
          have hdl : IntsAre vs2.dropLast (F0.map (·.1)) := by have := ints_drop hsti2; simpa using this
          have hF3 := hF2.setSt (vs := vs2.dropLast) (ns' := F0.map (·.1)) hdl
          generalize upd σ2 st (.list vs2.dropLast) = σ3 at H3 hN3 ⊢
          generalize upd B st (.list vs2.dropLast) = B3 at H3 hF3
          obtain ⟨kv3, ep3, hnd3, hkeys3⟩ := hF3.hnd
          have hkl3 : kv3.length = F0.length + 1 := by have := congrArg List.length hkeys3; simpa using this
          refine delDict (H3.sub.at hnd3) (by omega) (valueAt_some (by rw [hkeys3]; simp)) fun ep' => ?_
          have H4 := H3.out (z := .imap (without kv3 k) ep') hnd3
          have hN4 := H3.atN (z' := .imap (without kv3 k) ep') hnd3 hN3
          have hF4 := hF3.setNd (kvs := without kv3 k) (ep := ep')
          rw [without_last (ns := F0.map (·.1)) (by rw [hkeys3]; simp) hkn] at hF4
          generalize upd σ3 nd (.imap (without kv3 k) ep') = σ4 at H4 hN4 ⊢
          generalize upd B3 nd (.imap (without kv3 k) ep') = B4 at H4 hF4
          refine Tr.expr (Tr.pop (V := fun _ fs' σ5 => fs' = (ev, m) :: fs ∧ σ5 = upd σ4 its (.list ((F0.map (·.2.1)).map Value.ref))) (v := .ref q) (Pv.loc (v := .ref its) nm.its) (H4.sub.at hF4.hits) (by simp) (by simp [sizeLine_eq]; omega) ⟨rfl, by simp⟩) ?_
          rintro _ _ _ ⟨rfl, rfl⟩
          have H5 := H4.out (z := .list ((F0.map (·.2.1)).map Value.ref)) hF4.hits
          have hN5 := H4.atN (z' := .list ((F0.map (·.2.1)).map Value.ref)) hF4.hits hN4
          have hF5 := hF4.setIts (qs' := F0.map (·.2.1))
          have hinc' := hinc
          rw [List.map_append, List.pairwise_append] at hinc'
          refine Tr.nil ?_
          show Tr _ _ _ _ _ _ _ _
          have hlt3 : phi S Sf F0 < n2 := by
            unfold phi at hphi2 ⊢
            rw [List.map_append, List.sum_append] at hphi2
            simp only [List.map_cons, List.map_nil, List.sum_cons, List.sum_nil] at hphi2
            omega
          exact Tr.nil (hV2 _ _ _ ⟨phi S Sf F0, hlt3, m, _, F0, rfl, nm, hinc'.1, hF5, H5, hN5, rfl, by omega⟩)
      · refine Tr.brk (hVw _ _ _ ?_)
        have hF0 : F = [] := by
          cases vs with
          | nil => exact List.length_eq_zero_iff.mp (by simpa using hvl.symm)
          | cons => cases hb
        subst hF0
        show Tr _ _ _ _ _ _ _ _
        exact Tr.nil (hVb _ _ _ ⟨m, B, Sf, c, rfl, nm, hF, H9, hN9, hcU⟩)
  · rintro _ σ5 ⟨m, B, Sf, c, rfl, nm5, hF, H5, hN5, _⟩
    refine Tr.nil ?_
    show Tr _ _ _ _ _ _ _ _
    refine Tr.ret Pv.none ?_
    first | refine puE ?_ | rintro _ _ _ ⟨rfl, rfl, rfl⟩
    exact hV _ _ _ ⟨m, rfl, h _ ((H5.less hF.sub).del hIb)⟩
end
end Mine
end
section
open PySem PySem.W PySem.Calls PyProof.Rows Builtin
namespace Mine
section
variable {pr : Program} {w : World} {s₀ : Shared} {A : Around} {env : Env} {fs : Fs} {σ σb : Sto} {mg mb : NsMap} {v : Value} {pos : Pos} {V : Value → Fs → Sto → Prop} {d : Addr} {kvs : List (Int × Value)} {ep : Nat}
def viewO (d : Addr) : Obj := { cls := .type "dict_values", data := .fields #[.ref d] }
theorem Tr.values {o : Expr} {apos : Pos} (ho : Pv pr w s₀ A env fs σ o (· = .ref d)) (hs : σ d = some (.imap kvs ep)) (hd : (d == sysModules) = false) (h : ∀ a, σ a = none → V (.ref a) fs (upd σ a (.obj (viewO d))))
    (hbase : attributeBase o (Str.ofString "values") env (eval o env) = eval o env := by rfl) (hline : (apos.endLine == pos.line) = true := by rfl) : Tr pr w s₀ A fs σ (eval (.Call (.Attribute o (Str.ofString "values") apos) [] [] pos) env) V :=
  Tr.meth F.plainAttrs_dict F.slot_dict_values F.type_dict_values ho (fun _ _ _ ⟨e1, e2, e3⟩ => by
    subst e1 e2 e3
    refine ⟨dict_on hs, Tr.cwB0 fun s _ _ I q => ?_⟩
    obtain ⟨n, I'⟩ := I.push (x := .obj (viewO d)) (o := viewO d) rfl rfl s.toks
    exact call_meetsIn F.slot_dict_values (I.imapOf (pr := pr) (w := w) hs).typeIs F.entry_dict_values (F.args_dict_values_1 _) (meets_dict_values (intKind pr w) d hd) ⟨⟨_, I.imapOf hs⟩, q _ _ _ _ (h _ n) I'⟩) hbase rfl hline
theorem Src.values (hh : A.handled = none) {a : Addr} (ha : σ a = some (.obj (viewO d))) (hs : σ d = some (.imap kvs ep)) : Src pr w s₀ A fs σ (.ref a) kvs.length (fun i v => ∃ k, kvs[i]? = some (k, v)) := fun s _ _ Iv q => by
  obtain ⟨o, ho, rfl⟩ := Iv.get ha
  refine wpAny_pyIter_values (knd := intKind pr w) ⟨_, ho, rfl, rfl⟩ (Iv.imap hs) ?_
  obtain ⟨n, I'⟩ := Iv.push (x := .rcd "dict_valueiterator" #[.ref d, .int 0 0, .int kvs.length 0, .int ep 0]) (o := { cls := .type "dict_valueiterator", data := .fields #[.ref d, .int 0 0, .int kvs.length 0, .int ep 0] }) ⟨rfl, rfl⟩ rfl s.toks
  have hne : d ≠ s.heap.objs.size := by rintro rfl; rw [n] at hs; cases hs
  refine q _ _ _ _ ⟨rfl, s.heap.objs.size, [s.heap.objs.size, d], fun i σ => σ s.heap.objs.size = some (.rcd "dict_valueiterator" #[.ref d, .int i 0, .int kvs.length 0, .int ep 0]) ∧ σ d = some (.imap kvs ep), rfl, n, ?_, ⟨upd_self .., (upd_ne hne).trans hs⟩, fun b hb => upd_ne hb, fun b hb => ?_⟩ I'
  · refine ⟨.head _, fun i σ σ' ⟨a, b⟩ h => ⟨(h _ (.head _)).trans a, (h d (.tail _ (.head _))).trans b⟩, fun i fs σ hi ⟨a, b⟩ s _ _ Iv q => ?_, fun fs σ ⟨a, b⟩ s _ _ Iv q => ?_, fun i fs σ ⟨a, b⟩ s _ _ Iv q => ?_⟩
    · obtain ⟨o, g1, g2, g3⟩ := Iv.rcd a
      have hk : kvs[i]? = some (kvs[i].1, kvs[i].2) := by rw [List.getElem?_eq_getElem hi]
      refine wpAny_pyNext_values_item ⟨o, g1, g2, g3⟩ (Iv.imap (pr := pr) (w := w) b) hk fun h' ⟨o', g1', g2', g3'⟩ sb => q _ _ _ _ ⟨_, rfl, ⟨_, hk⟩, rfl, ⟨upd_self .., (upd_ne hne).trans b⟩, fun b hb => upd_ne hb⟩ (Iv.put (x' := .rcd "dict_valueiterator" #[.ref d, .int (i + 1 : Nat) 0, .int kvs.length 0, .int ep 0]) a sb.extBut g1' ⟨g2', g3'⟩ _)
    · obtain ⟨o, g1, g2, g3⟩ := Iv.rcd a
      exact wpAny_pyNext_values_end hh ⟨o, g1, g2, g3⟩ (Iv.imap (pr := pr) (w := w) b) (List.getElem?_eq_none (Nat.le_refl _)) fun h' e => q _ _ (del σ _) _ ⟨rfl, rfl, fun b hb => by simp [del, hb]⟩ (Iv.drop a e _)
    · obtain ⟨o, g1, g2, g3⟩ := Iv.rcd a
      exact wpAny_pyIter_valiter ⟨o, g1, g2, g3⟩ (q _ _ _ _ ⟨rfl, rfl, rfl⟩ Iv)
  · rcases List.mem_cons.mp hb with rfl | hb
    · rw [upd_self]; simp
    · obtain rfl := List.mem_singleton.mp hb
      rw [upd_ne hne, hs]; simp
end
end Mine
end
section
open PySem PySem.W PySem.Calls PyProof.Rows Builtin
namespace Mine
section
variable {pr : Program} {w : World} {s₀ : Shared} {A : Around} {fs : Fs} {σ σb : Sto} {mg mb : NsMap} {V : Value → Fs → Sto → Prop} {x dx N : Addr} {ad : Ad} {S : Ab} {rd : Value} {po fi : Int}
theorem mth_cyc (w : World) : Mth (hd.heap_1 w.params) 165 (Str.ofString "_find_cycle") 155 := ⟨ga165 w, gn165 w, by first | rfl | kernel_rfl, by first | rfl | kernel_rfl, ⟨_, _, _, _, rfl⟩, by first | rfl | kernel_rfl, by first | rfl | kernel_rfl, cl165 w, by decide⟩
def readyF (S : Ab) : List Int := S.ks.filter fun k => S.np k == 0
set_option maxHeartbeats 4000000 in
theorem prepare_spec (G : Gd w s₀ mg mb) {k : Nat} (O : Ok A fs (k + 2)) (H : Sor σb σ x dx N ad S .none po fi) (hcl : Clean σb) (hup : ∀ k ∈ S.ks, ∀ s ∈ S.sc k, k < s ∧ s ∈ S.ks) (hz : S.ks.length ≤ 300) (hz2 : ∀ k, (S.sc k).length ≤ 300)
    (h : ∀ R rs σ', σb R = none → IntsAre rs (readyF S) → Sor (upd σb R (.list rs)) σ' x dx N ad S (.ref R) po fi → V .none fs σ') : Tr pr w s₀ A fs σ (call (.ref 120) [.ref x]) V := by
  refine Tr.fn (binds := [(Str.ofString "self", .ref x)]) G.B G.X rfl rfl O rfl rfl rfl rfl rfl ?_
  intro L σ' hS O' hC
  let ev : Env := O'.env
  refine Tr.weak ?_ hS
  refine Tr.ite (Tv.isNotNone (v := .none) (Pv.attr (Pv.loc (v := .ref x) rfl) (Tr.gR G H rfl)) Pv.none) (fun hb => absurd hb (by decide)) (fun _ => ?_)
  refine Tr.nil ?_
  show Tr _ _ _ _ _ _ _ _
  obtain ⟨ep, hN⟩ := H.hN
  refine Tr.assignA (W := fun v fs' σ1 => ∃ R rs m, v = .ref R ∧ fs' = (ev, m) :: fs ∧ m (Str.ofString "self") = some (.ref x) ∧ σ R = none ∧ IntsAre rs (readyF S) ∧ Sub (upd σ R (.list rs)) σ1) (Tr.comp (W := fun v fs' σ1 => ∃ a m, v = .ref a ∧ fs' = (ev, m) :: fs ∧ m (Str.ofString "self") = some (.ref x) ∧ σ a = none ∧ σ1 = upd σ a (.obj (viewO N))) ?_ ?_) ?_
  · exact Tr.values (Pv.attr (P := (· = .ref N)) (Pv.loc (v := .ref x) rfl) (Tr.gN G H)) hN H.nN fun a ha => ⟨a, _, rfl, rfl, rfl, ha, rfl⟩
  · rintro _ _ _ ⟨a, m, rfl, rfl, m1, ha, rfl⟩
    have hNa : N ≠ a := by rintro rfl; rw [hN] at ha; cases ha
    have H1 := H.weakS ((Sub.refl σ).upd (x := .obj (viewO N)) ha)
    refine ⟨_, _, fun j ys => IntsAre ys ((S.ks.take j).filter fun k => S.np k == 0), Src.values O'.handled (upd_self ..) ((upd_ne hNa).trans hN), by simp; omega, .nil, ?_, ?_⟩
    · intro C σ1 j u ys mm hsub hC1 hP hjn hR hmm
      obtain ⟨k1, hk1⟩ := hP
      rw [List.getElem?_map] at hk1
      obtain ⟨k2, hk2, e⟩ := Option.map_eq_some_iff.mp hk1
      injection e with e1 e2
      subst e1 e2
      have hin : k2 ∈ S.ks := List.mem_of_getElem? hk2
      have H2 := H1.weakS hsub
      obtain ⟨t, u, hi⟩ := H2.info k2 hin
      have e := filter_snoc2 (fun k => S.np k == 0) (S.ks.take j) k2
      rw [← take_snoc hk2] at e
      refine ⟨S.np k2 == 0, Ts.one (Tv.eq (a := S.np k2) (b := 0) (Pv.attr (P := IsI (S.np k2)) (Pv.ns (v := .ref (ad k2).1) hC1 hmm) ((Tr.getNp G hi (H2.hid k2 hin)).mono fun _ _ _ ⟨a, b, c⟩ => ⟨a, b, _, c⟩)) Pv.int), fun hb => ?_, fun hb => ?_⟩
      · show IntsAre _ _
        rw [e, hb]; simpa using hR
      · refine (Pv.attr (P := (· = .int k2 u)) (Pv.ns (v := .ref (ad k2).1) hC1 hmm) (Tr.getNode G hi (H2.hid k2 hin))).mono ?_
        first | refine puE ?_ | rintro _ _ _ ⟨rfl, rfl, rfl⟩
        refine ⟨rfl, rfl, ?_⟩
        show IntsAre _ _
        rw [e, hb]
        exact hR.append (.cons _ _ .nil)
    · intro R ys hR hRR
      rw [List.length_map, List.take_length] at hRR
      refine ⟨R, ys, m, rfl, rfl, m1, ((Sub.refl σ).upd ha).none hR, hRR, Sub.both ((Sub.refl σ).upd ha)⟩
  rintro _ _ σ1 ⟨R, rs, m, rfl, rfl, m1, hR, hrs, hsub⟩
  have hRb : σb R = none := H.sub.none hR
  have H1 := (H.new (z := .list rs) hR).weakS hsub
  refine (Pv.loc (v := .ref x) m1).mono ?_
  first | refine puE ?_ | rintro _ _ σ1 ⟨rfl, rfl, rfl⟩
  refine Tr.sR (rd' := .ref R) G H1 fun σ2 H2 => ?_
  obtain ⟨t2, u2, hdx2⟩ := H2.hdx
  refine Tr.assign (W := fun v fs' σ3 => v = .none ∧ fs' = (ev, m) :: fs ∧ Sor (upd σb R (.list rs)) σ3 x dx N ad S (.ref R) po fi) (Tr.methI0 (pl := _) G (mth_cyc w) (Pv.loc (v := .ref x) m1) H2.hx hdx2 rfl (cycle_spec G O'.top H2 (hcl.upd Pl.list) hup hz hz2 fun σ3 H3 => ⟨rfl, rfl, H3⟩)) ?_
  rintro _ _ σ3 ⟨rfl, rfl, H3⟩
  refine Tr.store ?_
  refine Tr.ite (b := false) (Tv.val (Pv.loc (v := .none) rfl) (fun v e => by subst e; exact Tr.pure ⟨rfl, rfl, rfl⟩)) (fun hb => by cases hb) (fun _ => ?_)
  refine Tr.nil ?_
  show Tr _ _ _ _ _ _ _ _
  exact Tr.nil ⟨_, rfl, h R rs σ3 hRb hrs H3⟩
where
  filter_snoc2 (p : Int → Bool) (l : List Int) (n : Int) : (l ++ [n]).filter p = l.filter p ++ (if p n then [n] else []) := by
    rw [List.filter_append, List.filter_cons]; rfl
end
end Mine
end
section
open PySem PySem.W PySem.Calls PyProof.Rows Builtin
namespace Mine
section
variable {pr : Program} {w : World} {s₀ : Shared} {A : Around} {env : Env} {fs : Fs} {σ σb : Sto} {mg mb : NsMap} {V : Value → Fs → Sto → Prop} {x dx N : Addr} {m : NsMap} {pos : Pos} {C f a q : Addr} {k : Nat} {name : Str}
/-- a call with a star through a bound method -/
theorem cw_star {M : Model} {E : Value → Shared → Prop} {s : Shared} {Q : Value → Shared → Prop} {args : List (Bool × Sem Value)} {self : Value} {oc : Value} {od : Option Addr} {fd : FuncData} {osl : Array (Option Value)} (hst : args.any (·.1) = true)
    (h : wpAny M A (evalArgs (.ref q) true args []) (fun a s₁ => s₁.heap.get? q = some (methodObj (.ref f) self) ∧ s₁.heap.get? f = some ⟨oc, od, .func fd, osl⟩ ∧ wpAny M A (call (.ref q) a.pos a.kw) Q E s₁) E s) : wpAny M A (callWith pos (.ref q) [] args []) Q E s := by
  unfold callWith
  refine wpAny_bind (wpAny_holding (wpAny_mono h (fun a s₁ h₁ => wpAny_bind (wpAny_standAt ?_)) fun _ _ x => x))
  obtain ⟨g1, g2, g3⟩ := h₁
  have L : Looks M s₁.heap (keeperOf (.ref q)) .boundFrame := (Looks.ld (part := none) g1).andThen ((Looks.ld (part := none) g2).andThen .now)
  simp only [hst, Bool.true_or, List.nil_append]
  refine wpAny_bind (L.here ?_)
  dsimp only
  exact wpAny_bind (wpAny_operate' (wpAny_mono g3 (fun r s₂ hr => wpAny_bind (wpAny_holding (wpAny_point (wpAny_pure hr)))) fun _ _ x => x))
theorem spliced_cons (b : Bool) (x : Sem Value) (r : List (Bool × Sem Value)) : spliced ((b, x) :: r) = (do
    let v ← x
    let here ← if b then do
        if ← notIterableAtAll v then
          rule "star.not-iterable"; raiseError "TypeError" s!"Value after * must be an iterable, not {← typeNameOf v}"
        collect v
      else Pure.pure [v]
    return here ++ (← holding here (spliced r))) := rfl
/-- *l at the end of the arguments -/
theorem Tr.spStar {e : Sem Value} {W : Value → Fs → Sto → Prop} {V : List Value → Fs → Sto → Prop} (h : Tr pr w s₀ A fs σ e W) (hv : ∀ v fs' σ', W v fs' σ' → ∃ l vs, v = .ref l ∧ (σ' l = some (.list vs) ∨ σ' l = some (.tup vs)) ∧ vs.length ≤ sizeLine ∧ V vs fs' σ') : Tr pr w s₀ A fs σ (spliced [(true, e)]) V := fun s _ _ I q => by
  rw [spliced_cons]
  refine wpAny_bind (h s _ _ I fun v fs1 σ1 s1 hw I1 => ?_)
  obtain ⟨l, vs, rfl, hl, hz, hV⟩ := hv v fs1 σ1 hw
  refine wpAny_bind ?_
  refine Tr.iterable (pr := pr) (w := w) hl s1 _ _ I1 ?_
  rintro _ _ _ s2 ⟨rfl, rfl, rfl⟩ I2
  simp only [Bool.false_eq_true, if_false]
  refine wpAny_bind ?_
  refine Tr.collectL (pr := pr) (w := w) (V := fun us fs' σ' => us = vs ∧ fs' = _ ∧ σ' = _) hl hz ⟨rfl, rfl, rfl⟩ s2 _ _ I2 ?_
  rintro _ _ _ s3 ⟨rfl, rfl, rfl⟩ I3
  refine wpAny_bind (wpAny_holding ?_)
  refine spliced_nil ?_
  refine wpAny_pure ?_
  rw [List.append_nil]
  exact q _ _ _ _ hV I3
/-- o.name(.., *l): a bound method is made, then called -/
theorem Tr.methS (G : Gd w s₀ mg mb) (M : Mth (hd.heap_1 w.params) C name f) {o : Expr} {apos : Pos} {args : List Expr} (ho : Pv pr w s₀ A env fs σ o (· = .ref a)) (hx : σ a = some (.obj (instObj C dx))) (hm : σ dx = some (.att m k)) (hmn : m name = none) {W : List Value → Fs → Sto → Prop}
    (ha : ∀ q, σ q = none → ∀ s Q E, Inv s₀ fs (upd σ q (.obj (methodObj (.ref f) (.ref a)))) s → (∀ vs fs' σ' s', W vs fs' σ' → σ' q = some (.obj (methodObj (.ref f) (.ref a))) → Inv s₀ fs' σ' s' → Q (⟨vs, []⟩ : Args) s') → wpAny (model pr w) A (evalArgs (.ref q) true (backTo pos (starEach args env)) []) Q E s)
    (hc : ∀ vs fs' σ', W vs fs' σ' → Tc pr w s₀ A fs' σ' (.call (.ref f) ⟨.ref a :: vs, []⟩) V)
    (hst : (backTo pos (starEach args env)).any (·.1) = true := by rfl)
    (he : eval (.Call (.Attribute o name apos) args [] pos) env = (do
      let ov ← eval o env
      standAt apos.atName
      let p ← holding [ov] (do Pure.pure (← getAttr ov name true, ([] : List Value)))
      callWith pos p.1 p.2 (backTo pos (starEach args env)) (backToKw pos (keywordEach [] env))) := by rfl) :
    Tr pr w s₀ A fs σ (eval (.Call (.Attribute o name apos) args [] pos) env) V := fun s Q E I qq => by
  rw [he]
  refine wpAny_bind (ho s _ _ I fun ov _ _ s₁ ⟨e1, e2, e3⟩ I₁ => ?_)
  rw [e1, e2] at I₁
  subst e3
  refine wpAny_bind (wpAny_standAt (wpAny_bind (wpAny_holding (wpAny_bind ?_))))
  refine Tr.bound (pr := pr) (w := w) (V := fun v fs' σ' => ∃ q, v = .ref q ∧ fs' = _ ∧ σ q = none ∧ σ' = upd σ q (.obj (methodObj (.ref f) (.ref a)))) G M hx hm hmn (fun q hq => ⟨q, rfl, rfl, hq, rfl⟩) s₁ _ _ I₁ ?_
  rintro _ _ _ s2 ⟨q, rfl, rfl, hq, rfl⟩ I2
  refine wpAny_pure ?_
  obtain ⟨oc, od, fd, osl, e⟩ := M.fn
  refine cw_star (f := f) (self := .ref a) (oc := oc) (od := od) (fd := fd) (osl := osl) hst (ha q hq s2 _ _ I2 fun vs fs' σ' s' hw hq' I' => ?_)
  obtain ⟨o', ho', rfl⟩ := I'.get hq'
  exact ⟨ho', I'.keep _ _ (G.X _ _ e), wpAny_call (method_call ho' (hc vs fs' σ' hw s' _ _ I' qq))⟩
end
end Mine
end
section
open PySem PySem.W PySem.Calls PyProof.Rows Builtin
namespace Mine
section
variable {pr : Program} {w : World} {s₀ : Shared} {A : Around} {env : Env} {fs : Fs} {σ σb : Sto} {mg mb : NsMap} {V : Value → Fs → Sto → Prop} {x dx N : Addr} {m : NsMap} {pos : Pos} {C f a q : Addr} {k : Nat} {name : Str}
/-- (e1, *e2) -/
theorem args_1S {e₁ : Expr} {x₂ : Sem Value} {bs : List (Bool × Sem Value)} {v₁ : Value} {W : Value → Fs → Sto → Prop} {VV : List Value → Fs → Sto → Prop} {fv : Value} (hb : bs = [(false, eval e₁ env), (true, x₂)]) (h1 : Pv pr w s₀ A env fs σ e₁ (· = v₁)) (h2 : Tr pr w s₀ A fs σ x₂ W)
    (hv : ∀ v fs' σ', W v fs' σ' → ∃ l vs, v = .ref l ∧ (σ' l = some (.list vs) ∨ σ' l = some (.tup vs)) ∧ vs.length ≤ sizeLine ∧ VV (v₁ :: vs) fs' σ') :
    ∀ s Q E, Inv s₀ fs σ s → (∀ vs fs' σ' s', VV vs fs' σ' → Inv s₀ fs' σ' s' → Q (⟨vs, []⟩ : Args) s') → wpAny (model pr w) A (evalArgs fv true bs []) Q E s := by
  intro s Q E I q
  subst hb
  refine Calls.evalArgs_plain ?_
  rw [spliced_cons]
  refine wpAny_bind (h1 s _ _ I ?_)
  rintro v₁ _ _ s1 ⟨rfl, rfl, rfl⟩ I1
  refine wpAny_bind ?_
  refine wpAny_pure ?_
  refine wpAny_bind (wpAny_holding (Tr.spStar (pr := pr) (w := w) (V := fun vs fs' σ' => VV (v₁ :: vs) fs' σ') h2 hv s1 _ _ I1 fun vs fs' σ' s' hV I' => ?_))
  exact wpAny_pure (q _ _ _ _ hV I')
/-- ( *e ) alone -/
theorem args_S {x₂ : Sem Value} {bs : List (Bool × Sem Value)} {W : Value → Fs → Sto → Prop} {VV : List Value → Fs → Sto → Prop} {fv : Value} (hb : bs = [(true, x₂)]) (h2 : Tr pr w s₀ A fs σ x₂ W)
    (hv : ∀ v fs' σ', W v fs' σ' → ∃ l vs, v = .ref l ∧ (σ' l = some (.list vs) ∨ σ' l = some (.tup vs)) ∧ vs.length ≤ sizeLine ∧ VV vs fs' σ') :
    ∀ s Q E, Inv s₀ fs σ s → (∀ vs fs' σ' s', VV vs fs' σ' → Inv s₀ fs' σ' s' → Q (⟨vs, []⟩ : Args) s') → wpAny (model pr w) A (evalArgs fv true bs []) Q E s := by
  intro s Q E I q
  subst hb
  unfold evalArgs
  refine wpAny_bind (h2 s _ _ I fun v fs1 σ1 s1 hw I1 => wpAny_bind (wpAny_pure ?_))
  obtain ⟨l, vs, rfl, hl, hz, hV⟩ := hv v fs1 σ1 hw
  refine wpAny_holding ?_
  refine wpAny_bind (wpAny_pure (wpAny_bind ?_))
  refine wpAny_bind (Tr.iterable (pr := pr) (w := w) hl s1 _ _ I1 ?_)
  rintro _ _ _ s2 ⟨rfl, rfl, rfl⟩ I2
  simp only [Bool.false_eq_true, if_false]
  refine wpAny_holding (Tr.collectL (pr := pr) (w := w) (V := fun us fs' σ' => us = vs ∧ fs' = _ ∧ σ' = _) hl hz ⟨rfl, rfl, rfl⟩ s2 _ _ I2 ?_)
  rintro _ _ _ s3 ⟨rfl, rfl, rfl⟩ I3
  exact wpAny_pure (q _ _ _ _ hV I3)
end
end Mine
end
section
open PySem PySem.W PyProof.Rows
namespace Mine
/-! plain: the run of the sorter -/
structure Gr (S0 : Ab) (pd : Int → List Int) : Prop where
  nd : S0.ks.Nodup
  pdIn : ∀ k ∈ S0.ks, ∀ p ∈ pd k, p ∈ S0.ks ∧ p < k
  pdNd : ∀ k ∈ S0.ks, (pd k).Nodup
  scIff : ∀ k ∈ S0.ks, ∀ s, s ∈ S0.sc k ↔ s ∈ S0.ks ∧ k ∈ pd s
  scNd : ∀ k ∈ S0.ks, (S0.sc k).Nodup
def rem (pd : Int → List Int) (D : List Int) (k : Int) : Nat := ((pd k).filter fun p => !(D.contains p)).length
structure Run (S0 S : Ab) (pd : Int → List Int) (D R : List Int) : Prop where
  ks : S.ks = S0.ks
  sc : S.sc = S0.sc
  sub : ∀ k ∈ D, k ∈ S0.ks
  dnd : D.Nodup
  closed : ∀ k ∈ D, ∀ p ∈ pd k, p ∈ D
  rnd : R.Nodup
  rin : ∀ k, k ∈ R ↔ k ∈ S0.ks ∧ k ∉ D ∧ rem pd D k = 0
  np : ∀ k ∈ S0.ks, k ∉ D → S.np k = rem pd D k
theorem rem_zero {pd : Int → List Int} {D : List Int} {k : Int} : rem pd D k = 0 ↔ ∀ p ∈ pd k, p ∈ D := by
  unfold rem
  rw [List.length_eq_zero_iff, List.filter_eq_nil_iff]
  constructor
  · intro h p hp
    have := h p hp
    simpa using this
  · intro h p hp
    simpa using h p hp
theorem rem_snoc {pd : Int → List Int} {D : List Int} {k q : Int} (hnd : (pd k).Nodup) (hq : q ∉ D) : rem pd (D ++ [q]) k + (if q ∈ pd k then 1 else 0) = rem pd D k := by
  unfold rem
  generalize pd k = l at hnd ⊢
  induction l with
  | nil => rfl
  | cons a r ih =>
    obtain ⟨h1, h2⟩ := List.nodup_cons.mp hnd
    have ih := ih h2
    rw [List.filter_cons, List.filter_cons]
    by_cases ha : a = q
    · subst ha
      have hr : (if a ∈ r then 1 else 0) = 0 := if_neg h1
      rw [hr] at ih
      have e1 : (D ++ [a]).contains a = true := by simp
      have e2 : D.contains a = false := by simpa using hq
      rw [e1, e2, if_pos (List.mem_cons_self ..)]
      simp
      simpa using ih
    · have e1 : (D ++ [q]).contains a = D.contains a := by simp [ha]
      have e2 : (if q ∈ a :: r then 1 else 0) = (if q ∈ r then 1 else 0) := by
        have : q ∈ a :: r ↔ q ∈ r := by simp; intro h; exact absurd h.symm ha
        simp only [this]
      rw [e1, e2]
      cases D.contains a with
      | true => simpa using ih
      | false => simp only [Bool.not_false, if_true, List.length_cons]; omega
theorem decF_eq : ∀ (l : List Int) (st : Ab × List Int), l.Nodup → (∀ k, (l.foldl decS st).1.np k = if k ∈ l then st.1.np k - 1 else st.1.np k) ∧ (l.foldl decS st).2 = st.2 ++ l.filter fun s => decide (st.1.np s - 1 = 0)
  | [], st, _ => by simp
  | a :: l, st, hn => by
    obtain ⟨h1, h2⟩ := List.nodup_cons.mp hn
    obtain ⟨ih1, ih2⟩ := decF_eq l (decS st a) h2
    rw [List.foldl_cons]
    refine ⟨fun k => ?_, ?_⟩
    · rw [ih1 k]
      unfold decS Ab.setNp
      dsimp only
      by_cases hk : k = a
      · subst hk
        rw [if_neg h1, if_pos rfl, if_pos (List.mem_cons_self ..)]
      · rw [if_neg hk]
        have : k ∈ a :: l ↔ k ∈ l := by simp [hk]
        simp only [this]
    · rw [ih2, List.filter_cons]
      have e : l.filter (fun s => decide ((decS st a).1.np s - 1 = 0)) = l.filter fun s => decide (st.1.np s - 1 = 0) := by
        refine List.filter_congr fun s hs => ?_
        have hne : s ≠ a := by rintro rfl; exact h1 hs
        unfold decS Ab.setNp
        simp only [if_neg hne]
      rw [e]
      unfold decS
      by_cases h0 : st.1.np a - 1 = 0
      · simp [h0]
      · simp [h0]
end Mine
end
section
open PySem PySem.W PyProof.Rows
namespace Mine
theorem outs_np (S : Ab) : ∀ (qs : List Int) (k : Int), (S.outs qs).np k = if k ∈ qs then -1 else S.np k := by
  intro qs
  induction qs generalizing S with
  | nil => intro k; simp [Ab.outs]
  | cons q r ih =>
    intro k
    have e : S.outs (q :: r) = (S.setNp q (-1)).outs r := rfl
    rw [e, ih]
    by_cases hk : k ∈ r
    · rw [if_pos hk, if_pos (.tail _ hk)]
    · rw [if_neg hk]
      unfold Ab.setNp
      dsimp only
      by_cases hq : k = q
      · rw [if_pos hq, if_pos (by rw [hq]; exact List.mem_cons_self ..)]
      · rw [if_neg hq, if_neg (by intro h; rcases List.mem_cons.mp h with h | h; exact hq h; exact hk h)]
theorem outs_sc (S : Ab) (qs : List Int) : (S.outs qs).sc = S.sc := by
  unfold Ab.outs
  induction qs generalizing S with
  | nil => rfl
  | cons q r ih => rw [List.foldl_cons, ih]; rfl
/-- in the midst of done: i of the group are through -/
structure Mid (S0 : Ab) (pd : Int → List Int) (D R : List Int) (i : Nat) (st : Ab × List Int) : Prop where
  ks : st.1.ks = S0.ks
  sc : st.1.sc = S0.sc
  wait : ∀ k ∈ R.drop i, st.1.np k = -1
  np : ∀ k ∈ S0.ks, k ∉ D → k ∉ R → st.1.np k = rem pd (D ++ R.take i) k
  rnd : st.2.Nodup
  rin : ∀ k, k ∈ st.2 ↔ k ∈ S0.ks ∧ k ∉ D ∧ k ∉ R ∧ rem pd (D ++ R.take i) k = 0
theorem Run.mid0 {S0 S : Ab} {pd : Int → List Int} {D R : List Int} (h : Run S0 S pd D R) : Mid S0 pd D R 0 (S.outs R, []) := by
  refine ⟨(outs_ks S R).trans h.ks, (outs_sc S R).trans h.sc, fun k hk => ?_, fun k hk hD hR => ?_, List.nodup_nil, fun k => ?_⟩
  · rw [outs_np, if_pos (by simpa using hk)]
  · rw [outs_np, if_neg hR]; simpa using h.np k hk hD
  · simp only [List.not_mem_nil, false_iff, List.take_zero, List.append_nil]
    rintro ⟨a, b, c, d⟩
    exact c ((h.rin k).mpr ⟨a, b, d⟩)
theorem Mid.next {S0 S : Ab} {pd : Int → List Int} {D R : List Int} {i : Nat} {st : Ab × List Int} {q : Int} (G : Gr S0 pd) (h : Run S0 S pd D R) (hm : Mid S0 pd D R i st) (hq : R[i]? = some q) : Mid S0 pd D R (i + 1) (finS st q) := by
  have hlt : i < R.length := (List.getElem?_eq_some_iff.mp hq).1
  have hqR : q ∈ R := List.mem_of_getElem? hq
  obtain ⟨hqk, hqD, hq0⟩ := (h.rin q).mp hqR
  have hdrop : R.drop i = q :: R.drop (i + 1) := by
    rw [List.drop_eq_getElem_cons hlt, (List.getElem?_eq_some_iff.mp hq).2]
  have hqtake : q ∉ R.take i := by
    intro hmem
    have hn := h.rnd
    rw [← List.take_append_drop i R, hdrop] at hn
    exact (List.nodup_append.mp hn).2.2 q hmem q (List.mem_cons_self ..) rfl
  have hqdrop : q ∉ R.drop (i + 1) := by
    intro hmem
    have hn := h.rnd
    rw [← List.take_append_drop i R, hdrop] at hn
    exact (List.nodup_cons.mp (List.nodup_append.mp hn).2.1).1 hmem
  have hqDi : q ∉ D ++ R.take i := by
    intro hmem
    rcases List.mem_append.mp hmem with h1 | h1
    · exact hqD h1
    · exact hqtake h1
  have hscn : (st.1.sc q).Nodup := by rw [hm.sc]; exact G.scNd q hqk
  have hsc : ∀ s, s ∈ st.1.sc q ↔ s ∈ S0.ks ∧ q ∈ pd s := by rw [hm.sc]; exact G.scIff q hqk
  -- a successor is neither done nor in the group
  have hsD : ∀ s, q ∈ pd s → s ∉ D := fun s hs hd => hqD (h.closed s hd q hs)
  have hsR : ∀ s, q ∈ pd s → s ∉ R := fun s hs hr => hqD (rem_zero.mp ((h.rin s).mp hr).2.2 q hs)
  obtain ⟨e1, e2⟩ := decF_eq (st.1.sc q) (st.1.setNp q (-2), st.2) hscn
  obtain ⟨e3, e4⟩ := decF_ks (st.1.sc q) (st.1.setNp q (-2), st.2)
  have hqq : q ∉ pd q := fun hmem => by have := (G.pdIn q hqk q hmem).2; omega
  have htake : D ++ R.take (i + 1) = (D ++ R.take i) ++ [q] := by rw [List.take_add_one, hq]; simp
  have setne : ∀ k, k ≠ q → (st.1.setNp q (-2)).np k = st.1.np k := fun k hk => by simp [Ab.setNp, hk]
  refine ⟨e3.trans hm.ks, e4.trans hm.sc, fun k hk => ?_, fun k hk hD hR => ?_, ?_, fun k => ?_⟩
  · have hkR : k ∈ R := List.mem_of_mem_drop hk
    have hns : k ∉ st.1.sc q := fun hs => hsR k ((hsc k).mp hs).2 hkR
    have hkq : k ≠ q := by rintro rfl; exact hqdrop hk
    show (finS st q).1.np k = _
    unfold finS
    rw [e1 k, if_neg hns]
    show (st.1.setNp q (-2)).np k = _
    rw [setne k hkq]
    exact hm.wait k (by rw [hdrop]; exact .tail _ hk)
  · have hkq : k ≠ q := by rintro rfl; exact hR hqR
    have hr := rem_snoc (pd := pd) (D := D ++ R.take i) (k := k) (q := q) (G.pdNd k hk) hqDi
    show (finS st q).1.np k = _
    unfold finS
    rw [e1 k, htake]
    have hb := hm.np k hk hD hR
    by_cases hs : k ∈ st.1.sc q
    · rw [if_pos hs]
      show (st.1.setNp q (-2)).np k - 1 = _
      rw [setne k hkq, hb]
      rw [if_pos ((hsc k).mp hs).2] at hr
      omega
    · rw [if_neg hs]
      show (st.1.setNp q (-2)).np k = _
      rw [setne k hkq, hb]
      rw [if_neg (fun hp => hs ((hsc k).mpr ⟨hk, hp⟩))] at hr
      omega
  · show (finS st q).2.Nodup
    unfold finS
    rw [e2, List.nodup_append]
    refine ⟨hm.rnd, hscn.sublist List.filter_sublist, fun a ha b hb e => ?_⟩
    subst e
    obtain ⟨hb1, hb2⟩ := List.mem_filter.mp hb
    obtain ⟨a1, a2, a3, a4⟩ := (hm.rin a).mp ha
    have := rem_zero.mp a4 q ((hsc a).mp hb1).2
    exact hqDi this
  · show k ∈ (finS st q).2 ↔ _
    unfold finS
    rw [e2, List.mem_append, htake, List.mem_filter]
    constructor
    · rintro (hk | ⟨hk, h0⟩)
      · obtain ⟨a1, a2, a3, a4⟩ := (hm.rin k).mp hk
        refine ⟨a1, a2, a3, rem_zero.mpr fun p hp => List.mem_append_left _ (rem_zero.mp a4 p hp)⟩
      · obtain ⟨hk1, hk2⟩ := (hsc k).mp hk
        have hkq : k ≠ q := by rintro rfl; exact hqq hk2
        have h0' : st.1.np k - 1 = 0 := by
          have := of_decide_eq_true h0
          rw [show (st.1.setNp q (-2), st.2).1.np k = st.1.np k from setne k hkq] at this
          exact this
        have hb := hm.np k hk1 (hsD k hk2) (hsR k hk2)
        have hr := rem_snoc (pd := pd) (D := D ++ R.take i) (k := k) (q := q) (G.pdNd k hk1) hqDi
        rw [if_pos hk2] at hr
        exact ⟨hk1, hsD k hk2, hsR k hk2, by omega⟩
    · rintro ⟨a1, a2, a3, a4⟩
      have hr := rem_snoc (pd := pd) (D := D ++ R.take i) (k := k) (q := q) (G.pdNd k a1) hqDi
      by_cases hs : q ∈ pd k
      · right
        have hkq : k ≠ q := by rintro rfl; exact a3 hqR
        refine ⟨(hsc k).mpr ⟨a1, hs⟩, decide_eq_true ?_⟩
        rw [show (st.1.setNp q (-2), st.2).1.np k = st.1.np k from setne k hkq, hm.np k a1 a2 a3]
        rw [if_pos hs] at hr
        omega
      · left
        rw [if_neg hs] at hr
        exact (hm.rin k).mpr ⟨a1, a2, a3, by omega⟩
end Mine
end
section
open PySem PySem.W PyProof.Rows
namespace Mine
section
variable {S0 S : Ab} {pd : Int → List Int} {D R : List Int}
theorem Run.midAt (G : Gr S0 pd) (h : Run S0 S pd D R) : ∀ i, i ≤ R.length → Mid S0 pd D R i ((R.take i).foldl finS (S.outs R, []))
  | 0, _ => h.mid0
  | i + 1, hi => by
    have hq : R[i]? = some R[i] := List.getElem?_eq_getElem (by omega)
    rw [fold_take finS hq]
    exact (h.midAt G i (by omega)).next G h hq
theorem Run.pre (G : Gr S0 pd) (h : Run S0 S pd D R) : ∀ i q, R[i]? = some q → ((R.take i).foldl finS (S.outs R, [])).1.np q = -1 := by
  intro i q hq
  have hlt : i < R.length := (List.getElem?_eq_some_iff.mp hq).1
  refine (h.midAt G i (by omega)).wait q ?_
  rw [List.drop_eq_getElem_cons hlt, (List.getElem?_eq_some_iff.mp hq).2]
  exact List.mem_cons_self ..
theorem Run.step (G : Gr S0 pd) (h : Run S0 S pd D R) : Run S0 (R.foldl finS (S.outs R, [])).1 pd (D ++ R) (R.foldl finS (S.outs R, [])).2 := by
  have hm := h.midAt G R.length (Nat.le_refl _)
  rw [List.take_length] at hm
  obtain ⟨a1, a2, a3, a4, a5, a6⟩ := hm
  rw [List.take_length] at a4 a6
  refine ⟨a1, a2, fun k hk => ?_, ?_, fun k hk p hp => ?_, a5, fun k => ?_, fun k hk hD => ?_⟩
  · rcases List.mem_append.mp hk with hk | hk
    · exact h.sub k hk
    · exact ((h.rin k).mp hk).1
  · rw [List.nodup_append]
    refine ⟨h.dnd, h.rnd, fun a ha b hb e => ?_⟩
    subst e
    exact ((h.rin a).mp hb).2.1 ha
  · rcases List.mem_append.mp hk with hk | hk
    · exact List.mem_append_left _ (h.closed k hk p hp)
    · exact List.mem_append_left _ (rem_zero.mp ((h.rin k).mp hk).2.2 p hp)
  · rw [a6 k]
    simp only [List.mem_append, not_or, and_assoc]
  · simp only [List.mem_append, not_or] at hD
    exact a4 k hk hD.1 hD.2
theorem rem_nil (k : Int) : rem pd [] k = (pd k).length := by unfold rem; simp
theorem Run.init (G : Gr S0 pd) (hn : ∀ k ∈ S0.ks, S0.np k = (pd k).length) : Run S0 S0 pd [] (readyF S0) := by
  refine ⟨rfl, rfl, by simp, List.nodup_nil, by simp, G.nd.sublist List.filter_sublist, fun k => ?_, fun k hk _ => by rw [hn k hk, rem_nil]⟩
  unfold readyF
  rw [List.mem_filter, rem_nil]
  constructor
  · rintro ⟨a, b⟩
    rw [hn k a] at b
    refine ⟨a, by simp, ?_⟩
    have := eq_of_beq b; omega
  · rintro ⟨a, _, b⟩
    refine ⟨a, ?_⟩
    rw [hn k a, b]; rfl
theorem Run.all (G : Gr S0 pd) (h : Run S0 S pd D []) (h0 : ∀ k ∈ S0.ks, 0 ≤ k) : ∀ k ∈ S0.ks, k ∈ D := by
  have key : ∀ n : Nat, ∀ k ∈ S0.ks, k < n → k ∈ D := by
    intro n
    induction n with
    | zero => intro k hk hlt; have := h0 k hk; omega
    | succ n ih =>
      intro k hk hlt
      by_cases hD : k ∈ D
      · exact hD
      · exfalso
        have hr : rem pd D k = 0 := rem_zero.mpr fun p hp => by
          obtain ⟨p1, p2⟩ := G.pdIn k hk p hp
          exact ih p p1 (by omega)
        exact absurd ((h.rin k).mpr ⟨hk, hD, hr⟩) (by simp)
  intro k hk
  exact key (k.toNat + 1) k hk (by have := h0 k hk; omega)
theorem Run.len (h : Run S0 S pd D R) : D.length ≤ S0.ks.length := sub_len D S0.ks h.dnd h.sub
theorem Run.lenR (h : Run S0 S pd D R) : (D ++ R).length ≤ S0.ks.length := by
  refine sub_len (D ++ R) S0.ks ?_ ?_
  · rw [List.nodup_append]
    refine ⟨h.dnd, h.rnd, fun a ha b hb e => ?_⟩
    subst e
    exact ((h.rin a).mp hb).2.1 ha
  · intro k hk
    rcases List.mem_append.mp hk with hk | hk
    · exact h.sub k hk
    · exact ((h.rin k).mp hk).1
end
end Mine
end
section
open PySem PySem.W PyProof.Rows
namespace Mine
/-! plain: the graph that the adds build -/
structure Bld (S : Ab) (pd : Int → List Int) (ps : List Int) : Prop where
  nd : S.ks.Nodup
  mem : ∀ k, k ∈ S.ks ↔ k ∈ ps ∨ ∃ q ∈ ps, k ∈ pd q
  np : ∀ k, S.np k = if k ∈ ps then ((pd k).length : Int) else 0
  sc : ∀ k, S.sc k = ps.filter fun s => (pd s).contains k
theorem Bld.nil (pd : Int → List Int) : Bld ab0 pd [] := ⟨List.nodup_nil, by simp [ab0], by simp [ab0], by simp [ab0]⟩
/-- touching a node that has told nothing yet -/
structure Qt (S : Ab) : Prop where
  nd : S.ks.Nodup
  out : ∀ k, k ∉ S.ks → S.np k = 0 ∧ S.sc k = []
theorem Qt.touch {S : Ab} (h : Qt S) (n : Int) : (S.touch n).ks.Nodup ∧ (∀ k, k ∈ (S.touch n).ks ↔ k ∈ S.ks ∨ k = n) ∧ (S.touch n).np = S.np ∧ (S.touch n).sc = S.sc := by
  unfold Ab.touch
  split
  · rename_i hn
    refine ⟨h.nd, fun k => ⟨.inl, ?_⟩, rfl, rfl⟩
    rintro (hk | rfl)
    · exact hk
    · exact hn
  · rename_i hn
    refine ⟨?_, fun k => by simp, ?_, ?_⟩
    · rw [List.nodup_append]
      refine ⟨h.nd, by simp, fun a ha b hb e => ?_⟩
      subst e
      have : a = n := by simpa using hb
      subst this; exact hn ha
    · funext k; dsimp only; split
      · rename_i e; subst e; exact ((h.out k hn).1).symm
      · rfl
    · funext k; dsimp only; split
      · rename_i e; subst e; exact ((h.out k hn).2).symm
      · rfl
theorem Qt.links : ∀ (qs : List Int) (S : Ab) (n : Int), Qt S → qs.Nodup → Qt (qs.foldl (fun S p => S.link n p) S) ∧ (∀ k, k ∈ (qs.foldl (fun S p => S.link n p) S).ks ↔ k ∈ S.ks ∨ k ∈ qs) ∧
    (qs.foldl (fun S p => S.link n p) S).np = S.np ∧ ∀ k, (qs.foldl (fun S p => S.link n p) S).sc k = S.sc k ++ if k ∈ qs then [n] else []
  | [], S, n, h, _ => ⟨h, by simp, rfl, by simp⟩
  | q :: qs, S, n, h, hn => by
    obtain ⟨t1, t2, t3, t4⟩ := h.touch q
    have hl : Qt (S.link n q) := by
      refine ⟨t1, fun k hk => ?_⟩
      have hk' : ¬ (k ∈ S.ks ∨ k = q) := fun e => hk ((t2 k).mpr e)
      simp only [not_or] at hk'
      unfold Ab.link Ab.push
      dsimp only
      rw [if_neg hk'.2, t3, t4]
      exact h.out k hk'.1
    obtain ⟨n1, n2⟩ := List.nodup_cons.mp hn
    obtain ⟨i1, i2, i3, i4⟩ := Qt.links qs (S.link n q) n hl n2
    rw [List.foldl_cons]
    refine ⟨i1, fun k => ?_, ?_, fun k => ?_⟩
    · rw [i2]
      show k ∈ (S.touch q).ks ∨ k ∈ qs ↔ _
      rw [t2, List.mem_cons, or_assoc]
    · rw [i3]; exact t3
    · rw [i4]
      have e : (S.link n q).sc k = S.sc k ++ if k = q then [n] else [] := by
        unfold Ab.link Ab.push
        dsimp only
        rw [t4]
        split
        · rename_i e; rw [e]
        · simp
      rw [e, List.append_assoc]
      congr 1
      by_cases hk : k = q
      · subst hk; simp [n1]
      · simp [hk]
theorem Bld.add {S : Ab} {pd : Int → List Int} {ps : List Int} (h : Bld S pd ps) {n : Int} (hn : n ∉ ps) (hp : (pd n).Nodup) : Bld (S.add n (pd n)) pd (ps ++ [n]) := by
  have hq : Qt S := by
    refine ⟨h.nd, fun k hk => ?_⟩
    have hk' : ¬ (k ∈ ps ∨ ∃ q ∈ ps, k ∈ pd q) := fun e => hk ((h.mem k).mpr e)
    simp only [not_or, not_exists, not_and] at hk'
    refine ⟨by rw [h.np, if_neg hk'.1], ?_⟩
    rw [h.sc, List.filter_eq_nil_iff]
    intro s hs
    simpa using hk'.2 s hs
  obtain ⟨t1, t2, t3, t4⟩ := hq.touch n
  have hq2 : Qt ((S.touch n).setNp n ((S.touch n).np n + (pd n).length)) := by
    refine ⟨t1, fun k hk => ?_⟩
    have hk' : ¬ (k ∈ S.ks ∨ k = n) := fun e => hk ((t2 k).mpr e)
    simp only [not_or] at hk'
    unfold Ab.setNp
    dsimp only
    rw [if_neg hk'.2, t3, t4]
    exact hq.out k hk'.1
  obtain ⟨i1, i2, i3, i4⟩ := Qt.links (pd n) _ n hq2 hp
  unfold Ab.add
  refine ⟨i1.nd, fun k => ?_, fun k => ?_, fun k => ?_⟩
  · rw [i2]
    show k ∈ (S.touch n).ks ∨ _ ↔ _
    rw [t2, h.mem]
    simp only [List.mem_append, List.mem_singleton]
    constructor
    · rintro (((h1 | ⟨q, h1, h2⟩) | rfl) | h1)
      · exact .inl (.inl h1)
      · exact .inr ⟨q, .inl h1, h2⟩
      · exact .inl (.inr rfl)
      · exact .inr ⟨n, .inr rfl, h1⟩
    · rintro ((h1 | rfl) | ⟨q, h1 | rfl, h2⟩)
      · exact .inl (.inl (.inl h1))
      · exact .inl (.inr rfl)
      · exact .inl (.inl (.inr ⟨q, h1, h2⟩))
      · exact .inr h2
  · rw [i3]
    unfold Ab.setNp
    dsimp only
    rw [t3]
    by_cases hk : k = n
    · subst hk
      rw [if_pos rfl, h.np, if_neg hn, if_pos (by simp)]
      omega
    · rw [if_neg hk, h.np]
      have : k ∈ ps ++ [n] ↔ k ∈ ps := by simp [hk]
      simp only [this]
  · rw [i4]
    show (S.touch n).sc k ++ _ = _
    rw [t4, h.sc, List.filter_append, List.filter_cons]
    congr 1
    by_cases hk : k ∈ pd n
    · simp [hk]
    · simp [hk]
/-- the graph, whole -/
theorem Bld.gr {S : Ab} {pd : Int → List Int} {ps : List Int} (h : Bld S pd ps) (hps : ps.Nodup) (hp : ∀ k ∈ ps, (pd k).Nodup ∧ ∀ p ∈ pd k, p ∈ ps ∧ p < k) : (∀ k, k ∈ S.ks ↔ k ∈ ps) ∧ Gr S pd ∧ ∀ k ∈ S.ks, S.np k = (pd k).length := by
  have hm : ∀ k, k ∈ S.ks ↔ k ∈ ps := fun k => by
    rw [h.mem]
    constructor
    · rintro (h1 | ⟨q, h1, h2⟩)
      · exact h1
      · exact ((hp q h1).2 k h2).1
    · exact .inl
  refine ⟨hm, ⟨h.nd, fun k hk p hpk => ?_, fun k hk => (hp k ((hm k).mp hk)).1, fun k hk s => ?_, fun k hk => ?_⟩, fun k hk => ?_⟩
  · obtain ⟨a, b⟩ := (hp k ((hm k).mp hk)).2 p hpk
    exact ⟨(hm p).mpr a, b⟩
  · rw [h.sc, List.mem_filter, hm]
    simp
  · rw [h.sc]; exact hps.sublist List.filter_sublist
  · rw [h.np, if_pos ((hm k).mp hk)]
end Mine
end
section
open PySem PySem.W PyProof.Rows
namespace Mine
/-! plain: exclusive or -/
theorem xor_and_add : ∀ a b : Nat, (a ^^^ b) + 2 * (a &&& b) = a + b := by
  intro a
  induction a using Nat.strongRecOn with
  | _ a ih =>
    intro b
    by_cases h0 : a = 0
    · subst h0; simp
    · have := ih (a / 2) (by omega) (b / 2)
      have e1 : (a ^^^ b) / 2 = a / 2 ^^^ b / 2 := Nat.xor_div_two
      have e2 : (a &&& b) / 2 = a / 2 &&& b / 2 := Nat.and_div_two
      have e3' : (a ^^^ b) % 2 = (a % 2) ^^^ (b % 2) := Nat.xor_mod_two_pow (n := 1)
      have e3 : (a ^^^ b) % 2 = (a + b) % 2 := by
        rw [e3']
        rcases Nat.mod_two_eq_zero_or_one a with h | h <;> rcases Nat.mod_two_eq_zero_or_one b with h' | h' <;> rw [h, h']
        · show 0 = _; omega
        · show 1 = _; omega
        · show 1 = _; omega
        · show 0 = _; omega
      have e4 : (a &&& b) % 2 = (a % 2) &&& (b % 2) := Nat.and_mod_two_pow (n := 1)
      have e5 : (a % 2) &&& (b % 2) = (a % 2) * (b % 2) := by
        rcases Nat.mod_two_eq_zero_or_one a with h | h <;> rcases Nat.mod_two_eq_zero_or_one b with h' | h' <;> rw [h, h'] <;> rfl
      rw [e5] at e4
      rw [← e1, ← e2] at this
      have e6 : (a % 2) * (b % 2) = 0 ∨ ((a % 2) * (b % 2) = 1 ∧ a % 2 = 1 ∧ b % 2 = 1) := by
        rcases Nat.mod_two_eq_zero_or_one a with h | h <;> rcases Nat.mod_two_eq_zero_or_one b with h' | h' <;> rw [h, h'] <;> simp
      rcases Nat.mod_two_eq_zero_or_one a with h | h <;> rcases Nat.mod_two_eq_zero_or_one b with h' | h' <;> rw [h, h'] at e4 <;> omega
theorem bx (a b : Nat) : Builtin.bitXor (a : Int) (b : Int) = ((a ^^^ b : Nat) : Int) := by
  have h := bitXor_and (a : Int) (b : Int)
  rw [h]
  have e : Builtin.bitAnd (a : Int) (b : Int) = ((a &&& b : Nat) : Int) := by
    unfold Builtin.bitAnd
    simp
  rw [e]
  have := xor_and_add a b
  omega
theorem bxI {a b : Int} (ha : 0 ≤ a) (hb : 0 ≤ b) : Builtin.bitXor a b = ((a.toNat ^^^ b.toNat : Nat) : Int) := by
  have := bx a.toNat b.toNat
  rwa [Int.toNat_of_nonneg ha, Int.toNat_of_nonneg hb] at this
theorem top_bit : ∀ g < 16, ∀ v < 16, v < g → ∃ k, k < 4 ∧ Nat.testBit g k = true ∧ g ^^^ v < 2 ^ (k + 1) ∧ Nat.testBit (g ^^^ v) k = true := by decide +kernel
theorem low_bit' : ∀ s < 16, ∀ d < 16, ∀ k < 4, (Nat.testBit s k = true ∧ Nat.testBit d k = true ∧ d < 2 ^ (k + 1)) → s ^^^ d < s := by decide +kernel
theorem low_bit (s : Nat) (hs : s < 16) (d : Nat) (hd : d < 16) (k : Nat) (hk : k < 4) (h1 : Nat.testBit s k = true) (h2 : Nat.testBit d k = true) (h3 : d < 2 ^ (k + 1)) : s ^^^ d < s := low_bit' s hs d hd k hk ⟨h1, h2, h3⟩
theorem turns' : ∀ p < 16, ∀ m < 16, ∀ i < 4, (2 ^ i ≤ m ∧ m < 2 ^ (i + 1)) → decide (p ^^^ m < p) = Nat.testBit p i := by decide +kernel
theorem turns (p : Nat) (hp : p < 16) (m : Nat) (hm : m < 16) (i : Nat) (hi : i < 4) (h1 : 2 ^ i ≤ m) (h2 : m < 2 ^ (i + 1)) : p ^^^ m < p ↔ Nat.testBit p i = true := by
  rw [← turns' p hp m hm i hi ⟨h1, h2⟩]; exact decide_eq_true_iff.symm
theorem row_of : ∀ m < 16, 1 ≤ m → ∃ i, i < 4 ∧ 2 ^ i ≤ m ∧ m < 2 ^ (i + 1) := by decide +kernel
theorem row_bits : ∀ m < 16, ∀ i < 4, 2 ^ i ≤ m → m < 2 ^ (i + 1) → m = 2 ^ i ^^^ (m - 2 ^ i) := by decide +kernel
theorem xor_lt : ∀ a < 16, ∀ b < 16, a ^^^ b < 16 := fun a ha b hb => Nat.xor_lt_two_pow (n := 4) ha hb
/-- the value of a position, from those of the single coins -/
def pick (s : Nat) (b : Bool) : Nat := if b then s else 0
def valX (s0 s1 s2 s3 p : Nat) : Nat := pick s0 (p.testBit 0) ^^^ pick s1 (p.testBit 1) ^^^ pick s2 (p.testBit 2) ^^^ pick s3 (p.testBit 3)
theorem pick_xor (s : Nat) (a b : Bool) : pick s (a ^^ b) = pick s a ^^^ pick s b := by cases a <;> cases b <;> simp [pick]
theorem valX_xor (s0 s1 s2 s3 p q : Nat) : valX s0 s1 s2 s3 (p ^^^ q) = valX s0 s1 s2 s3 p ^^^ valX s0 s1 s2 s3 q := by
  unfold valX
  rw [Nat.testBit_xor, Nat.testBit_xor, Nat.testBit_xor, Nat.testBit_xor, pick_xor, pick_xor, pick_xor, pick_xor]
  ac_rfl
theorem pick_lt {s : Nat} (h : s < 16) (b : Bool) : pick s b < 16 := by cases b <;> simp [pick]; exact h
theorem valX_lt {s0 s1 s2 s3 : Nat} (h0 : s0 < 16) (h1 : s1 < 16) (h2 : s2 < 16) (h3 : s3 < 16) (p : Nat) : valX s0 s1 s2 s3 p < 16 :=
  xor_lt _ (xor_lt _ (xor_lt _ (pick_lt h0 _) _ (pick_lt h1 _)) _ (pick_lt h2 _)) _ (pick_lt h3 _)
def nth4 (s0 s1 s2 s3 : Nat) : Nat → Nat
  | 0 => s0
  | 1 => s1
  | 2 => s2
  | _ => s3
/-- the heap that can be lowered -/
theorem nim {s0 s1 s2 s3 : Nat} (h0 : s0 < 16) (h1 : s1 < 16) (h2 : s2 < 16) (h3 : s3 < 16) {p v : Nat} (hv : v < valX s0 s1 s2 s3 p) : ∃ i, i < 4 ∧ p.testBit i = true ∧ nth4 s0 s1 s2 s3 i ^^^ (valX s0 s1 s2 s3 p ^^^ v) < nth4 s0 s1 s2 s3 i := by
  have hg := valX_lt h0 h1 h2 h3 p
  obtain ⟨k, hk, a1, a2, a3⟩ := top_bit _ hg v (by omega) hv
  have hd : valX s0 s1 s2 s3 p ^^^ v < 16 := xor_lt _ hg _ (by omega)
  generalize hD : valX s0 s1 s2 s3 p ^^^ v = d at a2 a3 hd ⊢
  have low : ∀ s, s < 16 → s.testBit k = true → s ^^^ d < s := fun s hs hb => low_bit s hs d hd k hk hb a3 a2
  unfold valX at a1
  rw [Nat.testBit_xor, Nat.testBit_xor, Nat.testBit_xor] at a1
  have pk : ∀ s b, (pick s b).testBit k = true → b = true ∧ s.testBit k = true := by
    intro s b h
    cases b with
    | false => simp [pick] at h
    | true => exact ⟨rfl, h⟩
  by_cases c0 : (pick s0 (p.testBit 0)).testBit k = true
  · obtain ⟨b1, b2⟩ := pk _ _ c0; exact ⟨0, by decide, b1, low _ h0 b2⟩
  by_cases c1 : (pick s1 (p.testBit 1)).testBit k = true
  · obtain ⟨b1, b2⟩ := pk _ _ c1; exact ⟨1, by decide, b1, low _ h1 b2⟩
  by_cases c2 : (pick s2 (p.testBit 2)).testBit k = true
  · obtain ⟨b1, b2⟩ := pk _ _ c2; exact ⟨2, by decide, b1, low _ h2 b2⟩
  by_cases c3 : (pick s3 (p.testBit 3)).testBit k = true
  · obtain ⟨b1, b2⟩ := pk _ _ c3; exact ⟨3, by decide, b1, low _ h3 b2⟩
  simp only [Bool.not_eq_true] at c0 c1 c2 c3
  rw [c0, c1, c2, c3] at a1
  cases a1
theorem valX_pow {s0 s1 s2 s3 : Nat} : ∀ i, i < 4 → valX s0 s1 s2 s3 (2 ^ i) = nth4 s0 s1 s2 s3 i := by
  intro i hi
  match i, hi with
  | 0, _ => show pick s0 (Nat.testBit 1 0) ^^^ pick s1 (Nat.testBit 1 1) ^^^ pick s2 (Nat.testBit 1 2) ^^^ pick s3 (Nat.testBit 1 3) = s0; simp [pick, show Nat.testBit 1 0 = true from by decide, show Nat.testBit 1 1 = false from by decide, show Nat.testBit 1 2 = false from by decide, show Nat.testBit 1 3 = false from by decide]
  | 1, _ => show pick s0 (Nat.testBit 2 0) ^^^ pick s1 (Nat.testBit 2 1) ^^^ pick s2 (Nat.testBit 2 2) ^^^ pick s3 (Nat.testBit 2 3) = s1; simp [pick, show Nat.testBit 2 0 = false from by decide, show Nat.testBit 2 1 = true from by decide, show Nat.testBit 2 2 = false from by decide, show Nat.testBit 2 3 = false from by decide]
  | 2, _ => show pick s0 (Nat.testBit 4 0) ^^^ pick s1 (Nat.testBit 4 1) ^^^ pick s2 (Nat.testBit 4 2) ^^^ pick s3 (Nat.testBit 4 3) = s2; simp [pick, show Nat.testBit 4 0 = false from by decide, show Nat.testBit 4 1 = false from by decide, show Nat.testBit 4 2 = true from by decide, show Nat.testBit 4 3 = false from by decide]
  | 3, _ => show pick s0 (Nat.testBit 8 0) ^^^ pick s1 (Nat.testBit 8 1) ^^^ pick s2 (Nat.testBit 8 2) ^^^ pick s3 (Nat.testBit 8 3) = s3; simp [pick, show Nat.testBit 8 0 = false from by decide, show Nat.testBit 8 1 = false from by decide, show Nat.testBit 8 2 = false from by decide, show Nat.testBit 8 3 = true from by decide]
/-- coin turning, over plain numbers: M the moves, X the values -/
theorem coins {s0 s1 s2 s3 : Nat} (h0 : s0 < 16) (h1 : s1 < 16) (h2 : s2 < 16) (h3 : s3 < 16) (M : Nat → Prop) (hM : ∀ m, M m → 1 ≤ m ∧ m < 16)
    (hne : ∀ i < 4, ∀ m, M m → 2 ^ i ≤ m → m < 2 ^ (i + 1) → valX s0 s1 s2 s3 (m - 2 ^ i) ≠ nth4 s0 s1 s2 s3 i)
    (hex : ∀ i < 4, ∀ v < nth4 s0 s1 s2 s3 i, ∃ m, M m ∧ 2 ^ i ≤ m ∧ m < 2 ^ (i + 1) ∧ valX s0 s1 s2 s3 (m - 2 ^ i) = v) (p : Nat) (hp : p < 16) :
    (∀ m, M m → p ^^^ m < p → valX s0 s1 s2 s3 (p ^^^ m) ≠ valX s0 s1 s2 s3 p) ∧ ∀ v < valX s0 s1 s2 s3 p, ∃ m, M m ∧ p ^^^ m < p ∧ valX s0 s1 s2 s3 (p ^^^ m) = v := by
  have hX : ∀ i < 4, ∀ m, m < 16 → 2 ^ i ≤ m → m < 2 ^ (i + 1) → valX s0 s1 s2 s3 m = nth4 s0 s1 s2 s3 i ^^^ valX s0 s1 s2 s3 (m - 2 ^ i) := by
    intro i hi m hm ha hb
    conv => lhs; rw [row_bits m hm i hi ha hb]
    rw [valX_xor, valX_pow i hi]
  constructor
  · intro m hm hlt he
    obtain ⟨m1, m2⟩ := hM m hm
    obtain ⟨i, hi, ha, hb⟩ := row_of m m2 m1
    rw [valX_xor, hX i hi m m2 ha hb] at he
    have := hne i hi m hm ha hb
    apply this
    have e2 : valX s0 s1 s2 s3 p ^^^ (valX s0 s1 s2 s3 p ^^^ (nth4 s0 s1 s2 s3 i ^^^ valX s0 s1 s2 s3 (m - 2 ^ i))) = 0 := by rw [he, Nat.xor_self]
    rw [← Nat.xor_assoc, Nat.xor_self, Nat.zero_xor] at e2
    have e3 : nth4 s0 s1 s2 s3 i ^^^ (nth4 s0 s1 s2 s3 i ^^^ valX s0 s1 s2 s3 (m - 2 ^ i)) = nth4 s0 s1 s2 s3 i := by rw [e2, Nat.xor_zero]
    rwa [← Nat.xor_assoc, Nat.xor_self, Nat.zero_xor] at e3
  · intro v hv
    obtain ⟨i, hi, hb, hl⟩ := nim h0 h1 h2 h3 hv
    obtain ⟨m, hm, ha, hb', he⟩ := hex i hi _ hl
    obtain ⟨m1, m2⟩ := hM m hm
    refine ⟨m, hm, (turns p hp m m2 i hi ha hb').mpr hb, ?_⟩
    rw [valX_xor, hX i hi m m2 ha hb', he]
    generalize valX s0 s1 s2 s3 p = g
    generalize nth4 s0 s1 s2 s3 i = s
    rw [← Nat.xor_assoc s s, Nat.xor_self, Nat.zero_xor, ← Nat.xor_assoc, Nat.xor_self, Nat.zero_xor]
end Mine
end
section
open PySem PySem.W PyProof.Rows
namespace Mine
/-! plain: the worths coin by coin are the worths of the game -/
theorem mexF_le (xs : List Int) : mexF xs ≤ xs.length := by
  unfold mexF
  cases h : mexL xs with
  | nil => exact absurd h (mexL_ne xs)
  | cons x r =>
    have hx : x ∈ mexL xs := by rw [h]; exact List.mem_cons_self ..
    have := (mem_ups.mp (List.mem_filter.mp hx).1).2
    show x ≤ _
    omega
theorem metF_len (ms ws : List Int) : (metF ms ws).length ≤ ms.length := by
  unfold metF; rw [List.length_map]; exact List.length_filter_le _ _
def sgl (ms : List Int) (i : Nat) : Nat := (mexF (metF ms (cbcN ms i))).toNat
theorem sgl_eq (ms : List Int) (i : Nat) : mexF (metF ms (cbcN ms i)) = (sgl ms i : Int) := by
  unfold sgl; rw [Int.toNat_of_nonneg (mexF_is _).1]
theorem sgl_lt {ms : List Int} (hl : ms.length ≤ 15) (i : Nat) : sgl ms i < 16 := by
  have h1 := mexF_le (metF ms (cbcN ms i))
  have h2 := metF_len ms (cbcN ms i)
  have h3 := sgl_eq ms i
  omega
def valN (ms : List Int) (p : Nat) : Nat := valX (sgl ms 0) (sgl ms 1) (sgl ms 2) (sgl ms 3) p
theorem nth4_sgl (ms : List Int) : ∀ i, i < 4 → nth4 (sgl ms 0) (sgl ms 1) (sgl ms 2) (sgl ms 3) i = sgl ms i
  | 0, _ => rfl
  | 1, _ => rfl
  | 2, _ => rfl
  | 3, _ => rfl
theorem pow_add' : ∀ n < 4, ∀ p < 8, p < 2 ^ n → 2 ^ n + p = 2 ^ n ^^^ p := by decide +kernel
theorem cbcN_eq (ms : List Int) : ∀ n, n ≤ 4 → cbcN ms n = (List.range (2 ^ n)).map fun p => ((valN ms p : Nat) : Int)
  | 0, _ => by
    show [0] = [((valN ms 0 : Nat) : Int)]
    have : valN ms 0 = 0 := by unfold valN valX; simp [pick]
    rw [this]; rfl
  | n + 1, hn => by
    have ih := cbcN_eq ms n (by omega)
    rw [cbcN, cbcStep, sgl_eq]
    rw [show 2 ^ (n + 1) = 2 ^ n + 2 ^ n by omega, List.range_add, List.map_append, ← ih]
    congr 1
    rw [ih, List.map_map, List.map_map]
    refine List.map_congr_left fun p hp => ?_
    have hp' : p < 2 ^ n := List.mem_range.mp hp
    show Builtin.bitXor ((valN ms p : Nat) : Int) (sgl ms n : Int) = ((valN ms (2 ^ n + p) : Nat) : Int)
    have h8 : (2 : Nat) ^ n ≤ 8 := by
      match n, hn with
      | 0, _ => decide
      | 1, _ => decide
      | 2, _ => decide
      | 3, _ => decide
    rw [bx, pow_add' n (by omega) p (by omega) hp']
    congr 1
    unfold valN
    rw [valX_xor, valX_pow n (by omega), nth4_sgl ms n (by omega), Nat.xor_comm]
def wo (ms : List Int) (q : Int) : Int := (cbcN ms 4).getD q.toNat 0
theorem wo_eq (ms : List Int) {q : Nat} (h : q < 16) : wo ms q = ((valN ms q : Nat) : Int) := by
  unfold wo
  rw [cbcN_eq ms 4 (Nat.le_refl _), List.getD_eq_getElem?_getD, Int.toNat_natCast, List.getElem?_map, List.getElem?_range h]; rfl
theorem wo_eqI (ms : List Int) {q : Int} (h0 : 0 ≤ q) (h : q < 16) : wo ms q = ((valN ms q.toNat : Nat) : Int) := by
  have := wo_eq ms (q := q.toNat) (by omega)
  rwa [Int.toNat_of_nonneg h0] at this
theorem cbc_wo (ms : List Int) : cbcN ms 4 = (ups 16).map (wo ms) := by
  rw [cbcN_eq ms 4 (Nat.le_refl _)]
  unfold ups
  rw [List.map_map]
  refine List.map_congr_left fun p hp => ?_
  exact (wo_eq ms (List.mem_range.mp hp)).symm
theorem mem_metF {ms : List Int} {i : Nat} (hi : i ≤ 4) (hms : ∀ m ∈ ms, 1 ≤ m ∧ m ≤ 15) {v : Int} : v ∈ metF ms (cbcN ms i) ↔ ∃ m : Nat, (m : Int) ∈ ms ∧ 2 ^ i ≤ m ∧ m < 2 ^ (i + 1) ∧ v = ((valN ms (m - 2 ^ i) : Nat) : Int) := by
  have hlen := cbcN_len ms i
  have val : ∀ m : Nat, 2 ^ i ≤ m → m < 2 ^ (i + 1) → (cbcN ms i).getD ((m : Int) - ((cbcN ms i).length : Int)).toNat 0 = ((valN ms (m - 2 ^ i) : Nat) : Int) := by
    intro m h1 h2
    rw [hlen, cbcN_eq ms i hi]
    have e : ((m : Int) - ((2 ^ i : Nat) : Int)).toNat = m - 2 ^ i := by omega
    rw [e, List.getD_eq_getElem?_getD, List.getElem?_map, List.getElem?_range (by omega)]; rfl
  unfold metF
  rw [List.mem_map]
  constructor
  · rintro ⟨m, hm, rfl⟩
    obtain ⟨hm, hr⟩ := List.mem_filter.mp hm
    have := hms m hm
    unfold inRow at hr
    rw [Bool.and_eq_true, decide_eq_true_iff, decide_eq_true_iff, hlen] at hr
    have em : ((m.toNat : Nat) : Int) = m := Int.toNat_of_nonneg (by omega)
    have g1 : 2 ^ i ≤ m.toNat := by omega
    have g2 : m.toNat < 2 ^ (i + 1) := by omega
    refine ⟨m.toNat, by rw [em]; exact hm, g1, g2, ?_⟩
    have := val m.toNat g1 g2
    rwa [em] at this
  · rintro ⟨m, hm, g1, g2, rfl⟩
    refine ⟨m, List.mem_filter.mpr ⟨hm, ?_⟩, val m g1 g2⟩
    unfold inRow
    rw [Bool.and_eq_true, decide_eq_true_iff, decide_eq_true_iff, hlen]
    omega
theorem mem_reachedF {ms : List Int} {p q : Int} : q ∈ reachedF ms p ↔ ∃ m ∈ ms, q = Builtin.bitXor p m ∧ q < p := by
  unfold reachedF
  rw [List.mem_filter, List.mem_map]
  constructor
  · rintro ⟨⟨m, h1, h2⟩, h3⟩; exact ⟨m, h1, h2.symm, of_decide_eq_true h3⟩
  · rintro ⟨m, h1, h2, h3⟩; exact ⟨⟨m, h1, h2.symm⟩, decide_eq_true h3⟩
/-- the theorem of coin turning games -/
theorem coin_mex {ms : List Int} (hms : ∀ m ∈ ms, 1 ≤ m ∧ m ≤ 15) (hl : ms.length ≤ 15) {p : Int} (h0 : 0 ≤ p) (hp : p < 16) : mexF ((reachedF ms p).map (wo ms)) = wo ms p := by
  obtain ⟨c1, c2⟩ := coins (sgl_lt hl 0) (sgl_lt hl 1) (sgl_lt hl 2) (sgl_lt hl 3) (fun m => (m : Int) ∈ ms) (fun m hm => by have := hms m hm; omega)
    (fun i hi m hm g1 g2 e => by
      rw [nth4_sgl ms i hi] at e
      refine (mexF_is (metF ms (cbcN ms i))).2.1 ((mem_metF (by omega) hms).mpr ⟨m, hm, g1, g2, ?_⟩)
      rw [sgl_eq, ← e]; rfl)
    (fun i hi v hv => by
      rw [nth4_sgl ms i hi] at hv
      obtain ⟨m, hm, g1, g2, e⟩ := (mem_metF (by omega) hms).mp ((mexF_is (metF ms (cbcN ms i))).2.2 (v : Int) (by omega) (by rw [sgl_eq]; omega))
      have ev : v = valN ms (m - 2 ^ i) := by omega
      exact ⟨m, hm, g1, g2, ev.symm⟩) p.toNat (by omega)
  refine (mexF_is _).uniq ⟨?_, ?_, ?_⟩
  · rw [wo_eqI ms h0 hp]; omega
  · intro hm
    obtain ⟨q, hq, e⟩ := List.mem_map.mp hm
    obtain ⟨m, hmm, rfl, hlt⟩ := mem_reachedF.mp hq
    have hm1 := hms m hmm
    have em : ((m.toNat : Nat) : Int) = m := Int.toNat_of_nonneg (by omega)
    rw [bxI h0 (by omega)] at hlt e
    have hlt' : p.toNat ^^^ m.toNat < p.toNat := by omega
    rw [wo_eqI ms h0 hp, wo_eq ms (by omega)] at e
    exact c1 m.toNat (by rw [em]; exact hmm) hlt' (by unfold valN at e; omega)
  · intro k hk0 hk
    rw [wo_eqI ms h0 hp] at hk
    obtain ⟨m, hmm, hlt, e⟩ := c2 k.toNat (by unfold valN at hk; omega)
    have hm1 := hms m hmm
    refine List.mem_map.mpr ⟨((p.toNat ^^^ m : Nat) : Int), mem_reachedF.mpr ⟨m, hmm, ?_, by omega⟩, ?_⟩
    · rw [bxI h0 (by omega)]; rfl
    · rw [wo_eq ms (by omega)]
      unfold valN
      rw [e]; omega
theorem reached_in {ms : List Int} (hms : ∀ m ∈ ms, 1 ≤ m ∧ m ≤ 15) {p q : Int} (h0 : 0 ≤ p) (hq : q ∈ reachedF ms p) : 0 ≤ q ∧ q < p := by
  obtain ⟨m, hmm, rfl, hlt⟩ := mem_reachedF.mp hq
  have := hms m hmm
  refine ⟨?_, hlt⟩
  rw [bxI h0 (by omega)]; omega
theorem reached_nodup {ms : List Int} (hms : ∀ m ∈ ms, 1 ≤ m ∧ m ≤ 15) (hn : ms.Nodup) {p : Int} (h0 : 0 ≤ p) : (reachedF ms p).Nodup := by
  unfold reachedF
  refine List.Nodup.sublist List.filter_sublist ?_
  rw [List.nodup_iff_pairwise_ne, List.pairwise_map]
  refine (List.nodup_iff_pairwise_ne.mp hn).imp_of_mem ?_
  intro a b ha hb hne e
  have ha' := hms a ha
  have hb' := hms b hb
  rw [bxI h0 (by omega), bxI h0 (by omega)] at e
  have e' : p.toNat ^^^ a.toNat = p.toNat ^^^ b.toNat := by omega
  have : p.toNat ^^^ (p.toNat ^^^ a.toNat) = p.toNat ^^^ (p.toNat ^^^ b.toNat) := by rw [e']
  rw [← Nat.xor_assoc, ← Nat.xor_assoc, Nat.xor_self, Nat.zero_xor, Nat.zero_xor] at this
  exact hne (by omega)
theorem reached_len (ms : List Int) (p : Int) : (reachedF ms p).length ≤ ms.length := by
  unfold reachedF
  refine Nat.le_trans (List.length_filter_le _ _) ?_
  rw [List.length_map]; exact Nat.le_refl _
theorem mvF_len (ds : List Int) : (mvF ds).length ≤ 15 := by
  unfold mvF
  refine Nat.le_trans (List.length_filter_le _ _) ?_
  simp [upsFrom]
end Mine
end
section
open PySem PySem.W PyProof.Rows
namespace Mine
/-! plain: heaps -/
theorem gd_set (xs : List Int) (p i : Nat) (v : Int) (hp : p < xs.length) : (xs.set p v).getD i 0 = if i = p then v else xs.getD i 0 := by
  rw [List.getD_eq_getElem?_getD, List.getD_eq_getElem?_getD, List.getElem?_set]
  by_cases h : p = i
  · subst h; simp [hp]
  · rw [if_neg h, if_neg (fun e => h e.symm)]
theorem mem_gd {xs : List Int} {x : Int} : x ∈ xs ↔ ∃ i, i < xs.length ∧ xs.getD i 0 = x := by
  rw [List.mem_iff_getElem?]
  constructor
  · rintro ⟨i, h⟩
    obtain ⟨h1, h2⟩ := List.getElem?_eq_some_iff.mp h
    exact ⟨i, h1, by rw [List.getD_eq_getElem?_getD, h]; rfl⟩
  · rintro ⟨i, h1, h2⟩
    exact ⟨i, by rw [getD_some h1, h2]⟩
def Ch (j i : Nat) : Prop := i = 2 * j + 1 ∨ i = 2 * j + 2
theorem Ch.lt {j i : Nat} (h : Ch j i) : j < i := by rcases h with h | h <;> omega
theorem Ch.uniq {j k i : Nat} (h : Ch j i) (h' : Ch k i) : j = k := by rcases h with h | h <;> rcases h' with h' | h' <;> omega
theorem Ch.par (p : Nat) : Ch (p / 2) (p + 1) := by unfold Ch; omega
inductive Desc (s : Nat) : Nat → Prop
  | refl : Desc s s
  | step {p c : Nat} : Desc s p → Ch p c → Desc s c
theorem Desc.le {s p : Nat} (h : Desc s p) : s ≤ p := by
  induction h with
  | refl => exact Nat.le_refl _
  | step _ hc ih => have := hc.lt; omega
theorem Desc.up {s p q : Nat} (h : Desc s p) (hne : p ≠ s) (hq : Ch q p) : Desc s q := by
  cases h with
  | refl => exact absurd rfl hne
  | step h' hc => rw [← hc.uniq hq]; exact h'
def HeapFrom (xs : List Int) (s : Nat) : Prop := ∀ j i, s ≤ j → Ch j i → i < xs.length → xs.getD j 0 ≤ xs.getD i 0
structure Hole (xs0 : List Int) (s : Nat) (nw : Int) (ys : List Int) (p : Nat) : Prop where
  len : ys.length = xs0.length
  plt : p < ys.length
  mem : ∀ x, x ∈ ys.set p nw ↔ x ∈ xs0
  dsc : Desc s p
  edge : ∀ j i, s ≤ j → j ≠ p → i ≠ p → Ch j i → i < ys.length → ys.getD j 0 ≤ ys.getD i 0
  gp : ∀ q c, Ch q p → s ≤ q → Ch p c → c < ys.length → ys.getD q 0 ≤ ys.getD c 0
section
variable {xs0 ys : List Int} {s p : Nat} {nw : Int}
/-- the hole's place changes with c's -/
theorem swap_mem {c : Nat} (hp : p < ys.length) (hc : c < ys.length) (hne : p ≠ c) (x : Int) : x ∈ (ys.set p (ys.getD c 0)).set c nw ↔ x ∈ ys.set p nw := by
  rw [mem_gd, mem_gd]
  simp only [List.length_set]
  have e1 : ∀ i, ((ys.set p (ys.getD c 0)).set c nw).getD i 0 = if i = c then nw else if i = p then ys.getD c 0 else ys.getD i 0 := fun i => by
    rw [gd_set _ _ _ _ (by rw [List.length_set]; exact hc), gd_set _ _ _ _ hp]
  have e2 : ∀ i, (ys.set p nw).getD i 0 = if i = p then nw else ys.getD i 0 := fun i => gd_set _ _ _ _ hp
  constructor
  · rintro ⟨i, hi, h⟩
    rw [e1] at h
    by_cases hic : i = c
    · rw [if_pos hic] at h; exact ⟨p, hp, by rw [e2, if_pos rfl]; exact h⟩
    · rw [if_neg hic] at h
      by_cases hip : i = p
      · rw [if_pos hip] at h; exact ⟨c, hc, by rw [e2, if_neg (Ne.symm hne)]; exact h⟩
      · rw [if_neg hip] at h; exact ⟨i, hi, by rw [e2, if_neg hip]; exact h⟩
  · rintro ⟨i, hi, h⟩
    rw [e2] at h
    by_cases hip : i = p
    · rw [if_pos hip] at h; exact ⟨c, hc, by rw [e1, if_pos rfl]; exact h⟩
    · rw [if_neg hip] at h
      by_cases hic : i = c
      · subst hic; exact ⟨p, hp, by rw [e1, if_neg hne, if_pos rfl]; exact h⟩
      · exact ⟨i, hi, by rw [e1, if_neg hic, if_neg hip]; exact h⟩
/-- down: the smaller child comes up -/
theorem Hole.down {c : Nat} (h : Hole xs0 s nw ys p) (hc : Ch p c) (hlt : c < ys.length) (hmin : ∀ c', Ch p c' → c' < ys.length → ys.getD c 0 ≤ ys.getD c' 0) : Hole xs0 s nw (ys.set p (ys.getD c 0)) c := by
  have hne : p ≠ c := Nat.ne_of_lt hc.lt
  have e : ∀ i, (ys.set p (ys.getD c 0)).getD i 0 = if i = p then ys.getD c 0 else ys.getD i 0 := fun i => gd_set _ _ _ _ h.plt
  refine ⟨by rw [List.length_set]; exact h.len, by rw [List.length_set]; exact hlt, fun x => (swap_mem h.plt hlt hne x).trans (h.mem x), h.dsc.step hc, ?_, ?_⟩
  · intro j i hj hjc hic hch hi
    rw [List.length_set] at hi
    rw [e, e]
    by_cases hjp : j = p
    · subst hjp
      rw [if_pos rfl, if_neg (Ne.symm (Nat.ne_of_lt hch.lt))]
      exact hmin i hch hi
    · rw [if_neg hjp]
      by_cases hip : i = p
      · subst hip; rw [if_pos rfl]; exact h.gp j c hch hj hc hlt
      · rw [if_neg hip]; exact h.edge j i hj hjp hip hch hi
  · intro q d hq hs hd hdl
    rw [List.length_set] at hdl
    have : q = p := hq.uniq hc
    subst this
    have hdc := hd.lt
    have hcl := hc.lt
    rw [e, e, if_pos rfl, if_neg (by omega)]
    exact h.edge c d (by omega) (Ne.symm hne) (by omega) hd hdl
/-- up: the parent comes down -/
theorem Hole.rise {q : Nat} (h : Hole xs0 s nw ys p) (hq : Ch q p) (hs : p ≠ s) : Hole xs0 s nw (ys.set p (ys.getD q 0)) q := by
  have hlt := hq.lt
  have hne : p ≠ q := by omega
  have hql : q < ys.length := by have := h.plt; omega
  have hd := h.dsc.up hs hq
  have e : ∀ i, (ys.set p (ys.getD q 0)).getD i 0 = if i = p then ys.getD q 0 else ys.getD i 0 := fun i => gd_set _ _ _ _ h.plt
  refine ⟨by rw [List.length_set]; exact h.len, by rw [List.length_set]; exact hql, fun x => (swap_mem h.plt hql hne x).trans (h.mem x), hd, ?_, ?_⟩
  · intro j i hj hjc hic hch hi
    rw [List.length_set] at hi
    rw [e, e]
    by_cases hjp : j = p
    · subst hjp
      rw [if_pos rfl, if_neg (Ne.symm (Nat.ne_of_lt hch.lt))]
      exact h.gp q i hq hd.le hch hi
    · rw [if_neg hjp]
      by_cases hip : i = p
      · subst hip; exact absurd (hch.uniq hq) hjc
      · rw [if_neg hip]; exact h.edge j i hj hjp hip hch hi
  · intro r d hr hsr hdd hdl
    rw [List.length_set] at hdl
    have hrq := hr.lt
    have hqd := hdd.lt
    have h1 : ys.getD r 0 ≤ ys.getD q 0 := h.edge r q hsr (by omega) (Ne.symm hne) hr hql
    rw [e, e, if_neg (by omega)]
    by_cases hdp : d = p
    · rw [if_pos hdp]; exact h1
    · rw [if_neg hdp]
      have := h.edge q d hd.le (Ne.symm hne) hdp hdd hdl
      omega
theorem Hole.close (h : Hole xs0 s nw ys p) (hl : ∀ c, Ch p c → c < ys.length → nw ≤ ys.getD c 0) (hu : ∀ q, Ch q p → s ≤ q → ys.getD q 0 ≤ nw) : HeapFrom (ys.set p nw) s := by
  intro j i hj hch hi
  rw [List.length_set] at hi
  rw [gd_set _ _ _ _ h.plt, gd_set _ _ _ _ h.plt]
  have hlt := hch.lt
  by_cases hjp : j = p
  · subst hjp; rw [if_pos rfl, if_neg (by omega)]; exact hl i hch hi
  · rw [if_neg hjp]
    by_cases hip : i = p
    · subst hip; rw [if_pos rfl]; exact hu j hch hj
    · rw [if_neg hip]; exact h.edge j i hj hjp hip hch hi
/-- what the two loops want -/
def Sifted (xs0 : List Int) (s : Nat) (r : List Int) : Prop := HeapFrom r s ∧ r.length = xs0.length ∧ ∀ x, x ∈ r ↔ x ∈ xs0
theorem sd_ok : ∀ (p : Nat) (ys : List Int), Hole xs0 s nw ys p → (∀ c, Ch p c → c < ys.length → nw ≤ ys.getD c 0) → Sifted xs0 s (sdLoop ys s nw p) := by
  intro p
  induction p using Nat.strongRecOn with
  | _ p ih =>
    intro ys h hl
    have fin : (∀ q, Ch q p → s ≤ q → ys.getD q 0 ≤ nw) → Sifted xs0 s (ys.set p nw) := fun hu =>
      ⟨h.close hl hu, by rw [List.length_set]; exact h.len, h.mem⟩
    cases p with
    | zero =>
      rw [sdLoop]
      exact fin fun q hq => absurd hq.lt (Nat.not_lt_zero _)
    | succ p =>
      rw [sdLoop]
      split
      · rename_i hsp
        have hq := Ch.par p
        split
        · rename_i hnw
          refine ih (p / 2) (by omega) _ (h.rise hq (by omega)) ?_
          intro c hc hcl
          rw [List.length_set] at hcl
          rw [gd_set _ _ _ _ h.plt]
          by_cases hcp : c = p + 1
          · rw [if_pos hcp]; omega
          · rw [if_neg hcp]
            have hqp := hq.lt
            have := h.edge (p / 2) c (h.dsc.up (by omega) hq).le (by omega) hcp hc hcl
            omega
        · rename_i hnw
          refine fin fun q hq' _ => ?_
          rw [hq'.uniq hq]; omega
      · rename_i hsp
        refine fin fun q hq hs => ?_
        have := hq.lt
        omega
theorem su_ok : ∀ (f : Nat) (ys : List Int) (p : Nat), Hole xs0 s nw ys p → ys.length ≤ p + f → Hole xs0 s nw (suLoop ys f p).1 (suLoop ys f p).2 ∧ (suLoop ys f p).1.length ≤ 2 * (suLoop ys f p).2 + 1
  | 0, ys, p, h, hf => by have := h.plt; omega
  | f + 1, ys, p, h, hf => by
    unfold suLoop
    split
    · rename_i hlt
      simp only []
      have key : ∀ c, Ch p c → c < ys.length → (∀ c', Ch p c' → c' < ys.length → ys.getD c 0 ≤ ys.getD c' 0) → Hole xs0 s nw (suLoop (ys.set p (ys.getD c 0)) f c).1 (suLoop (ys.set p (ys.getD c 0)) f c).2 ∧ (suLoop (ys.set p (ys.getD c 0)) f c).1.length ≤ 2 * (suLoop (ys.set p (ys.getD c 0)) f c).2 + 1 := by
        intro c hc hcl hm
        have := hc.lt
        exact su_ok f _ c (h.down hc hcl hm) (by rw [List.length_set]; omega)
      split
      · rename_i hh
        refine key _ (.inr rfl) hh.1 fun c' hc' hl' => ?_
        rcases hc' with rfl | rfl
        · have := hh.2; omega
        · exact Int.le_refl _
      · rename_i hh
        refine key _ (.inl rfl) hlt fun c' hc' hl' => ?_
        rcases hc' with rfl | rfl
        · exact Int.le_refl _
        · by_cases h1 : ys.getD (2 * p + 1) 0 < ys.getD (2 * p + 2) 0
          · omega
          · exact absurd ⟨hl', h1⟩ hh
    · rename_i hlt
      exact ⟨h, by show ys.length ≤ 2 * p + 1; omega⟩
theorem suF_ok {xs : List Int} (hs : s < xs.length) (hh : HeapFrom xs (s + 1)) : Sifted xs s (suF xs s) := by
  have h0 : Hole xs s (xs.getD s 0) xs s := by
    refine ⟨rfl, hs, fun x => ?_, .refl, fun j i hj hjs his hch hi => hh j i (by omega) hch hi, fun q c hq hsq _ _ => ?_⟩
    · have e : xs.set s (xs.getD s 0) = xs := by
        refine List.ext_getElem? fun i => ?_
        rw [List.getElem?_set]
        split
        · rename_i e; subst e; rw [getD_some hs]
        · rfl
      rw [e]
    · have := hq.lt; omega
  obtain ⟨h1, h2⟩ := su_ok xs.length xs s h0 (by omega)
  unfold suF
  simp only []
  have h3 : Hole xs s (xs.getD s 0) ((suLoop xs xs.length s).1.set (suLoop xs xs.length s).2 (xs.getD s 0)) (suLoop xs xs.length s).2 := by
    have e : ∀ i, i ≠ (suLoop xs xs.length s).2 → ((suLoop xs xs.length s).1.set (suLoop xs xs.length s).2 (xs.getD s 0)).getD i 0 = (suLoop xs xs.length s).1.getD i 0 := fun i hi => by rw [gd_set _ _ _ _ h1.plt, if_neg hi]
    refine ⟨by rw [List.length_set]; exact h1.len, by rw [List.length_set]; exact h1.plt, fun x => by rw [List.set_set]; exact h1.mem x, h1.dsc, fun j i hj hjp hip hch hi => ?_, fun q c hq hsq hc hcl => ?_⟩
    · rw [List.length_set] at hi
      rw [e j hjp, e i hip]; exact h1.edge j i hj hjp hip hch hi
    · rw [List.length_set] at hcl
      rcases hc with hc | hc <;> omega
  refine sd_ok _ _ h3 fun c hc hcl => ?_
  rw [List.length_set] at hcl
  rcases hc with hc | hc <;> omega
theorem hpF_ok : ∀ (j : Nat) (xs : List Int), j ≤ xs.length → HeapFrom xs j → Sifted xs 0 (hpF xs j)
  | 0, xs, _, h => ⟨h, rfl, fun _ => Iff.rfl⟩
  | j + 1, xs, hj, h => by
    obtain ⟨a1, a2, a3⟩ := suF_ok (s := j) (by omega) h
    obtain ⟨b1, b2, b3⟩ := hpF_ok j (suF xs j) (by omega) a1
    rw [hpF]
    exact ⟨b1, b2.trans a2, fun x => (b3 x).trans (a3 x)⟩
theorem heapify_ok (xs : List Int) : Sifted xs 0 (hpF xs (xs.length / 2)) :=
  hpF_ok _ xs (by omega) fun j i hj hch hi => by rcases hch with h | h <;> omega
theorem heap_min {xs : List Int} (h : HeapFrom xs 0) : ∀ i, i < xs.length → xs.getD 0 0 ≤ xs.getD i 0 := by
  intro i
  induction i using Nat.strongRecOn with
  | _ i ih =>
    intro hi
    cases i with
    | zero => exact Int.le_refl _
    | succ i =>
      have hq := Ch.par i
      have := hq.lt
      have h1 := ih (i / 2) (by omega) (by omega)
      have h2 := h (i / 2) (i + 1) (Nat.zero_le _) hq hi
      omega
theorem popF_ok {xs : List Int} (h : HeapFrom xs 0) (hne : xs ≠ []) : HeapFrom (popF xs) 0 ∧ (∀ x, x ∈ popF xs → x ∈ xs) ∧ ∀ x ∈ xs, x = popR xs ∨ x ∈ popF xs := by
  have hpos : 0 < xs.length := List.length_pos_iff.mpr hne
  have hdl : xs.dropLast.length = xs.length - 1 := List.length_dropLast
  have hdg : ∀ i, i < xs.length - 1 → xs.dropLast.getD i 0 = xs.getD i 0 := fun i hi => by
    rw [List.getD_eq_getElem?_getD, List.getD_eq_getElem?_getD, List.getElem?_dropLast, if_pos hi]
  have hlast : xs.getLast?.getD 0 = xs.getD (xs.length - 1) 0 := by rw [List.getLast?_eq_getElem?, List.getD_eq_getElem?_getD]
  unfold popF
  split
  · rename_i he
    have he' : xs.dropLast = [] := by simpa using he
    rw [he'] at hdl
    have h1 : xs.length = 1 := by simp at hdl; omega
    refine ⟨fun j i _ _ hi => absurd hi (Nat.not_lt_zero _), by simp, fun x hx => .inl ?_⟩
    obtain ⟨i, hi, e⟩ := mem_gd.mp hx
    have : i = 0 := by omega
    subst this
    exact e.symm
  · rename_i he
    have hd0 : 0 < xs.dropLast.length := by
      cases hq : xs.dropLast with
      | nil => rw [hq] at he; exact absurd rfl he
      | cons => simp
    have hyl : (xs.dropLast.set 0 (xs.getLast?.getD 0)).length = xs.length - 1 := by rw [List.length_set, hdl]
    have hyg : ∀ i, i < xs.length - 1 → (xs.dropLast.set 0 (xs.getLast?.getD 0)).getD i 0 = if i = 0 then xs.getD (xs.length - 1) 0 else xs.getD i 0 := fun i hi => by
      rw [gd_set _ _ _ _ hd0, hlast, hdg i hi]
    obtain ⟨a1, a2, a3⟩ := suF_ok (s := 0) (xs := xs.dropLast.set 0 (xs.getLast?.getD 0)) (by omega) (fun j i hj hch hi => by
      have hlt := hch.lt
      rw [hyl] at hi
      rw [hyg j (by omega), hyg i hi, if_neg (by omega), if_neg (by omega)]
      exact h j i (Nat.zero_le _) hch (by omega))
    refine ⟨a1, fun x hx => ?_, fun x hx => ?_⟩
    · obtain ⟨i, hi, e⟩ := mem_gd.mp ((a3 x).mp hx)
      rw [hyl] at hi
      rw [hyg i hi] at e
      split at e
      · exact mem_gd.mpr ⟨_, by omega, e⟩
      · exact mem_gd.mpr ⟨_, by omega, e⟩
    · obtain ⟨i, hi, e⟩ := mem_gd.mp hx
      by_cases h0 : i = 0
      · subst h0; exact .inl e.symm
      · right
        refine (a3 x).mpr (mem_gd.mpr ?_)
        by_cases hl : i = xs.length - 1
        · refine ⟨0, by omega, ?_⟩
          rw [hyg 0 (by omega), if_pos rfl, ← hl]; exact e
        · exact ⟨i, by omega, by rw [hyg i (by omega), if_neg h0]; exact e⟩
end
theorem leLoop_ok (orig : List Int) : ∀ (f : Nat) (xs : List Int) (l : Int), xs.length ≤ f → HeapFrom xs 0 → (∀ x ∈ xs, x ∈ orig) → (∀ x ∈ orig, x ∈ xs ∨ x < l) → 0 ≤ l → (∀ k, 0 ≤ k → k < l → k ∈ orig) → IsMex orig (leLoop f xs l)
  | 0, xs, l, hf, hh, h1, h2, h0, h3 => by
    have : xs = [] := List.length_eq_zero_iff.mp (by omega)
    subst this
    refine ⟨h0, fun hl => ?_, h3⟩
    rcases h2 l hl with h | h
    · cases h
    · omega
  | f + 1, xs, l, hf, hh, h1, h2, h0, h3 => by
    unfold leLoop
    split
    · rename_i hc
      obtain ⟨a1, a2, a3⟩ := popF_ok hh hc.1
      have hpos : 0 < xs.length := List.length_pos_iff.mpr hc.1
      have hmem : popR xs ∈ xs := mem_gd.mpr ⟨0, hpos, rfl⟩
      refine leLoop_ok orig f (popF xs) _ (by rw [popF_len]; omega) a1 (fun x hx => h1 x (a2 x hx)) (fun x hx => ?_) ?_ ?_
      · have hr : popR xs ≤ l := hc.2
        rcases h2 x hx with h | h
        · rcases a3 x h with e | h
          · right
            rw [e]
            split
            · rename_i e2; have := eq_of_beq e2; omega
            · rename_i e2
              have : popR xs ≠ l := fun e3 => e2 (by rw [e3]; exact beq_self_eq_true _)
              omega
          · exact .inl h
        · right; split <;> omega
      · split <;> omega
      · intro k hk0 hk
        split at hk
        · rename_i e2
          have := eq_of_beq e2
          by_cases hkl : k = l
          · rw [hkl, ← this]; exact h1 _ hmem
          · exact h3 k hk0 (by omega)
        · exact h3 k hk0 hk
    · rename_i hc
      refine ⟨h0, fun hl => ?_, h3⟩
      rcases h2 l hl with h | h
      · obtain ⟨i, hi, e⟩ := mem_gd.mp h
        apply hc
        refine ⟨fun e0 => (by rw [e0] at h; cases h), ?_⟩
        have := heap_min hh i hi
        omega
      · omega
theorem leastF_mex (xs : List Int) : leastF xs = mexF xs := by
  obtain ⟨a1, a2, a3⟩ := heapify_ok xs
  exact (leLoop_ok xs xs.length _ 0 (by omega) a1 (fun x hx => (a3 x).mp hx) (fun x hx => .inl ((a3 x).mpr hx)) (Int.le_refl _) (fun k h0 h1 => by omega)).uniq (mexF_is xs)
end Mine
end
section
open PySem PySem.W PyProof.Rows
namespace Mine
/-! plain: sorted_list_difference -/
theorem dw_sub (p : Int → Bool) : ∀ l : List Int, (l.dropWhile p).Sublist l
  | [] => List.Sublist.slnil
  | a :: l => by
    rw [List.dropWhile_cons]
    split
    · exact (dw_sub p l).cons a
    · exact List.Sublist.refl _
theorem dw_any (y z : Int) (hz : z ≠ y) : ∀ l : List Int, (l.dropWhile (· == y)).any (· == z) = l.any (· == z)
  | [] => rfl
  | a :: l => by
    rw [List.dropWhile_cons]
    split
    · rename_i e
      have e' : a = y := eq_of_beq e
      rw [dw_any y z hz l, List.any_cons]
      have : (a == z) = false := by rw [e']; simpa using (Ne.symm hz)
      rw [this]; rfl
    · rfl
theorem dw_lt {x : Int} : ∀ {l : List Int}, (∀ y ∈ l, x < y) → l.dropWhile (· == x) = l
  | [], _ => rfl
  | a :: l, h => by
    rw [List.dropWhile_cons, if_neg]
    have := h a (List.mem_cons_self ..)
    simp; omega
theorem sldF_eq : ∀ (n : Nat) (xs ys : List Int), xs.length + ys.length ≤ n → xs.Pairwise (· < ·) → ys.Pairwise (· ≤ ·) → sldF xs ys = xs.filter fun x => !(ys.any (· == x))
  | n, [], ys, _, _, _ => by rw [sldF_nil1]; rfl
  | n, x :: xs, [], _, _, _ => by
    rw [sldF_nil2]
    exact (List.filter_eq_self.mpr fun a _ => rfl).symm
  | 0, x :: xs, y :: ys, h, _, _ => by simp at h
  | n + 1, x :: xs, y :: ys, h, hx, hy => by
    obtain ⟨hx1, hx2⟩ := List.pairwise_cons.mp hx
    obtain ⟨hy1, hy2⟩ := List.pairwise_cons.mp hy
    simp only [List.length_cons] at h
    have hdl := dropWhile_len (· == y) ys
    have hyd : (ys.dropWhile (· == y)).Pairwise (· ≤ ·) := hy2.sublist (dw_sub _ _)
    have cut : ∀ z, z ≠ y → (y :: ys).any (· == z) = (ys.dropWhile (· == y)).any (· == z) := fun z hz => by
      rw [dw_any y z hz, List.any_cons]
      have : (y == z) = false := by simpa using (Ne.symm hz)
      rw [this]; rfl
    rw [sldF_cc, dw_lt hx1]
    split
    · rename_i hlt
      rw [sldF_eq n xs (y :: ys) (by simp; omega) hx2 hy, List.filter_cons]
      have hn : (y :: ys).any (· == x) = false := by
        rw [Bool.eq_false_iff]
        intro ht
        obtain ⟨z, hz, e⟩ := List.any_eq_true.mp ht
        have e' : z = x := eq_of_beq e
        rcases List.mem_cons.mp hz with h1 | h1
        · omega
        · have := hy1 z h1; omega
      rw [hn]; rfl
    · rename_i hlt
      split
      · rename_i hgt
        rw [sldF_eq n (x :: xs) _ (by simp; omega) hx hyd]
        refine List.filter_congr fun z hz => ?_
        rw [cut z]
        rcases List.mem_cons.mp hz with h1 | h1
        · omega
        · have := hx1 z h1; omega
      · rename_i hgt
        have hxy : x = y := by omega
        rw [sldF_eq n xs _ (by omega) hx2 hyd, List.filter_cons]
        have hn : (y :: ys).any (· == x) = true := by rw [List.any_cons, hxy]; simp
        rw [hn]
        simp only [Bool.not_true, Bool.false_eq_true, if_false]
        refine List.filter_congr fun z hz => ?_
        rw [cut z]
        have := hx1 z hz; omega
theorem ups_lt (n : Nat) : (ups n).Pairwise (· < ·) := by
  unfold ups
  rw [List.pairwise_map]
  exact List.pairwise_lt_range.imp fun h => by omega
theorem any_perm {xs ys : List Int} (h : xs.Perm ys) (z : Int) : xs.any (· == z) = ys.any (· == z) := by
  rw [Bool.eq_iff_iff, List.any_eq_true, List.any_eq_true]
  exact ⟨fun ⟨a, b, c⟩ => ⟨a, h.mem_iff.mp b, c⟩, fun ⟨a, b, c⟩ => ⟨a, h.mem_iff.mpr b, c⟩⟩
/-- the first that is lacking -/
theorem lack_mex {met so : List Int} (hp : so.Perm met) (hs : so.Pairwise (· ≤ ·)) : (sldF (ups (met.length + 1)) so).take 1 = [mexF met] := by
  have e : sldF (ups (met.length + 1)) so = mexL met := by
    rw [sldF_eq _ _ _ (Nat.le_refl _) (ups_lt _) hs]
    unfold mexL
    refine List.filter_congr fun z _ => ?_
    rw [any_perm hp]
  rw [e]
  unfold mexF
  cases h : mexL met with
  | nil => exact absurd h (mexL_ne met)
  | cons a r => rfl
/-- what is sorted and holds the same, each once -/
theorem sorted_uniq : ∀ {xs ys : List Int}, xs.Pairwise (· < ·) → ys.Pairwise (· < ·) → (∀ z, z ∈ xs ↔ z ∈ ys) → xs = ys
  | [], [], _, _, _ => rfl
  | [], y :: ys, _, _, h => absurd ((h y).mpr (List.mem_cons_self ..)) (by simp)
  | x :: xs, [], _, _, h => absurd ((h x).mp (List.mem_cons_self ..)) (by simp)
  | x :: xs, y :: ys, hx, hy, h => by
    obtain ⟨hx1, hx2⟩ := List.pairwise_cons.mp hx
    obtain ⟨hy1, hy2⟩ := List.pairwise_cons.mp hy
    have e : x = y := by
      have h1 := (h x).mp (List.mem_cons_self ..)
      have h2 := (h y).mpr (List.mem_cons_self ..)
      rcases List.mem_cons.mp h1 with e | h1
      · exact e
      · rcases List.mem_cons.mp h2 with e | h2
        · exact e.symm
        · have := hx1 y h2; have := hy1 x h1; omega
    subst e
    congr 1
    refine sorted_uniq hx2 hy2 fun z => ?_
    constructor
    · intro hz
      have := hx1 z hz
      rcases List.mem_cons.mp ((h z).mp (.tail _ hz)) with e | h1
      · omega
      · exact h1
    · intro hz
      have := hy1 z hz
      rcases List.mem_cons.mp ((h z).mpr (.tail _ hz)) with e | h1
      · omega
      · exact h1
theorem lt_of_le_nodup {xs : List Int} (h : xs.Pairwise (· ≤ ·)) (hn : xs.Nodup) : xs.Pairwise (· < ·) :=
  (h.and (List.nodup_iff_pairwise_ne.mp hn)).imp fun ⟨a, b⟩ => by omega
theorem sorted_ups {xs ks : List Int} (hp : xs.Perm ks) (hs : xs.Pairwise (· ≤ ·)) (hn : ks.Nodup) (hk : ∀ k, k ∈ ks ↔ 0 ≤ k ∧ k < 16) : xs = ups 16 :=
  sorted_uniq (lt_of_le_nodup hs (hp.symm.nodup hn)) (ups_lt 16) fun z => by
    rw [hp.mem_iff, hk, mem_ups]; rfl
/-! the order of the turns -/
theorem turn_order : ∀ r < 16, ((List.range 16).map fun (t : Nat) => (((r : Nat) : Int) + 5 * (t : Int)).fmod 16).Nodup ∧ ∀ k < 16, ((k : Nat) : Int) ∈ (List.range 16).map fun (t : Nat) => (((r : Nat) : Int) + 5 * (t : Int)).fmod 16 := by decide +kernel
def order (c : Int) : List Int := (List.range 16).map fun (t : Nat) => (c + 5 * (t : Int)).fmod 16
theorem order_eq (c : Int) : order c = (List.range 16).map fun (t : Nat) => ((((c.emod 16).toNat : Nat) : Int) + 5 * (t : Int)).fmod 16 := by
  unfold order
  refine List.map_congr_left fun t _ => ?_
  rw [Int.fmod_eq_emod_of_nonneg _ (by decide), Int.fmod_eq_emod_of_nonneg _ (by decide)]
  have : c.emod 16 = c % 16 := rfl
  rw [this]
  omega
theorem order_lt (c : Int) : (c.emod 16).toNat < 16 := by
  have : c.emod 16 = c % 16 := rfl
  rw [this]; omega
theorem order_nodup (c : Int) : (order c).Nodup := by
  rw [order_eq]; exact (turn_order _ (order_lt c)).1
theorem order_mem (c k : Int) : k ∈ order c ↔ 0 ≤ k ∧ k < 16 := by
  constructor
  · intro h
    unfold order at h
    obtain ⟨t, _, e⟩ := List.mem_map.mp h
    rw [Int.fmod_eq_emod_of_nonneg _ (by decide)] at e
    omega
  · rintro ⟨h0, h1⟩
    rw [order_eq]
    have := (turn_order _ (order_lt c)).2 k.toNat (by omega)
    rwa [Int.toNat_of_nonneg h0] at this
end Mine
end
section
open PySem PySem.W PySem.Calls PyProof.Rows Builtin
namespace Mine
section
variable {pr : Program} {w : World} {s₀ : Shared} {A : Around} {env : Env} {fs : Fs} {σ : Sto} {m mg mb : NsMap} {x name : Str} {v : Value} {pos : Pos} {E : Value → Shared → Prop} {s : Shared} {n : Int} {d a : Addr} {kvs : List (Int × Value)} {ep : Nat} {t : Tok} {V : Value → Fs → Sto → Prop} {P : Value → Prop}
/-- sorted(d), d a dict of int keys -/
theorem Tr.sortedD (hh : A.handled = none) (hs : σ d = some (.imap kvs ep)) (hd : (d == sysModules) = false) (hz : kvs.length < 64) (h : ∀ b vs' xs', σ b = none → IntsAre vs' xs' → xs'.Perm (kvs.map (·.1)) → xs'.Pairwise (· ≤ ·) → V (.ref b) fs (upd σ b (.list vs'))) :
    Tr pr w s₀ A fs σ (call (.builtin "sorted") [.ref d]) V := fun s Q E I q => by
  refine call_function_entry kind_sorted plain_sorted entry_sorted (args_sorted1 _) ?_
  unfold Builtin.«sorted»
  refine wpAny_bind (m := checkCount "sorted" 1 1 _) (wpAny_pure ?_)
  refine wpAny_bind (kdu_collect (A := A.in1) (kdl_dict (knd := intKind pr w) (kvs := kvs) (ep := ep) hd) hh (I.imap (pr := pr) (w := w) hs) (by rw [sizeLine_eq]; omega) fun h' tk acc hk hacc => ?_)
  have hl : acc.toList.length = kvs.length := by rw [Array.length_toList]; exact hacc.1
  have hI : IntsAre acc.toList (kvs.map (·.1)) := by
    have := ints_of_get acc.toList (fun i => ((kvs.map (·.1)).getD i 0)) fun j v hj => by
      obtain ⟨k, x, e, hi⟩ := hacc.2 j v (by simpa using hj)
      obtain ⟨t, rfl⟩ := intKind_is hi
      exact ⟨t, by rw [List.getD_eq_getElem?_getD, List.getElem?_map, e]; rfl⟩
    rw [hl] at this
    have e : (List.range kvs.length).map (fun i => ((kvs.map (·.1)).getD i 0)) = kvs.map (·.1) := by
      refine List.ext_getElem? fun i => ?_
      rw [List.getElem?_map]
      by_cases hi : i < kvs.length
      · rw [List.getElem?_range hi, getD_some' (by rw [List.length_map]; exact hi)]; rfl
      · rw [List.getElem?_eq_none (by simpa using hi), List.getElem?_eq_none (by simpa using hi)]; rfl
    rwa [e] at this
  have I1 := I.grow hk tk
  refine wpAny_bind (wpAny_newList ?_ (by rw [hl, sizeLine_eq]; omega))
  obtain ⟨hn, I2⟩ := I1.push (x := .list acc.toList) (o := seqObj "list" acc.toList.toArray 0) ⟨0, rfl⟩ rfl tk
  refine wpAny_bind (wpAny_holding (wpAny_call_entry slot_list_sort ⟨_, Heap.get?_push_size _ rfl, rfl⟩ entry_list_sort (list_sort_tree (ns := kvs.map (·.1)) (Heap.get?_push_size _ rfl) hI (by omega) fun out ns' a1 a2 a3 => ⟨_, rfl, ?_⟩) (args_list_sort _)))
  refine wpAny_pure ⟨_, rfl, ?_⟩
  dsimp only at hn I2 ⊢
  obtain ⟨e, he⟩ := sortedHeap_at (h := h'.push (seqObj "list" acc.toList.toArray 0)) (a := h'.objs.size) (vs := acc.toList) (n := 0) (out := out) (Heap.get?_push_size _ rfl)
  have I3 := I2.put (x' := .list out.toList) (upd_self ..) (h' := sortedHeap (h'.push (seqObj "list" acc.toList.toArray 0)) h'.objs.size acc.toList out) (fun b o hb e => by rw [sortedHeap_old hb (Heap.lt_size e)]; exact e) he ⟨e, by simp [seqObj]⟩ tk
  rw [upd_upd] at I3
  exact q _ _ _ _ (h _ _ _ hn a1 a2 a3) I3
where
  intKind_is {k : Int} {v : Value} (h : (intKind pr w).is k v = true) : ∃ t, v = .int k t := by
    have h' : Value.isInt k v = true := h
    cases v <;> simp [Value.isInt] at h'
    exact ⟨_, by rw [h']⟩
  getD_some' {xs : List Int} {k : Nat} (h : k < xs.length) : xs[k]? = some (xs.getD k 0) := getD_some h
end
end Mine
end
section
open PySem PySem.W PySem.Calls PyProof.Rows Builtin
namespace Mine
/-! the dict of the worths -/
def wk (ms : List Int) (tk : Int → Tok) (D : List Int) : List (Int × Value) := D.map fun k => (k, Value.int (wo ms k) (tk k))
theorem wk_len (ms : List Int) (tk : Int → Tok) (D : List Int) : (wk ms tk D).length = D.length := by unfold wk; rw [List.length_map]
theorem wk_at {ms : List Int} {tk : Int → Tok} {D : List Int} {n : Int} (h : n ∈ D) : valueAt (wk ms tk D) n = some (.int (wo ms n) (tk n)) := by
  unfold wk
  rw [valueAt_ks (fun k => Value.int (wo ms k) (tk k)), if_pos h]
theorem wk_add {ms : List Int} {tk : Int → Tok} {D : List Int} {n : Int} {t : Tok} (h : n ∉ D) : stored (wk ms tk D) n (.int (wo ms n) t) = wk ms (fun k => if k = n then t else tk k) (D ++ [n]) := by
  unfold wk
  rw [stored_ks (fun k => Value.int (wo ms k) (tk k)) n _ h, List.map_append]
  congr 1
  · refine List.map_congr_left fun k hk => ?_
    have : k ≠ n := by rintro rfl; exact h hk
    simp only [if_neg this]
  · simp
theorem wk_keys (ms : List Int) (tk : Int → Tok) (D : List Int) : (wk ms tk D).map (·.1) = D := by
  unfold wk; rw [List.map_map]; exact List.map_id'' (fun _ => rfl) D
/-- what _law_worths keeps beside the sorter -/
structure Wb (B : Sto) (c W M R : Addr) (mvs rs : List Value) (kvs : List (Int × Value)) : Prop where
  cl : Clean B
  hc : B c = some (.cell (some (.ref W)))
  hW : ∃ ep, B W = some (.imap kvs ep)
  hM : B M = some (.list mvs)
  hR : B R = some (.list rs)
  ne : M ≠ R
section
variable {B : Sto} {c W M R a : Addr} {mvs rs rs' : List Value} {kvs kvs' : List (Int × Value)} {z : AO} {ep : Nat}
theorem Wb.other (h : Wb B c W M R mvs rs kvs) (hz : Pl z) (h1 : c ≠ a) (h2 : W ≠ a) (h3 : M ≠ a) (h4 : R ≠ a) : Wb (upd B a z) c W M R mvs rs kvs :=
  let ⟨ep, hW⟩ := h.hW
  ⟨h.cl.upd hz, (upd_ne h1).trans h.hc, ⟨ep, (upd_ne h2).trans hW⟩, (upd_ne h3).trans h.hM, (upd_ne h4).trans h.hR, h.ne⟩
theorem Wb.new (h : Wb B c W M R mvs rs kvs) (hz : Pl z) (ha : B a = none) : Wb (upd B a z) c W M R mvs rs kvs :=
  let ⟨_, hW⟩ := h.hW
  h.other hz (ne_none h.hc ha) (ne_none hW ha) (ne_none h.hM ha) (ne_none h.hR ha)
theorem Wb.del (h : Wb B c W M R mvs rs kvs) (h1 : c ≠ a) (h2 : W ≠ a) (h3 : M ≠ a) (h4 : R ≠ a) : Wb (Mine.del B a) c W M R mvs rs kvs :=
  let ⟨ep, hW⟩ := h.hW
  have d : ∀ b, b ≠ a → Mine.del B a b = B b := fun b hb => by unfold Mine.del; rw [if_neg hb]
  ⟨h.cl.del, (d _ h1).trans h.hc, ⟨ep, (d _ h2).trans hW⟩, (d _ h3).trans h.hM, (d _ h4).trans h.hR, h.ne⟩
theorem Wb.neCW (h : Wb B c W M R mvs rs kvs) : c ≠ W := let ⟨_, hW⟩ := h.hW; ne_of_sto h.hc hW (by simp)
theorem Wb.neMW (h : Wb B c W M R mvs rs kvs) : M ≠ W := let ⟨_, hW⟩ := h.hW; ne_of_sto h.hM hW (by simp)
theorem Wb.neRW (h : Wb B c W M R mvs rs kvs) : R ≠ W := let ⟨_, hW⟩ := h.hW; ne_of_sto h.hR hW (by simp)
theorem Wb.neCR (h : Wb B c W M R mvs rs kvs) : c ≠ R := ne_of_sto h.hc h.hR (by simp)
theorem Wb.neCM (h : Wb B c W M R mvs rs kvs) : c ≠ M := ne_of_sto h.hc h.hM (by simp)
theorem Wb.setW (h : Wb B c W M R mvs rs kvs) : Wb (upd B W (.imap kvs' ep)) c W M R mvs rs kvs' :=
  ⟨h.cl.upd ⟨by simp, by simp⟩, (upd_ne h.neCW).trans h.hc, ⟨ep, upd_self ..⟩, (upd_ne h.neMW).trans h.hM, (upd_ne h.neRW).trans h.hR, h.ne⟩
theorem Wb.setR (h : Wb B c W M R mvs rs kvs) : Wb (upd B R (.list rs')) c W M R mvs rs' kvs :=
  let ⟨ep, hW⟩ := h.hW
  ⟨h.cl.upd Pl.list, (upd_ne h.neCR).trans h.hc, ⟨ep, (upd_ne (Ne.symm h.neRW)).trans hW⟩, (upd_ne h.ne).trans h.hM, upd_self .., h.ne⟩
end
theorem Sor.delI {B σ : Sto} {x dx N I : Addr} {ad : Ad} {S : Ab} {rd : Value} {po fi : Int} {z : AO} (h : Sor B σ x dx N ad S rd po fi) (hI : B I = some z) : Sor (Mine.del B I) (Mine.del σ I) x dx N ad S rd po fi := by
  have e : upd (Mine.del B I) I z = B := by
    funext b; unfold upd Mine.del
    by_cases hb : b = I
    · subst hb; simp [hI]
    · simp [hb]
  refine Sor.del (z := z) ?_ (by unfold Mine.del; simp)
  rw [e]; exact h
section
variable {pr : Program} {w : World} {s₀ : Shared} {A : Around} {env : Env} {fs : Fs} {σ : Sto} {m mg mb : NsMap} {pos : Pos}
theorem Tr.standBack {t : Sem Value} {W : Value → Fs → Sto → Prop} (h : Tr pr w s₀ A fs σ t W) : Tr pr w s₀ A fs σ (do let v ← t; standAt pos; Pure.pure v) W := fun s _ _ I q =>
  wpAny_bind (h s _ _ I fun v fs' σ' s' hw I' => wpAny_bind (wpAny_standAt (wpAny_pure (q v fs' σ' s' hw I'))))
theorem Tv.bool {e : Expr} {b : Bool} (h : Pv pr w s₀ A env fs σ e (IsB b)) (he : isTrue e env (eval e env) = (do let v ← eval e env; standAt e.pos; holding [v] (truthy v)) := by rfl) : Tv pr w s₀ A env fs σ e b :=
  Tv.val h (fun v hv => by
    have hv' : v = .bool b := hv
    subst hv'
    exact fun s _ _ I q => wpAny_truthy_bool (q _ _ _ _ ⟨rfl, rfl, rfl⟩ I)) he
theorem mth_prep (w : World) : Mth (hd.heap_1 w.params) 165 (Str.ofString "prepare") 120 := ⟨ga165 w, gn165 w, by first | rfl | kernel_rfl, by first | rfl | kernel_rfl, ⟨_, _, _, _, rfl⟩, by first | rfl | kernel_rfl, by first | rfl | kernel_rfl, cl165 w, by decide⟩
theorem mth_act (w : World) : Mth (hd.heap_1 w.params) 165 (Str.ofString "is_active") 134 := ⟨ga165 w, gn165 w, by first | rfl | kernel_rfl, by first | rfl | kernel_rfl, ⟨_, _, _, _, rfl⟩, by first | rfl | kernel_rfl, by first | rfl | kernel_rfl, cl165 w, by decide⟩
theorem mth_ready (w : World) : Mth (hd.heap_1 w.params) 165 (Str.ofString "get_ready") 127 := ⟨ga165 w, gn165 w, by first | rfl | kernel_rfl, by first | rfl | kernel_rfl, ⟨_, _, _, _, rfl⟩, by first | rfl | kernel_rfl, by first | rfl | kernel_rfl, cl165 w, by decide⟩
theorem mth_done (w : World) : Mth (hd.heap_1 w.params) 165 (Str.ofString "done") 148 := ⟨ga165 w, gn165 w, by first | rfl | kernel_rfl, by first | rfl | kernel_rfl, ⟨_, _, _, _, rfl⟩, by first | rfl | kernel_rfl, by first | rfl | kernel_rfl, cl165 w, by decide⟩
theorem mth_add (w : World) : Mth (hd.heap_1 w.params) 165 (Str.ofString "add") 115 := ⟨ga165 w, gn165 w, by first | rfl | kernel_rfl, by first | rfl | kernel_rfl, ⟨_, _, _, _, rfl⟩, by first | rfl | kernel_rfl, by first | rfl | kernel_rfl, cl165 w, by decide⟩
end
theorem cut1 {vs : List Value} {ns : List Int} (h : IntsAre vs ns) : IntsAre (slicePick vs.toArray none (some 1) none).toList (ns.take 1) := kmk_upto h (by decide)
end Mine
end
section
open PySem PySem.W PySem.Calls PyProof.Rows Builtin
namespace Mine
section
variable {pr : Program} {w : World} {s₀ : Shared} {A : Around} {fs : Fs} {σ σb : Sto} {mg mb : NsMap} {V : Value → Fs → Sto → Prop} {x dx N M : Addr} {ad : Ad} {S0 : Ab}
set_option maxHeartbeats 8000000 in
theorem worths_spec (G : Gd w s₀ mg mb) {k : Nat} (O : Ok A fs (k + 5)) (H : Sor σb σ x dx N ad S0 .none 0 0) (hcl : Clean σb) {mvs : List Value} {ms : List Int} (hM : σb M = some (.list mvs)) (hi : IntsAre mvs ms)
    (hms : ∀ m ∈ ms, 1 ≤ m ∧ m ≤ 15) (hl : ms.length ≤ 15) (hk : ∀ k, k ∈ S0.ks ↔ 0 ≤ k ∧ k < 16) (hG : Gr S0 (reachedF ms)) (hnp : ∀ k ∈ S0.ks, S0.np k = (reachedF ms k).length) (hz2 : ∀ k, (S0.sc k).length ≤ 300)
    (h : ∀ D ys σ', σ' D = some (.list ys) → IntsAre ys (cbcN ms 4) → σ' M = some (.list mvs) → V (.ref D) fs σ') : Tr pr w s₀ A fs σ (call (.ref 203) [.ref M, .ref x]) V := by
  have hup : ∀ k ∈ S0.ks, ∀ s ∈ S0.sc k, k < s ∧ s ∈ S0.ks := fun k hk s hs => by
    obtain ⟨h1, h2⟩ := (hG.scIff k hk s).mp hs
    exact ⟨(hG.pdIn s h1 k h2).2, h1⟩
  have hz : S0.ks.length ≤ 16 := by
    have := sub_len S0.ks (ups 16) hG.nd fun k hk' => mem_ups.mpr ((hk k).mp hk')
    rwa [ups_len] at this
  refine Tr.fn (binds := [(Str.ofString "moves", .ref M), (Str.ofString "plan", .ref x)]) G.B G.X rfl rfl O rfl rfl rfl rfl rfl ?_
  intro L σ' hS O' hC
  let ev : Env := O'.env
  obtain ⟨hc0, hc1⟩ := hC (Str.ofString "worths") (L + 1) rfl
  replace hc1 : σ' (L + 1) = some (.cell none) := hc1
  refine Tr.weak ?_ (hS.updL hc1)
  have hcb : σb (L + 1) = none := H.sub.none hc0
  have H1 := H.new (z := .cell none) hc0
  have cl1 : Clean (upd σb (L + 1) (.cell none)) := hcl.upd ⟨by simp, by simp⟩
  have b1c : upd σb (L + 1) (.cell none) (L + 1) = some (.cell none) := upd_self ..
  have b1M : upd σb (L + 1) (.cell none) M = some (.list mvs) := (upd_ne (ne_none hM hcb)).trans hM
  generalize upd σ (L + 1) (.cell none) = σ1 at H1 ⊢
  generalize upd σb (L + 1) (.cell none) = B1 at H1 cl1 b1c b1M
  clear hC hS hc0 hc1 hcb σ'
  refine Tr.absV fun Vf hV => ?_
  refine Tr.assign (W := fun v fs' σ2 => ∃ W m, v = .ref W ∧ fs' = (ev, m) :: fs ∧ m (Str.ofString "moves") = some (.ref M) ∧ m (Str.ofString "plan") = some (.ref x) ∧ σ1 W = none ∧ (W == sysModules) = false ∧ σ2 = upd σ1 W (.imap [] 0)) (Tr.dictNew G fun W hW hs => ⟨W, _, rfl, rfl, rfl, rfl, hW, hs, rfl⟩) ?_
  rintro _ _ _ ⟨W, m, rfl, rfl, m1, m2, hW1, hWs, rfl⟩
  have hWb : B1 W = none := H1.sub.none hW1
  have cW : L + 1 ≠ W := ne_none b1c hWb
  have b2c : upd B1 W (.imap [] 0) (L + 1) = some (.cell none) := (upd_ne cW).trans b1c
  have H2 := (H1.new (z := .imap [] 0) hW1).out (z := .cell (some (.ref W))) b2c
  refine Tr.storeCell (c := L + 1) ((H1.new (z := .imap [] 0) hW1).sub.at b2c) ?_
  have b3c : upd (upd B1 W (.imap [] 0)) (L + 1) (.cell (some (.ref W))) (L + 1) = some (.cell (some (.ref W))) := upd_self ..
  have b3W : upd (upd B1 W (.imap [] 0)) (L + 1) (.cell (some (.ref W))) W = some (.imap [] 0) := (upd_ne (Ne.symm cW)).trans (upd_self ..)
  have b3M : upd (upd B1 W (.imap [] 0)) (L + 1) (.cell (some (.ref W))) M = some (.list mvs) := (upd_ne (ne_of_sto b1M b1c (by simp))).trans ((upd_ne (ne_none b1M hWb)).trans b1M)
  have cl3 : Clean (upd (upd B1 W (.imap [] 0)) (L + 1) (.cell (some (.ref W)))) := (cl1.upd ⟨by simp, by simp⟩).upd ⟨by simp, by simp⟩
  generalize upd (upd σ1 W (.imap [] 0)) (L + 1) (.cell (some (.ref W))) = σ3 at H2 ⊢
  generalize upd (upd B1 W (.imap [] 0)) (L + 1) (.cell (some (.ref W))) = B3 at H2 b3c b3W b3M cl3
  clear H1 b1c b1M cl1 b2c cW hWb hW1
  obtain ⟨t3, u3, hdx3⟩ := H2.hdx
  -- prepare
  refine Tr.expr (W := fun v fs' σ4 => ∃ R rs, fs' = (ev, m) :: fs ∧ B3 R = none ∧ IntsAre rs (readyF S0) ∧ Sor (upd B3 R (.list rs)) σ4 x dx N ad S0 (.ref R) 0 0)
    (Tr.methI0 (pl := _) G (mth_prep w) (Pv.loc (v := .ref x) m2) H2.hx hdx3 rfl (prepare_spec G O'.top H2 cl3 hup (by omega) hz2 fun R rs σ4 hR hrs H4 => ⟨R, rs, rfl, hR, hrs, H4⟩)) ?_
  rintro _ _ σ4 ⟨R, rs, rfl, hR3, hrs, H4⟩
  have b4 : Wb (upd B3 R (.list rs)) (L + 1) W M R mvs rs (wk ms (fun _ => 0) []) :=
    ⟨cl3.upd Pl.list, (upd_ne (ne_none b3c hR3)).trans b3c, ⟨0, (upd_ne (ne_none b3W hR3)).trans b3W⟩, (upd_ne (ne_none b3M hR3)).trans b3M, upd_self .., ne_none b3M hR3⟩
  generalize upd B3 R (.list rs) = B4 at H4 b4
  clear H2 b3c b3W b3M cl3 hR3 hdx3
  -- while
  refine Tr.while (fun n fs' σ' => ∃ m B D Rl S rs tk, fs' = (ev, m) :: fs ∧ m (Str.ofString "moves") = some (.ref M) ∧ m (Str.ofString "plan") = some (.ref x) ∧ Sor B σ' x dx N ad S (.ref R) (D.length : Int) (D.length : Int) ∧ Wb B (L + 1) W M R mvs rs (wk ms tk D) ∧ IntsAre rs Rl ∧ Run S0 S (reachedF ms) D Rl ∧ n = S0.ks.length - D.length) S0.ks.length ?_ ?_
  · exact ⟨m, B4, [], readyF S0, S0, rs, fun _ => 0, rfl, m1, m2, H4, b4, hrs, Run.init hG hnp, rfl⟩
  clear H4 b4 hrs rs m m1 m2 B4
  rintro n _ σ5 ⟨m, B5, D, Rl, S, rs, tk, rfl, m1, m2, H5, b5, hrs, run, rfl⟩
  have hrl : rs.length = Rl.length := hrs.length
  have hDR := run.lenR
  rw [List.length_append] at hDR
  obtain ⟨t5, u5, hdx5⟩ := H5.hdx
  refine ⟨!rs.isEmpty, Tv.bool (Tr.methI0 (pl := _) G (mth_act w) (Pv.loc (v := .ref x) m2) H5.hx hdx5 rfl (active_spec G O'.top H5 b5.hR (by omega) ⟨rfl, rfl, ?_⟩)), fun hb => ?_, fun hb => ?_⟩
  · show Value.bool _ = Value.bool _
    simp
  · -- one round
    refine Tr.absV fun Vw hVw => ?_
    refine Tr.assign (W := fun v fs' σ6 => ∃ T, v = .ref T ∧ fs' = (ev, m) :: fs ∧ B5 T = none ∧ Sor (upd (upd B5 R (.list [])) T (.tup rs)) σ6 x dx N ad (S.outs Rl) (.ref R) ((D.length : Int) + (Rl.length : Int)) (D.length : Int))
      (Tr.methI0 (pl := _) G (mth_ready w) (Pv.loc (v := .ref x) m2) H5.hx hdx5 rfl (ready_spec G O'.top H5 b5.hR hrs (by omega) (fun q hq => by rw [run.ks]; exact ((run.rin q).mp hq).1) fun T σ6 hT H6 => ⟨T, rfl, rfl, hT, H6⟩)) ?_
    rintro _ _ σ6 ⟨T, rfl, rfl, hT5, H6⟩
    refine Tr.store ?_
    have hTR : R ≠ T := ne_none b5.hR hT5
    have b6 : Wb (upd (upd B5 R (.list [])) T (.tup rs)) (L + 1) W M R mvs [] (wk ms tk D) := (b5.setR (rs' := [])).new ⟨by simp, by simp⟩ ((upd_ne (Ne.symm hTR)).trans hT5)
    have b6T : upd (upd B5 R (.list [])) T (.tup rs) T = some (.tup rs) := upd_self ..
    generalize upd (upd B5 R (.list [])) T (.tup rs) = B6 at H6 b6 b6T
    replace m1 : set1 m (Str.ofString "group") (.ref T) (Str.ofString "moves") = some (.ref M) := (set1_ne (by decide)).trans m1
    replace m2 : set1 m (Str.ofString "group") (.ref T) (Str.ofString "plan") = some (.ref x) := (set1_ne (by decide)).trans m2
    have m3 : set1 m (Str.ofString "group") (.ref T) (Str.ofString "group") = some (.ref T) := set1_self ..
    generalize set1 m (Str.ofString "group") (.ref T) = m' at m1 m2 m3 ⊢
    clear H5 b5 hdx5 hT5 B5 σ5 m t5 u5
    refine Tr.forZ (W := Pu ((ev, m') :: fs) σ6 (· = .ref T)) (Pv.loc (v := .ref T) m3) ?_
    first | refine puE ?_ | rintro _ _ σ6 ⟨rfl, rfl, rfl⟩
    refine ⟨rs.length, _, _, _, Sz.tuple O'.handled (H6.sub.at b6T), fun I hI => ?_⟩
    have hI6 : B6 I = none := H6.sub.none hI
    refine ⟨fun i fs1 σ2 => ∃ m B tk, fs1 = (ev, m) :: fs ∧ m (Str.ofString "moves") = some (.ref M) ∧ m (Str.ofString "plan") = some (.ref x) ∧ m (Str.ofString "group") = some (.ref T) ∧ Sor B σ2 x dx N ad (S.outs Rl) (.ref R) ((D.length : Int) + (Rl.length : Int)) (D.length : Int) ∧ Wb B (L + 1) W M R mvs [] (wk ms tk (D ++ Rl.take i)) ∧ B T = some (.tup rs) ∧ B I = some (.rcd "tuple_iterator" #[.ref T, .int i 0]), ?_, ?_, ?_, ?_⟩
    · refine ⟨m', _, tk, rfl, m1, m2, m3, H6.new hI, ?_, (upd_ne (ne_none b6T hI6)).trans b6T, upd_self ..⟩
      rw [List.take_zero, List.append_nil]
      exact b6.new ⟨by simp, by simp⟩ hI6
    · rintro i _ σ7 ⟨m, B, tk, rfl, m1, m2, m3, H7, b7, b7T, b7I⟩
      exact ⟨H7.sub.at b7I, by simpa using H7.sub.at b7T⟩
    · clear m1 m2 m3 m' H6 b6 b6T hI6 hI B6 σ6 tk
      rintro i u _ σ7 hlt hu ⟨m, B7, tk, rfl, m1, m2, m3, H7, b7, b7T, b7I⟩
      obtain ⟨q, hqi, tq, rfl⟩ := ints_take hrs hu
      have hqR : q ∈ Rl := List.mem_of_getElem? hqi
      obtain ⟨hqk, hqD, hq0⟩ := (run.rin q).mp hqR
      have hq16 := (hk q).mp hqk
      have hpdD : ∀ p ∈ reachedF ms q, p ∈ D := rem_zero.mp hq0
      have hqtake : q ∉ D ++ Rl.take i := by
        intro hmem
        rcases List.mem_append.mp hmem with h1 | h1
        · exact hqD h1
        · have hn := run.rnd
          have hlt' : i < Rl.length := (List.getElem?_eq_some_iff.mp hqi).1
          rw [← List.take_append_drop i Rl, List.drop_eq_getElem_cons hlt', (List.getElem?_eq_some_iff.mp hqi).2] at hn
          exact (List.nodup_append.mp hn).2.2 q h1 q (List.mem_cons_self ..) rfl
      obtain ⟨epw, b7W⟩ := b7.hW
      have nI : L + 1 ≠ I ∧ W ≠ I ∧ M ≠ I ∧ R ≠ I ∧ T ≠ I := ⟨ne_of_sto b7.hc b7I (by simp), ne_of_sto b7W b7I (by simp), ne_of_sto b7.hM b7I (by simp), ne_of_sto b7.hR b7I (by simp), ne_of_sto b7T b7I (by simp)⟩
      have H8 := H7.out (z := .rcd "tuple_iterator" #[.ref T, .int ((i + 1 : Nat) : Int) 0]) b7I
      have b8 := b7.other (z := .rcd "tuple_iterator" #[.ref T, .int ((i + 1 : Nat) : Int) 0]) ⟨by simp, by simp⟩ nI.1 nI.2.1 nI.2.2.1 nI.2.2.2.1
      have b8T := (upd_ne (x := .rcd "tuple_iterator" #[.ref T, .int ((i + 1 : Nat) : Int) 0]) nI.2.2.2.2).trans b7T
      have b8I := upd_self B7 I (.rcd "tuple_iterator" #[.ref T, .int ((i + 1 : Nat) : Int) 0])
      generalize upd σ7 I (.rcd "tuple_iterator" #[.ref T, .int ((i + 1 : Nat) : Int) 0]) = σ8 at H8 ⊢
      generalize upd B7 I (.rcd "tuple_iterator" #[.ref T, .int ((i + 1 : Nat) : Int) 0]) = B8 at H8 b8 b8T b8I
      clear H7 b7 b7T b7I b7W nI B7 σ7
      refine Tr.assignName (Tr.store ?_)
      refine Tr.absV fun Vb hVb => ?_
      replace m1 : set1 m (Str.ofString "position") (.int q tq) (Str.ofString "moves") = some (.ref M) := (set1_ne (by decide)).trans m1
      replace m2 : set1 m (Str.ofString "position") (.int q tq) (Str.ofString "plan") = some (.ref x) := (set1_ne (by decide)).trans m2
      replace m3 : set1 m (Str.ofString "position") (.int q tq) (Str.ofString "group") = some (.ref T) := (set1_ne (by decide)).trans m3
      have m4 : set1 m (Str.ofString "position") (.int q tq) (Str.ofString "position") = some (.int q tq) := set1_self ..
      generalize set1 m (Str.ofString "position") (.int q tq) = m' at m1 m2 m3 m4 ⊢
      clear m
      -- met
      refine Tr.compU (W := fun v fs' σ' => ∃ E ys, v = .ref E ∧ fs' = (ev, m') :: fs ∧ σ8 E = none ∧ IntsAre ys (reachedF ms q) ∧ σ' = upd σ8 E (.list ys)) ?_ ?_
      · refine Tr.pcall2 (Pv.g G rfl) (G.isFn rfl) (Pv.loc (v := .ref M) m1) (Pv.loc (v := .int q tq) m4) ?_
        rintro _ _ rfl rfl
        exact reached_spec G O'.top (H8.sub.at b8.hM) hi (by omega) fun E ys hE hys => ⟨E, ys, rfl, rfl, hE, hys, rfl⟩
      rintro _ _ _ ⟨E, ys, rfl, rfl, hE8, hys, rfl⟩
      have H9 := H8.weakS ((Sub.refl σ8).upd (x := .list ys) hE8)
      have h9E : upd σ8 E (.list ys) E = some (.list ys) := upd_self ..
      generalize upd σ8 E (.list ys) = σ9 at H9 h9E ⊢
      have hylen : ys.length = (reachedF ms q).length := hys.length
      have hrlen := reached_len ms q
      refine ⟨ys.length, _, fun j zs => IntsAre zs (((reachedF ms q).take j).map (wo ms)), Src.list O'.handled h9E, by omega, .nil, ?_, ?_⟩
      · intro C σ10 j v zs mm hsub hC1 hP hjn hR hmm
        obtain ⟨p, hp, tp, rfl⟩ := ints_take hys hP
        refine ⟨true, Ts.nil, (fun hb => by cases hb), fun _ => ?_⟩
        obtain ⟨ep8, b8W⟩ := b8.hW
        refine Tr.mono (Pv.ditem (n := p) (v := .int (wo ms p) (tk p)) (Pv.cell (c := L + 1) (v := .ref W) (hsub.at (H9.sub.at b8.hc))) (Pv.nsI hC1 ⟨tp, rfl⟩ hmm) (hsub.at (H9.sub.at b8W)) (wk_at (List.mem_append_left _ (hpdD p (List.mem_of_getElem? hp))))) ?_
        first | refine puE ?_ | rintro _ _ _ ⟨rfl, rfl, rfl⟩
        refine ⟨rfl, rfl, ?_⟩
        show IntsAre _ _
        rw [take_snoc hp, List.map_append]
        exact hR.append (.cons _ _ .nil)
      · intro Dm zs hDm hzs
        replace hzs : IntsAre zs (((reachedF ms q).take ys.length).map (wo ms)) := hzs
        rw [List.take_of_length_le (by omega)] at hzs
        refine ⟨m', fs, rfl, ?_⟩
        have hDm9 : B8 Dm = none := H9.sub.none hDm
        have H10 := H9.new (z := .list zs) hDm
        have b10 := b8.new (z := .list zs) Pl.list hDm9
        have b10T := (upd_ne (x := .list zs) (ne_none b8T hDm9)).trans b8T
        have b10I := (upd_ne (x := .list zs) (ne_none b8I hDm9)).trans b8I
        have b10m := upd_self B8 Dm (.list zs)
        generalize upd σ9 Dm (.list zs) = σ10 at H10 ⊢
        generalize upd B8 Dm (.list zs) = B10 at H10 b10 b10T b10I b10m
        clear H9 H8 h9E b8 b8T b8I hDm hDm9 hE8 B8 σ9 σ8 hylen hys ys E
        replace m1 : set1 m' (Str.ofString "met") (.ref Dm) (Str.ofString "moves") = some (.ref M) := (set1_ne (by decide)).trans m1
        replace m2 : set1 m' (Str.ofString "met") (.ref Dm) (Str.ofString "plan") = some (.ref x) := (set1_ne (by decide)).trans m2
        replace m3 : set1 m' (Str.ofString "met") (.ref Dm) (Str.ofString "group") = some (.ref T) := (set1_ne (by decide)).trans m3
        replace m4 : set1 m' (Str.ofString "met") (.ref Dm) (Str.ofString "position") = some (.int q tq) := (set1_ne (by decide)).trans m4
        have m5 : set1 m' (Str.ofString "met") (.ref Dm) (Str.ofString "met") = some (.ref Dm) := set1_self ..
        generalize set1 m' (Str.ofString "met") (.ref Dm) = m at m1 m2 m3 m4 m5 ⊢
        clear m'
        have hmexq : mexF ((reachedF ms q).map (wo ms)) = wo ms q := coin_mex hms hl hq16.1 hq16.2
        have hzl : zs.length = ((reachedF ms q).map (wo ms)).length := hzs.length
        have hml : ((reachedF ms q).map (wo ms)).length ≤ 15 := by rw [List.length_map]; omega
        generalize hmet : (reachedF ms q).map (wo ms) = met at hzs hmexq hzl hml
        -- worths[position]
        obtain ⟨ep10, b10W⟩ := b10.hW
        refine Tr.assignSub (W₁ := Pu ((ev, m) :: fs) σ10 (IsI (wo ms q))) ?_ ?_
        · refine Tr.pcall1 (Pv.g G rfl) (G.isFn rfl) (Pv.loc (v := .ref Dm) m5) ?_
          first | refine eqE ?_ | rintro _ rfl
          refine least_spec G O'.top (H10.sub.at b10m) hzs (by omega) ?_
          intro v hv
          rw [leastF_mex, hmexq] at hv
          exact ⟨rfl, rfl, hv⟩
        first | refine puI fun t10 => ?_ | rintro _ _ σ10 ⟨rfl, rfl, t10, rfl⟩
        refine (Pv.cell (c := L + 1) (v := .ref W) (H10.sub.at b10.hc)).mono ?_
        first | refine puE ?_ | rintro _ _ σ10 ⟨rfl, rfl, rfl⟩
        refine (Pv.loc (v := .int q tq) m4).mono ?_
        first | refine puE ?_ | rintro _ _ σ10 ⟨rfl, rfl, rfl⟩
        refine setDict (H10.sub.at b10W) (by rw [wk_len, List.length_append, List.length_take]; omega) ?_
        intro ep11
        rw [wk_add hqtake, List.append_assoc, ← take_snoc hqi]
        have H11 := H10.out (z := .imap (wk ms (fun k => if k = q then t10 else tk k) (D ++ Rl.take (i + 1))) ep11) b10W
        have b11 := b10.setW (kvs' := wk ms (fun k => if k = q then t10 else tk k) (D ++ Rl.take (i + 1))) (ep := ep11)
        have b11T := (upd_ne (x := .imap (wk ms (fun k => if k = q then t10 else tk k) (D ++ Rl.take (i + 1))) ep11) (ne_of_sto b10T b10W (by simp))).trans b10T
        have b11I := (upd_ne (x := .imap (wk ms (fun k => if k = q then t10 else tk k) (D ++ Rl.take (i + 1))) ep11) (ne_of_sto b10I b10W (by simp))).trans b10I
        have b11m := (upd_ne (x := .imap (wk ms (fun k => if k = q then t10 else tk k) (D ++ Rl.take (i + 1))) ep11) (ne_of_sto b10m b10W (by simp))).trans b10m
        generalize upd σ10 W (.imap (wk ms (fun k => if k = q then t10 else tk k) (D ++ Rl.take (i + 1))) ep11) = σ11 at H11 ⊢
        generalize upd B10 W (.imap (wk ms (fun k => if k = q then t10 else tk k) (D ++ Rl.take (i + 1))) ep11) = B11 at H11 b11 b11T b11I b11m
        generalize (fun k => if k = q then t10 else tk k) = tk' at b11
        clear H10 b10 b10T b10I b10m b10W ep10 B10 σ10
        -- lacking
        refine Tr.assign (W := fun v fs' σ' => ∃ Mi us, v = .ref Mi ∧ fs' = (ev, m) :: fs ∧ σ' Mi = some (.list us) ∧ (∃ so, IntsAre us (sldF (ups (met.length + 1)) so) ∧ so.Perm met ∧ so.Pairwise (· ≤ ·)) ∧ Sc σ11 σ') ?_ ?_
        · refine Tr.sub (W₁ := fun v fs' σ' => ∃ t Mi U us, v = .ref t ∧ fs' = (ev, m) :: fs ∧ σ' t = some (.tup [.ref Mi, .ref U]) ∧ σ' Mi = some (.list us) ∧ (∃ so, IntsAre us (sldF (ups (met.length + 1)) so) ∧ so.Perm met ∧ so.Pairwise (· ≤ ·)) ∧ Sc σ11 σ')
            (W₂ := fun o iv fs' σ' => ∃ t Mi U us, o = .ref t ∧ IsI ((0 : Nat) : Int) iv ∧ fs' = (ev, m) :: fs ∧ σ' t = some (.tup [.ref Mi, .ref U]) ∧ σ' Mi = some (.list us) ∧ (∃ so, IntsAre us (sldF (ups (met.length + 1)) so) ∧ so.Perm met ∧ so.Pairwise (· ≤ ·)) ∧ Sc σ11 σ') ?_ ?_ ?_
          · refine Tr.call2 (W₁ := fun v fs' σ' => ∃ E us, v = .ref E ∧ fs' = (ev, m) :: fs ∧ σ' E = some (.list us) ∧ IntsAre us (ups (met.length + 1)) ∧ Sub σ11 σ')
              (W₂ := fun v₁ v₂ fs' σ' => ∃ E us F so xs', v₁ = .ref E ∧ v₂ = .ref F ∧ fs' = (ev, m) :: fs ∧ σ' E = some (.list us) ∧ IntsAre us (ups (met.length + 1)) ∧ σ' F = some (.list so) ∧ IntsAre so xs' ∧ xs'.Perm met ∧ xs'.Pairwise (· ≤ ·) ∧ Sub σ11 σ') (Pv.g G rfl) (G.isFn rfl) ?_ ?_ ?_
            · refine Tr.call1 (W := fun v fs' σ' => ∃ E t u v', v = .ref E ∧ fs' = (ev, m) :: fs ∧ σ' E = some (.obj (rangeO 0 ((met.length + 1 : Nat) : Int) 1 t u v')) ∧ Sub σ11 σ') (Pv.b G rfl rfl) (.inr (.inl ⟨_, rfl⟩)) ?_ ?_
              · refine Tr.pcall1 (P₁ := IsI ((met.length + 1 : Nat) : Int)) (Pv.b G rfl rfl) (.inr (.inl ⟨_, rfl⟩)) ?_ ?_
                · refine Tr.mono (Pv.add (a := (zs.length : Int)) (b := 1) (Pv.len (Pv.b G rfl rfl) (Pv.loc (v := .ref Dm) m5) (H11.sub.at b11m) (by omega)) Pv.int) ?_
                  first | refine puI fun t => ?_ | rintro _ _ _ ⟨rfl, rfl, t, rfl⟩
                  exact ⟨rfl, rfl, t, by rw [hzl]; rfl⟩
                · first | refine isE fun t => ?_ | rintro _ ⟨t, rfl⟩
                  exact Tr.range1 fun a u v ha => ⟨a, _, _, _, rfl, rfl, upd_self .., (Sub.refl σ11).upd ha⟩
              · rintro _ _ σ12 ⟨E, t, u, v', rfl, rfl, hE, hsub⟩
                refine Tr.listRange O'.handled hE (by omega) fun b us hb hus => ⟨b, us, rfl, rfl, upd_self .., hus, hsub.upd (hsub.none hb)⟩
            · rintro _ _ σ12 ⟨E, us, rfl, rfl, hE, hus, hsub⟩
              refine Tr.pcall1 (Pv.b G rfl rfl) (.inl ⟨_, rfl⟩) (Pv.loc (v := .ref Dm) m5) ?_
              first | refine eqE ?_ | rintro _ rfl
              refine Tr.sortedL (hsub.at (H11.sub.at b11m)) hzs (by omega) fun F so xs' hF hso hp hs => ?_
              exact ⟨E, us, F, so, xs', rfl, rfl, rfl, (upd_ne (ne_none hE hF)).trans hE, hus, upd_self .., hso, hp, hs, hsub.upd (hsub.none hF)⟩
            · rintro _ _ _ σ12 ⟨E, us, F, so, xs', rfl, rfl, rfl, hE, hus, hF, hso, hp, hs, hsub⟩
              refine sld_spec G O'.top hE hF hus hso (by rw [ups_len]; omega) (by rw [hp.length_eq]; omega) ?_
              intro t Mi U us' σ13 hsc ht hMi hus'
              exact ⟨t, Mi, U, us', rfl, rfl, ht, hMi, ⟨xs', hus', hp, hs⟩, hsub.sc.trans hsc⟩
          · rintro _ _ σ12 ⟨t, Mi, U, us, rfl, rfl, ht, hMi, hs, hsc⟩
            refine (Pv.int (n := 0)).mono ?_
            first | refine puI fun t0 => ?_ | rintro _ _ _ ⟨rfl, rfl, t0, rfl⟩
            exact ⟨t, Mi, U, us, rfl, ⟨t0, rfl⟩, rfl, ht, hMi, hs, hsc⟩
          · rintro _ _ _ σ12 ⟨t, Mi, U, us, rfl, ⟨t0, rfl⟩, rfl, ht, hMi, hs, hsc⟩
            refine ⟨tup_get_ok ht, ⟨_, rfl⟩, (getTup (v := .ref Mi) ht rfl (by show 2 < 2 ^ 62; decide)).mono ?_⟩
            first | refine puE ?_ | rintro _ _ _ ⟨rfl, rfl, rfl⟩
            exact ⟨Mi, us, rfl, rfl, hMi, hs, hsc⟩
        rintro _ _ σ12 ⟨Mi, us, rfl, rfl, hMi, ⟨so, hus, hp, hs⟩, hsc⟩
        refine Tr.store ?_
        have H12 := H11.plain b11.cl fun b y h1 h2 e => hsc b y ⟨h1, h2⟩ e
        replace m1 : set1 m (Str.ofString "lacking") (.ref Mi) (Str.ofString "moves") = some (.ref M) := (set1_ne (by decide)).trans m1
        replace m2 : set1 m (Str.ofString "lacking") (.ref Mi) (Str.ofString "plan") = some (.ref x) := (set1_ne (by decide)).trans m2
        replace m3 : set1 m (Str.ofString "lacking") (.ref Mi) (Str.ofString "group") = some (.ref T) := (set1_ne (by decide)).trans m3
        replace m4 : set1 m (Str.ofString "lacking") (.ref Mi) (Str.ofString "position") = some (.int q tq) := (set1_ne (by decide)).trans m4
        have m6 : set1 m (Str.ofString "lacking") (.ref Mi) (Str.ofString "lacking") = some (.ref Mi) := set1_self ..
        generalize set1 m (Str.ofString "lacking") (.ref Mi) = m' at m1 m2 m3 m4 m6 ⊢
        clear m5 m H11 hsc
        have hlack : (sldF (ups (met.length + 1)) so).take 1 = [wo ms q] := by rw [lack_mex hp hs, hmexq]
        have huslen : us.length = (sldF (ups (met.length + 1)) so).length := hus.length
        have hsldlen : (sldF (ups (met.length + 1)) so).length ≤ met.length + 1 := by
          rw [sldF_eq _ _ _ (Nat.le_refl _) (ups_lt _) hs]
          have := List.length_filter_le (fun x => !(so.any (· == x))) (ups (met.length + 1))
          rw [ups_len] at this; exact this
        refine Tr.iteE (W := fun b fs' σ' => b = false ∧ fs' = (ev, m') :: fs ∧ Sub σ12 σ') ?_ (fun _ _ ⟨hb, _⟩ => by cases hb) ?_
        · refine Tr.cmpT (W₁ := fun v fs' σ' => ∃ b, v = .ref b ∧ fs' = (ev, m') :: fs ∧ σ' b = some (.list (slicePick us.toArray none (some 1) none).toList) ∧ Sub σ12 σ')
            (W₂ := fun v₁ v₂ fs' σ' => ∃ b d t0, v₁ = .ref b ∧ v₂ = .ref d ∧ fs' = (ev, m') :: fs ∧ σ' b = some (.list (slicePick us.toArray none (some 1) none).toList) ∧ σ' d = some (.list [.int (wo ms q) t0]) ∧ Sub σ12 σ') ?_ ?_ ?_
          · exact Tr.sliceG (Pv.loc (v := .ref Mi) m6) hMi Part.no (Part.i Pv.int) Part.no (by simp) (by rw [sizeLine_eq]; omega) fun b hb => ⟨b, rfl, rfl, upd_self .., (Sub.refl σ12).upd hb⟩
          · rintro _ _ σ13 ⟨b, rfl, rfl, hb, hsub⟩
            obtain ⟨ep11', b11W⟩ := b11.hW
            refine Tr.list (W := fun vs fs' σ' => vs = [.int (wo ms q) (tk' q)] ∧ fs' = (ev, m') :: fs ∧ σ' = σ13) (Tr.argsC (Pv.ditem (n := q) (v := .int (wo ms q) (tk' q)) (Pv.cell (c := L + 1) (v := .ref W) (hsub.at (H12.sub.at b11.hc))) (Pv.locI (t := tq) m4) (hsub.at (H12.sub.at b11W)) (wk_at (List.mem_append_right _ (by rw [take_snoc hqi]; simp)))) ?_) ?_
            · first | refine puE ?_ | rintro _ _ _ ⟨rfl, rfl, rfl⟩
              exact Tr.args0 ⟨rfl, rfl, rfl⟩
            · first | refine puE ?_ | rintro _ _ _ ⟨rfl, rfl, rfl⟩
              refine ⟨by simp [sizeLine_eq], fun d hd => ⟨b, d, _, rfl, rfl, rfl, (upd_ne (ne_none hb hd)).trans hb, upd_self .., hsub.upd (hsub.none hd)⟩⟩
          · rintro _ _ _ σ13 ⟨b, d, t0, rfl, rfl, rfl, hb, hd, hsub⟩
            refine (cmp_neInts (by have := O'.units; omega) hb hd (cut1 hus) (.cons _ _ .nil)).mono ?_
            first | refine puE ?_ | rintro _ _ _ ⟨rfl, rfl, rfl⟩
            exact ⟨_, rfl, by rw [hlack]; simp, rfl, hsub⟩
        · rintro _ σ13 ⟨_, rfl, hsub⟩
          refine Tr.nil ?_
          show Tr _ _ _ _ _ _ _ _
          exact Tr.nil (hVb _ _ _ ⟨m', B11, tk', rfl, m1, m2, m3, H12.weakS hsub, b11, b11T, b11I⟩)
    · -- done
      rintro _ σ7 ⟨m, B7, tk', rfl, m1, m2, m3, H7, b7, b7T, b7I⟩
      refine Tr.nil ?_
      show Tr _ _ _ _ _ _ _ _
      obtain ⟨epw, b7W⟩ := b7.hW
      have nI : L + 1 ≠ I ∧ W ≠ I ∧ M ≠ I ∧ R ≠ I ∧ T ≠ I := ⟨ne_of_sto b7.hc b7I (by simp), ne_of_sto b7W b7I (by simp), ne_of_sto b7.hM b7I (by simp), ne_of_sto b7.hR b7I (by simp), ne_of_sto b7T b7I (by simp)⟩
      have H8 := H7.delI b7I
      have b8 := b7.del nI.1 nI.2.1 nI.2.2.1 nI.2.2.2.1
      have b8T : del B7 I T = some (.tup rs) := by unfold del; rw [if_neg nI.2.2.2.2]; exact b7T
      rw [List.take_of_length_le (by omega)] at b8
      generalize del σ7 I = σ8 at H8 ⊢
      generalize del B7 I = B8 at H8 b8 b8T
      obtain ⟨t8, u8, hdx8⟩ := H8.hdx
      refine Tr.expr (W := fun v fs' σ9 => ∃ rs', fs' = (ev, m) :: fs ∧ Sor (upd B8 R (.list rs')) σ9 x dx N ad (Rl.foldl finS (S.outs Rl, [])).1 (.ref R) ((D.length : Int) + (Rl.length : Int)) ((D.length : Int) + (Rl.length : Int)) ∧ IntsAre rs' (Rl.foldl finS (S.outs Rl, [])).2)
        (Tr.methS G (mth_done w) (Pv.loc (v := .ref x) m2) H8.hx hdx8 rfl (W := fun vs fs' σ9 => vs = rs ∧ fs' = (ev, m) :: fs ∧ Sor B8 σ9 x dx N ad (S.outs Rl) (.ref R) ((D.length : Int) + (Rl.length : Int)) (D.length : Int)) ?_ ?_) ?_
      · intro q0 hq0 s Q E Iv qq
        refine args_S (pr := pr) (w := w) (s₀ := s₀) (A := A.deeper ev) (fs := (ev, m) :: fs) (σ := upd σ8 q0 (.obj (methodObj (.ref 148) (.ref x)))) (W := Pu ((ev, m) :: fs) (upd σ8 q0 (.obj (methodObj (.ref 148) (.ref x)))) (· = .ref T)) (VV := fun vs fs' σ9 => vs = rs ∧ fs' = (ev, m) :: fs ∧ σ9 = upd σ8 q0 (.obj (methodObj (.ref 148) (.ref x)))) rfl (Tr.standBack (Pv.loc (v := .ref T) m3)) ?_ s Q E Iv ?_
        · first | refine puE ?_ | rintro _ _ _ ⟨rfl, rfl, rfl⟩
          exact ⟨T, rs, rfl, .inr ((upd_ne (ne_none (H8.sub.at b8T) hq0)).trans (H8.sub.at b8T)), by rw [sizeLine_eq]; omega, rfl, rfl, rfl⟩
        · rintro _ _ _ s' ⟨rfl, rfl, rfl⟩ I'
          exact qq _ _ _ _ ⟨rfl, rfl, H8.weakS ((Sub.refl σ8).upd hq0)⟩ (upd_self ..) I'
      · rintro _ _ σ9 ⟨rfl, rfl, H9⟩
        have hout : (S.outs Rl).ks = S0.ks := (outs_ks S Rl).trans run.ks
        have hsc' : (S.outs Rl).sc = S0.sc := (outs_sc S Rl).trans run.sc
        exact done_spec G O'.top H9 b8.hR (r0 := []) .nil hrs (fun q hq => by rw [hout]; exact ((run.rin q).mp hq).1) (fun k hk' s hs => by rw [hout] at hk' ⊢; rw [hsc'] at hs; exact (hup k hk' s hs).2) (run.pre hG) (by omega) (fun k => by rw [hsc']; exact hz2 k) (by simp) fun σ10 rs' H10 hrs' => ⟨rs', rfl, H10, hrs'⟩
      · rintro _ _ σ9 ⟨rs', rfl, H9, hrs'⟩
        have hne : 0 < Rl.length := by
          rw [← hrl]
          cases rs with
          | nil => cases hb
          | cons => simp
        refine Tr.nil (hVw _ _ _ ⟨S0.ks.length - (D ++ Rl).length, by rw [List.length_append]; omega, m, _, D ++ Rl, _, _, rs', tk', rfl, m1, m2, ?_, b8.setR, hrs', run.step hG, rfl⟩)
        have e : ((D ++ Rl).length : Int) = (D.length : Int) + (Rl.length : Int) := by rw [List.length_append]; omega
        rw [e]; exact H9
  · -- the end
    have hre : rs = [] := by
      cases rs with
      | nil => rfl
      | cons => cases hb
    subst hre
    have hRl : Rl = [] := List.length_eq_zero_iff.mp (by simpa using hrl.symm)
    subst hRl
    refine Tr.nil ?_
    show Tr _ _ _ _ _ _ _ _
    have hall : ∀ k, k ∈ D ↔ 0 ≤ k ∧ k < 16 := fun k => ⟨fun hk' => (hk k).mp (run.sub k hk'), fun hk' => run.all hG (fun k hk'' => ((hk k).mp hk'').1) k ((hk k).mpr hk')⟩
    obtain ⟨ep5, b5W⟩ := b5.hW
    refine Tr.ret (W := fun v fs' σ6 => ∃ Dr ys m, v = .ref Dr ∧ fs' = (ev, m) :: fs ∧ σ6 Dr = some (.list ys) ∧ IntsAre ys (cbcN ms 4) ∧ σ6 M = some (.list mvs)) (Tr.comp (W := fun v fs' σ6 => ∃ F so, v = .ref F ∧ fs' = (ev, m) :: fs ∧ σ5 F = none ∧ IntsAre so (ups 16) ∧ σ6 = upd σ5 F (.list so)) ?_ ?_) ?_
    · refine Tr.pcall1 (Pv.b G rfl rfl) (.inl ⟨_, rfl⟩) (Pv.cell (c := L + 1) (v := .ref W) (H5.sub.at b5.hc)) ?_
      first | refine eqE ?_ | rintro _ rfl
      refine Tr.sortedD O'.handled (H5.sub.at b5W) hWs (by rw [wk_len]; have := run.len; omega) fun F so xs' hF hso hp hs => ?_
      rw [wk_keys] at hp
      rw [sorted_ups hp hs run.dnd hall] at hso
      exact ⟨F, so, rfl, rfl, hF, hso, rfl⟩
    · rintro _ _ _ ⟨F, so, rfl, rfl, hF, hso, rfl⟩
      have H6 := H5.weakS ((Sub.refl σ5).upd (x := .list so) hF)
      have hsl : so.length = 16 := by rw [hso.length, ups_len]
      refine ⟨so.length, _, fun j zs => IntsAre zs (((ups 16).take j).map (wo ms)), Src.list O'.handled (upd_self ..), by omega, .nil, ?_, ?_⟩
      · intro C σ10 j v zs mm hsub hC1 hP hjn hR' hmm
        obtain ⟨p, hp, tp, rfl⟩ := ints_take hso hP
        refine ⟨true, Ts.nil, (fun hb => by cases hb), fun _ => ?_⟩
        refine Tr.mono (Pv.ditem (n := p) (v := .int (wo ms p) (tk p)) (Pv.cell (c := L + 1) (v := .ref W) (hsub.at (H6.sub.at b5.hc))) (Pv.nsI hC1 ⟨tp, rfl⟩ hmm) (hsub.at (H6.sub.at b5W)) (wk_at ((hall p).mpr (mem_ups.mp (List.mem_of_getElem? hp))))) ?_
        first | refine puE ?_ | rintro _ _ _ ⟨rfl, rfl, rfl⟩
        refine ⟨rfl, rfl, ?_⟩
        show IntsAre _ _
        rw [take_snoc hp, List.map_append]
        exact hR'.append (.cons _ _ .nil)
      · intro Dr zs hDr hzs
        replace hzs : IntsAre zs (((ups 16).take so.length).map (wo ms)) := hzs
        rw [List.take_of_length_le (by rw [ups_len]; omega), ← cbc_wo] at hzs
        exact ⟨Dr, zs, m, rfl, rfl, upd_self .., hzs, (upd_ne (ne_none (H6.sub.at b5.hM) hDr)).trans (H6.sub.at b5.hM)⟩
    · rintro _ _ σ6 ⟨Dr, ys, m, rfl, rfl, h1, h2, h3⟩
      exact hV _ _ _ ⟨m, rfl, h Dr ys σ6 h1 h2 h3⟩
end
end Mine
end
section
open PySem PySem.W PySem.Calls PyProof.Rows Builtin
namespace Mine
section
variable {pr : Program} {w : World} {s₀ : Shared} {A : Around} {env : Env} {fs : Fs} {σ : Sto} {m mg mb : NsMap} {pos p : Pos}
/-- l[lo:hi:st], l a list that stood before -/
theorem Tr.sliceB {l : Expr} {lo hi st : Option Expr} {a : Addr} {vs : List Value} {rl ru rs : Option Int} {V : Value → Fs → Sto → Prop} (h1 : Pv pr w s₀ A env fs σ l (· = .ref a)) (hL : s₀.heap.IsList a vs.toArray) (hl : Part pr w s₀ A env fs σ lo rl) (hu : Part pr w s₀ A env fs σ hi ru) (hst : Part pr w s₀ A env fs σ st rs) (h0 : rs ≠ some 0)
    (hz : vs.length ≤ sizeLine) (h : ∀ b, σ b = none → V (.ref b) fs (upd σ b (.list (slicePick vs.toArray rl ru rs).toList))) : Tr pr w s₀ A fs σ (eval (.Subscript l (.Slice lo hi st p) pos) env) V := by
  have hK : ∀ {fs σ s}, Inv s₀ fs σ s → s.heap.IsList a vs.toArray := fun I => by
    obtain ⟨o, ho, hc, n, hd⟩ := hL
    exact ⟨o, I.keep _ _ ho, hc, n, hd⟩
  refine Tr.forget ?_
  refine Tr.sub (W₁ := Pu fs σ (· = .ref a)) (W₂ := fun o i fs' σ' => ∃ sl vl vu vs', o = .ref a ∧ i = .ref sl ∧ fs' = fs ∧ σ sl = none ∧ σ' = upd σ sl (.obj { cls := .type "slice", data := .fields #[vl, vu, vs'] }) ∧ IsPart vl rl ∧ IsPart vu ru ∧ IsPart vs' rs) h1 ?_ ?_
  · first | refine puE ?_ | rintro _ _ _ ⟨rfl, rfl, rfl⟩
    intro s _ _ I q
    refine wpAny_Slice (hl s _ _ I ?_)
    rintro vl _ _ s1 ⟨rfl, rfl, pl⟩ I1
    refine hu s1 _ _ I1 ?_
    rintro vu _ _ s2 ⟨rfl, rfl, pu⟩ I2
    refine hst s2 _ _ I2 ?_
    rintro vs' _ _ s3 ⟨rfl, rfl, ps⟩ I3
    obtain ⟨n, I'⟩ := I3.push (x := .obj { cls := .type "slice", data := .fields #[vl, vu, vs'] }) (o := { cls := .type "slice", data := .fields #[vl, vu, vs'] }) rfl rfl s3.toks
    exact q _ _ _ _ ⟨_, vl, vu, vs', rfl, rfl, rfl, n, rfl, pl, pu, ps⟩ I'
  · rintro _ _ _ _ ⟨sl, vl, vu, vs', rfl, rfl, rfl, hn, rfl, pl, pu, ps⟩
    refine ⟨fun s I => ⟨_, _, (hK I).typeIs, slot_list_getitem.lookup⟩, ?_, ?_⟩
    · cases st with
      | none => exact ⟨_, rfl⟩
      | some => exact ⟨_, rfl⟩
    · intro s _ _ I q
      obtain ⟨o, ho, e⟩ := I.get (upd_self σ sl _)
      obtain rfl : o = _ := e
      refine wpAny_getItem_list_slice (hK I) ⟨_, ho, rfl, rfl⟩ pl pu ps h0 ?_ (by simpa using hz)
      obtain ⟨n2, I'⟩ := I.push (x := .list (slicePick vs.toArray rl ru rs).toList) (o := { cls := .type "list", data := .seq (slicePick vs.toArray rl ru rs) }) ⟨0, by simp⟩ rfl s.toks
      have hn2 : σ s.heap.objs.size = none := by
        cases q' : σ s.heap.objs.size with
        | none => rfl
        | some z =>
          have : upd σ sl (.obj { cls := .type "slice", data := .fields #[vl, vu, vs'] }) s.heap.objs.size = some z := (upd_ne (by rintro rfl; rw [hn] at q'; cases q')).trans q'
          rw [n2] at this; cases this
      refine q _ _ _ _ ⟨_, ?_, h _ hn2⟩ I'
      exact Sub.both ((Sub.refl σ).upd hn)
end
theorem cut12 {vs : List Value} {ns : List Int} (h : IntsAre vs ns) : IntsAre (slicePick vs.toArray none (some 12) none).toList (ns.take 12) := kmk_upto h (by decide)
/-- from the head to the triples -/
theorem head_inv {s₁ s : Shared} {env : Env} {m : NsMap} {h₁ : Heap} (hs : ∃ tk, s = { s₁ with heap := h₁, toks := tk }) (F : Fr s₁.heap s₁.heap.objs.size h₁ m) (hl : env.locals = s₁.heap.objs.size) (hf : env.frame = some env.locals) (hk : env.scope.kind = .function) : Inv s₁ [(env, m)] (fun _ => none) s := by
  obtain ⟨tk, rfl⟩ := hs
  refine ⟨⟨h₁, tk, rfl⟩, F.keep, (fun a x e => by cases e), fun f hf' => ?_, by simp⟩
  obtain rfl := List.mem_singleton.mp hf'
  refine ⟨hf, hk, ?_, rfl, ?_⟩
  · show s₁.heap.get? env.locals = none
    rw [hl]; exact Heap.get?_none_of_le (Nat.le_refl _)
  · show Heap.Ns h₁ env.locals m
    rw [hl]; exact F.ns
theorem head_good {s₁ s' : Shared} {fs : Fs} {σ : Sto} (I : Inv s₁ fs σ s') (hg : s₁.gens = #[]) (cl : Str → Option Addr) (mean : ExcName → Option Value) (args : List WData) : GoodW PySem.Challenge.rw_nq0211_01.row.claim cl mean args s₁ (.ok (.ret (.bool true))) s' := by
  obtain ⟨⟨h, tk, rfl⟩, hk, _⟩ := I
  have hp : PySem.Challenge.rw_nq0211_01.row.claim.post args (.bool true) args = true := by
    show (WShape.has [] (.bool true) .bool && WTm.holds [] (.eq .res (.lit (.bool true))) { args := args, res := some (.bool true), after := args }) = true
    first | with_unfolding_all rfl | kernel_rfl | (simp [WTm.holds, WTm.value, WShape.has])
  exact ⟨.inl ⟨_, .bool true, [], rfl, fun _ => rfl, .bool true, hp, fun _ => ⟨List.nodup_nil, by simp⟩⟩, hk, rfl, hg⟩
end Mine
end
section
open PySem PySem.W PySem.Calls PyProof.Rows Builtin Mine
namespace Mine
theorem head_key {pr : Program} {w : World} {s₁ : Shared} {env : Env} {m : NsMap} {tt : Sem Flow} {s : Shared} {Q : Flow → Shared → Prop} {E : Value → Shared → Prop} (I : Inv s₁ [(env, m)] (fun _ => none) s)
    (h : Ok (callerA.deeper env) [(env, m)] 20 → Tr pr w s₁ (callerA.deeper env) [(env, m)] (fun _ => none) tt (fun f _ _ => f = .ret (.bool true))) (q : ∀ σ fs s', Inv s₁ fs σ s' → Q (.ret (.bool true)) s') : wpAny (model pr w) (callerA.deeper env) tt Q E s :=
  h ⟨by show 1 + claimMargin + 1 + 20 < recursionLimit; decide +kernel, by show 4 + 3 + 20 * 20 + 20 < cLine; decide, rfl, rfl⟩ s Q E I fun f fs σ s' e I' => by subst e; exact q σ fs s' I'
theorem clean0 : Clean (fun _ => none) := fun b y e => by cases e
end Mine
local macro_rules | `(tactic| k_qdec) => `(tactic| decide +kernel)
set_option maxHeartbeats 8000000 in
theorem PySem.Challenge.cw_nq0211_01_holds : PySem.Challenge.rw_nq0211_01.Holds :=
  hd (by
  k_go0
  rename_i w s₀ s₁ mg mb G0 Y fa o pm doc kV ho hg KX X V0 GL T B TE TW z9 z8 M z7 z6 hcd ns hs hlay0 hL1 hr1 hl2 z4 z3 la vs z0 hL ra w1 r0 hI hr hc1 hc0 K0 hD h₁ F N0
  have G : Gd w s₁ mg mb := ⟨⟨GL.g, GL.b, GL.nolimit⟩, KX, GL.builtins⟩
  clear G0 Y ho X V0 T B TE TW M hcd hs hlay0 hL1 hr1 hl2 ra w1 r0 hr hc0 K0 hD N0 KX GL
  have hlen : vs.length = ns.length := hI.length
  have h63 : ns.length ≤ 63 := by omega
  refine head_key (head_inv ⟨_, rfl⟩ F rfl rfl rfl) (fun O => ?_) (fun σ fs s' I' => head_good I' hg _ _ _)
  clear F h₁ hg hc1
  let ev : Env := O.env
  -- cells
  refine Tr.compU (W := fun v fs' σ' => ∃ b m, v = .ref b ∧ fs' = [(ev, m)] ∧ σ' = upd (fun _ => none) b (.list (slicePick vs.toArray none (some 12) none).toList)) ?_ ?_
  · exact Tr.sliceB (Pv.loc (v := .ref la) rfl) hL Part.no (Part.i Pv.int) Part.no (by simp) (by rw [sizeLine_eq]; omega) fun b hb => ⟨b, _, rfl, rfl, rfl⟩
  rintro _ _ _ ⟨b, m, rfl, rfl, rfl⟩
  have hcut := cut12 hI
  have hcl : (ns.take 12).length ≤ 12 := by rw [List.length_take]; omega
  have cl1 : Clean (upd (fun _ => none) b (.list (slicePick vs.toArray none (some 12) none).toList)) := clean0.upd Pl.list
  have h1b : upd (fun _ => none) b (.list (slicePick vs.toArray none (some 12) none).toList) b = some (.list (slicePick vs.toArray none (some 12) none).toList) := upd_self ..
  generalize upd (fun _ => none) b (.list (slicePick vs.toArray none (some 12) none).toList) = σ1 at cl1 h1b ⊢
  generalize (slicePick vs.toArray none (some 12) none).toList = us at hcut h1b ⊢
  generalize ns.take 12 = xs at hcut hcl
  have hul : us.length = xs.length := hcut.length
  refine ⟨us.length, _, fun j zs => ∃ cs, IntsAre zs cs ∧ cs.length ≤ j, Src.list O.handled h1b, by omega, ⟨[], .nil, Nat.le_refl _⟩, ?_, ?_⟩
  · intro C σ2 j v zs mm hsub hC1 hP hjn hR hmm
    obtain ⟨n, hn, tn, rfl⟩ := ints_take hcut hP
    obtain ⟨cs, hcs, hcl⟩ := hR
    refine ⟨true, Ts.nil, (fun hb => by cases hb), fun _ => ?_⟩
    refine Tr.mono (Pv.mod (a := n) (b := 10 ^ (6 : Int).toNat) (Pv.call1 (Pv.b G rfl rfl) (.inr (.inl ⟨_, rfl⟩)) (Pv.ns (v := .int n tn) hC1 hmm) (fun v e => by subst e; exact Tr.intOf)) (Pv.pow Pv.int Pv.int (by decide) (by decide) (by decide +kernel)) (by decide)) ?_
    first | refine puI fun t => ?_ | rintro _ _ _ ⟨rfl, rfl, t, rfl⟩
    exact ⟨rfl, rfl, cs ++ [_], hcs.append (.cons _ _ .nil), by simp; omega⟩
  intro Dc zs hDc hR
  obtain ⟨cs, hcs, hcsl⟩ := hR
  refine ⟨m, [], rfl, ?_⟩
  have cl2 := cl1.upd (a := Dc) (x := .list zs) Pl.list
  have h2c := upd_self σ1 Dc (.list zs)
  generalize upd σ1 Dc (.list zs) = σ2 at cl2 h2c ⊢
  have mc : set1 m (Str.ofString "cells") (.ref Dc) (Str.ofString "cells") = some (.ref Dc) := set1_self ..
  generalize set1 m (Str.ofString "cells") (.ref Dc) = m2 at mc ⊢
  have hcs12 : cs.length ≤ 12 := by omega
  clear cl1 h1b hDc hcut hcl σ1 m
  have hzl : zs.length = cs.length := hcs.length
  -- moves
  refine Tr.assign (W := fun v fs' σ' => ∃ Mv mvs ds, v = .ref Mv ∧ fs' = [(ev, m2)] ∧ σ2 Mv = none ∧ IntsAre mvs (mvF ds) ∧ σ' = upd σ2 Mv (.list mvs)) ?_ ?_
  · refine Tr.pcall1 (Pv.g G rfl) (G.isFn rfl) (Pv.loc (v := .ref Dc) mc) ?_
    first | refine eqE ?_ | rintro _ rfl
    exact moves_spec G O.top h2c hcs (by omega) fun D ys ds hD hys => ⟨D, ys, ds, rfl, rfl, hD, hys, rfl⟩
  rintro _ _ _ ⟨Mv, mvs, ds, rfl, rfl, hMv, hmv, rfl⟩
  refine Tr.store ?_
  have hms : ∀ m ∈ mvF ds, 1 ≤ m ∧ m ≤ 15 := fun m hm => mvF_mem hm
  have hml : (mvF ds).length ≤ 15 := mvF_len ds
  have hmn : (mvF ds).Nodup := List.nodup_iff_pairwise_ne.mpr ((mvF_lt ds).imp fun h => by omega)
  generalize mvF ds = ms at hmv hms hml hmn
  have hmvl : mvs.length = ms.length := hmv.length
  have cl3 := cl2.upd (a := Mv) (x := .list mvs) Pl.list
  have h3c := (upd_ne (x := .list mvs) (ne_none h2c hMv)).trans h2c
  have h3m := upd_self σ2 Mv (.list mvs)
  generalize upd σ2 Mv (.list mvs) = σ3 at cl3 h3c h3m ⊢
  replace mc : set1 m2 (Str.ofString "moves") (.ref Mv) (Str.ofString "cells") = some (.ref Dc) := (set1_ne (by decide)).trans mc
  have mm : set1 m2 (Str.ofString "moves") (.ref Mv) (Str.ofString "moves") = some (.ref Mv) := set1_self ..
  generalize set1 m2 (Str.ofString "moves") (.ref Mv) = m3 at mc mm ⊢
  clear cl2 h2c hMv σ2 m2
  -- plan
  refine Tr.assign (W := fun v fs' σ' => ∃ x dx N, v = .ref x ∧ fs' = [(ev, m3)] ∧ Sor σ3 σ' x dx N ad0 ab0 .none 0 0) ?_ ?_
  · exact Tr.callC0 G (Pv.g G rfl) (kp165 w) (sorter_spec (k := 18) G O.top fun x dx N σ' H => ⟨x, dx, N, rfl, rfl, H⟩)
  rintro _ _ σ4 ⟨x, dx, N, rfl, rfl, H4⟩
  refine Tr.store ?_
  replace mc : set1 m3 (Str.ofString "plan") (.ref x) (Str.ofString "cells") = some (.ref Dc) := (set1_ne (by decide)).trans mc
  replace mm : set1 m3 (Str.ofString "plan") (.ref x) (Str.ofString "moves") = some (.ref Mv) := (set1_ne (by decide)).trans mm
  have mp : set1 m3 (Str.ofString "plan") (.ref x) (Str.ofString "plan") = some (.ref x) := set1_self ..
  generalize set1 m3 (Str.ofString "plan") (.ref x) = m4 at mc mm mp ⊢
  clear m3
  -- the turns
  refine Tr.forZ (W := fun v fs' σ' => ∃ r t u v', v = .ref r ∧ fs' = [(ev, m4)] ∧ σ4 r = none ∧ σ' = upd σ4 r (.obj (rangeO 0 ((16 : Nat) : Int) 1 t u v'))) ?_ ?_
  · refine Tr.pcall1 (P₁ := IsI ((16 : Nat) : Int)) (Pv.b G rfl rfl) (.inr (.inl ⟨_, rfl⟩)) Pv.int ?_
    first | refine isE fun t => ?_ | rintro _ ⟨t, rfl⟩
    exact Tr.range1 fun r u v hr => ⟨r, _, _, _, rfl, rfl, hr, rfl⟩
  rintro _ _ _ ⟨r, t, u, v', rfl, rfl, hr4, rfl⟩
  have H5 := H4.weakS ((Sub.refl σ4).upd (x := .obj (rangeO 0 ((16 : Nat) : Int) 1 t u v')) hr4)
  have h5r := upd_self σ4 r (.obj (rangeO 0 ((16 : Nat) : Int) 1 t u v'))
  generalize upd σ4 r (.obj (rangeO 0 ((16 : Nat) : Int) 1 t u v')) = σ5 at H5 h5r ⊢
  clear H4 hr4 σ4
  have hord : ∀ i : Nat, i < 16 → (order cs.sum)[i]? = some ((cs.sum + 5 * (i : Int)).fmod 16) := fun i hi => by
    unfold order; rw [List.getElem?_map, List.getElem?_range hi]; rfl
  have hordl : (order cs.sum).length = 16 := by unfold order; simp
  have hin : ∀ k, k ∈ order cs.sum ↔ 0 ≤ k ∧ k < 16 := order_mem cs.sum
  have hpd : ∀ k ∈ order cs.sum, (reachedF ms k).Nodup ∧ ∀ p ∈ reachedF ms k, p ∈ order cs.sum ∧ p < k := fun k hk => by
    have hk' := (hin k).mp hk
    refine ⟨reached_nodup hms hmn hk'.1, fun p hp => ?_⟩
    have := reached_in hms hk'.1 hp
    exact ⟨(hin p).mpr (by omega), this.2⟩
  refine ⟨16, _, _, _, Sz.range O.handled h5r (by decide), fun I hI => ?_⟩
  have hI3 : σ3 I = none := H5.sub.none hI
  refine ⟨fun i fs1 σ6 => ∃ m B ad S, fs1 = [(ev, m)] ∧ m (Str.ofString "cells") = some (.ref Dc) ∧ m (Str.ofString "moves") = some (.ref Mv) ∧ m (Str.ofString "plan") = some (.ref x) ∧ Sor B σ6 x dx N ad S .none 0 0 ∧ Clean B ∧ B Dc = some (.list zs) ∧ B Mv = some (.list mvs) ∧ B I = some (.obj (rangeIterO ((0 : Int) + (i : Nat) * 1) (((16 : Nat) : Int) - (i : Nat)) 1)) ∧ Bld S (reachedF ms) ((order cs.sum).take i), ?_, ?_, ?_, ?_⟩
  · refine ⟨m4, _, ad0, ab0, rfl, mc, mm, mp, H5.new hI, cl3.upd ⟨by simp, by simp⟩, (upd_ne (ne_none h3c hI3)).trans h3c, (upd_ne (ne_none h3m hI3)).trans h3m, upd_self .., ?_⟩
    rw [List.take_zero]; exact Bld.nil _
  · rintro i _ σ6 ⟨m, B, ad, S, rfl, mc, mm, mp, H6, cl6, b6c, b6m, b6I, bld⟩
    exact ⟨H6.sub.at b6I, by simp⟩
  · clear mc mm mp m4 H5 h5r cl3 h3c h3m hI hI3 σ3 σ5
    rintro i v _ σ6 hlt ⟨tv, rfl⟩ ⟨m, B6, ad, S, rfl, mc, mm, mp, H6, cl6, b6c, b6m, b6I, bld⟩
    have H7 := H6.out (z := .obj (rangeIterO ((0 : Int) + ((i + 1 : Nat) : Nat) * 1) (((16 : Nat) : Int) - ((i + 1 : Nat) : Nat)) 1)) b6I
    have cl7 := cl6.upd (a := I) (x := .obj (rangeIterO ((0 : Int) + ((i + 1 : Nat) : Nat) * 1) (((16 : Nat) : Int) - ((i + 1 : Nat) : Nat)) 1)) ⟨by simp, by simp⟩
    have b7c := (upd_ne (x := .obj (rangeIterO ((0 : Int) + ((i + 1 : Nat) : Nat) * 1) (((16 : Nat) : Int) - ((i + 1 : Nat) : Nat)) 1)) (ne_of_sto b6c b6I (by simp))).trans b6c
    have b7m := (upd_ne (x := .obj (rangeIterO ((0 : Int) + ((i + 1 : Nat) : Nat) * 1) (((16 : Nat) : Int) - ((i + 1 : Nat) : Nat)) 1)) (ne_of_sto b6m b6I (by simp))).trans b6m
    have b7I := upd_self B6 I (.obj (rangeIterO ((0 : Int) + ((i + 1 : Nat) : Nat) * 1) (((16 : Nat) : Int) - ((i + 1 : Nat) : Nat)) 1))
    generalize upd σ6 I (.obj (rangeIterO ((0 : Int) + ((i + 1 : Nat) : Nat) * 1) (((16 : Nat) : Int) - ((i + 1 : Nat) : Nat)) 1)) = σ7 at H7 ⊢
    generalize upd B6 I (.obj (rangeIterO ((0 : Int) + ((i + 1 : Nat) : Nat) * 1) (((16 : Nat) : Int) - ((i + 1 : Nat) : Nat)) 1)) = B7 at H7 cl7 b7c b7m b7I
    clear H6 cl6 b6c b6m b6I B6 σ6
    refine Tr.assignName (Tr.store ?_)
    refine Tr.absV fun Vb hVb => ?_
    have mt : set1 m (Str.ofString "turn") (.int i tv) (Str.ofString "turn") = some (.int i tv) := set1_self ..
    replace mc : set1 m (Str.ofString "turn") (.int i tv) (Str.ofString "cells") = some (.ref Dc) := (set1_ne (by decide)).trans mc
    replace mm : set1 m (Str.ofString "turn") (.int i tv) (Str.ofString "moves") = some (.ref Mv) := (set1_ne (by decide)).trans mm
    replace mp : set1 m (Str.ofString "turn") (.int i tv) (Str.ofString "plan") = some (.ref x) := (set1_ne (by decide)).trans mp
    generalize set1 m (Str.ofString "turn") (.int i tv) = m5 at mt mc mm mp ⊢
    refine Tr.let (P := IsI ((cs.sum + 5 * (i : Int)).fmod 16)) (Pv.mod (Pv.add (Pv.call1 (Pv.b G rfl rfl) (.inl ⟨_, rfl⟩) (Pv.loc (v := .ref Dc) mc) (fun v e => by subst e; exact Tr.sumL O.handled (H7.sub.at b7c) hcs fun t => ⟨rfl, rfl, t, rfl⟩)) (Pv.mul Pv.int (Pv.locI mt) (IntMulOk.of_left (by decide)))) Pv.int (by decide)) ?_
    first | refine isE fun tq => ?_ | rintro _ ⟨tq, rfl⟩
    have hq := hord i hlt
    have hqm := List.mem_of_getElem? hq
    generalize (cs.sum + 5 * (i : Int)).fmod 16 = q at hq hqm ⊢
    have m6q : set1 m5 (Str.ofString "position") (.int q tq) (Str.ofString "position") = some (.int q tq) := set1_self ..
    replace mc : set1 m5 (Str.ofString "position") (.int q tq) (Str.ofString "cells") = some (.ref Dc) := (set1_ne (by decide)).trans mc
    replace mm : set1 m5 (Str.ofString "position") (.int q tq) (Str.ofString "moves") = some (.ref Mv) := (set1_ne (by decide)).trans mm
    replace mp : set1 m5 (Str.ofString "position") (.int q tq) (Str.ofString "plan") = some (.ref x) := (set1_ne (by decide)).trans mp
    generalize set1 m5 (Str.ofString "position") (.int q tq) = m6 at m6q mc mm mp ⊢
    clear mt m5 m
    obtain ⟨t7, u7, hdx7⟩ := H7.hdx
    have hq16 := (hin q).mp hqm
    have hks : S.ks.length ≤ 16 := by
      have := sub_len S.ks (ups 16) bld.nd fun k hk => mem_ups.mpr (by
        rcases (bld.mem k).mp hk with h1 | ⟨p, h1, h2⟩
        · exact (hin k).mp (List.mem_of_mem_take h1)
        · exact (hin k).mp ((hpd p (List.mem_of_mem_take h1)).2 k h2).1)
      rwa [ups_len] at this
    have hscl : ∀ k, (S.sc k).length ≤ 16 := fun k => by
      rw [bld.sc]
      refine Nat.le_trans (List.length_filter_le _ _) ?_
      rw [List.length_take]; omega
    have hrl := reached_len ms q
    refine Tr.expr (W := fun v fs' σ8 => ∃ ad', fs' = [(ev, m6)] ∧ Sor B7 σ8 x dx N ad' (S.add q (reachedF ms q)) .none 0 0)
      (Tr.methS G (mth_add w) (Pv.loc (v := .ref x) mp) H7.hx hdx7 rfl (W := fun vs fs' σ8 => ∃ rs, vs = .int q tq :: rs ∧ fs' = [(ev, m6)] ∧ IntsAre rs (reachedF ms q) ∧ Sor B7 σ8 x dx N ad S .none 0 0) ?_ ?_) ?_
    · intro q0 hq0 s Q E Iv qq
      have H8 := H7.weakS ((Sub.refl σ7).upd (x := .obj (methodObj (.ref 115) (.ref x))) hq0)
      have h8q := upd_self σ7 q0 (.obj (methodObj (.ref 115) (.ref x)))
      generalize upd σ7 q0 (.obj (methodObj (.ref 115) (.ref x))) = σ8 at H8 h8q Iv qq
      refine args_1S (pr := PySem.Challenge.rw_nq0211_01.row.prog) (w := w) (s₀ := s₁) (A := callerA.deeper ev) (fs := [(ev, m6)]) (σ := σ8) (v₁ := .int q tq) (W := fun v fs' σ9 => ∃ E rs, v = .ref E ∧ fs' = [(ev, m6)] ∧ σ8 E = none ∧ IntsAre rs (reachedF ms q) ∧ σ9 = upd σ8 E (.list rs))
        (VV := fun vs fs' σ9 => ∃ rs, vs = .int q tq :: rs ∧ fs' = [(ev, m6)] ∧ IntsAre rs (reachedF ms q) ∧ Sub σ8 σ9) rfl (Pv.loc (v := .int q tq) m6q) (Tr.standBack (Tr.pcall2 (Pv.g G rfl) (G.isFn rfl) (Pv.loc (v := .ref Mv) mm) (Pv.loc (v := .int q tq) m6q) ?_)) ?_ s Q E Iv ?_
      · rintro _ _ rfl rfl
        exact reached_spec (k := 19) G O.top (H8.sub.at b7m) hmv (by omega) fun E ys hE hys => ⟨E, ys, rfl, rfl, hE, hys, rfl⟩
      · rintro _ _ _ ⟨E, rs, rfl, rfl, hE, hrs, rfl⟩
        have : rs.length = (reachedF ms q).length := hrs.length
        exact ⟨E, rs, rfl, .inl (upd_self ..), by rw [sizeLine_eq]; omega, rs, rfl, rfl, hrs, (Sub.refl σ8).upd hE⟩
      · rintro _ _ σ9 s' ⟨rs, rfl, rfl, hrs, hsub⟩ I'
        exact qq _ _ _ _ ⟨rs, rfl, rfl, hrs, H8.weakS hsub⟩ (hsub.at h8q) I'
    · rintro _ _ σ8 ⟨rs, rfl, rfl, hrs, H8⟩
      exact add_spec (k := 16) G O.top H8 hrs (by omega) (fun k => by have := hscl k; omega) fun ad' σ' H9 => ⟨ad', rfl, H9⟩
    · rintro _ _ σ8 ⟨ad', rfl, H8⟩
      refine Tr.nil (hVb _ _ _ ⟨m6, B7, ad', _, rfl, mc, mm, mp, H8, cl7, b7c, b7m, b7I, ?_⟩)
      rw [take_snoc hq]
      refine bld.add ?_ (hpd q hqm).1
      intro hmem
      have hn := order_nodup cs.sum
      have hlt' : i < (order cs.sum).length := by omega
      rw [← List.take_append_drop i (order cs.sum), List.drop_eq_getElem_cons hlt', (List.getElem?_eq_some_iff.mp hq).2] at hn
      exact (List.nodup_append.mp hn).2.2 q hmem q (List.mem_cons_self ..) rfl
  · -- the end
    clear mc mm mp m4 H5 h5r cl3 h3c h3m hI hI3 σ3 σ5
    rintro _ σ6 ⟨m, B6, ad, S, rfl, mc, mm, mp, H6, cl6, b6c, b6m, b6I, bld⟩
    refine Tr.nil ?_
    show Tr _ _ _ _ _ _ _ _
    have H7 := H6.delI b6I
    have cl7 := cl6.del (a := I)
    have b7m : del B6 I Mv = some (.list mvs) := by unfold del; rw [if_neg (ne_of_sto b6m b6I (by simp))]; exact b6m
    generalize del σ6 I = σ7 at H7 ⊢
    generalize del B6 I = B7 at H7 cl7 b7m
    rw [List.take_of_length_le (by omega)] at bld
    obtain ⟨hks, hgr, hnp⟩ := bld.gr (order_nodup cs.sum) hpd
    refine Tr.ret (W := fun v fs' σ' => v = .bool true) ?_ (fun v _ _ e => by rw [e])
    refine Tr.cmpE (W₁ := fun v fs' σ' => ∃ D ys, v = .ref D ∧ fs' = [(ev, m)] ∧ σ' D = some (.list ys) ∧ IntsAre ys (cbcN ms 4) ∧ σ' Mv = some (.list mvs))
      (W₂ := fun v₁ v₂ fs' σ' => ∃ D ys F us, v₁ = .ref D ∧ v₂ = .ref F ∧ σ' D = some (.list ys) ∧ IntsAre ys (cbcN ms 4) ∧ σ' F = some (.list us) ∧ IntsAre us (cbcN ms 4)) ?_ ?_ ?_
    · refine Tr.pcall2 (Pv.g G rfl) (G.isFn rfl) (Pv.loc (v := .ref Mv) mm) (Pv.loc (v := .ref x) mp) ?_
      rintro _ _ rfl rfl
      exact worths_spec (k := 15) G O.top H7 cl7 b7m hmv hms hml (fun k => (hks k).trans (hin k)) hgr hnp (fun k => by
        rw [bld.sc]
        have := List.length_filter_le (fun s => (reachedF ms s).contains k) (order cs.sum)
        omega) fun D ys σ' h1 h2 h3 => ⟨D, ys, rfl, rfl, h1, h2, h3⟩
    · rintro _ _ σ8 ⟨D, ys, rfl, rfl, h1, h2, h3⟩
      refine Tr.pcall1 (Pv.g G rfl) (G.isFn rfl) (Pv.loc (v := .ref Mv) mm) ?_
      first | refine eqE ?_ | rintro _ rfl
      exact coin_spec (k := 19) G O.top h3 hmv (by omega) fun F us hF hus => ⟨D, ys, F, us, rfl, rfl, (upd_ne (ne_none h1 hF)).trans h1, h2, upd_self .., hus⟩
    · rintro _ _ _ σ8 ⟨D, ys, F, us, rfl, rfl, h1, h2, h3, h4⟩
      refine (cmp_eqInts (by have := O.units; omega) h1 h3 h2 h4).mono ?_
      first | refine puE ?_ | rintro _ _ _ ⟨rfl, rfl, rfl⟩
      show Value.bool _ = Value.bool _
      simp)
end
