import PyProof.Rows.All
import Wide.All
import OpenK.AllK
import Wide.FinOn
import OpenK.XDrive
import OpenK.XGo
import OpenK.KGet
import OpenK.KMore
import KE.KNest
import KE.KNestM
import KE.KLam
import KE.KSortTup
import KE.KSortKey
import KE.KSortAsk
import KE.KCells
import KE.TryInTurn
import PyProof.DictCompW
import PyProof.WalksPairs
import Lean
import PySem.Challenge.RW_in0206_01
set_option Elab.async false
set_option linter.unusedVariables false
set_option linter.unusedSimpArgs false
set_option linter.unnecessarySimpa false
set_option linter.unusedSectionVars false
noncomputable section
section
set_option maxRecDepth 100000
set_option maxHeartbeats 80000000
namespace Mine
open PySem PySem.W PyProof.Rows
theorem said_ok : PySem.Challenge.rw_in0206_01.wellSaid = true := by
  unfold OpenLaw.wellSaid
  repeat' first | with_reducible refine look_both ?_ ?_ | unfold OpenRow.wellSaid | unfold OpenRow.partSaid | unfold looksOpen | unfold OpenScript.wellSaid
  all_goals as_aux_lemma => decide +kernel
noncomputable def viewQ : Program := { PySem.Challenge.pw_in0206_01 with main := { PySem.Challenge.pw_in0206_01.main with body := ((((PySem.Challenge.pw_in0206_01.main.body.eraseIdx 16).eraseIdx 14).eraseIdx 12).eraseIdx 5).eraseIdx 1 } }
local macro_rules | `(tactic| o_law) => `(tactic| refine holds_law said_ok fun said => ?_)
local macro_rules | `(tactic| o_head $H) => `(tactic| (
  refine holds_open (q := viewQ) (loose := []) (Xt := fun s => xlAt viewQ [] s && recOk [] s) (XP := XL viewQ []) (Yf := Hook.obs $H) (Ya := Hook.val $H) (YP := Hook.says $H) (N := 1740) ?hl (Hook.of $H) (Hook.keeps $H) (fun s e => xl_of s (Bool.and_eq_true_iff.mp e).1) XL.keeps (by rfl) (by rfl) (by rfl) (fun s e => recFacts_of (Bool.and_eq_true_iff.mp e).2) (by rfl) (by assumption) (by decide +kernel) ⟨rfl, rfl, rfl, rfl, rfl, by decide +kernel⟩ ?hw ?hc
  case hl => intro w; kernel_rfl))
open_top hd for PySem.Challenge.rw_in0206_01
end Mine
end
section
set_option maxRecDepth 100000
set_option autoImplicit false
namespace Mine
open PySem PySem.Spec PySem.Calls PyProof.Rows PySem.W
noncomputable abbrev Fz := Addr → Option Obj
noncomputable def Le (g g' : Fz) : Prop := ∀ b o, g b = some o → g' b = some o
theorem Le.refl (g : Fz) : Le g g := fun _ _ e => e
theorem Le.trans {a b c : Fz} (x : Le a b) (y : Le b c) : Le a c := fun p o e => y p o (x p o e)
noncomputable def put (g : Fz) (a : Addr) (o : Obj) : Fz := fun b => if b = a then some o else g b
theorem put_self (g : Fz) (a : Addr) (o : Obj) : put g a o a = some o := by simp [put]
theorem put_le {g : Fz} {a : Addr} {o : Obj} (h : g a = none) : Le g (put g a o) := fun b o' e => by
  have hb : b ≠ a := fun q => by rw [q, h] at e; cases e
  simp [put, hb, e]
theorem absP {G : Prop} (h : ∀ Gx : Prop, (G → Gx) → Gx) : G := h G id
structure St (g : Fz) (μ : List (Addr × Obj)) (s0 s : Shared) : Prop where
  same : ∃ h tk, s = { s0 with heap := h, toks := tk }
  frz : ∀ b o, g b = some o → s.heap.get? b = some o
  mu : ∀ p ∈ μ, s.heap.get? p.1 = some p.2
  off : ∀ p ∈ μ, g p.1 = none
  nd : (μ.map (·.1)).Nodup
inductive Rep (a : Addr) (o : Obj) : List (Addr × Obj) → (Obj → List (Addr × Obj)) → Prop
  | head {r : List (Addr × Obj)} : Rep a o ((a, o) :: r) (fun o' => (a, o') :: r)
  | tail {p : Addr × Obj} {r : List (Addr × Obj)} {f : Obj → List (Addr × Obj)} : Rep a o r f → Rep a o (p :: r) (fun o' => p :: f o')
  | app {ν r : List (Addr × Obj)} {f : Obj → List (Addr × Obj)} : Rep a o r f → Rep a o (ν ++ r) (fun o' => ν ++ f o')
  | left {ν r : List (Addr × Obj)} {f : Obj → List (Addr × Obj)} : Rep a o ν f → Rep a o (ν ++ r) (fun o' => f o' ++ r)
theorem Rep.split {a : Addr} {o : Obj} {μ : List (Addr × Obj)} {f : Obj → List (Addr × Obj)} (h : Rep a o μ f) : ∃ pre post, μ = pre ++ (a, o) :: post ∧ ∀ o', f o' = pre ++ (a, o') :: post := by
  induction h with
  | head => exact ⟨[], _, rfl, fun _ => rfl⟩
  | @tail p r f _ ih => obtain ⟨pre, post, e, he⟩ := ih; exact ⟨p :: pre, post, by rw [e]; rfl, fun o' => by show p :: f o' = _; rw [he]; rfl⟩
  | @app ν r f _ ih => obtain ⟨pre, post, e, he⟩ := ih; exact ⟨ν ++ pre, post, by rw [e, List.append_assoc], fun o' => by show ν ++ f o' = _; rw [he, List.append_assoc]⟩
  | @left ν r f _ ih => obtain ⟨pre, post, e, he⟩ := ih; exact ⟨pre, post ++ r, by rw [e]; simp, fun o' => by show f o' ++ r = _; rw [he]; simp⟩
theorem Rep.mem {a : Addr} {o : Obj} {μ : List (Addr × Obj)} {f : Obj → List (Addr × Obj)} (h : Rep a o μ f) : (a, o) ∈ μ := by
  obtain ⟨pre, post, e, _⟩ := h.split; rw [e]; simp
namespace St
variable {g : Fz} {μ : List (Addr × Obj)} {s0 s : Shared} {h' : Heap} {tk : Nat} {a : Addr} {o o' : Obj}
theorem set (x : St g μ s0 s) (kf : ∀ b o, g b = some o → h'.get? b = some o) (km : ∀ p ∈ μ, h'.get? p.1 = some p.2) : St g μ s0 { s with heap := h', toks := tk } :=
  ⟨by obtain ⟨h, t, rfl⟩ := x.same; exact ⟨h', tk, rfl⟩, kf, km, x.off, x.nd⟩
theorem keep (x : St g μ s0 s) (k : ∀ b o, s.heap.get? b = some o → h'.get? b = some o) : St g μ s0 { s with heap := h', toks := tk } :=
  x.set (fun b o e => k b o (x.frz b o e)) fun p hp => k _ _ (x.mu p hp)
theorem tok (x : St g μ s0 s) : St g μ s0 { s with toks := tk } := x.keep (h' := s.heap) fun _ _ e => e
theorem offNone (x : St g μ s0 s) (hn : s.heap.get? a = none) : g a = none := by
  cases q : g a with
  | none => rfl
  | some o => rw [x.frz a o q] at hn; cases hn
theorem newF (x : St g μ s0 s) (k : ∀ b o, s.heap.get? b = some o → h'.get? b = some o) (hn : s.heap.get? a = none) (ha : h'.get? a = some o) : St (put g a o) μ s0 { s with heap := h', toks := tk } := by
  refine ⟨(x.keep (h' := h') (tk := tk) k).same, fun b o' e => ?_, fun p hp => k _ _ (x.mu p hp), fun p hp => ?_, x.nd⟩
  · unfold put at e
    split at e
    · rename_i q; cases e; rw [q]; exact ha
    · exact k _ _ (x.frz b o' e)
  · have hne : p.1 ≠ a := fun q => by rw [← q, x.mu p hp] at hn; cases hn
    simp [put, hne, x.off p hp]
theorem newM (x : St g μ s0 s) (k : ∀ b o, s.heap.get? b = some o → h'.get? b = some o) (hn : s.heap.get? a = none) (ha : h'.get? a = some o) : St g ((a, o) :: μ) s0 { s with heap := h', toks := tk } := by
  refine ⟨(x.keep (h' := h') (tk := tk) k).same, fun b o e => k _ _ (x.frz b o e), fun p hp => ?_, fun p hp => ?_, ?_⟩
  · rcases List.mem_cons.mp hp with rfl | hp
    · exact ha
    · exact k _ _ (x.mu p hp)
  · rcases List.mem_cons.mp hp with rfl | hp
    · exact x.offNone hn
    · exact x.off p hp
  · rw [List.map_cons, List.nodup_cons]
    refine ⟨fun hm => ?_, x.nd⟩
    obtain ⟨p, hp, q⟩ := List.mem_map.mp hm
    have q' : p.1 = a := q
    have := x.mu p hp
    rw [q', hn] at this; cases this
theorem sub {ν : List (Addr × Obj)} (x : St g μ s0 s) (h : ν.Sublist μ) : St g ν s0 s :=
  ⟨x.same, x.frz, fun p hp => x.mu p (h.subset hp), fun p hp => x.off p (h.subset hp), x.nd.sublist (h.map _)⟩
theorem tl {p : Addr × Obj} (x : St g (p :: μ) s0 s) : St g μ s0 s := x.sub (List.sublist_cons_self _ _)
theorem perm {ν : List (Addr × Obj)} (x : St g μ s0 s) (h : μ.Perm ν) : St g ν s0 s :=
  ⟨x.same, x.frz, fun p hp => x.mu p (h.mem_iff.mpr hp), fun p hp => x.off p (h.mem_iff.mpr hp), (h.map (·.1)).nodup_iff.mp x.nd⟩
theorem swap {p q : Addr × Obj} (x : St g (p :: q :: μ) s0 s) : St g (q :: p :: μ) s0 s := x.perm (List.Perm.swap _ _ _)
theorem updH (x : St g ((a, o) :: μ) s0 s) (hs : ∀ b ob, b ≠ a → s.heap.get? b = some ob → h'.get? b = some ob) (ha : h'.get? a = some o') : St g ((a, o') :: μ) s0 { s with heap := h', toks := tk } := by
  have g0 := x.off (a, o) (.head _)
  have nd := x.nd
  rw [List.map_cons, List.nodup_cons] at nd
  refine ⟨by obtain ⟨h, t, rfl⟩ := x.same; exact ⟨h', tk, rfl⟩, fun b ob e => hs b ob (fun q => by subst q; rw [e] at g0; cases g0) (x.frz b ob e), fun p hp => ?_, fun p hp => ?_, by rw [List.map_cons, List.nodup_cons]; exact nd⟩
  · rcases List.mem_cons.mp hp with rfl | hp
    · exact ha
    · exact hs _ _ (fun q => nd.1 (List.mem_map.mpr ⟨p, hp, q⟩)) (x.mu p (.tail _ hp))
  · rcases List.mem_cons.mp hp with rfl | hp
    · exact g0
    · exact x.off p (.tail _ hp)
theorem rep {f : Obj → List (Addr × Obj)} (x : St g μ s0 s) (r : Rep a o μ f) (hs : ∀ b ob, b ≠ a → s.heap.get? b = some ob → h'.get? b = some ob) (ha : h'.get? a = some o') : St g (f o') s0 { s with heap := h', toks := tk } := by
  obtain ⟨pre, post, e, he⟩ := r.split
  rw [e] at x
  rw [he]
  exact ((x.perm List.perm_middle).updH hs ha).perm List.perm_middle.symm
theorem freeze (x : St g ((a, o) :: μ) s0 s) : St (put g a o) μ s0 s := by
  have nd := x.nd
  rw [List.map_cons, List.nodup_cons] at nd
  refine ⟨x.same, fun b ob e => ?_, fun p hp => x.mu p (.tail _ hp), fun p hp => ?_, nd.2⟩
  · unfold put at e
    split at e
    · rename_i q; cases e; rw [q]; exact x.mu (a, o) (.head _)
    · exact x.frz b ob e
  · have hne : p.1 ≠ a := fun q => nd.1 (List.mem_map.mpr ⟨p, hp, q⟩)
    simp [put, hne, x.off p (.tail _ hp)]
theorem freeze_le (x : St g ((a, o) :: μ) s0 s) : Le g (put g a o) := put_le (x.off (a, o) (.head _))
end St
noncomputable def NsO (o : Obj) (m : Str → Option Value) : Prop := ∃ es ep, o.data = .dict es ep ∧ StrKeys es ∧ ∀ x, nsFind es x = m x
noncomputable def upd (m : Str → Option Value) (n : Str) (v : Value) : Str → Option Value := fun y => if y = n then some v else m y
theorem upd_eq (m : Str → Option Value) (n : Str) (v : Value) : upd m n v n = some v := by simp [upd]
theorem NsO.ns {h : Heap} {a : Addr} {o : Obj} {m : Str → Option Value} (x : NsO o m) (e : h.get? a = some o) : h.Ns a m := let ⟨es, ep, r⟩ := x; ⟨o, es, ep, e, r⟩
theorem nsO_of {h : Heap} {a : Addr} {m : Str → Option Value} (x : h.Ns a m) : ∃ o, h.get? a = some o ∧ NsO o m := let ⟨o, es, ep, e, r⟩ := x; ⟨o, e, es, ep, r⟩
noncomputable def Fm (g : Fz) (L : Addr) (m : Str → Option Value) (μ : List (Addr × Obj)) (s0 s : Shared) : Prop := ∃ o, NsO o m ∧ St g ((L, o) :: μ) s0 s
namespace Fm
variable {g : Fz} {L : Addr} {m : Str → Option Value} {μ : List (Addr × Obj)} {s0 s : Shared} {h' : Heap} {tk : Nat} {a : Addr} {o o' : Obj}
theorem ns (x : Fm g L m μ s0 s) : s.heap.Ns L m := let ⟨_, n, x⟩ := x; n.ns (x.mu _ (.head _))
theorem st (x : Fm g L m μ s0 s) : St g μ s0 s := let ⟨_, _, x⟩ := x; x.tl
theorem get (x : Fm g L m μ s0 s) {b : Addr} {ob : Obj} (e : g b = some ob) : s.heap.get? b = some ob := x.st.frz b ob e
theorem gets (x : Fm g L m μ s0 s) {p : Addr × Obj} (e : p ∈ μ) : s.heap.get? p.1 = some p.2 := x.st.mu p e
theorem keep (x : Fm g L m μ s0 s) (k : ∀ b o, s.heap.get? b = some o → h'.get? b = some o) : Fm g L m μ s0 { s with heap := h', toks := tk } := let ⟨o, n, x⟩ := x; ⟨o, n, x.keep k⟩
theorem tok (x : Fm g L m μ s0 s) : Fm g L m μ s0 { s with toks := tk } := let ⟨o, n, x⟩ := x; ⟨o, n, x.tok⟩
theorem newF (x : Fm g L m μ s0 s) (k : ∀ b o, s.heap.get? b = some o → h'.get? b = some o) (hn : s.heap.get? a = none) (ha : h'.get? a = some o) : Fm (put g a o) L m μ s0 { s with heap := h', toks := tk } := let ⟨o, n, x⟩ := x; ⟨o, n, x.newF k hn ha⟩
theorem newM (x : Fm g L m μ s0 s) (k : ∀ b o, s.heap.get? b = some o → h'.get? b = some o) (hn : s.heap.get? a = none) (ha : h'.get? a = some o) : Fm g L m ((a, o) :: μ) s0 { s with heap := h', toks := tk } := let ⟨o, n, x⟩ := x; ⟨o, n, (x.newM k hn ha).swap⟩
theorem tl {p : Addr × Obj} (x : Fm g L m (p :: μ) s0 s) : Fm g L m μ s0 s := let ⟨o, n, x⟩ := x; ⟨o, n, x.swap.tl⟩
theorem perm {ν : List (Addr × Obj)} (x : Fm g L m μ s0 s) (h : μ.Perm ν) : Fm g L m ν s0 s := let ⟨o, n, x⟩ := x; ⟨o, n, x.perm (h.cons _)⟩
theorem rep {f : Obj → List (Addr × Obj)} (x : Fm g L m μ s0 s) (r : Rep a o μ f) (hs : ∀ b ob, b ≠ a → s.heap.get? b = some ob → h'.get? b = some ob) (ha : h'.get? a = some o') : Fm g L m (f o') s0 { s with heap := h', toks := tk } :=
  let ⟨o, n, x⟩ := x; ⟨o, n, x.rep (f := fun o' => (L, o) :: f o') (.tail r) hs ha⟩
theorem freeze (x : Fm g L m ((a, o) :: μ) s0 s) : Fm (put g a o) L m μ s0 s := let ⟨o, n, x⟩ := x; ⟨o, n, x.swap.freeze⟩
theorem freeze_le (x : Fm g L m ((a, o) :: μ) s0 s) : Le g (put g a o) := put_le (x.st.off (a, o) (.head _))
theorem offNone (x : Fm g L m μ s0 s) (hn : s.heap.get? a = none) : g a = none := x.st.offNone hn
theorem setm {m' : Str → Option Value} (x : Fm g L m μ s0 s) (h : ∀ y, m y = m' y) : Fm g L m' μ s0 s := by
  have : m = m' := funext h
  subst this; exact x
theorem told (x : Fm g L m μ s0 s) {n : Str} {v : Value} (h : m n = some v) : Fm g L (upd m n v) μ s0 s := x.setm fun y => by
  unfold upd
  split
  · rename_i e; rw [e, h]
  · rfl
end Fm
theorem size_none (h : Heap) : h.get? h.objs.size = none := by
  cases q : h.get? h.objs.size with
  | none => rfl
  | some o => exact absurd (Heap.lt_size q) (Nat.lt_irrefl _)
theorem push_keeps (h : Heap) (o : Obj) : ∀ b ob, h.get? b = some ob → (h.push o).get? b = some ob := fun _ _ e => Heap.get?_push_of_some _ e
theorem same_keeps {h h' : Heap} {a : Addr} (hs : Heap.SameBut a h h') : ∀ b ob, b ≠ a → h.get? b = some ob → h'.get? b = some ob := fun b _ hb e => (hs.2 b hb).trans e
noncomputable abbrev NoE : Value → Shared → Prop := fun _ _ => False
theorem noE {α : Type} {M : Model} {A : Around} {t : Sem α} {Q : α → Shared → Prop} {E : Value → Shared → Prop} {s : Shared} (h : wpAny M A t Q NoE s) : wpAny M A t Q E s := wpAny_mono h (fun _ _ q => q) fun _ _ q => q.elim
section
variable {M : Model} {A : Around} {E : Value → Shared → Prop} {s0 s : Shared} {env : Env} {g : Fz} {L : Addr} {m : Str → Option Value} {μ : List (Addr × Obj)} {pos : Pos} {n : Str} {v : Value}
theorem r_store {Q : Unit → Shared → Prop} (x : Fm g env.locals m μ s0 s) (hk : env.scope.kind = .function) (hl : env.kindOf n = some .local)
    (h : ∀ s', Fm g env.locals (upd m n v) μ s0 s' → Q () s') : wpAny M A (storeName env n v) Q E s := by
  refine wpAny_storeName_local hl x.ns (fun h' hn hs => h _ ?_) (by rw [hk]; rfl)
  obtain ⟨o', e', n'⟩ := nsO_of hn
  obtain ⟨o, nn, x⟩ := x
  exact ⟨o', n', x.updH (same_keeps hs) e'⟩
theorem r_name {Q : Value → Shared → Prop} (x : Fm g env.locals m μ s0 s) (hv : m n = some v) (h : Q v s) (hk : env.scope.kind = .function := by rfl) (hl : env.kindOf n = some .local := by rfl)
    (hd : (n == ("__debug__" : Str)) = false := by decide) : wpAny M A (eval (.Name n pos) env) Q E s := wpAny_Name (wpAny_loadName_local hk hl x.ns hv h) hd
theorem r_assign {Q : Unit → Shared → Prop} (x : Fm g env.locals m μ s0 s) (h : ∀ s', Fm g env.locals (upd m n v) μ s0 s' → Q () s') (hk : env.scope.kind = .function := by rfl) (hl : env.kindOf n = some .local := by rfl) :
    wpAny M A (assign (.Name n pos) env v) Q E s := wpAny_assign_Name (r_store x hk hl h)
theorem r_int {i : Int} {k : Nat} {Q : Value → Shared → Prop} (x : Fm g L m μ s0 s) (h : ∀ s' t, Fm g L m μ s0 s' → s'.heap = s.heap → Q (.int i t) s') : wpAny M A (eval (.Constant (.int i) k pos) env) Q E s :=
  wpAny_Constant_int (h _ _ x.tok rfl)
theorem r_str {i : Str} {k : Nat} {Q : Value → Shared → Prop} (x : Fm g L m μ s0 s) (h : ∀ s' t, Fm g L m μ s0 s' → s'.heap = s.heap → Q (.str i t) s') : wpAny M A (eval (.Constant (.str i) k pos) env) Q E s :=
  wpAny_Constant_str (h _ _ x.tok rfl)
end
end Mine
end
section
set_option maxRecDepth 100000
set_option autoImplicit false
namespace Mine
open PySem PySem.Spec PySem.Calls PyProof.Rows PySem.W PySem.SeqAt
noncomputable def Lst (g : Fz) (a : Addr) (vs : List Value) : Prop := ∃ n, g a = some (listOf vs.toArray n)
theorem Lst.le {g g' : Fz} {a : Addr} {vs : List Value} (x : Lst g a vs) (k : Le g g') : Lst g' a vs := let ⟨n, e⟩ := x; ⟨n, k _ _ e⟩
theorem Lst.isList {g : Fz} {a : Addr} {vs : List Value} {μ : List (Addr × Obj)} {s0 s : Shared} (x : Lst g a vs) (y : St g μ s0 s) : s.heap.IsList a vs.toArray := let ⟨n, e⟩ := x; ⟨_, y.frz _ _ e, rfl, n, rfl⟩
theorem isListM {g : Fz} {a : Addr} {vs : List Value} {μ : List (Addr × Obj)} {s0 s : Shared} {n : Nat} (y : St g μ s0 s) (x : (a, listOf vs.toArray n) ∈ μ) : s.heap.IsList a vs.toArray := ⟨_, y.mu _ x, rfl, n, rfl⟩
noncomputable def toS : Value → Option Str
  | .str x _ => some x
  | _ => none
theorem toS_eq {v : Value} {x : Str} (h : toS v = some x) : ∃ t, v = .str x t := by
  cases v <;> simp [toS] at h
  exact ⟨_, by rw [h]⟩
noncomputable abbrev Are (vs : List Value) (xs : List Str) : Prop := vs.map toS = xs.map some
theorem Are.length {vs : List Value} {xs : List Str} (h : Are vs xs) : vs.length = xs.length := by have := congrArg List.length h; simpa using this
theorem Are.get {vs : List Value} {xs : List Str} (h : Are vs xs) {i : Nat} {v : Value} (e : vs[i]? = some v) : ∃ x t, xs[i]? = some x ∧ v = .str x t := by
  have h1 : (vs.map toS)[i]? = some (toS v) := by rw [List.getElem?_map, e]; rfl
  rw [h, List.getElem?_map] at h1
  cases q : xs[i]? with
  | none => rw [q] at h1; cases h1
  | some x =>
    rw [q] at h1
    obtain ⟨t, ht⟩ := toS_eq (Option.some.inj h1).symm
    exact ⟨x, t, rfl, ht⟩
theorem Are.at {vs : List Value} {xs : List Str} (h : Are vs xs) {i : Nat} {x : Str} (e : xs[i]? = some x) : ∃ t, vs[i]? = some (.str x t) := by
  have hl : i < vs.length := by rw [h.length]; exact (List.getElem?_eq_some_iff.mp e).1
  refine absP fun Gx hGx => ?_
  obtain ⟨y, t, hy, hv⟩ := h.get (List.getElem?_eq_getElem hl)
  refine hGx ?_
  rw [e] at hy; cases hy
  exact ⟨t, by rw [List.getElem?_eq_getElem hl, hv]⟩
theorem Are.append {vs ws : List Value} {xs ys : List Str} (h : Are vs xs) (k : Are ws ys) : Are (vs ++ ws) (xs ++ ys) := by simp [Are, h, k]
theorem Are.take {vs : List Value} {xs : List Str} (h : Are vs xs) (k : Nat) : Are (vs.take k) (xs.take k) := by unfold Are at *; rw [List.map_take, h, List.map_take]
theorem Are.drop {vs : List Value} {xs : List Str} (h : Are vs xs) (k : Nat) : Are (vs.drop k) (xs.drop k) := by unfold Are at *; rw [List.map_drop, h, List.map_drop]
theorem Are.one (x : Str) (t : Tok) : Are [.str x t] [x] := rfl
theorem Are.mem {vs : List Value} {xs : List Str} (h : Are vs xs) {v : Value} (e : v ∈ vs) : ∃ x t, x ∈ xs ∧ v = .str x t := by
  refine absP fun Gx hGx => ?_
  obtain ⟨i, hi, rfl⟩ := List.getElem_of_mem e
  refine hGx ?_
  refine absP fun Gx hGx => ?_
  obtain ⟨x, t, hx, hv⟩ := h.get (List.getElem?_eq_getElem hi)
  refine hGx ?_
  exact ⟨x, t, List.mem_of_getElem? hx, hv⟩
noncomputable def Sl (g : Fz) (a : Addr) (xs : List Str) : Prop := ∃ vs, Lst g a vs ∧ Are vs xs
theorem Sl.le {g g' : Fz} {a : Addr} {xs : List Str} (x : Sl g a xs) (k : Le g g') : Sl g' a xs := let ⟨vs, e, r⟩ := x; ⟨vs, e.le k, r⟩
inductive Rows (P : Value → List Str → Prop) : List Value → List (List Str) → Prop
  | nil : Rows P [] []
  | cons {v : Value} {vs : List Value} {x : List Str} {xs : List (List Str)} : P v x → Rows P vs xs → Rows P (v :: vs) (x :: xs)
section
variable {P P' : Value → List Str → Prop} {vs ws : List Value} {xs ys : List (List Str)}
theorem Rows.mono (h : Rows P vs xs) (k : ∀ v x, P v x → P' v x) : Rows P' vs xs := by
  induction h with
  | nil => exact .nil
  | cons a _ ih => exact .cons (k _ _ a) ih
theorem Rows.length (h : Rows P vs xs) : vs.length = xs.length := by
  induction h with
  | nil => rfl
  | cons _ _ ih => simp [ih]
theorem Rows.append (h : Rows P vs xs) (k : Rows P ws ys) : Rows P (vs ++ ws) (xs ++ ys) := by
  induction h with
  | nil => exact k
  | cons a _ ih => exact .cons a ih
theorem Rows.get (h : Rows P vs xs) {i : Nat} {v : Value} (e : vs[i]? = some v) : ∃ x, xs[i]? = some x ∧ P v x := by
  induction h generalizing i with
  | nil => simp at e
  | @cons v' vs' x' xs' a _ ih =>
    cases i with
    | zero => simp at e; subst e; exact ⟨x', rfl, a⟩
    | succ i => exact ih (by simpa using e)
theorem Rows.at (h : Rows P vs xs) {i : Nat} {x : List Str} (e : xs[i]? = some x) : ∃ v, vs[i]? = some v ∧ P v x := by
  have hl : i < vs.length := by rw [h.length]; exact (List.getElem?_eq_some_iff.mp e).1
  refine absP fun Gx hGx => ?_
  obtain ⟨y, hy, p⟩ := h.get (List.getElem?_eq_getElem hl)
  refine hGx ?_
  rw [e] at hy; cases hy
  exact ⟨_, List.getElem?_eq_getElem hl, p⟩
theorem Rows.mem (h : Rows P vs xs) {v : Value} (e : v ∈ vs) : ∃ x, x ∈ xs ∧ P v x := by
  refine absP fun Gx hGx => ?_
  obtain ⟨i, hi, rfl⟩ := List.getElem_of_mem e
  refine hGx ?_
  refine absP fun Gx hGx => ?_
  obtain ⟨x, hx, p⟩ := h.get (List.getElem?_eq_getElem hi)
  refine hGx ?_
  exact ⟨x, List.mem_of_getElem? hx, p⟩
end
noncomputable def IsRow (g : Fz) (v : Value) (x : List Str) : Prop := ∃ a, v = .ref a ∧ Sl g a x
theorem IsRow.le {g g' : Fz} (k : Le g g') (v : Value) (x : List Str) (h : IsRow g v x) : IsRow g' v x := let ⟨a, e, r⟩ := h; ⟨a, e, r.le k⟩
noncomputable def Ll (g : Fz) (a : Addr) (xs : List (List Str)) : Prop := ∃ vs, Lst g a vs ∧ Rows (IsRow g) vs xs
theorem Ll.le {g g' : Fz} {a : Addr} {xs : List (List Str)} (x : Ll g a xs) (k : Le g g') : Ll g' a xs := let ⟨vs, e, r⟩ := x; ⟨vs, e.le k, r.mono (IsRow.le k)⟩
theorem all_range_eq {xs ys : List Str} (h : xs.length = ys.length) : ((List.range xs.length).all fun j => xs.getD j Str.empty == ys.getD j Str.empty) = (xs == ys) := by
  induction xs generalizing ys with
  | nil => cases ys with
    | nil => rfl
    | cons _ _ => simp at h
  | cons x xs ih => cases ys with
    | nil => simp at h
    | cons y ys =>
      have h' : xs.length = ys.length := by simpa using h
      rw [List.length_cons, List.range_succ_eq_map, List.all_cons, List.all_map]
      have e := ih h'
      show (x == y && _) = (x :: xs == y :: ys)
      rw [List.cons_beq_cons, ← e]
      congr 1
section
variable {A : Around} {g : Fz} {μ : List (Addr × Obj)} {s0 s : Shared}
theorem eq_strs {a b : Addr} {xs ys : List Str} (hu : A.units < cLine) (ha : ∃ vs, s.heap.IsList a vs.toArray ∧ Are vs xs) (hb : ∃ vs, s.heap.IsList b vs.toArray ∧ Are vs ys) : RcAt A s (.ref a) (.ref b) (xs == ys) := by
  refine absP fun Gx hGx => ?_
  obtain ⟨vs, hl, hx⟩ := ha
  refine hGx ?_
  refine absP fun Gx hGx => ?_
  obtain ⟨ws, hw, hy⟩ := hb
  refine hGx ?_
  by_cases h : xs.length = ys.length
  · have hsz : vs.toArray.size = ws.toArray.size := by simp [hx.length, hy.length, h]
    have := RcAt.lists (e := fun j => xs.getD j Str.empty == ys.getD j Str.empty) hl hw hsz hu fun j h1 h2 => ?_
    · have e : vs.toArray.size = xs.length := by simp [hx.length]
      rw [e, all_range_eq h] at this
      exact this
    · have h1' : j < vs.length := by simpa using h1
      have h2' : j < ws.length := by simpa using h2
      refine absP fun Gx hGx => ?_
      obtain ⟨x, t, ex, ev⟩ := hx.get (List.getElem?_eq_getElem h1')
      refine hGx ?_
      refine absP fun Gx hGx => ?_
      obtain ⟨y, u, ey, ew⟩ := hy.get (List.getElem?_eq_getElem h2')
      refine hGx ?_
      have : xs.getD j Str.empty = x := by simp [List.getD, ex]
      have : ys.getD j Str.empty = y := by simp [List.getD, ey]
      simp only [List.getElem_toArray, ev, ew, *]
      exact EqAt.str_str _ _ _ _
  · have hne : (vs.toArray.size != ws.toArray.size) = true := by simp [hx.length, hy.length, h]
    have hf : (xs == ys) = false := by
      cases q : xs == ys with
      | false => rfl
      | true => exact absurd (congrArg List.length (eq_of_beq q)) h
    rw [hf]
    exact RcAt.lists_lengths hl hw hne hu
end
end Mine
end
section
set_option maxRecDepth 100000
set_option autoImplicit false
namespace Mine
open PySem PySem.Spec PySem.Calls PyProof.Rows PySem.W PySem.SeqAt
theorem St.dropH {g : Fz} {μ : List (Addr × Obj)} {s0 s : Shared} {h' : Heap} {tk : Nat} {a : Addr} {o : Obj} (x : St g ((a, o) :: μ) s0 s) (hs : ∀ b ob, b ≠ a → s.heap.get? b = some ob → h'.get? b = some ob) :
    St g μ s0 { s with heap := h', toks := tk } := by
  have g0 := x.off (a, o) (.head _)
  have nd := x.nd
  rw [List.map_cons, List.nodup_cons] at nd
  exact ⟨by obtain ⟨h, t, rfl⟩ := x.same; exact ⟨h', tk, rfl⟩, fun b ob e => hs b ob (fun q => by subst q; rw [e] at g0; cases g0) (x.frz b ob e),
    fun p hp => hs _ _ (fun q => nd.1 (List.mem_map.mpr ⟨p, hp, q⟩)) (x.mu p (.tail _ hp)), fun p hp => x.off p (.tail _ hp), nd.2⟩
theorem Fm.drop1 {g : Fz} {L : Addr} {m : Str → Option Value} {μ : List (Addr × Obj)} {s0 s : Shared} {h' : Heap} {tk : Nat} {a : Addr} {o : Obj} (x : Fm g L m ((a, o) :: μ) s0 s)
    (hs : ∀ b ob, b ≠ a → s.heap.get? b = some ob → h'.get? b = some ob) : Fm g L m μ s0 { s with heap := h', toks := tk } := let ⟨ol, n, x⟩ := x; ⟨ol, n, x.swap.dropH hs⟩
inductive Nx (s0 : Shared) (L I : Addr) (oI : Obj) (g' : Fz) (Jn : Fz → (Str → Option Value) → List (Addr × Obj) → Prop) (s : Shared) : Prop
  | mk (g2 : Fz) (m2 : Str → Option Value) (μ2 : List (Addr × Obj)) (le : Le g' g2) (j : Jn g2 m2 μ2) (x : Fm g2 L m2 ((I, oI) :: μ2) s0 s) : Nx s0 L I oI g' Jn s
inductive Nc (s0 : Shared) (C I D L : Addr) (oI oD oL : Obj) (g' : Fz) (Jn : Fz → List (Addr × Obj) → Prop) (s : Shared) : Prop
  | mk (g2 : Fz) (m2 : Str → Option Value) (μ2 : List (Addr × Obj)) (le : Le g' g2) (j : Jn g2 μ2) (x : Fm g2 C m2 ((I, oI) :: (D, oD) :: (L, oL) :: μ2) s0 s) : Nc s0 C I D L oI oD oL g' Jn s
inductive FInv (n : Nat) (g : Fz) (J : Nat → Fz → (Str → Option Value) → List (Addr × Obj) → Prop) (s0 : Shared) (L I : Addr) (Stt : Nat → Heap → Prop) (k : Nat) (s' : Shared) : Prop
  | mk (i : Nat) (g' : Fz) (m' : Str → Option Value) (μ' : List (Addr × Obj)) (oI' : Obj) (hi : i ≤ n) (e : k = n + 1 - i) (le : Le g g') (j : J i g' m' μ') (x : Fm g' L m' ((I, oI') :: μ') s0 s') (st : Stt i s'.heap) : FInv n g J s0 L I Stt k s'
inductive CInv (n : Nat) (g : Fz) (J : Nat → List Value → Fz → List (Addr × Obj) → Prop) (s0 : Shared) (C I D L : Addr) (oL : Obj) (Stt : Nat → Heap → Prop) (k : Nat) (s' : Shared) : Prop
  | mk (i : Nat) (ys : List Value) (g' : Fz) (μ' : List (Addr × Obj)) (mC : Str → Option Value) (oI' : Obj) (nD : Nat) (hi : i ≤ n) (hys : ys.length ≤ i) (e : k = n + 1 - i) (le : Le g g') (j : J i ys g' μ') (x : Fm g' C mC ((I, oI') :: (D, listOf ys.toArray nD) :: (L, oL) :: μ') s0 s') (st : Stt i s'.heap) : CInv n g J s0 C I D L oL Stt k s'
section
variable {prog : Program} {w : World} {A : Around} {E : Value → Shared → Prop} {s0 s : Shared} {env : Env} {g : Fz} {L : Addr} {m : Str → Option Value} {μ : List (Addr × Obj)} {pos : Pos} {n : Str} {v : Value}
theorem for_walk {R : Result → Shared → Prop} {target : Expr} {body orelse : List Stmt} {I : Addr} {fp : List Addr} {n : Nat} {P : Nat → Value → Prop} {Stt : Nat → Heap → Prop} {oI : Obj}
    (W : Walks prog w A I fp [I] n P Stt) (hI : ∀ i h, Stt i h → ∃ o, h.get? I = some o) (hfp : ∀ b ∈ fp, b ≠ I → ∃ o, g b = some o) (hst : Stt 0 s.heap)
    (x : Fm g L m ((I, oI) :: μ) s0 s) (J : Nat → Fz → (Str → Option Value) → List (Addr × Obj) → Prop) (h0 : J 0 g m μ)
    (turn : ∀ i v g' m' μ' oI' s', i < n → P i v → Le g g' → ∀ Qx : Flow → Shared → Prop, (∀ s3, Nx s0 L I oI' g' (J (i + 1)) s3 → Qx .next s3) → (∀ s3, Nx s0 L I oI' g' (J (i + 1)) s3 → Qx .cont s3) → (∀ s3, R (.ok .next) s3 → Qx .brk s3) → (∀ v s3, R (.ok (.ret v)) s3 → Qx (.ret v) s3) → J i g' m' μ' → Fm g' L m' ((I, oI') :: μ') s0 s' →
      wpAny (model prog w) A (assign target env v) (fun _ s2 => wpAny (model prog w) A (execs body env) Qx NoE s2) NoE s')
    (done : ∀ g' m' μ' s', Le g g' → J n g' m' μ' → Fm g' L m' μ' s0 s' → wpAny (model prog w) A (execs orelse env) (fun f s3 => R (.ok f) s3) NoE s')
    (ht : ∀ v, letOwnedTupleGo target (.ref I) v = pure () := by intro _; rfl) :
    codeAny (model prog w) A (.forLoop target (.ref I) body orelse env) R s := by
  refine codeAny_forLoop (FInv n g J s0 L I Stt) ?_ (n + 1)
    ⟨0, g, m, μ, oI, Nat.zero_le _, rfl, Le.refl g, h0, x, hst⟩ ht
  rintro k s' hJp0
  refine absP fun Gx hGx => ?_
  obtain ⟨i, g', m', μ', oI', hi, rfl, hle, hJ, x', hst'⟩ := hJp0
  refine hGx ?_
  by_cases hlt : i < n
  · refine W.item i s' _ _ hlt hst' fun v h' tk hP hst2 hk => ?_
    obtain ⟨o2, ho2⟩ := hI _ _ hst2
    have x2 : Fm g' L m' ((I, o2) :: μ') s0 { s' with heap := h', toks := tk } := x'.rep .head (fun b ob hb e => hk b ob (by simpa using hb) e) ho2
    refine noE (wpAny_mono (turn i v g' m' μ' o2 _ hlt hP hle (fun f s3 => match f with
        | .next | .cont => Nx s0 L I o2 g' (J (i + 1)) s3
        | .brk => R (.ok .next) s3
        | .ret v => R (.ok (.ret v)) s3) (fun _ q => q) (fun _ q => q) (fun _ q => q) (fun _ _ q => q) hJ x2) (fun _ s2 h2 => wpAny_mono h2 (fun f s3 h3 => ?_) fun _ _ q => q.elim) fun _ _ q => q.elim)
    have fin : Nx s0 L I o2 g' (J (i + 1)) s3 → ∃ m_1, m_1 < n + 1 - i ∧ FInv n g J s0 L I Stt m_1 s3 := by
      rintro hJp0
      refine absP fun Gx hGx => ?_
      obtain ⟨g2, m2, μ2, l2, j2, x3⟩ := hJp0
      refine hGx ?_
      refine ⟨n + 1 - (i + 1), by omega, i + 1, g2, m2, μ2, o2, hlt, rfl, hle.trans l2, j2, x3, W.frame _ _ _ hst2 fun b hb o e => ?_⟩
      by_cases hbI : b = I
      · subst hbI
        have e' : h'.get? b = some o := e
        rw [ho2] at e'; cases e'
        exact x3.gets (.head _)
      · obtain ⟨ob, eb⟩ := hfp b hb hbI
        have := x2.get (hle _ _ eb)
        have e' : h'.get? b = some o := e
        have t' : h'.get? b = some ob := this
        rw [e'] at t'; cases t'
        exact x3.get (l2 _ _ (hle _ _ eb))
    cases f with
    | next => exact fin h3
    | cont => exact fin h3
    | brk => exact h3
    | ret v => exact h3
  · have hin : i = n := by omega
    subst hin
    refine W.done s' _ _ hst' fun h' tk hk => ?_
    exact noE (done g' m' μ' _ hle hJ (x'.drop1 fun b ob hb e => hk b ob (by simpa using hb) e))
noncomputable def Src (prog : Program) (w : World) (A : Around) (g : Fz) (L : Addr) (m : Str → Option Value) (μ : List (Addr × Obj)) (s0 s : Shared) (it : Value) (n : Nat) (P : Nat → Value → Prop) : Prop :=
  ∃ I oI fp Stt, it = .ref I ∧ Walks prog w A I fp [I] n P Stt ∧ (∀ i h, Stt i h → ∃ o, h.get? I = some o) ∧ (∀ b ∈ fp, b ≠ I → ∃ o, g b = some o) ∧ Stt 0 s.heap ∧ Fm g L m ((I, oI) :: μ) s0 s
theorem src_list {l : Addr} {vs : List Value} {Q : Value → Shared → Prop} (hh : A.handled = none) (x : Fm g L m μ s0 s) (hl : Lst g l vs)
    (h : ∀ it s', Src prog w A g L m μ s0 s' it vs.length (fun i v => vs[i]? = some v) → Q it s') : wpAny (model prog w) A (pyIter (.ref l)) Q E s := by
  refine wpAny_pyIter_list (hl.isList x.st) (h _ _ ?_)
  obtain ⟨nl, el⟩ := id hl
  have hne : l ≠ s.heap.objs.size := fun q => by
    have := x.get el
    rw [q, size_none] at this; cases this
  have W := Walks.list (prog := prog) (w := w) hh s.heap.objs.size l hne vs.toArray
  refine ⟨s.heap.objs.size, _, [s.heap.objs.size, l], fun i h => h.IsListIter s.heap.objs.size l i ∧ h.IsList l vs.toArray, rfl, ?_, fun i h st => let ⟨o, e, _⟩ := st.1; ⟨o, e⟩, ?_, ⟨⟨_, Heap.get?_push_size _ rfl, rfl, rfl⟩, (hl.isList x.st).push _⟩, x.newM (push_keeps _ _) (size_none _) (Heap.get?_push_size _ rfl)⟩
  · simpa using W
  · intro b hb hbI
    rcases List.mem_cons.mp hb with e | hb
    · exact absurd e hbI
    · rw [List.mem_singleton.mp hb]; exact ⟨_, el⟩
theorem src_range {r : Addr} {a b c : Int} {t u q : Tok} {k : Nat} {Q : Value → Shared → Prop} (hh : A.handled = none) (x : Fm g L m μ s0 s) (hr : IsRange s.heap r a b c t u q) (hs : Builtin.Range.small a b c = true)
    (hk : Builtin.Range.rangeSize a b c = (k : Int)) (h : ∀ it s', Src prog w A g L m μ s0 s' it k (fun i v => ∃ t, v = .int (a + i * c) t) → Q it s') : wpAny (model prog w) A (pyIter (.ref r)) Q E s := by
  refine wpAny_pyIter_range hr hs (h _ _ ?_)
  refine ⟨s.heap.objs.size, _, _, _, rfl, Walks.range hh s.heap.objs.size a c k, fun i h st => ⟨_, st⟩, fun b hb hbI => absurd (List.mem_singleton.mp hb) hbI, ?_, x.newM (push_keeps _ _) (size_none _) (Heap.get?_push_size _ rfl)⟩
  show IsRangeIter _ _ _ _ _
  have e := Heap.get?_push_size s.heap (o := { cls := .type "range_iterator", data := .fields #[rawInt a, rawInt (Builtin.Range.rangeSize a b c), rawInt c] }) rfl
  simpa [IsRangeIter, hk] using e
inductive ForAsk (prog : Program) (w : World) (A : Around) (s0 : Shared) (env : Env) (target : Expr) (body orelse : List Stmt) (Q : Flow → Shared → Prop) (it : Value) (s₂ : Shared) : Prop
  | mk (n : Nat) (P : Nat → Value → Prop) (g : Fz) (L : Addr) (m : Str → Option Value) (μ : List (Addr × Obj)) (S : Src prog w A g L m μ s0 s₂ it n P) (J : Nat → Fz → (Str → Option Value) → List (Addr × Obj) → Prop) (h0 : J 0 g m μ)
    (turn : ∀ i v I g' m' μ' oI s', i < n → P i v → Le g g' → ∀ Qx : Flow → Shared → Prop, (∀ s3, Nx s0 L I oI g' (J (i + 1)) s3 → Qx .next s3) → (∀ s3, Nx s0 L I oI g' (J (i + 1)) s3 → Qx .cont s3) → (∀ s3, Q .next s3 → Qx .brk s3) → (∀ v s3, Q (.ret v) s3 → Qx (.ret v) s3) → J i g' m' μ' → Fm g' L m' ((I, oI) :: μ') s0 s' →
      wpAny (model prog w) A (assign target env v) (fun _ s2 => wpAny (model prog w) A (execs body env) Qx NoE s2) NoE s')
    (done : ∀ g' m' μ' s', Le g g' → J n g' m' μ' → Fm g' L m' μ' s0 s' → wpAny (model prog w) A (execs orelse env) Q NoE s') : ForAsk prog w A s0 env target body orelse Q it s₂
theorem r_for {Q : Flow → Shared → Prop} {target iter : Expr} {body orelse : List Stmt}
    (h : wpAny (model prog w) A (eval iter env) (fun xv s₁ => wpAny (model prog w) A (pyIter xv) (ForAsk prog w A s0 env target body orelse Q) NoE s₁) NoE s)
    (hs : ∀ x, foldedSetIterable iter env x = pure x := by intro _; rfl) (ht : ∀ (I : Addr) v, letOwnedTupleGo target (.ref I) v = pure () := by intro _ _; rfl) :
    wpAny (model prog w) A (exec (.For target iter body orelse pos) env) Q E s := by
  refine noE (wpAny_For (wpAny_mono h (fun xv s₁ h₁ => wpAny_mono h₁ (fun it s₂ h₂ => ?_) fun _ _ q => q) fun _ _ q => q) hs)
  refine absP fun Gx hGx => ?_
  obtain ⟨n, P, g, L, m, μ, ⟨I, oI, fp, Stt, rfl, W, hI, hfp, hst, x⟩, J, h0, turn, done⟩ := h₂
  refine hGx ?_
  exact for_walk (R := fun r s' => match r with | .ok f => Q f s' | .error e => cameBackBy (model prog w) A env NoE e s') W hI hfp hst x J h0
    (fun i v g' m' μ' oI' s' hi hP hle Qx a1 a2 a3 a4 hJ x' => turn i v _ g' m' μ' oI' s' hi hP hle Qx a1 a2 a3 a4 hJ x') done (ht _)
theorem comp_walk {target elt iter : Expr} {ifs : List Expr} {scope : Scope} {cl : List (Str × Addr)} {it : Value} {n : Nat} {P : Nat → Value → Prop} {RR : Value → Addr → Result → Shared → Prop}
    (S : Src prog w A g L m μ s0 s it n P) (hn : n ≤ sizeLine) (hcell : ∀ y ∈ scope.names, y.2 ≠ .cell) (hkind : scope.kind = .function)
    (J : Nat → List Value → Fz → List (Addr × Obj) → Prop) (h0 : J 0 [] g μ)
    (turn : ∀ C D I i v ys g' μ' mC oI oL nD s', i < n → P i v → Le g g' → ∀ (Qx : Value → Shared → Prop) (Qy : Shared → Prop), (∀ y s4, Nc s0 C I D L oI (listOf ys.toArray nD) oL g' (J (i + 1) (ys ++ [y])) s4 → Qx y s4) → (∀ s4, Nc s0 C I D L oI (listOf ys.toArray nD) oL g' (J (i + 1) ys) s4 → Qy s4) → J i ys g' μ' → NsO oL m → Fm g' C mC ((I, oI) :: (D, listOf ys.toArray nD) :: (L, oL) :: μ') s0 s' →
      wpAny (model prog w) A (assign target (compEnvC scope cl C env) v) (fun _ s2 =>
        wpAny (model prog w) A (forIn ifs true fun c r => if r = true then do let ok ← isTrue c (compEnvC scope cl C env) (eval c (compEnvC scope cl C env)); pure (ForInStep.yield ok) else pure (ForInStep.yield r)) (fun ok s3 =>
          if ok = true then wpAny (model prog w) A (eval elt (compEnvC scope cl C env)) Qx NoE s3
          else Qy s3) NoE s2) NoE s')
    (done : ∀ C D ys g' μ' mC oL nD s', Le g g' → J n ys g' μ' → NsO oL m → Fm g' C mC ((D, listOf ys.toArray nD) :: (L, oL) :: μ') s0 s' → RR (.ref D) C (.ok .next) s')
    (ht : ∀ (I : Addr) v, letOwnedTupleGo target (.ref I) v = pure () := by intro _ _; rfl) :
    wpAny (model prog w) A (newList []) (fun acc s₃ => wpAny (model prog w) A (newFunctionEnv scope env.globals cl [] env.qual none .none (some env)) (fun cenv s₄ =>
      codeAny (model prog w) A (.compStart (.ListComp elt [⟨target, iter, ifs, 0⟩] scope pos) 0 it acc { cenv with scope := relabel scope env }) (RR acc cenv.locals) s₄) E s₃) E s := by
  refine absP fun Gx hGx => ?_
  obtain ⟨I, oI, fp, Stt, rfl, W, hI, hfp, hst, oL, hoL, x⟩ := S
  refine hGx ?_
  refine wpAny_newObj_type (wpAny_newFunctionEnv hcell (by intro y hy; simp at hy) (fun h₁ hns₁ hsb₁ => ?_) hkind)
  dsimp only at hns₁ hsb₁ ⊢
  have x1 := x.newM (tk := s.toks) (push_keeps s.heap { cls := .type "list", dict := none, data := .seq ([] : List Value).toArray }) (size_none _) (Heap.get?_push_size _ rfl)
  generalize hH2 : s.heap.push { cls := .type "list", dict := none, data := .seq ([] : List Value).toArray } = H2 at hns₁ hsb₁ x1 ⊢
  refine absP fun Gx hGx => ?_
  obtain ⟨oC, eC, nC⟩ := nsO_of hns₁
  refine hGx ?_
  have keep2 : ∀ b o, H2.get? b = some o → h₁.get? b = some o := fun b o e => hsb₁.extBut b o (Nat.ne_of_lt (Heap.lt_size e)) (Heap.get?_push_of_some _ e)
  have x2 := St.newM (tk := s.toks + ([] : List (Str × Value)).length) (h' := h₁) (a := H2.objs.size) (o := oC) x1 keep2 (size_none _) eC
  have x3 : Fm g H2.objs.size (fun y => List.lookup y ([] : List (Str × Value)).reverse) ((I, oI) :: (s.heap.objs.size, listOf ([] : List Value).toArray 0) :: (L, oL) :: μ) s0 { s with heap := h₁, toks := s.toks + ([] : List (Str × Value)).length } :=
    ⟨oC, nC, x2.perm (List.Perm.cons _ (((List.Perm.swap _ _ _).cons _).trans (List.Perm.swap _ _ _)))⟩
  have hst3 : Stt 0 h₁ := W.frame _ _ _ hst fun b _ o e => keep2 b o (by rw [← hH2]; exact Heap.get?_push_of_some _ e)
  have loop : ∀ s₃ : Shared, s₃ = { s with heap := h₁, toks := s.toks + ([] : List (Str × Value)).length } →
      codeAny (model prog w) A (.compLoop (.ListComp elt [⟨target, iter, ifs, 0⟩] scope pos) 0 (.ref I) (.ref s.heap.objs.size) (compEnvC scope cl H2.objs.size env))
        (RR (.ref s.heap.objs.size) H2.objs.size) s₃ := by
    rintro s₃ rfl
    refine codeAny_compLoop_tests (CInv n g J s0 H2.objs.size I s.heap.objs.size L oL Stt) ?_ (n + 1)
      ⟨0, [], g, μ, _, oI, 0, Nat.zero_le _, Nat.le_refl _, rfl, Le.refl g, h0, x3, hst3⟩ (ht _)
    rintro k s' hJp0
    refine absP fun Gx hGx => ?_
    obtain ⟨i, ys, g', μ', mC, oI', nD, hi, hys, rfl, hle, hJ, x', hst'⟩ := hJp0
    refine hGx ?_
    by_cases hlt : i < n
    · refine W.item i s' _ _ hlt hst' fun v h' tk hP hst2 hk => ?_
      obtain ⟨o2, ho2⟩ := hI _ _ hst2
      have x4 : Fm g' H2.objs.size mC ((I, o2) :: (s.heap.objs.size, listOf ys.toArray nD) :: (L, oL) :: μ') s0 { s' with heap := h', toks := tk } := x'.rep .head (fun b ob hb e => hk b ob (by simpa using hb) e) ho2
      have stt : ∀ {g2 m2 μ2 s3} {o9 : Obj}, Le g' g2 → Fm g2 H2.objs.size m2 ((I, o2) :: (s.heap.objs.size, o9) :: (L, oL) :: μ2) s0 s3 → Stt (i + 1) s3.heap := by
        intro g2 m2 μ2 s3 o9 l2 x5
        refine W.frame _ _ _ hst2 fun b hb o e => ?_
        by_cases hbI : b = I
        · subst hbI
          have e' : h'.get? b = some o := e
          rw [ho2] at e'; cases e'
          exact x5.gets (.head _)
        · obtain ⟨ob, eb⟩ := hfp b hb hbI
          have t' : h'.get? b = some ob := x4.get (hle _ _ eb)
          have e' : h'.get? b = some o := e
          rw [e'] at t'; cases t'
          exact x5.get (l2 _ _ (hle _ _ eb))
      refine noE (wpAny_mono (turn _ _ _ i v ys g' μ' mC o2 oL nD _ hlt hP hle (fun y s4 => Nc s0 H2.objs.size I s.heap.objs.size L o2 (listOf ys.toArray nD) oL g' (J (i + 1) (ys ++ [y])) s4) (fun s4 => Nc s0 H2.objs.size I s.heap.objs.size L o2 (listOf ys.toArray nD) oL g' (J (i + 1) ys) s4) (fun _ _ q => q) (fun _ q => q) hJ hoL x4) (fun _ s2 h2 => noE (wpAny_mono h2 (fun ok s3 h3 => ?_) fun _ _ q => q)) fun _ _ q => q)
      cases ok with
      | false =>
        simp only [Bool.false_eq_true, if_false] at h3 ⊢
        refine absP fun Gx hGx => ?_
        obtain ⟨g2, m2, μ2, l2, j2, x5⟩ := h3
        refine hGx ?_
        exact ⟨n + 1 - (i + 1), by omega, i + 1, ys, g2, μ2, m2, o2, nD, hlt, by omega, rfl, hle.trans l2, j2, x5, stt l2 x5⟩
      | true =>
        simp only [if_true] at h3 ⊢
        refine noE (wpAny_mono h3 (fun y s4 h4 => ?_) fun _ _ q => q)
        refine absP fun Gx hGx => ?_
        obtain ⟨g2, m2, μ2, l2, j2, x5⟩ := h4
        refine hGx ?_
        refine wpAny_list_append_plain (items := ys.toArray) ⟨nD, x5.gets (.tail _ (.head _))⟩ (fun h5 hp5 hs5 => ?_) (by rw [List.size_toArray]; omega)
        obtain ⟨n5, e5⟩ := hp5
        have x6 : Fm g2 H2.objs.size m2 ((I, o2) :: (s.heap.objs.size, listOf (ys ++ [y]).toArray n5) :: (L, oL) :: μ2) s0 { s4 with heap := h5 } :=
          x5.rep (tk := s4.toks) (.tail .head) (same_keeps hs5) (by simpa using e5)
        exact ⟨n + 1 - (i + 1), by omega, i + 1, ys ++ [y], g2, μ2, m2, o2, n5, hlt, by rw [List.length_append, List.length_singleton]; omega, rfl, hle.trans l2, j2, x6, stt l2 x6⟩
    · have hin : i = n := by omega
      subst hin
      refine W.done s' _ _ hst' fun h' tk hk => ?_
      exact done _ _ ys g' μ' mC oL nD _ hle hJ hoL (x'.drop1 fun b ob hb e => hk b ob (by simpa using hb) e)
  exact codeAny_compStart_list (loop _ rfl) (W.self 0 _ _ _ hst3 (loop _ rfl))
inductive CompAsk (prog : Program) (w : World) (A : Around) (s0 : Shared) (env : Env) (target elt : Expr) (ifs : List Expr) (scope : Scope) (cl : List (Str × Addr)) (Q : Value → Shared → Prop) (it : Value) (s₂ : Shared) : Prop
  | mk (n : Nat) (P : Nat → Value → Prop) (g : Fz) (m : Str → Option Value) (μ : List (Addr × Obj)) (S : Src prog w A g env.locals m μ s0 s₂ it n P) (hn : n ≤ sizeLine) (J : Nat → List Value → Fz → List (Addr × Obj) → Prop) (h0 : J 0 [] g μ)
    (turn : ∀ C D I i v ys g' μ' mC oI oL nD s', i < n → P i v → Le g g' → ∀ (Qx : Value → Shared → Prop) (Qy : Shared → Prop), (∀ y s4, Nc s0 C I D env.locals oI (listOf ys.toArray nD) oL g' (J (i + 1) (ys ++ [y])) s4 → Qx y s4) → (∀ s4, Nc s0 C I D env.locals oI (listOf ys.toArray nD) oL g' (J (i + 1) ys) s4 → Qy s4) → J i ys g' μ' → NsO oL m → Fm g' C mC ((I, oI) :: (D, listOf ys.toArray nD) :: (env.locals, oL) :: μ') s0 s' →
      wpAny (model prog w) A (assign target (compEnvC scope cl C env) v) (fun _ s2 =>
        wpAny (model prog w) A (forIn ifs true fun c r => if r = true then do let ok ← isTrue c (compEnvC scope cl C env) (eval c (compEnvC scope cl C env)); pure (ForInStep.yield ok) else pure (ForInStep.yield r)) (fun ok s3 =>
          if ok = true then wpAny (model prog w) A (eval elt (compEnvC scope cl C env)) Qx NoE s3
          else Qy s3) NoE s2) NoE s')
    (done : ∀ D ys g' μ' nD s', Le g g' → J n ys g' μ' → Fm g' env.locals m ((D, listOf ys.toArray nD) :: μ') s0 s' → Q (.ref D) s') : CompAsk prog w A s0 env target elt ifs scope cl Q it s₂
inductive CompSetAsk (prog : Program) (w : World) (A : Around) (s0 : Shared) (env : Env) (target elt : Expr) (ifs : List Expr) (scope : Scope) (cl : List (Str × Addr)) (y : Str) (Q : Flow → Shared → Prop) (it : Value) (s₂ : Shared) : Prop
  | mk (n : Nat) (P : Nat → Value → Prop) (g : Fz) (m : Str → Option Value) (μ : List (Addr × Obj)) (S : Src prog w A g env.locals m μ s0 s₂ it n P) (hn : n ≤ sizeLine) (J : Nat → List Value → Fz → List (Addr × Obj) → Prop) (h0 : J 0 [] g μ)
    (turn : ∀ C D I i v ys g' μ' mC oI oL nD s', i < n → P i v → Le g g' → ∀ (Qx : Value → Shared → Prop) (Qy : Shared → Prop), (∀ y s4, Nc s0 C I D env.locals oI (listOf ys.toArray nD) oL g' (J (i + 1) (ys ++ [y])) s4 → Qx y s4) → (∀ s4, Nc s0 C I D env.locals oI (listOf ys.toArray nD) oL g' (J (i + 1) ys) s4 → Qy s4) → J i ys g' μ' → NsO oL m → Fm g' C mC ((I, oI) :: (D, listOf ys.toArray nD) :: (env.locals, oL) :: μ') s0 s' →
      wpAny (model prog w) A (assign target (compEnvC scope cl C env) v) (fun _ s2 =>
        wpAny (model prog w) A (forIn ifs true fun c r => if r = true then do let ok ← isTrue c (compEnvC scope cl C env) (eval c (compEnvC scope cl C env)); pure (ForInStep.yield ok) else pure (ForInStep.yield r)) (fun ok s3 =>
          if ok = true then wpAny (model prog w) A (eval elt (compEnvC scope cl C env)) Qx NoE s3
          else Qy s3) NoE s2) NoE s')
    (done : ∀ D ys g' μ' nD s', Le g g' → J n ys g' μ' → Fm g' env.locals (upd m y (.ref D)) ((D, listOf ys.toArray nD) :: μ') s0 s' → Q .next s') : CompSetAsk prog w A s0 env target elt ifs scope cl y Q it s₂
theorem r_comp {Q : Value → Shared → Prop} {target elt iter : Expr} {ifs : List Expr} {scope : Scope} {cl : List (Str × Addr)}
    (hclos : closureFor scope env = pure cl) (hcell : ∀ y ∈ scope.names, y.2 ≠ .cell) (hkind : scope.kind = .function) (hnames : ∀ y ∈ scope.names, y.2 = .local → scope.names.lookup y.1 = some .local)
    (h : wpAny (model prog w) A (eval iter env) (fun xv s₁ => wpAny (model prog w) A (pyIter xv) (CompAsk prog w A s0 env target elt ifs scope cl Q) NoE s₁) NoE s)
    (hs : ∀ x, foldedSetIterable iter env x = pure x := by intro _; rfl) (ht : ∀ (I : Addr) v, letOwnedTupleGo target (.ref I) v = pure () := by intro _ _; rfl) :
    wpAny (model prog w) A (eval (.ListComp elt [⟨target, iter, ifs, 0⟩] scope pos) env) Q E s := by
  rw [eval_ListComp]
  refine noE (wpAny_comprehension_free (use := none) rfl hs hclos hkind hnames (wpAny_mono h (fun xv s₁ h₁ => wpAny_mono h₁ (fun it s₂ h₂ => ?_) fun _ _ e => e) fun _ _ e => e))
  refine absP fun Gx hGx => ?_
  obtain ⟨n, P, g, m, μ, S, hn, J, h0, turn, done⟩ := h₂
  refine hGx ?_
  refine comp_walk (RR := fun acc C => compPost (model prog w) A NoE none Q acc C) S hn hcell hkind J h0 turn ?_ ht
  intro C D ys g' μ' mC oL nD s' hle hJ hoL x
  refine ⟨mC, x.ns, fun h' hs' => done D ys g' μ' nD _ hle hJ ?_⟩
  refine absP fun Gx hGx => ?_
  obtain ⟨oC, nC, x⟩ := x
  refine hGx ?_
  exact ⟨oL, hoL, (x.dropH (tk := s'.toks) (same_keeps hs')).swap⟩
theorem r_compSet {Q : Flow → Shared → Prop} {target elt iter : Expr} {ifs : List Expr} {scope : Scope} {cl : List (Str × Addr)} {y : Str} {py spos : Pos}
    (hsw : swapsWith (.ListComp elt [⟨target, iter, ifs, 0⟩] scope pos) (some (.Name y py)) spos.line env = pure true)
    (hclos : closureFor scope env = pure cl) (hcell : ∀ y ∈ scope.names, y.2 ≠ .cell) (hkind : scope.kind = .function) (hnames : ∀ y ∈ scope.names, y.2 = .local → scope.names.lookup y.1 = some .local)
    (hk : env.scope.kind = .function) (hy : env.kindOf y = some .local)
    (h : wpAny (model prog w) A (eval iter env) (fun xv s₁ => wpAny (model prog w) A (pyIter xv) (CompSetAsk prog w A s0 env target elt ifs scope cl y Q) NoE s₁) NoE s)
    (hs : ∀ x, foldedSetIterable iter env x = pure x := by intro _; rfl) (ht : ∀ (I : Addr) v, letOwnedTupleGo target (.ref I) v = pure () := by intro _ _; rfl) :
    wpAny (model prog w) A (exec (.Assign [.Name y py] (.ListComp elt [⟨target, iter, ifs, 0⟩] scope pos) spos) env) Q E s := by
  rw [exec_Assign_Name_used _ _ _ _ hsw]
  refine noE (wpAny_bind (wpAny_standAt (wpAny_bind ?_)))
  show wpAny _ A (do let _ ← comprehension (.ListComp elt [⟨target, iter, ifs, 0⟩] scope pos) scope env _ (newList []) false (eval iter env) (some (assign (.Name y py) env))) _ _ s
  refine wpAny_bind (wpAny_mono (wpAny_comprehension_free (use := some (assign (.Name y py) env)) (Q := fun _ s' => Q .next s') rfl hs hclos hkind hnames
    (wpAny_mono h (fun xv s₁ h₁ => wpAny_mono h₁ (fun it s₂ h₂ => ?_) fun _ _ e => e) fun _ _ e => e)) (fun _ s' hq => wpAny_pure (wpAny_pure hq)) fun _ _ e => e)
  refine absP fun Gx hGx => ?_
  obtain ⟨n, P, g, m, μ, S, hn, J, h0, turn, done⟩ := h₂
  refine hGx ?_
  refine comp_walk (RR := fun acc C => compPost (model prog w) A NoE (some (assign (.Name y py) env)) (fun _ s' => Q .next s') acc C) S hn hcell hkind J h0 turn ?_ ht
  intro C D ys g' μ' mC oL nD s' hle hJ hoL x
  show wpAny _ A (assign (.Name y py) env (.ref D)) _ _ _
  refine absP fun Gx hGx => ?_
  obtain ⟨oC, nC, x⟩ := x
  refine hGx ?_
  have xL : Fm g' env.locals m ((C, oC) :: (D, listOf ys.toArray nD) :: μ') s0 s' := ⟨oL, hoL, x.perm ((List.Perm.cons _ (List.Perm.swap _ _ _)).trans (List.Perm.swap _ _ _))⟩
  refine r_assign xL (fun s'' xL' => ?_) hk hy
  refine ⟨mC, nC.ns (xL'.gets (.head _)), fun h' hs' => done D ys g' μ' nD _ hle hJ ?_⟩
  exact xL'.drop1 (tk := s''.toks) (same_keeps hs')
end
end Mine
end
section
set_option maxRecDepth 100000
set_option autoImplicit false
namespace Mine
open PySem PySem.Spec PySem.Calls PyProof.Rows PySem.W PySem.SeqAt
noncomputable def Kf (P : Params) : Frag := (hd.heap_1 P).filter fun p => !(Nat.beq p.1 23 || Nat.beq p.1 143)
noncomputable abbrev K9 (w : World) : Frag := Kf w.params
structure Gd (w : World) (mg mb : Str → Option Value) (g : Fz) : Prop where
  kin : ∀ a o, (K9 w).lookup a = some o → g a = some o
  mgo : ∃ o, g mainGlobals = some o ∧ NsO o mg
  mbo : ∃ o, g builtinsNs = some o ∧ NsO o mb
  lim : ∃ o mc, g cStatics = some o ∧ NsO o mc ∧ mc "sys.recursionlimit" = none
  mgs : ∀ n v, nsIn (K9 w) mainGlobals n = some (some v) → mg n = some v
  mgn : ∀ n, nsIn (K9 w) mainGlobals n = some none → mg n = none
  bi : ∀ x : Str, x ≠ "__name__" → mb x = bootBuiltins x
  bmd : ∃ bm o, mg "__builtins__" = some (.ref bm) ∧ bm ≠ builtinsNs ∧ bm ≠ mainGlobals ∧ g bm = some o ∧ o.cls = .type "module" ∧ o.dict = some builtinsNs ∧ o.data = .plain
  sysm : ∃ o, g sysModules = some o
theorem Gd.le {w : World} {mg mb : Str → Option Value} {g g' : Fz} (G : Gd w mg mb g) (k : Le g g') : Gd w mg mb g' where
  kin := fun a o e => k _ _ (G.kin a o e)
  mgo := let ⟨o, e, r⟩ := G.mgo; ⟨o, k _ _ e, r⟩
  mbo := let ⟨o, e, r⟩ := G.mbo; ⟨o, k _ _ e, r⟩
  lim := let ⟨o, mc, e, r⟩ := G.lim; ⟨o, mc, k _ _ e, r⟩
  mgs := G.mgs
  mgn := G.mgn
  bi := G.bi
  bmd := let ⟨bm, o, h1, h2, h3, e, r⟩ := G.bmd; ⟨bm, o, h1, h2, h3, k _ _ e, r⟩
  sysm := let ⟨o, e⟩ := G.sysm; ⟨o, k _ _ e⟩
theorem Gd.of_top {w : World} {mg mb : Str → Option Value} {h : Heap} {p : Program} {loose : List Str} {mean : ExcName → Option Value} (X : (K9 w).In h) (T : Top p loose mean mg mb h) (hs : ∃ o, h.get? sysModules = some o) : Gd w mg mb (fun a => h.get? a) where
  kin := X
  mgo := nsO_of T.g
  mbo := nsO_of T.b
  lim := let ⟨mc, n, r⟩ := T.nolimit; let ⟨o, e, q⟩ := nsO_of n; ⟨o, mc, e, q, r⟩
  mgs := fun _ _ e => mg_of X T.g e
  mgn := fun _ e => mg_none_of X T.g e
  bi := T.builtins
  bmd := by
    refine absP fun Gx hGx => ?_
    obtain ⟨bm, ob, h1, h2, h3, h4, h5, h6⟩ := T.bmain
    refine hGx ?_
    refine ⟨bm, ob, h1, h2, fun q => ?_, h3, h4, h5, h6⟩
    refine absP fun Gx hGx => ?_
    obtain ⟨o, es, ep, e, hd, _⟩ := T.g
    refine hGx ?_
    rw [q, e] at h3
    cases h3
    rw [h6] at hd; cases hd
  sysm := hs
theorem Gd.in {w : World} {mg mb : Str → Option Value} {g : Fz} {μ : List (Addr × Obj)} {s0 s : Shared} (G : Gd w mg mb g) (x : St g μ s0 s) : (K9 w).In s.heap := fun a o e => x.frz _ _ (G.kin a o e)
theorem Gd.nolimit {w : World} {mg mb : Str → Option Value} {g : Fz} {μ : List (Addr × Obj)} {s0 s : Shared} (G : Gd w mg mb g) (x : St g μ s0 s) : s.heap.NoLimit :=
  let ⟨_, mc, e, n, r⟩ := G.lim; ⟨mc, n.ns (x.frz _ _ e), r⟩
structure Ok (A : Around) : Prop where
  hand : A.handled = none
  units : A.units + 100 < cLine
  depth : A.depth + 20 < recursionLimit
section
variable {prog : Program} {w : World} {M : Model} {A : Around} {E : Value → Shared → Prop} {s0 s : Shared} {env : Env} {g : Fz} {L : Addr} {m mg mb : Str → Option Value} {μ : List (Addr × Obj)} {pos : Pos} {n : Str} {v : Value}
theorem r_glob {Q : Value → Shared → Prop} (G : Gd w mg mb g) (x : Fm g L m μ s0 s) (e : nsIn (K9 w) mainGlobals n = some (some v)) (h : Q v s) (hk : env.scope.kind = .function := by rfl) (hg : env.globals = mainGlobals := by rfl)
    (hx : env.kindOf n = some .globalImplicit := by rfl) (hd : (n == ("__debug__" : Str)) = false := by decide) : wpAny M A (eval (.Name n pos) env) Q E s :=
  Name_function_global hk hx (loadGlobal_global (env := env) (let ⟨_, e1, q⟩ := G.mgo; by rw [hg]; exact q.ns (x.get e1)) (G.mgs _ _ e) h) hd
theorem r_bi {Q : Value → Shared → Prop} (G : Gd w mg mb g) (x : Fm g L m μ s0 s) (e : nsIn (K9 w) mainGlobals n = some none) (hv : bootBuiltins n = some v) (h : Q v s) (hn : n ≠ "__name__" := by decide) (hk : env.scope.kind = .function := by rfl)
    (hg : env.globals = mainGlobals := by rfl) (hb : env.builtins = builtinsNs := by rfl) (hx : env.kindOf n = some .globalImplicit := by rfl) (hd : (n == ("__debug__" : Str)) = false := by decide) : wpAny M A (eval (.Name n pos) env) Q E s :=
  Name_function_global hk hx (loadGlobal_builtin (env := env) (let ⟨_, e1, q⟩ := G.mgo; by rw [hg]; exact q.ns (x.get e1)) (G.mgn _ e) (let ⟨_, e1, q⟩ := G.mbo; by rw [hb]; exact q.ns (x.get e1)) ((G.bi n hn).trans hv) h) hd
theorem r_cell {Q : Value → Shared → Prop} {c : Addr} {o : Obj} (x : Fm g L m μ s0 s) (hc : env.cells.lookup n = some c) (ho : g c = some o ∨ (c, o) ∈ μ) (hd : o.data = .cell (some v)) (h : Q v s)
    (hk : env.scope.kind = .function := by rfl) (hx : env.kindOf n = some .cell ∨ env.kindOf n = some .free := by first | exact .inl rfl | exact .inr rfl) (hb : (n == ("__debug__" : Str)) = false := by decide) (hn : (n == ("__classdict__" : Str)) = false := by decide) :
    wpAny M A (eval (.Name n pos) env) Q E s := by
  have hcell : s.heap.IsCell c (some v) := ⟨o, ho.elim (fun e => x.get e) (fun e => x.gets e), hd⟩
  rcases hx with hx | hx
  · exact wpAny_Name (wpAny_loadName_cell hk hx hc hcell h) hb
  · exact wpAny_Name (wpAny_loadName_free hk hx hc hcell h hn) hb
theorem r_storeC {Q : Unit → Shared → Prop} {c : Addr} {o : Obj} {v0 : Option Value} {f : Obj → List (Addr × Obj)} (x : Fm g L m μ s0 s) (hc : env.cells.lookup n = some c) (r : Rep c o μ f) (hd : o.data = .cell v0)
    (h : ∀ s' o', o'.data = .cell (some v) → Fm g L m (f o') s0 s' → Q () s') (hk : env.scope.kind = .function := by rfl) (hx : env.kindOf n = some .cell := by rfl) : wpAny M A (storeName env n v) Q E s :=
  wpAny_storeName_cell hk hx hc ⟨o, x.gets r.mem, hd⟩ fun h' hv hs => let ⟨o', e', d'⟩ := hv; h _ o' d' (x.rep (tk := s.toks) r (same_keeps hs) e')
theorem c_fn {R : Result → Shared → Prop} {f : Addr} {oc : Value} {od : Option Addr} {osl : Array (Option Value)} {name qual : Str} {params : Arguments} {body : List Stmt} {scope : Scope} {dV kV doc pm cdv ct : Value} {an : Option Addr} {args : List Value} {binds : List (Str × Value)}
    (G : Gd w mg mb g) (x : St g μ s0 s)
    (ho : (K9 w).lookup f = some ⟨oc, od, .func (fnOf name qual params body scope dV kV doc pm an cdv ct), osl⟩) (hcd : codeIn (K9 w) cdv qual = true) (hA : Ok A)
    (hbind : bindArgs (fnOf name qual params body scope dV kV doc pm an cdv ct) ⟨args, []⟩ = pure binds)
    (hcell : ∀ x ∈ scope.names, x.2 ≠ .cell) (hloc : ∀ x ∈ binds, scope.names.lookup x.1 = some .local)
    (h : ∀ A' L s', A'.handled = none → A'.units = A.units + 3 → A'.depth = A.depth + 1 → Fm g L (fun y => binds.reverse.lookup y) μ s0 s' →
      wpAny (model prog w) A' (execs body (envOf qual scope L f cdv)) (fun fl s'' => R (.ok (.ret (match fl with | .ret v => v | _ => .none))) s'') NoE s')
    (hco : scope.isCoroutine = false := by rfl) (hgen : scope.isGenerator = false := by rfl) (hk : scope.kind = .function := by rfl) : codeAny (model prog w) A (.call (.ref f) ⟨args, []⟩) R s := by
  refine codeAny_call_def (fd := fnOf name qual params body scope dV kV doc pm an cdv ct) (binds := binds) (by have := hA.depth; omega) (x.frz _ _ (G.kin _ _ ho)) rfl (G.nolimit x) (codeRec_of (G.in x) hcd) rfl (.of_eq hbind) hcell hloc (fun h₀ hns keep => ?_) hco hgen hk
  refine absP fun Gx hGx => ?_
  obtain ⟨oL, eL, nL⟩ := nsO_of hns
  refine hGx ?_
  exact noE (h _ s.heap.objs.size _ hA.hand rfl rfl ⟨oL, nL, x.newM (tk := s.toks + binds.length) keep (size_none _) eL⟩)
theorem c_fnC {R : Result → Shared → Prop} {f : Addr} {oc : Value} {od : Option Addr} {osl : Array (Option Value)} {name qual : Str} {params : Arguments} {body : List Stmt} {scope : Scope} {dV kV doc pm cdv ct : Value} {an : Option Addr} {args : List Value} {binds : List (Str × Value)}
    (G : Gd w mg mb g) (x : St g μ s0 s)
    (ho : (K9 w).lookup f = some ⟨oc, od, .func (fnOf name qual params body scope dV kV doc pm an cdv ct), osl⟩) (hcd : codeIn (K9 w) cdv qual = true) (hA : Ok A)
    (hbind : bindArgs (fnOf name qual params body scope dV kV doc pm an cdv ct) ⟨args, []⟩ = pure binds)
    (hkind : ∀ n, ∀ x ∈ binds, scope.names.lookup x.1 = some .local ∨ (scope.names.lookup x.1 = some .cell ∧ ((cellsFrom n scope.names []).lookup x.1).isSome = true)) (hnd : ((cellsFrom 0 scope.names []).map (·.1)).Nodup)
    (h : ∀ A' L s' cells, A'.handled = none → A'.units = A.units + 3 → A'.depth = A.depth + 1 → CellsAre (bindC (envOfC qual scope L f cdv).kindOf binds fun _ => none) (cellsFrom (L + 1) scope.names []) cells →
      Fm g L (bindL (envOfC qual scope L f cdv).kindOf binds fun _ => none) (cells ++ μ) s0 s' →
      wpAny (model prog w) A' (execs body (envOfC qual scope L f cdv)) (fun fl s'' => R (.ok (.ret (match fl with | .ret v => v | _ => .none))) s'') NoE s')
    (hco : scope.isCoroutine = false := by rfl) (hgen : scope.isGenerator = false := by rfl) (hk : scope.kind = .function := by rfl) : codeAny (model prog w) A (.call (.ref f) ⟨args, []⟩) R s := by
  refine codeAny_call_cells (fd := fnOf name qual params body scope dV kV doc pm an cdv ct) (binds := binds) (by have := hA.depth; omega) (x.frz _ _ (G.kin _ _ ho)) rfl (G.nolimit x) (codeRec_of (G.in x) hcd) rfl hbind rfl (hkind _) (fun s₁ X => ?_) hco hgen hk
  have X : InCallC s s.heap.objs.size (bindL (envOfC qual scope s.heap.objs.size f cdv).kindOf binds fun _ => none) (cellsFrom (s.heap.objs.size + 1) scope.names []) (bindC (envOfC qual scope s.heap.objs.size f cdv).kindOf binds fun _ => none) s₁ := X
  refine absP fun Gx hGx => ?_
  obtain ⟨h₁, tk, e1, keep⟩ := X.done
  refine hGx ?_
  refine absP fun Gx hGx => ?_
  obtain ⟨cells, NC, Y⟩ := Cl.news (h₀ := s.heap) (Nat.le_refl _) fun n c hm => ⟨X.cell n c (lookup_of_mem_nodup (cellsFrom_names scope.names 0 (s.heap.objs.size + 1) [] [] rfl ▸ hnd) hm), X.above n c hm⟩
  refine hGx ?_
  have hcn : (cells.map (·.1)) = (cellsFrom (s.heap.objs.size + 1) scope.names []).map (·.2) := by
    clear NC X
    generalize cellsFrom (s.heap.objs.size + 1) scope.names [] = cs at Y
    induction Y with
    | nil => rfl
    | cons _ _ ih => simp [ih]
  refine absP fun Gx hGx => ?_
  obtain ⟨oL, eL, nL⟩ := nsO_of X.toInCall.ns
  refine hGx ?_
  have key : ∀ c ∈ cells.map (·.1), s.heap.objs.size < c := by
    intro c hc
    rw [hcn] at hc
    refine absP fun Gx hGx => ?_
    obtain ⟨⟨n, c'⟩, hm, rfl⟩ := List.mem_map.mp hc
    refine hGx ?_
    exact X.above n c' hm
  subst e1
  have fresh : ∀ c, s.heap.objs.size ≤ c → s.heap.get? c = none := fun c hc => Heap.get?_none_of_le hc
  refine noE (h _ s.heap.objs.size _ cells hA.hand rfl rfl Y ⟨oL, nL, ?_⟩)
  refine ⟨by obtain ⟨h0, t0, rfl⟩ := x.same; exact ⟨h₁, tk, rfl⟩, fun b ob e => keep b ob (x.frz b ob e), ?_, ?_, ?_⟩
  · intro p hp
    rcases List.mem_cons.mp hp with rfl | hp
    · exact eL
    · rcases List.mem_append.mp hp with hp | hp
      · exact (NC p hp).1
      · exact keep _ _ (x.mu p hp)
  · intro p hp
    rcases List.mem_cons.mp hp with rfl | hp
    · exact x.offNone (size_none _)
    · rcases List.mem_append.mp hp with hp | hp
      · exact x.offNone (fresh _ (Nat.le_of_lt (key _ (List.mem_map_of_mem hp))))
      · exact x.off p hp
  · rw [List.map_cons, List.map_append, List.nodup_cons, List.nodup_append]
    have low : ∀ p ∈ μ, p.1 < s.heap.objs.size := fun p hp => Heap.lt_size (x.mu p hp)
    refine ⟨fun hm => ?_, ?_, x.nd, fun a ha b hb => ?_⟩
    · rcases List.mem_append.mp hm with hm | hm
      · exact Nat.lt_irrefl _ (key _ hm)
      · refine absP fun Gx hGx => ?_
        obtain ⟨p, hp, q⟩ := List.mem_map.mp hm
        refine hGx ?_
        have q' : p.1 = s.heap.objs.size := q
        exact Nat.lt_irrefl _ (q' ▸ low p hp)
    · rw [hcn]
      have := X.apart
      exact List.pairwise_map.mpr this
    · refine absP fun Gx hGx => ?_
      obtain ⟨p, hp, rfl⟩ := List.mem_map.mp hb
      refine hGx ?_
      exact Nat.ne_of_gt (Nat.lt_trans (low p hp) (key a ha))
theorem r_callDef {f : Addr} {o : Obj} {fd : FuncData} {e : Expr} {rest : List Expr} {Q : Value → Shared → Prop} (hdat : o.data = .func fd)
    (h : wpAny M A (spliced (backTo pos (starEach (e :: rest) env))) (fun vs s₁ => s₁.heap.get? f = some o ∧ wpAny M A (call (.ref f) vs) Q E s₁) E s)
    (he : starEach (e :: rest) env = (false, eval e env) :: starEach rest env := by rfl) : wpAny M A (callWith pos (.ref f) [] (backTo pos (starEach (e :: rest) env)) []) Q E s := callWith_def hdat h he
end
end Mine
end
section
set_option maxRecDepth 100000
set_option autoImplicit false
namespace Mine
open PySem PySem.Spec PySem.Calls PyProof.Rows PySem.W PySem.SeqAt
noncomputable def notStar : Expr → Bool
  | .Starred .. => false
  | _ => true
theorem starEach_plain {e : Expr} {rest : List Expr} {env : Env} (h : notStar e = true) : starEach (e :: rest) env = (false, eval e env) :: starEach rest env := by
  cases e <;> first | rfl | (simp [notStar] at h)
theorem starEach_any {args : List Expr} {env : Env} {pos : Pos} (h : args.all notStar = true) : (backTo pos (starEach args env)).any (·.1) = false := by
  induction args with
  | nil => rfl
  | cons e r ih =>
    rw [List.all_cons, Bool.and_eq_true] at h
    rw [starEach_plain h.1]
    exact ih h.2
section
variable {M : Model} {A : Around} {E : Value → Shared → Prop} {s : Shared} {env : Env} {pos : Pos}
theorem sp_nil {Q : List Value → Shared → Prop} (h : Q [] s) : wpAny M A (spliced (backTo pos (starEach [] env))) Q E s := spliced_none h
theorem sp_cons {e : Expr} {rest : List Expr} {Q : List Value → Shared → Prop} (h : wpAny M A (eval e env) (fun v s₁ => wpAny M A (spliced (backTo pos (starEach rest env))) (fun vs s₂ => Q (v :: vs) s₂) E s₁) E s)
    (hn : notStar e = true := by rfl) : wpAny M A (spliced (backTo pos (starEach (e :: rest) env))) Q E s := spliced_more h (starEach_plain hn)
theorem sp_one {e : Expr} {Q : List Value → Shared → Prop} (h : wpAny M A (eval e env) (fun v s₁ => Q [v] s₁) E s) (hn : notStar e = true := by rfl) : wpAny M A (spliced (backTo pos (starEach [e] env))) Q E s :=
  sp_cons (wpAny_mono h (fun _ _ q => sp_nil q) fun _ _ q => q) hn
theorem cw_type {T : String} {e : Expr} {rest : List Expr} {Q : Value → Shared → Prop} (h : wpAny M A (spliced (backTo pos (starEach (e :: rest) env))) (fun vs s₁ => wpAny M A (call (.type T) vs) Q E s₁) E s)
    (hn : (e :: rest).all notStar = true := by rfl) : wpAny M A (callWith pos (.type T) [] (backTo pos (starEach (e :: rest) env)) []) Q E s := by
  rw [List.all_cons, Bool.and_eq_true] at hn
  exact PyProof.Rows.callWith_type1 h (starEach_plain hn.1) (starEach_any hn.2)
theorem cw_bi {id : String} {e : Expr} {rest : List Expr} {Q : Value → Shared → Prop} (h : wpAny M A (spliced (backTo pos (starEach (e :: rest) env))) (fun vs s₁ => wpAny M A (call (.builtin id) vs) Q E s₁) E s)
    (hn : (e :: rest).all notStar = true := by rfl) : wpAny M A (callWith pos (.builtin id) [] (backTo pos (starEach (e :: rest) env)) []) Q E s := by
  rw [List.all_cons, Bool.and_eq_true] at hn
  exact PyProof.Rows.callWith_builtin1 h (starEach_plain hn.1) (starEach_any hn.2)
theorem cw_def {f : Addr} {o : Obj} {fd : FuncData} {e : Expr} {rest : List Expr} {Q : Value → Shared → Prop} (hdat : o.data = .func fd)
    (h : wpAny M A (spliced (backTo pos (starEach (e :: rest) env))) (fun vs s₁ => s₁.heap.get? f = some o ∧ wpAny M A (call (.ref f) vs) Q E s₁) E s)
    (hn : notStar e = true := by rfl) : wpAny M A (callWith pos (.ref f) [] (backTo pos (starEach (e :: rest) env)) []) Q E s := callWith_def hdat h (starEach_plain hn)
end
theorem line24 : sizeLine = 16777216 := by rfl
section
variable {prog : Program} {w : World} {A : Around} {E : Value → Shared → Prop} {s0 s : Shared} {env : Env} {g : Fz} {L : Addr} {m mg mb : Str → Option Value} {μ : List (Addr × Obj)} {pos : Pos} {n : Str} {v : Value}
theorem r_nil {Q : Value → Shared → Prop} (x : Fm g L m μ s0 s) (h : ∀ D s', Fm g L m ((D, listOf ([] : List Value).toArray 0) :: μ) s0 s' → Q (.ref D) s') : wpAny (model prog w) A (eval (.List [] pos) env) Q E s :=
  List_ (spliced_none (wpAny_newList (h _ _ (x.newM (tk := s.toks) (push_keeps _ _) (size_none _) (Heap.get?_push_size _ rfl))) (Nat.zero_le _)))
theorem m_append {D : Addr} {vs : List Value} {k : Nat} {f : Obj → List (Addr × Obj)} {y : Value} {Q : Value → Shared → Prop} (x : Fm g L m μ s0 s) (r : Rep D (listOf vs.toArray k) μ f) (hz : vs.length ≤ sizeLine)
    (h : ∀ s' k', Fm g L m (f (listOf (vs ++ [y]).toArray k')) s0 s' → Q .none s') : wpAny (model prog w) A (call (.builtin "list.append") [.ref D, y]) Q E s :=
  wpAny_list_append_plain (items := vs.toArray) ⟨k, x.gets r.mem⟩ (fun h' hp hs => let ⟨k', e⟩ := hp; h _ k' (x.rep (tk := s.toks) r (same_keeps hs) (by simpa using e))) (by rw [List.size_toArray]; exact hz)
theorem plainM {D : Addr} {vs : List Value} {k : Nat} (x : Fm g L m μ s0 s) (r : (D, listOf vs.toArray k) ∈ μ) : PlainL s.heap D vs.toArray := ⟨_, k, x.gets r, rfl, rfl, rfl⟩
theorem m_len {l : Addr} {vs : List Value} {Q : Value → Shared → Prop} (x : Fm g L m μ s0 s) (hl : s.heap.IsList l vs.toArray) (hz : vs.length ≤ sizeLine) (h : ∀ s' t, Fm g L m μ s0 s' → Q (.int vs.length t) s') : wpAny (model prog w) A (call (.builtin "len") [.ref l]) Q E s :=
  call_len_list hl (by rw [List.size_toArray]; rw [line24] at hz; omega) (by simpa using h _ (s.toks + 1) (x.tok (tk := s.toks + 1 + 1)))
theorem m_range2 {a b : Int} {t u : Tok} {Q : Value → Shared → Prop} (x : Fm g L m μ s0 s) (h : ∀ s' r q, Fm g L m μ s0 s' → IsRange s'.heap r a b 1 t u q → Q (.ref r) s') : wpAny (model prog w) A (call (.type "range") [.int a t, .int b u]) Q E s :=
  call_range_2 (h _ _ _ (x.keep (push_keeps _ _)) (IsRange.new _ _ _ _ _ _ _))
theorem m_range1 {b : Int} {u : Tok} {Q : Value → Shared → Prop} (x : Fm g L m μ s0 s) (h : ∀ s' r t q, Fm g L m μ s0 s' → IsRange s'.heap r 0 b 1 t u q → Q (.ref r) s') : wpAny (model prog w) A (call (.type "range") [.int b u]) Q E s :=
  call_range_1 (h _ _ _ _ (x.keep (push_keeps _ _)) (IsRange.new _ _ _ _ _ _ _))
theorem m_range3 {a b c : Int} {t u q : Tok} {Q : Value → Shared → Prop} (x : Fm g L m μ s0 s) (hc : c ≠ 0) (hp : Builtin.divisionGoesByPylong (b - a) c = false) (h : ∀ s' r, Fm g L m μ s0 s' → IsRange s'.heap r a b c t u q → Q (.ref r) s') :
    wpAny (model prog w) A (call (.type "range") [.int a t, .int b u, .int c q]) Q E s :=
  call_range_3 hc (h _ _ (x.keep (push_keeps _ _)) (IsRange.new _ _ _ _ _ _ _)) (.inl hp)
inductive SliceAsk (s0 : Shared) (Q : Value → Shared → Prop) (o vl vu : Value) (s₃ : Shared) : Prop
  | mk (l : Addr) (vs : List Value) (g : Fz) (L : Addr) (m : Str → Option Value) (μ : List (Addr × Obj)) (lo hi : Option Int) (ys : List Value) (e : o = .ref l) (x : Fm g L m μ s0 s₃) (hl : s₃.heap.IsList l vs.toArray) (hz : vs.length ≤ sizeLine) (p1 : IsPart vl lo) (p2 : IsPart vu hi) (hy : slicePick vs.toArray lo hi none = ys.toArray)
    (h : ∀ g' a s', Le g g' → Lst g' a ys → Fm g' L m μ s0 s' → Q (.ref a) s') : SliceAsk s0 Q o vl vu s₃
theorem r_slice {value : Expr} {lower upper : Option Expr} {p : Pos} {Q : Value → Shared → Prop}
    (h : wpAny (model prog w) A (eval value env) (fun o s₁ => wpAny (model prog w) A (evalPart lower env) (fun vl s₂ => wpAny (model prog w) A (evalPart upper env) (fun vu s₃ =>
      SliceAsk s0 Q o vl vu s₃) NoE s₂) NoE s₁) NoE s)
    : wpAny (model prog w) A (eval (.Subscript value (.Slice lower upper none p) pos) env) Q E s := by
  refine noE (PyProof.Rows.Subscript_ (wpAny_mono h (fun o s₁ h₁ => wpAny_Slice (wpAny_mono h₁ (fun vl s₂ h₂ => wpAny_mono h₂ (fun vu s₃ h₃ => wpAny_evalPart_none ?_) fun _ _ q => q) fun _ _ q => q)) fun _ _ q => q))
  refine absP fun Gx hGx => ?_
  obtain ⟨l, vs, g, L, m, μ, lo, hi, ys, rfl, x, hl, hz, p1, p2, hy, h⟩ := h₃
  refine hGx ?_
  have x1 := x.keep (tk := s₃.toks) (push_keeps s₃.heap { cls := .type "slice", data := .fields #[vl, vu, .none] })
  refine tail_any (ops := [.ref s₃.heap.objs.size, .ref l]) (hl.push _).typeIs slot_list_getitem.lookup ?_ (by rfl)
  refine wpAny_getItem_list_slice (hl.push _) (Heap.IsSliceOf.new ..) p1 p2 .none (by simp) ?_ (by rw [List.size_toArray]; exact hz)
  rw [hy]
  have x2 := x1.newF (tk := s₃.toks) (o := listOf ys.toArray 0) (push_keeps _ (listOf ys.toArray 0)) (size_none _) (Heap.get?_push_size _ rfl)
  exact h _ _ _ (put_le (x1.offNone (size_none _))) ⟨0, put_self _ _ _⟩ x2
end
theorem Lst.fun {g : Fz} {a : Addr} {vs ws : List Value} (x : Lst g a vs) (y : Lst g a ws) : vs = ws := by
  obtain ⟨n, e⟩ := x
  obtain ⟨k, f⟩ := y
  rw [e] at f
  have := Option.some.inj f
  simp only [Obj.mk.injEq, Data.seq.injEq] at this
  simpa using this.2.2.1.1
theorem Sl.fun {g : Fz} {a : Addr} {xs ys : List Str} (x : Sl g a xs) (y : Sl g a ys) : xs = ys := by
  refine absP fun Gx hGx => ?_
  obtain ⟨vs, l1, h1⟩ := x
  refine hGx ?_
  refine absP fun Gx hGx => ?_
  obtain ⟨ws, l2, h2⟩ := y
  refine hGx ?_
  rw [l1.fun l2] at h1
  have : xs.map some = ys.map some := h1.symm.trans h2
  exact List.map_inj_right (fun _ _ h => Option.some.inj h) |>.mp this
theorem IsRow.fun {g : Fz} {v : Value} {xs ys : List Str} (x : IsRow g v xs) (y : IsRow g v ys) : xs = ys := by
  refine absP fun Gx hGx => ?_
  obtain ⟨a, rfl, h1⟩ := x
  refine hGx ?_
  refine absP fun Gx hGx => ?_
  obtain ⟨b, e, h2⟩ := y
  refine hGx ?_
  cases e
  exact h1.fun h2
open Classical in
noncomputable def rowIs (g : Fz) (q : List Str) (v : Value) : Bool := decide (IsRow g v q)
theorem rowIs_eq {g : Fz} {v : Value} {xs q : List Str} (x : IsRow g v xs) : rowIs g q v = (xs == q) := by
  unfold rowIs
  by_cases h : xs = q
  · subst h; simp [x]
  · have : ¬ IsRow g v q := fun y => h (x.fun y)
    simp [this, h]
theorem any_rowIs {g : Fz} {ws : List Value} {acc : List (List Str)} {q : List Str} (h : Rows (IsRow g) ws acc) : ws.any (rowIs g q) = acc.contains q := by
  induction h with
  | nil => rfl
  | cons a _ ih => rw [List.any_cons, List.contains_cons, ih, rowIs_eq a, Bool.beq_comm]
theorem Sl.here {g : Fz} {a : Addr} {xs : List Str} {μ : List (Addr × Obj)} {s0 s : Shared} (h : Sl g a xs) (x : St g μ s0 s) : ∃ vs, s.heap.IsList a vs.toArray ∧ Are vs xs := let ⟨vs, l, r⟩ := h; ⟨vs, l.isList x, r⟩
theorem eq_rows {A : Around} {g : Fz} {μ : List (Addr × Obj)} {s0 s : Shared} {v : Value} {xs q : List Str} {c : Addr} (x : St g μ s0 s) (hu : A.units < cLine) (h : IsRow g v xs) (hc : Sl g c q) : EqAt A s v (.ref c) (xs == q) := by
  refine absP fun Gx hGx => ?_
  obtain ⟨a, rfl, hx⟩ := h
  refine hGx ?_
  by_cases e : a = c
  · subst e
    rw [hx.fun hc, beq_self_eq_true]
    exact EqAt.same _
  · exact EqAt.of_refs e (eq_strs hu (hx.here x) (hc.here x))
section
variable {prog : Program} {w : World} {A : Around} {E : Value → Shared → Prop} {s0 s : Shared} {g : Fz} {μ : List (Addr × Obj)}
theorem notIn_rows {D c : Addr} {ws : List Value} {acc : List (List Str)} {q : List Str} {Q : Value → Shared → Prop} (x : St g μ s0 s) (hu : A.units + 1 < cLine) (hD : s.heap.IsList D ws.toArray) (hw : Rows (IsRow g) ws acc) (hc : Sl g c q)
    (h : Q (.bool (!acc.contains q)) s) : wpAny (model prog w) A (compareOp .NotIn (.ref c) (.ref D)) Q E s := by
  refine notIn_listAt (rowIs g q) hD (fun y hy => ?_) (by rw [List.any_toArray, any_rowIs hw]; exact h)
  refine absP fun Gx hGx => ?_
  obtain ⟨xs, _, hr⟩ := hw.mem (by simpa using hy)
  refine hGx ?_
  rw [rowIs_eq hr]
  exact eq_rows x hu hr hc
theorem in_rows {D c : Addr} {ws : List Value} {acc : List (List Str)} {q : List Str} {Q : Value → Shared → Prop} (x : St g μ s0 s) (hu : A.units + 1 < cLine) (hD : s.heap.IsList D ws.toArray) (hw : Rows (IsRow g) ws acc) (hc : Sl g c q)
    (h : Q (.bool (acc.contains q)) s) : wpAny (model prog w) A (compareOp .In (.ref c) (.ref D)) Q E s := by
  refine in_listAt (rowIs g q) hD (fun y hy => ?_) (by rw [List.any_toArray, any_rowIs hw]; exact h)
  refine absP fun Gx hGx => ?_
  obtain ⟨xs, _, hr⟩ := hw.mem (by simpa using hy)
  refine hGx ?_
  rw [rowIs_eq hr]
  exact eq_rows x hu hr hc
end
theorem small_down {a : Int} (h0 : 0 ≤ a) (h1 : a < 2 ^ 62) : Builtin.Range.small a 0 (-1) = true := by
  unfold Builtin.Range.small Builtin.Range.rangeSize
  simp only [Builtin.Range.rangeFitsLong, Bool.and_eq_true, Bool.or_eq_true, decide_eq_true_eq, beq_iff_eq]
  have : ¬ ((-1 : Int) > 0) := by omega
  simp only [this, if_false]
  split <;> simp <;> omega
theorem size_down {k : Nat} : Builtin.Range.rangeSize (k : Int) 0 (-1) = (k : Int) := by
  unfold Builtin.Range.rangeSize
  have : ¬ ((-1 : Int) > 0) := by omega
  simp only [this, if_false]
  split
  · simp; 
  · omega
end Mine
end
section
set_option maxRecDepth 100000
set_option autoImplicit false
namespace Mine
open PySem PySem.Spec PySem.Calls PyProof.Rows PySem.W PySem.SeqAt
section
variable {prog : Program} {w : World} {A : Around} {E : Value → Shared → Prop} {s0 s : Shared} {g : Fz} {L : Addr} {m mg mb : Str → Option Value} {μ : List (Addr × Obj)} {a b : Int} {t u : Tok} {Q : Value → Shared → Prop}
theorem i_add (x : Fm g L m μ s0 s) (h : ∀ s' t, Fm g L m μ s0 s' → Q (.int (a + b) t) s') : wpAny (model prog w) A (binaryOp .Add (.int a t) (.int b u)) Q E s := PySem.P.add_int (h _ _ x.tok)
theorem i_sub (x : Fm g L m μ s0 s) (h : ∀ s' t, Fm g L m μ s0 s' → Q (.int (a - b) t) s') : wpAny (model prog w) A (binaryOp .Sub (.int a t) (.int b u)) Q E s := PySem.P.sub_int (h _ _ x.tok)
theorem i_mod (x : Fm g L m μ s0 s) (hb : b ≠ 0) (h : ∀ s' t, Fm g L m μ s0 s' → Q (.int (a.fmod b) t) s') : wpAny (model prog w) A (binaryOp .Mod (.int a t) (.int b u)) Q E s := PyProof.Rows.mod_int' hb (h _ _ x.tok)
theorem i_div (x : Fm g L m μ s0 s) (hb : b ≠ 0) (hp : b.natAbs < 1073741824) (h : ∀ s' t, Fm g L m μ s0 s' → Q (.int (a.fdiv b) t) s') : wpAny (model prog w) A (binaryOp .FloorDiv (.int a t) (.int b u)) Q E s :=
  PyProof.Rows.floordiv_int hb (h _ _ x.tok) (.inl (PyProof.noPylong_small hp))
theorem i_pow (x : Fm g L m μ s0 s) (hn : 0 ≤ b) (hz : (Builtin.Int.intBits a : Int) * b ≤ 2 ^ 27) (h : ∀ s' t, Fm g L m μ s0 s' → Q (.int (a ^ b.toNat) t) s') : wpAny (model prog w) A (binaryOp .Pow (.int a t) (.int b u)) Q E s :=
  PyProof.Rows.pow_int hn hz (h _ _ x.tok)
end
theorem size_up {a b : Int} (h : a ≤ b) : Builtin.Range.rangeSize a b 1 = ((b - a).toNat : Int) := by
  rw [rangeSize_one]; split <;> omega
theorem small_up {a b : Int} (h0 : 0 ≤ a) (h1 : a < 2 ^ 60) (h2 : 0 ≤ b) (h3 : b < 2 ^ 60) : Builtin.Range.small a b 1 = true := small_one (by first | assumption | exact Nat.le_trans (by assumption) (by decide) | exact Nat.le_trans (Nat.le_of_eq (by assumption)) (Nat.le_trans (by assumption) (by decide)) | omega) (by first | assumption | exact Nat.le_trans (by assumption) (by decide) | exact Nat.le_trans (Nat.le_of_eq (by assumption)) (Nat.le_trans (by assumption) (by decide)) | omega) (by first | assumption | exact Nat.le_trans (by assumption) (by decide) | exact Nat.le_trans (Nat.le_of_eq (by assumption)) (Nat.le_trans (by assumption) (by decide)) | omega) (by first | assumption | exact Nat.le_trans (by assumption) (by decide) | exact Nat.le_trans (Nat.le_of_eq (by assumption)) (Nat.le_trans (by assumption) (by decide)) | omega)
noncomputable def Tp (g : Fz) (a : Addr) (vs : List Value) : Prop := ∃ o, g a = some o ∧ o.cls = .type "tuple" ∧ ∃ n, o.data = .seq vs.toArray n
theorem Tp.le {g g' : Fz} {a : Addr} {vs : List Value} (x : Tp g a vs) (k : Le g g') : Tp g' a vs := let ⟨o, e, r⟩ := x; ⟨o, k _ _ e, r⟩
theorem Tp.isTup {g : Fz} {a : Addr} {vs : List Value} {μ : List (Addr × Obj)} {s0 s : Shared} (x : Tp g a vs) (y : St g μ s0 s) : IsTup s.heap a vs.toArray := let ⟨o, e, r⟩ := x; ⟨o, y.frz _ _ e, r⟩
section
variable {prog : Program} {w : World} {A : Around} {E : Value → Shared → Prop} {s0 s : Shared} {env : Env} {g : Fz} {L : Addr} {m mg mb : Str → Option Value} {μ : List (Addr × Obj)} {pos : Pos} {n : Str} {v : Value}
theorem m_tuple {vs : List Value} {Q : Value → Shared → Prop} (x : Fm g L m μ s0 s) (hz : vs.length ≤ sizeLine) (h : ∀ g' D s', Le g g' → Tp g' D vs → Fm g' L m μ s0 s' → Q (.ref D) s') : wpAny (model prog w) A (newTuple vs) Q E s :=
  wpAny_newTuple (h _ _ _ (put_le (x.offNone (size_none _))) ⟨_, put_self _ _ _, rfl, _, rfl⟩ (x.newF (tk := s.toks) (push_keeps _ _) (size_none _) (Heap.get?_push_size _ rfl))) hz
end
noncomputable def Ints (vs : List Value) : Prop := ∀ v ∈ vs, ∃ i t, v = .int i t
theorem Ints.all {vs : List Value} (h : Ints vs) : AllInts vs.toArray := fun v hv => h v (by simpa using hv)
theorem Ints.app {vs ws : List Value} (h : Ints vs) (k : Ints ws) : Ints (vs ++ ws) := fun v hv => (List.mem_append.mp hv).elim (h v) (k v)
theorem Ints.get {vs : List Value} (h : Ints vs) {i : Nat} {v : Value} (e : vs[i]? = some v) : ∃ i t, v = .int i t := h v (List.mem_of_getElem? e)
theorem Ints.of {vs : List Value} {ns : List Int} (h : IntsAre vs ns) : Ints vs := by
  induction h with
  | nil => intro v hv; cases hv
  | cons n t _ ih => intro v hv; rcases List.mem_cons.mp hv with rfl | hv; exact ⟨_, _, rfl⟩; exact ih v hv
section
variable {prog : Program} {w : World} {A : Around} {E : Value → Shared → Prop} {s0 s : Shared} {env : Env} {g : Fz} {L : Addr} {m mg mb : Str → Option Value} {μ : List (Addr × Obj)} {pos : Pos} {n : Str} {v : Value}
theorem m_sum {l : Addr} {vs : List Value} {Q : Value → Shared → Prop} (hh : A.handled = none) (x : Fm g L m μ s0 s) (hl : s.heap.IsList l vs.toArray) (hv : Ints vs) (h : ∀ n t s', Fm g L m μ s0 s' → Q (.int n t) s') : wpAny (model prog w) A (call (.builtin "sum") [.ref l]) Q E s := by
  obtain ⟨xs, hx⟩ := hv.all.items
  exact sum_intListG hh (hx ▸ hl) fun h' tk t' hk => h _ _ _ (x.keep hk)
inductive SliceAsk3 (s0 : Shared) (Q : Value → Shared → Prop) (o vl vu vk : Value) (s₄ : Shared) : Prop
  | mk (l : Addr) (vs : List Value) (g : Fz) (L : Addr) (m : Str → Option Value) (μ : List (Addr × Obj)) (lo hi : Option Int) (k : Int) (t : Tok) (e : o = .ref l) (x : Fm g L m μ s0 s₄) (hl : s₄.heap.IsList l vs.toArray) (hz : vs.length ≤ sizeLine) (p1 : IsPart vl lo) (p2 : IsPart vu hi) (e2 : vk = .int k t) (hk : k ≠ 0)
    (h : ∀ g' a s' ys, Le g g' → Lst g' a ys → (∀ y ∈ ys, y ∈ vs) → ys.length ≤ vs.length → Fm g' L m μ s0 s' → Q (.ref a) s') : SliceAsk3 s0 Q o vl vu vk s₄
theorem r_slice3 {value st : Expr} {lower upper : Option Expr} {p : Pos} {Q : Value → Shared → Prop}
    (h : wpAny (model prog w) A (eval value env) (fun o s₁ => wpAny (model prog w) A (evalPart lower env) (fun vl s₂ => wpAny (model prog w) A (evalPart upper env) (fun vu s₃ => wpAny (model prog w) A (eval st env) (fun vk s₄ =>
      SliceAsk3 s0 Q o vl vu vk s₄) NoE s₃) NoE s₂) NoE s₁) NoE s)
    (ht : ∀ o r, letTemporaryGo value o r = pure () := by intro _ _; rfl) : wpAny (model prog w) A (eval (.Subscript value (.Slice lower upper (some st) p) pos) env) Q E s := by
  refine noE (wpAny_Subscript_Slice_step (T := "list") rfl (wpAny_mono h (fun o s₁ h₁ => wpAny_Slice (wpAny_mono h₁ (fun vl s₂ h₂ => wpAny_mono h₂ (fun vu s₃ h₃ => wpAny_mono h₃ (fun vk s₄ h₄ => ?_) fun _ _ q => q) fun _ _ q => q) fun _ _ q => q)) fun _ _ q => q) ht)
  refine absP fun Gx hGx => ?_
  obtain ⟨l, vs, g, L, m, μ, lo, hi, k, t, rfl, x, hl, hz, p1, p2, rfl, hk, h⟩ := h₄
  refine hGx ?_
  have x1 := x.keep (tk := s₄.toks) (push_keeps s₄.heap { cls := .type "slice", data := .fields #[vl, vu, .int k t] })
  refine ⟨(hl.push _).typeIs, ?_⟩
  refine wpAny_getItem_list_slice (hl.push _) ⟨_, Heap.get?_push_size _ rfl, rfl, rfl⟩ p1 p2 (.int k t) (by simpa using hk) ?_ (by rw [List.size_toArray]; exact hz)
  have x2 := x1.newF (tk := s₄.toks) (o := listOf (slicePick vs.toArray lo hi (some k)) 0) (push_keeps _ (listOf (slicePick vs.toArray lo hi (some k)) 0)) (size_none _) (Heap.get?_push_size _ rfl)
  refine h _ _ _ (slicePick vs.toArray lo hi (some k)).toList (put_le (x1.offNone (size_none _))) ⟨0, put_self _ _ _⟩ (fun y hy => ?_) (by simpa using slicePick_size_le vs.toArray lo hi (some k)) x2
  unfold slicePick at hy
  simp only [List.mem_filterMap] at hy
  refine absP fun Gx hGx => ?_
  obtain ⟨j, _, hj⟩ := hy
  refine hGx ?_
  simp only [List.getElem?_toArray] at hj
  exact List.mem_of_getElem? hj
end
inductive FrzF (g : Fz) (L : Addr) (m : Str → Option Value) (μ : List (Addr × Obj)) (s0 s : Shared) (a : Addr) (o : Obj) : Prop
  | mk (g' : Fz) (le : Le g g') (e : g' a = some o) (x : Fm g' L m μ s0 s) : FrzF g L m μ s0 s a o
inductive FrzS (g : Fz) (μ : List (Addr × Obj)) (s0 s : Shared) (a : Addr) (o : Obj) : Prop
  | mk (g' : Fz) (le : Le g g') (e : g' a = some o) (x : St g' μ s0 s) : FrzS g μ s0 s a o
theorem Fm.frz1 {g : Fz} {L : Addr} {m : Str → Option Value} {μ : List (Addr × Obj)} {s0 s : Shared} {a : Addr} {o : Obj} (x : Fm g L m ((a, o) :: μ) s0 s) : FrzF g L m μ s0 s a o := ⟨_, x.freeze_le, put_self _ _ _, x.freeze⟩
theorem St.frz1 {g : Fz} {μ : List (Addr × Obj)} {s0 s : Shared} {a : Addr} {o : Obj} (x : St g ((a, o) :: μ) s0 s) : FrzS g μ s0 s a o := ⟨_, x.freeze_le, put_self _ _ _, x.freeze⟩
section
variable {prog : Program} {w : World} {A : Around} {E : Value → Shared → Prop} {s : Shared}
theorem item_at {value slice : Expr} {l : Addr} {vs : List Value} {i : Int} {j : Nat} {u : Tok} {v : Value} {Q : Value → Shared → Prop} (hl : s.heap.IsList l vs.toArray) (hj : i = j) (hz : j < 16777216) (e : vs[j]? = some v) (h : Q v s)
    (hs : subscripted slice false (.ref l) (.int i u) = operate [.ref l, .int i u] (getItem (.ref l) (.int i u)) := by with_unfolding_all rfl) : wpAny (model prog w) A (subscriptTail value slice (.ref l) (.int i u)) Q E s :=
  tail_any hl.typeIs slot_list_getitem.lookup (wpAny_getItem_list hl (by first | assumption | exact Nat.le_trans (by assumption) (by decide) | exact Nat.le_trans (Nat.le_of_eq (by assumption)) (Nat.le_trans (by assumption) (by decide)) | omega) (by first | assumption | exact Nat.le_trans (by assumption) (by decide) | exact Nat.le_trans (Nat.le_of_eq (by assumption)) (Nat.le_trans (by assumption) (by decide)) | omega) (by rw [hj]; simpa using e) h) hs
end
end Mine
end
section
set_option maxRecDepth 100000
set_option autoImplicit false
namespace Mine
open PySem PySem.Spec PySem.Calls PyProof.Rows PySem.W PySem.SeqAt
inductive Al {α : Type} (P : Value → α → Prop) : List Value → List α → Prop
  | nil : Al P [] []
  | cons {v : Value} {vs : List Value} {x : α} {xs : List α} : P v x → Al P vs xs → Al P (v :: vs) (x :: xs)
section
variable {α : Type} {P P' : Value → α → Prop} {vs ws : List Value} {xs ys : List α}
theorem Al.mono (h : Al P vs xs) (k : ∀ v x, P v x → P' v x) : Al P' vs xs := by
  induction h with
  | nil => exact .nil
  | cons a _ ih => exact .cons (k _ _ a) ih
theorem Al.length (h : Al P vs xs) : vs.length = xs.length := by
  induction h with
  | nil => rfl
  | cons _ _ ih => simp [ih]
theorem Al.append (h : Al P vs xs) (k : Al P ws ys) : Al P (vs ++ ws) (xs ++ ys) := by
  induction h with
  | nil => exact k
  | cons a _ ih => exact .cons a ih
theorem Al.isEmpty (h : Al P vs xs) : vs.isEmpty = xs.isEmpty := by cases h <;> rfl
theorem Al.one {v : Value} {x : α} (h : P v x) : Al P [v] [x] := .cons h .nil
theorem Al.get (h : Al P vs xs) {i : Nat} {v : Value} (e : vs[i]? = some v) : ∃ x, xs[i]? = some x ∧ P v x := by
  induction h generalizing i with
  | nil => simp at e
  | @cons v' vs' x' xs' a _ ih =>
    cases i with
    | zero => simp at e; subst e; exact ⟨x', rfl, a⟩
    | succ i => exact ih (by simpa using e)
theorem Al.at (h : Al P vs xs) {i : Nat} {x : α} (e : xs[i]? = some x) : ∃ v, vs[i]? = some v ∧ P v x := by
  have hl : i < vs.length := by rw [h.length]; exact (List.getElem?_eq_some_iff.mp e).1
  refine absP fun Gx hGx => ?_
  obtain ⟨y, hy, p⟩ := h.get (List.getElem?_eq_getElem hl)
  refine hGx ?_
  rw [e] at hy; cases hy
  exact ⟨_, List.getElem?_eq_getElem hl, p⟩
theorem Al.mem (h : Al P vs xs) {v : Value} (e : v ∈ vs) : ∃ x, x ∈ xs ∧ P v x := by
  refine absP fun Gx hGx => ?_
  obtain ⟨i, hi, rfl⟩ := List.getElem_of_mem e
  refine hGx ?_
  refine absP fun Gx hGx => ?_
  obtain ⟨x, hx, p⟩ := h.get (List.getElem?_eq_getElem hi)
  refine hGx ?_
  exact ⟨x, List.mem_of_getElem? hx, p⟩
theorem Al.take (h : Al P vs xs) (k : Nat) : Al P (vs.take k) (xs.take k) := by
  induction h generalizing k with
  | nil => simp only [List.take_nil]; exact .nil
  | cons a _ ih => cases k with
    | zero => exact .nil
    | succ k => exact .cons a (ih k)
theorem Al.drop (h : Al P vs xs) (k : Nat) : Al P (vs.drop k) (xs.drop k) := by
  induction h generalizing k with
  | nil => simp only [List.drop_nil]; exact .nil
  | cons a r ih => cases k with
    | zero => exact .cons a r
    | succ k => exact ih k
end
noncomputable def IsN (v : Value) (k : Nat) : Prop := ∃ t, v = .int k t
noncomputable def Nums (g : Fz) (a : Addr) (ks : List Nat) : Prop := ∃ vs, Lst g a vs ∧ Al IsN vs ks
theorem Nums.le {g g' : Fz} {a : Addr} {ks : List Nat} (x : Nums g a ks) (k : Le g g') : Nums g' a ks := let ⟨vs, e, r⟩ := x; ⟨vs, e.le k, r⟩
noncomputable def IsNums (g : Fz) (v : Value) (ks : List Nat) : Prop := ∃ a, v = .ref a ∧ Nums g a ks
theorem IsNums.le {g g' : Fz} (k : Le g g') (v : Value) (x : List Nat) (h : IsNums g v x) : IsNums g' v x := let ⟨a, e, r⟩ := h; ⟨a, e, r.le k⟩
noncomputable def Nll (g : Fz) (a : Addr) (kss : List (List Nat)) : Prop := ∃ vs, Lst g a vs ∧ Al (IsNums g) vs kss
theorem Nll.le {g g' : Fz} {a : Addr} {ks : List (List Nat)} (x : Nll g a ks) (k : Le g g') : Nll g' a ks := let ⟨vs, e, r⟩ := x; ⟨vs, e.le k, r.mono (IsNums.le k)⟩
section
variable {prog : Program} {w : World} {A : Around} {E : Value → Shared → Prop} {s0 s : Shared} {env : Env} {g : Fz} {L : Addr} {m mg mb : Str → Option Value} {μ : List (Addr × Obj)} {pos : Pos} {n : Str} {v : Value}
theorem r_assignC {Q : Unit → Shared → Prop} {c : Addr} {o : Obj} {v0 : Option Value} {f : Obj → List (Addr × Obj)} (x : Fm g L m μ s0 s) (hc : env.cells.lookup n = some c) (r : Rep c o μ f) (hd : o.data = .cell v0)
    (h : ∀ s' o', o'.data = .cell (some v) → Fm g L m (f o') s0 s' → Q () s') (hk : env.scope.kind = .function := by rfl) (hx : env.kindOf n = some .cell := by rfl) : wpAny (model prog w) A (assign (.Name n pos) env v) Q E s :=
  wpAny_assign_Name (r_storeC x hc r hd h hk hx)
theorem eq_lists {a b : Addr} {xs ys : List Str} {Q : Value → Shared → Prop} (x : St g μ s0 s) (hu : A.units < cLine) (ha : Sl g a xs) (hb : Sl g b ys) (h : Q (.bool (xs == ys)) s) : wpAny (model prog w) A (compareOp .Eq (.ref a) (.ref b)) Q E s :=
  PySem.EqBoolInt.of_rc (eq_strs hu (ha.here x) (hb.here x)) h
end
theorem ne_nil {prog : Program} {w : World} {A : Around} {E : Value → Shared → Prop} {s : Shared} {a b : Addr} {vs : List Value} {Q : Value → Shared → Prop} (hu : A.units < cLine) (ha : s.heap.IsList a vs.toArray) (hb : s.heap.IsList b ([] : List Value).toArray)
    (h : Q (.bool (!vs.isEmpty)) s) : wpAny (model prog w) A (compareOp .NotEq (.ref a) (.ref b)) Q E s := by
  cases vs with
  | nil => exact PySem.EqBoolInt.of_rcne (RcNeAt.lists (e := fun _ => true) ha hb rfl hu fun j h1 _ => absurd h1 (Nat.not_lt_zero _)) h
  | cons v vs => exact PySem.EqBoolInt.of_rcne (RcNeAt.lists_lengths ha hb (by simp) hu) h
theorem eq_nil {prog : Program} {w : World} {A : Around} {E : Value → Shared → Prop} {s : Shared} {a b : Addr} {vs : List Value} {Q : Value → Shared → Prop} (hu : A.units < cLine) (ha : s.heap.IsList a vs.toArray) (hb : s.heap.IsList b ([] : List Value).toArray)
    (h : Q (.bool vs.isEmpty) s) : wpAny (model prog w) A (compareOp .Eq (.ref a) (.ref b)) Q E s := by
  cases vs with
  | nil => exact PySem.EqBoolInt.of_rc (RcAt.lists (e := fun _ => true) ha hb rfl hu fun j h1 _ => absurd h1 (Nat.not_lt_zero _)) h
  | cons v vs => exact PySem.EqBoolInt.of_rc (RcAt.lists_lengths ha hb (by simp) hu) h
theorem ne_strs {A : Around} {s : Shared} {a b : Addr} {xs ys : List Str} (hu : A.units < cLine) (ha : ∃ vs, s.heap.IsList a vs.toArray ∧ Are vs xs) (hb : ∃ vs, s.heap.IsList b vs.toArray ∧ Are vs ys) : RcNeAt A s (.ref a) (.ref b) (!(xs == ys)) := by
  refine absP fun Gx hGx => ?_
  obtain ⟨vs, hl, hx⟩ := ha
  refine hGx ?_
  refine absP fun Gx hGx => ?_
  obtain ⟨ws, hw, hy⟩ := hb
  refine hGx ?_
  by_cases h : xs.length = ys.length
  · have hsz : vs.toArray.size = ws.toArray.size := by simp [hx.length, hy.length, h]
    have := RcNeAt.lists (e := fun j => xs.getD j Str.empty == ys.getD j Str.empty) hl hw hsz hu fun j h1 h2 => ?_
    · have e : vs.toArray.size = xs.length := by simp [hx.length]
      rw [e, all_range_eq h] at this
      exact this
    · have h1' : j < vs.length := by simpa using h1
      have h2' : j < ws.length := by simpa using h2
      refine absP fun Gx hGx => ?_
      obtain ⟨x, t, ex, ev⟩ := hx.get (List.getElem?_eq_getElem h1')
      refine hGx ?_
      refine absP fun Gx hGx => ?_
      obtain ⟨y, u, ey, ew⟩ := hy.get (List.getElem?_eq_getElem h2')
      refine hGx ?_
      have : xs.getD j Str.empty = x := by simp [List.getD, ex]
      have : ys.getD j Str.empty = y := by simp [List.getD, ey]
      simp only [List.getElem_toArray, *]
      exact EqAt.str_str _ _ _ _
  · have hne : (vs.toArray.size != ws.toArray.size) = true := by simp [hx.length, hy.length, h]
    have hf : (xs == ys) = false := by
      cases q : xs == ys with
      | false => rfl
      | true => exact absurd (congrArg List.length (eq_of_beq q)) h
    rw [hf]
    exact RcNeAt.lists_lengths hl hw hne hu
noncomputable def numIs (k : Nat) : Value → Bool
  | .int i _ => i == (k : Int)
  | _ => false
theorem any_numIs {ws : List Value} {acc : List Nat} {k : Nat} (h : Al IsN ws acc) : ws.any (numIs k) = acc.contains k := by
  induction h with
  | nil => rfl
  | @cons v vs x xs a _ ih =>
    obtain ⟨t, rfl⟩ := a
    rw [List.any_cons, List.contains_cons, ih]
    congr 1
    show ((x : Int) == (k : Int)) = (k == x)
    rw [Bool.eq_iff_iff, beq_iff_eq, beq_iff_eq]
    omega
section
variable {prog : Program} {w : World} {A : Around} {E : Value → Shared → Prop} {s : Shared} {D : Addr} {ws : List Value} {acc : List Nat} {k : Nat} {t : Tok} {Q : Value → Shared → Prop}
theorem in_nums (hD : s.heap.IsList D ws.toArray) (hw : Al IsN ws acc) (h : Q (.bool (acc.contains k)) s) : wpAny (model prog w) A (compareOp .In (.int k t) (.ref D)) Q E s := by
  refine in_listAt (numIs k) hD (fun y hy => ?_) (by rw [List.any_toArray, any_numIs hw]; exact h)
  refine absP fun Gx hGx => ?_
  obtain ⟨j, _, u, rfl⟩ := hw.mem (by simpa using hy)
  refine hGx ?_
  exact EqAt.int_int _ _ _ _
theorem notIn_nums (hD : s.heap.IsList D ws.toArray) (hw : Al IsN ws acc) (h : Q (.bool (!acc.contains k)) s) : wpAny (model prog w) A (compareOp .NotIn (.int k t) (.ref D)) Q E s := by
  refine notIn_listAt (numIs k) hD (fun y hy => ?_) (by rw [List.any_toArray, any_numIs hw]; exact h)
  refine absP fun Gx hGx => ?_
  obtain ⟨j, _, u, rfl⟩ := hw.mem (by simpa using hy)
  refine hGx ?_
  exact EqAt.int_int _ _ _ _
end
theorem filter_range_succ (p : Nat → Bool) (i : Nat) : (List.range (i + 1)).filter p = (List.range i).filter p ++ (if p i then [i] else []) := by
  rw [List.range_succ, List.filter_append]
  congr 1
  cases h : p i <;> simp [h]
section
variable {α : Type} {b : α} {l : List α}
theorem mem0 : b ∈ b :: l := .head _
theorem mem1 {a0 : α} : b ∈ a0 :: b :: l := .tail _ (.head _)
theorem mem2 {a0 a1 : α} : b ∈ a0 :: a1 :: b :: l := .tail _ (.tail _ (.head _))
theorem mem3 {a0 a1 a2 : α} : b ∈ a0 :: a1 :: a2 :: b :: l := .tail _ (.tail _ (.tail _ (.head _)))
theorem mem4 {a0 a1 a2 a3 : α} : b ∈ a0 :: a1 :: a2 :: a3 :: b :: l := .tail _ (.tail _ (.tail _ (.tail _ (.head _))))
theorem mem5 {a0 a1 a2 a3 a4 : α} : b ∈ a0 :: a1 :: a2 :: a3 :: a4 :: b :: l := .tail _ (.tail _ (.tail _ (.tail _ (.tail _ (.head _)))))
theorem mem6 {a0 a1 a2 a3 a4 a5 : α} : b ∈ a0 :: a1 :: a2 :: a3 :: a4 :: a5 :: b :: l := .tail _ (.tail _ (.tail _ (.tail _ (.tail _ (.tail _ (.head _))))))
theorem mem7 {a0 a1 a2 a3 a4 a5 a6 : α} : b ∈ a0 :: a1 :: a2 :: a3 :: a4 :: a5 :: a6 :: b :: l := .tail _ (.tail _ (.tail _ (.tail _ (.tail _ (.tail _ (.tail _ (.head _)))))))
theorem mem8 {a0 a1 a2 a3 a4 a5 a6 a7 : α} : b ∈ a0 :: a1 :: a2 :: a3 :: a4 :: a5 :: a6 :: a7 :: b :: l := .tail _ (.tail _ (.tail _ (.tail _ (.tail _ (.tail _ (.tail _ (.tail _ (.head _))))))))
theorem mem9 {a0 a1 a2 a3 a4 a5 a6 a7 a8 : α} : b ∈ a0 :: a1 :: a2 :: a3 :: a4 :: a5 :: a6 :: a7 :: a8 :: b :: l := .tail _ (.tail _ (.tail _ (.tail _ (.tail _ (.tail _ (.tail _ (.tail _ (.tail _ (.head _)))))))))
theorem mem10 {a0 a1 a2 a3 a4 a5 a6 a7 a8 a9 : α} : b ∈ a0 :: a1 :: a2 :: a3 :: a4 :: a5 :: a6 :: a7 :: a8 :: a9 :: b :: l := .tail _ (.tail _ (.tail _ (.tail _ (.tail _ (.tail _ (.tail _ (.tail _ (.tail _ (.tail _ (.head _))))))))))
theorem mem11 {a0 a1 a2 a3 a4 a5 a6 a7 a8 a9 a10 : α} : b ∈ a0 :: a1 :: a2 :: a3 :: a4 :: a5 :: a6 :: a7 :: a8 :: a9 :: a10 :: b :: l := .tail _ (.tail _ (.tail _ (.tail _ (.tail _ (.tail _ (.tail _ (.tail _ (.tail _ (.tail _ (.tail _ (.head _)))))))))))
theorem mem12 {a0 a1 a2 a3 a4 a5 a6 a7 a8 a9 a10 a11 : α} : b ∈ a0 :: a1 :: a2 :: a3 :: a4 :: a5 :: a6 :: a7 :: a8 :: a9 :: a10 :: a11 :: b :: l := .tail _ (.tail _ (.tail _ (.tail _ (.tail _ (.tail _ (.tail _ (.tail _ (.tail _ (.tail _ (.tail _ (.tail _ (.head _))))))))))))
end
section
variable {a : Addr} {o : Obj} {l : List (Addr × Obj)}
theorem rep0 : Rep a o ((a, o) :: l) (fun o' => (a, o') :: l) := .head
theorem rep1 {a0 : Addr × Obj} : Rep a o (a0 :: (a, o) :: l) (fun o' => a0 :: (a, o') :: l) := .tail (.head)
theorem rep2 {a0 a1 : Addr × Obj} : Rep a o (a0 :: a1 :: (a, o) :: l) (fun o' => a0 :: a1 :: (a, o') :: l) := .tail (.tail (.head))
theorem rep3 {a0 a1 a2 : Addr × Obj} : Rep a o (a0 :: a1 :: a2 :: (a, o) :: l) (fun o' => a0 :: a1 :: a2 :: (a, o') :: l) := .tail (.tail (.tail (.head)))
theorem rep4 {a0 a1 a2 a3 : Addr × Obj} : Rep a o (a0 :: a1 :: a2 :: a3 :: (a, o) :: l) (fun o' => a0 :: a1 :: a2 :: a3 :: (a, o') :: l) := .tail (.tail (.tail (.tail (.head))))
theorem rep5 {a0 a1 a2 a3 a4 : Addr × Obj} : Rep a o (a0 :: a1 :: a2 :: a3 :: a4 :: (a, o) :: l) (fun o' => a0 :: a1 :: a2 :: a3 :: a4 :: (a, o') :: l) := .tail (.tail (.tail (.tail (.tail (.head)))))
theorem rep6 {a0 a1 a2 a3 a4 a5 : Addr × Obj} : Rep a o (a0 :: a1 :: a2 :: a3 :: a4 :: a5 :: (a, o) :: l) (fun o' => a0 :: a1 :: a2 :: a3 :: a4 :: a5 :: (a, o') :: l) := .tail (.tail (.tail (.tail (.tail (.tail (.head))))))
theorem rep7 {a0 a1 a2 a3 a4 a5 a6 : Addr × Obj} : Rep a o (a0 :: a1 :: a2 :: a3 :: a4 :: a5 :: a6 :: (a, o) :: l) (fun o' => a0 :: a1 :: a2 :: a3 :: a4 :: a5 :: a6 :: (a, o') :: l) := .tail (.tail (.tail (.tail (.tail (.tail (.tail (.head)))))))
theorem rep8 {a0 a1 a2 a3 a4 a5 a6 a7 : Addr × Obj} : Rep a o (a0 :: a1 :: a2 :: a3 :: a4 :: a5 :: a6 :: a7 :: (a, o) :: l) (fun o' => a0 :: a1 :: a2 :: a3 :: a4 :: a5 :: a6 :: a7 :: (a, o') :: l) := .tail (.tail (.tail (.tail (.tail (.tail (.tail (.tail (.head))))))))
theorem rep9 {a0 a1 a2 a3 a4 a5 a6 a7 a8 : Addr × Obj} : Rep a o (a0 :: a1 :: a2 :: a3 :: a4 :: a5 :: a6 :: a7 :: a8 :: (a, o) :: l) (fun o' => a0 :: a1 :: a2 :: a3 :: a4 :: a5 :: a6 :: a7 :: a8 :: (a, o') :: l) := .tail (.tail (.tail (.tail (.tail (.tail (.tail (.tail (.tail (.head)))))))))
end
end Mine
end
section
set_option maxRecDepth 100000
set_option autoImplicit false
namespace Mine
open PySem PySem.Spec PySem.Calls PyProof.Rows PySem.W PySem.SeqAt
theorem noFields_of_ns {o : Obj} {m : Str → Option Value} (h : NsO o m) : ∀ vs, o.data ≠ .fields vs := fun vs q => by
  obtain ⟨es, ep, hd, _⟩ := h; rw [hd] at q; cases q
theorem NsO.slots {o : Obj} {m : Str → Option Value} (h : NsO o m) (sl : Array (Option Value)) : NsO { o with slots := sl } m := h
section
variable {M : Model} {A : Around} {E : Value → Shared → Prop} {s0 s : Shared} {g : Fz} {L L1 : Addr} {m : Str → Option Value} {μ : List (Addr × Obj)}
theorem St.flown {oL : Obj} {base h' : Heap} (x : St g ((L, oL) :: μ) s0 s) (hb : base.StaysIn h') (hu : s.heap.UpToSlots h') (hg : ∀ b o, g b = some o → base.get? b = some o) (hm : ∀ p ∈ μ, base.get? p.1 = some p.2)
    (hoL : ∀ vs, oL.data ≠ .fields vs) : ∃ sl, St g ((L, { oL with slots := sl }) :: μ) s0 { s with heap := h' } := by
  obtain ⟨sl, hs⟩ := hu L oL (x.mu _ (.head _)) hoL
  refine ⟨sl, ⟨by obtain ⟨h, t, e⟩ := x.same; rw [e]; exact ⟨h', t, rfl⟩, fun b o e => hb _ _ (hg b o e), fun p hp => ?_, fun p hp => ?_, x.nd⟩⟩
  · rcases List.mem_cons.mp hp with rfl | hp
    · exact hs
    · exact hb _ _ (hm p hp)
  · rcases List.mem_cons.mp hp with rfl | hp
    · exact x.off (L, oL) (.head _)
    · exact x.off p (.tail _ hp)
theorem leave_err {env1 env0 : Env} {oL : Obj} {h' : Heap} {e : Addr} {cls : Value} {vs : List Value} {Q : Unit → Shared → Prop} (hfr : A.frames = some [env0]) (hk1 : env1.scope.kind = .function) (hf1 : env1.frame = some L1) (hk0 : env0.scope.kind = .function)
    (hf0 : env0.frame = some L) (hoL : ∀ vs, oL.data ≠ .fields vs) (x : Fm g L1 m ((L, oL) :: μ) s0 s) (hx : Heap.MadeExcOf s.heap h' e cls vs)
    (h : ∀ s'' t base sl, St g ((L, { oL with slots := sl }) :: μ) s0 s'' → Heap.FlyingW base [env0] e cls (.ref t) s''.heap → (∀ b o, g b = some o → base.get? b = some o) → (∀ p ∈ μ, base.get? p.1 = some p.2) → Q () s'') :
    wpAny M (A.deeper env1) (leaving env1 (.ref e)) Q E { s with heap := h' } := by
  refine absP fun Gx hGx => ?_
  obtain ⟨o1, n1, y⟩ := id x
  refine hGx ?_
  have nd := y.nd
  rw [List.map_cons, List.map_cons, List.nodup_cons, List.nodup_cons] at nd
  have off1 := y.off (L1, o1) (.head _)
  have off2 := y.off (L, oL) (.tail _ (.head _))
  have hg : ∀ b o, g b = some o → (TI.gone s.heap [L1, L]).get? b = some o := fun b o eb => by
    rw [TI.gone_get (fun hm => ?_)]
    · exact y.frz b o eb
    · rcases List.mem_cons.mp hm with q | hm
      · rw [q] at eb; rw [off1] at eb; cases eb
      · rw [List.mem_singleton.mp hm, off2] at eb; cases eb
  have hm : ∀ p ∈ μ, (TI.gone s.heap [L1, L]).get? p.1 = some p.2 := fun p hp => by
    rw [TI.gone_get (fun hm => ?_)]
    · exact y.mu p (.tail _ (.tail _ hp))
    · have hp' : p.1 ∈ μ.map (·.1) := List.mem_map_of_mem hp
      rcases List.mem_cons.mp hm with q | hm
      · rw [q] at hp'; exact nd.1 (.tail _ hp')
      · rw [List.mem_singleton.mp hm] at hp'; exact nd.2.1 hp'
  have f2 : oL.data = oL.data := rfl
  refine wpAny_leaves_madeW (base := TI.gone s.heap [L1, L]) (Around.frames_deeper hfr) hf1 (fun b o eb => (TI.gone_some eb).2) ⟨by rw [hk1]; decide, ⟨L1, o1, hf1, TI.gone_none (.head _), y.mu _ (.head _), noFields_of_ns n1⟩, by rw [hk0]; decide, ⟨L, oL, hf0, TI.gone_none (.tail _ (.head _)), y.mu _ (.tail _ (.head _)), hoL⟩, trivial⟩ hx fun h2 t hfl _ _ hup => ?_
  have y2 : St g ((L, oL) :: μ) s0 { s with heap := h', toks := s.toks } := y.tl.keep hx.keeps
  obtain ⟨sl, y3⟩ := y2.flown hfl.1 hup hg hm hoL
  exact h _ t _ sl y3 hfl hg hm
end
end Mine
end
section
set_option maxRecDepth 100000
set_option autoImplicit false
namespace Mine
open PySem PySem.Spec PySem.Calls PyProof.Rows PySem.W PySem.SeqAt
theorem put_led (t : SetTable) (j : Nat) : (t.put j).1.led = t.led := rfl
theorem standIn_led (t : SetTable) (n : Nat) : (t.standIn n).led = t.led := rfl
theorem orStandIn_led (t : SetTable) (n : Nat) : (t.orStandIn n).led = t.led := by unfold SetTable.orStandIn; split <;> rfl
theorem layNew_led (t : SetTable) (es : Array (Int × Value)) (h : Int) (x : Value) : (layNew t es h x).2.1.led = t.led := by
  unfold layNew
  split
  · exact (orStandIn_led _ _).trans (put_led _ _)
  · exact standIn_led _ _
theorem relaid_led {t t' : SetTable} {hs : Array Int} {n : Nat} {o : Array Nat} (h : t.relaid hs n = some (t', o)) : t'.led = t.led := by
  unfold SetTable.relaid SetTable.laid at h
  refine absP fun Gx hGx => ?_
  obtain ⟨a, _, h⟩ := Option.bind_eq_some_iff.mp h
  refine hGx ?_
  cases h; rfl
theorem relayAll_led (t : SetTable) (es : Array (Int × Value)) (n : Nat) : (relayAll t es n).2.1.led = t.led := by
  unfold relayAll
  split
  · rename_i t' o h
    dsimp only
    split
    · exact relaid_led h
    · exact standIn_led _ _
  · exact standIn_led _ _
noncomputable def One (w : World) (x : Str) (o : Obj) : Prop := ∃ k ep t, o = { cls := .type "set", dict := none, data := .set #[(hashStr w x, .str x k)] ep t } ∧ t.fits 1 = true ∧ t.led = !w.params.followText "set-order"
section
variable {prog : Program} {w : World} {A : Around} {E : Value → Shared → Prop} {s : Shared}
theorem one_of {x : Str} {k : Tok} {es : Array (Int × Value)} (hp : es.toList.Perm [(hashStr w x, Value.str x k)]) : es = #[(hashStr w x, .str x k)] := by
  have := List.perm_singleton.mp hp
  rw [← Array.toList_inj, this]
theorem add_one {a : Addr} {x : Str} {k : Tok} {led : Bool} {Q : Bool → Shared → Prop} (hl : led = !w.params.followText "set-order") (ho : s.heap.get? a = some { cls := .type "set", dict := none, data := .set #[] 0 (.fresh 0 0 led) })
    (h : ∀ h' o, Heap.SameBut a s.heap h' → h'.get? a = some o → One w x o → Q true { s with heap := h' }) : wpAny (model prog w) A (setAddHashed a (.str x k) (hashStr w x)) Q E s := by
  unfold setAddHashed setAddHashedIn
  refine wpAny_holding (wpAny_bind (wpAny_setState_of ho rfl rfl ?_))
  dsimp only
  rw [show byScan (.str x k) #[] = true from by simp [byScan, Value.scannable, scanBound]]
  simp only [↓reduceIte]
  unfold setAddByScan
  refine wpAny_bind (wpAny_bind (wpAny_rule ?_))
  show wpAny _ _ (setScan a (.str x k) (hashStr w x) true #[] >>= _) _ _ _
  have hsc : setScan a (.str x k) (hashStr w x) true #[] = pure .absent := by unfold setScan setScanStrs; simp
  rw [hsc]
  refine wpAny_bind (wpAny_pure ?_)
  dsimp only
  have hperm := layNew_perm (SetTable.fresh 0 0 led) #[] (hashStr w x) (.str x k)
  have hfits := layNew_fits (SetTable.fresh 0 0 led) #[] (hashStr w x) (.str x k)
  have hled := layNew_led (SetTable.fresh 0 0 led) #[] (hashStr w x) (.str x k)
  generalize layNew (SetTable.fresh 0 0 led) #[] (hashStr w x) (.str x k) = L at hperm hfits hled ⊢
  refine absP fun Gx hGx => ?_
  obtain ⟨es1, t1, wasDummy, gave⟩ := L
  refine hGx ?_
  dsimp only at hperm hfits hled ⊢
  rw [Array.toList_push] at hperm
  have he := one_of hperm
  subst he
  have hgw : ∀ (b : Bool) {s₁ : Shared} {Q' : Unit → Shared → Prop}, Q' () s₁ → wpAny (model prog w) A (match b with | true => rule "set.scan.the-table-gave-way" | false => pure ()) Q' E s₁ :=
    fun b s₁ Q' hq => by cases b <;> first | exact wpAny_pure hq | exact wpAny_rule hq
  refine wpAny_bind (hgw _ ?_)
  have hl1 : t1.led = !w.params.followText "set-order" := hled.trans hl
  have fin : ∀ t2 : SetTable, t2.fits 1 = true → t2.led = (!w.params.followText "set-order") → wpAny (model prog w) A (do
        storeSet a #[(hashStr w x, .str x k)] t2
        if (!wasDummy && t2.tooFull) = true then do
            (match (relayAll t2 #[(hashStr w x, .str x k)] (SetTable.grown 1)).2.2 with | true => rule "set.scan.the-table-gave-way" | false => pure ())
            storeSet a (relayAll t2 #[(hashStr w x, .str x k)] (SetTable.grown 1)).1 (relayAll t2 #[(hashStr w x, .str x k)] (SetTable.grown 1)).2.1
            pure (some true)
          else pure (some true)) (fun r s' => r = some true ∧ Q true s') E s := by
    intro t2 hf hl2
    refine wpAny_bind (wpAny_storeSet_of ho rfl ?_ (by rw [sizeLine_eq]; simp))
    have ho1 : (s.heap.update a (Obj.putSet #[(hashStr w x, .str x k)] t2)).get? a = some { cls := .type "set", dict := none, data := .set #[(hashStr w x, .str x k)] 1 t2 } := by
      have := Heap.get?_update_self (Obj.putSet #[(hashStr w x, .str x k)] t2) ho rfl
      rw [putSet_of _ _ rfl] at this; exact this
    have hsb1 := Heap.SameBut.update s.heap a (Obj.putSet #[(hashStr w x, .str x k)] t2)
    split
    · have hp := relayAll_perm t2 #[(hashStr w x, .str x k)] (SetTable.grown 1)
      have hfr := relayAll_fits t2 #[(hashStr w x, .str x k)] (SetTable.grown 1)
      have hlr := relayAll_led t2 #[(hashStr w x, .str x k)] (SetTable.grown 1)
      generalize relayAll t2 #[(hashStr w x, .str x k)] (SetTable.grown 1) = Rl at hp hfr hlr ⊢
      refine absP fun Gx hGx => ?_
      obtain ⟨es2, t3, gave2⟩ := Rl
      refine hGx ?_
      dsimp only at hp hfr hlr ⊢
      have he2 := one_of (w := w) (x := x) (k := k) hp
      subst he2
      refine wpAny_bind (hgw _ ?_)
      refine wpAny_bind (wpAny_storeSet_of ho1 rfl ?_ (by rw [sizeLine_eq]; simp))
      have ho2 := Heap.get?_update_self (Obj.putSet #[(hashStr w x, .str x k)] t3) ho1 rfl
      rw [putSet_of _ _ rfl] at ho2
      exact wpAny_pure ⟨rfl, h _ _ (hsb1.trans (Heap.SameBut.update _ a _)) ho2 ⟨k, _, t3, rfl, hfr, hlr.trans hl2⟩⟩
    · exact wpAny_pure ⟨rfl, h _ _ hsb1 ho1 ⟨k, _, t2, rfl, hf, hl2⟩⟩
  have hbv : hashByValue 8 (.str x k) = pure false := by rw [hashByValue_scannable 8 rfl]; rfl
  refine wpAny_mono (Q := fun r s' => r = some true ∧ Q true s') ?_ (fun r s' hr => ?_) fun _ _ e => e
  · split
    · refine wpAny_bind ?_
      rw [hbv]
      refine wpAny_pure ?_
      exact fin _ (SetTable.fits_plain_off hfits) hl1
    · refine wpAny_bind (wpAny_pure ?_)
      exact fin _ hfits hl1
  · obtain ⟨rfl, hq⟩ := hr
    exact wpAny_pure hq
theorem loop_one {R : Result → Shared → Prop} {I l S : Addr} {x : Str} {k : Tok} {led : Bool} {s1 : Shared} (hh : A.handled = none) (hIl : l ≠ I) (hSI : S ≠ I) (hSl : S ≠ l) (hl : led = !w.params.followText "set-order")
    (hit : s1.heap.IsListIter I l 0) (hls : s1.heap.IsList l #[.str x k]) (ho : s1.heap.get? S = some { cls := .type "set", dict := none, data := .set #[] 0 (.fresh 0 0 led) })
    (hR : ∀ h' tk o, (∀ b o, b ≠ I → b ≠ S → s1.heap.get? b = some o → h'.get? b = some o) → h'.get? S = some o → One w x o → R (.ok (.ret .none)) { s1 with heap := h', toks := tk }) :
    codeAny (model prog w) A (.builtin "set.update.loop" ⟨[.ref S, .ref I], []⟩) R s1 := by
  have W := Walks.list (prog := prog) (w := w) (A := A.in1) hh I l hIl #[.str x k]
  refine codeAny_builtin F.entry_set_update_loop ?_
  rw [Around.under_plainId F.plain_set_update_loop _]
  show wpAny _ A.in1 (pyNext (.ref I) >>= _) _ _ s1
  refine wpAny_bind (W.item 0 s1 _ _ (by simp) ⟨hit, hls⟩ fun v h1 tk1 hv hst hk => ?_)
  have hv : v = .str x k := by simpa using hv.symm
  subst hv
  have ho1 : h1.get? S = some { cls := .type "set", dict := none, data := .set #[] 0 (.fresh 0 0 led) } := hk S _ (by simpa using hSI) ho
  show wpAny _ A.in1 (holding [Value.str x k] (setAdd S (.str x k)) >>= _) _ _ _
  refine wpAny_bind (wpAny_holding ?_)
  unfold setAdd
  refine wpAny_holding ?_
  refine wpAny_bind (wpAny_pyHash_str ?_)
  refine add_one hl ho1 fun h2 o hsb ho2 hone => ?_
  refine wpAny_pure ⟨plainId_quiet F.plain_set_update_loop _, ?_⟩
  refine codeAny_builtin F.entry_set_update_loop ?_
  rw [Around.under_plainId F.plain_set_update_loop _]
  show wpAny _ A.in1 (pyNext (.ref I) >>= _) _ _ _
  have hst2 := W.frame 1 h1 h2 hst fun b hb o e => by
    rw [hsb.2 b (fun q => by
      rcases List.mem_cons.mp hb with e | hb
      · exact hSI (q.symm.trans e)
      · exact hSl (q.symm.trans (List.mem_singleton.mp hb)))]; exact e
  refine wpAny_bind (W.done _ _ _ hst2 fun h3 tk3 hk3 => ?_)
  show wpAny _ A.in1 (ret Value.none) _ _ _
  refine wpAny_pure (hR _ _ o (fun b o' hbI hbS e => ?_) (hk3 S _ (by simpa using hSI) ho2) hone)
  refine hk3 b o' (by simpa using hbI) ?_
  show h2.get? b = some o'
  rw [hsb.2 b hbS]
  exact hk b o' (by simpa using hbI) e
noncomputable abbrev led0 (w : World) : Bool := !w.params.followText "set-order"
noncomputable abbrev set0 (w : World) : Obj := { cls := .type "set", dict := none, data := .set #[] 0 (.fresh 0 0 (led0 w)) }
theorem code_new (a : Value) {Q₁ : Value → Shared → Prop} (h : Q₁ (.ref s.heap.objs.size) { s with heap := s.heap.push (set0 w) }) :
    codeAny (model prog w) A (.call (.builtin "set.__new__") ⟨[.type "set", a], []⟩) (wants Q₁ E) s := by
  refine codeAny_of_tree ?_
  show wpAny _ A.in1 (do checkBuiltinCall "set.__new__" ⟨[.type "set", a], []⟩; again (.builtin "set.__new__" ⟨[.type "set", a], []⟩)) _ _ s
  refine wpAny_bind (wpAny_of_eq (F.newCall_set_1 a) (wpAny_pure ⟨plainId_quiet F.plain_set_new _, codeAny_builtin F.entry_set_new ?_⟩))
  rw [Around.under_plainId F.plain_set_new _]
  unfold Builtin.«set.__new__» Builtin.Frozenset.newClass
  have hsub := sub_set_self
  refine absP fun Gx hGx => ?_
  obtain ⟨hp, g, d, tk, os⟩ := s
  refine hGx ?_
  dsimp only
  wp_walk
  refine wpAny_askSetting (wpAny_pure ?_)
  dsimp only
  simp only [newObj]
  refine wpAny_bind (wpAny_alloc (wpAny_pure ?_))
  exact wpAny_pure h
set_option maxHeartbeats 3200000 in
theorem newset_one {l : Addr} {x : Str} {k : Tok} {Q : Value → Shared → Prop} (hh : A.handled = none) (hl : s.heap.IsList l #[.str x k])
    (h : ∀ h' tk o, (∀ b o, s.heap.get? b = some o → h'.get? b = some o) → h'.get? s.heap.objs.size = some o → One w x o → Q (.ref s.heap.objs.size) { s with heap := h', toks := tk }) :
    wpAny (model prog w) A (call (.type "set") [.ref l]) Q E s := by
  refine absP fun Gx hGx => ?_
  obtain ⟨c, tl, hmro⟩ := F.called_set.mro
  refine hGx ?_
  have hmade := F.called_set.made
  have hsub := F.called_set.sub
  refine wpAny_call (codeAny_of_tree ?_)
  show wpAny _ _ (callAny (.type "set") _) _ _ _
  refine wpAny_pure ⟨Code.quiet_builtin _ (by decide +kernel), codeAny_builtin F.entry_type_call ?_⟩
  rw [Around.under_plain (weight_type_call_type "set" [.ref l] []) rfl]
  have h1 := F.called_set.notType
  have h2 := F.called_set.canCreate
  have hct := F.typeCall_set_1 (.ref l)
  repeat (any_goals (first | assumption | wp_step))
  refine codeAny_mono (code_new (w := w) (.ref l) (E := E) (Q₁ := fun obj s₁ => obj = .ref s.heap.objs.size ∧ s₁ = { s with heap := s.heap.push (set0 w) }) ⟨rfl, rfl⟩) fun r s₁ hr => ?_
  cases r with
  | error e => exact hr
  | ok fl =>
    cases fl with
    | ret obj =>
      obtain ⟨rfl, rfl⟩ := hr
      have hS : (s.heap.push (set0 w)).get? s.heap.objs.size = some (set0 w) := Heap.get?_push_size _ rfl
      have hT : Shared.TypeIs { s with heap := s.heap.push (set0 w) } (.ref s.heap.objs.size) "set" := ⟨_, hS, rfl⟩
      have hli := F.called_set.init.lookup
      have hbi := F.called_set.init.bind (.ref s.heap.objs.size)
      repeat (any_goals (first | assumption | wp_step))
      refine codeAny_mono (codeAny_call_builtin (R := wants (fun r s₂ => r = .none ∧ ∃ h' tk o, s₂ = { s with heap := h', toks := tk } ∧ (∀ b o, s.heap.get? b = some o → h'.get? b = some o) ∧ h'.get? s.heap.objs.size = some o ∧ One w x o) E)
        F.called_set.init.plain F.entry_set_init (check_set_init_1 hT ?_)) fun r₂ s₂ hr₂ => ?_
      · refine absP fun Gx hGx => ?_
        obtain ⟨ol, hol, hcl, nl, hdl⟩ := hl
        refine hGx ?_
        refine absP fun Gx hGx => ?_
        obtain ⟨ocls, odict, odata, oslots⟩ := ol
        refine hGx ?_
        simp only at hcl hdl
        subst hcl; subst hdl
        have hol' : (s.heap.push (set0 w)).get? l = some { cls := .type "list", dict := odict, data := .seq #[.str x k] nl, slots := oslots } := Heap.get?_push_of_some _ hol
        have hsls := F.sub_list_set
        have hslf := F.sub_list_frozenset
        have hne : (Value.type "list" == Value.type "dict") = false := by decide
        have hl1 : (s.heap.push (set0 w)).IsList l #[.str x k] := ⟨_, hol', rfl, nl, rfl⟩
        unfold Builtin.«set.__init__» noKeywords Builtin.Frozenset.updateFrom
        generalize hPI : pyIter = PI
        wp_walk
        subst hPI
        refine wpAny_pyIter_list hl1 ?_
        refine wpAny_bind (wpAny_runValue ?_)
        have hlS : l < s.heap.objs.size := Heap.lt_size hol
        have hsz : (s.heap.push (set0 w)).objs.size = s.heap.objs.size + 1 := Heap.size_push ..
        refine loop_one (x := x) (k := k) (led := led0 w) (I := (s.heap.push (set0 w)).objs.size) (l := l) (by simp [hh]) (by rw [hsz]; exact Nat.ne_of_lt (Nat.lt_succ_of_lt hlS)) (by rw [hsz]; exact Nat.ne_of_lt (Nat.lt_succ_self _)) (Nat.ne_of_gt hlS) rfl
          ⟨_, Heap.get?_push_size _ rfl, rfl, rfl⟩ (hl1.push _) (Heap.get?_push_of_some _ hS) fun h' tk o hk ho hone => ?_
        show wpAny _ _ _ _ _ _
        refine wpAny_pure ?_
        show wpAny _ _ (ret Value.none) _ _ _
        refine wpAny_pure ⟨rfl, h', tk, o, rfl, fun b ob e => ?_, ho, hone⟩
        have hb := Heap.lt_size e
        exact hk b ob (by rw [hsz]; exact Nat.ne_of_lt (Nat.lt_succ_of_lt hb)) (Nat.ne_of_lt hb) (Heap.get?_push_of_some _ (Heap.get?_push_of_some _ e))
      · cases r₂ with
        | error e => exact hr₂
        | ok fl₂ =>
          cases fl₂ with
          | ret r =>
            refine absP fun Gx hGx => ?_
            obtain ⟨rfl, h', tk, o, rfl, hk, ho, hone⟩ := hr₂
            refine hGx ?_
            repeat (any_goals (first | assumption | wp_step))
            exact h _ _ _ hk ho hone
          | _ => exact hr₂.elim
    | _ => exact hr.elim
end
end Mine
end
section
set_option maxRecDepth 100000
set_option autoImplicit false
namespace Mine
open PySem PySem.Spec PySem.Calls PyProof.Rows PySem.W PySem.SeqAt
theorem entry_iter : entryFor table "set.__iter__" = some Builtin.«frozenset.__iter__» := entryFor_alias (id' := "frozenset.__iter__") (by kernel_rfl) rfl (by decide +kernel) (by kernel_rfl)
theorem slot_next : Slot "set_iterator" "__next__" "set_iterator.__next__" :=
  .of (owner := "set_iterator") (n := "__next__") (by rw [typeLookup_type, builtinLookup_eq_fast]; kernel_rfl) (by decide +kernel) (by decide +kernel) (by decide +kernel)
    (by first | exact .inl (by decide +kernel) | exact .inr (by decide +kernel)) (by rw [isSubtype_type]; kernel_rfl)
theorem slot_selfiter : Slot "set_iterator" "__iter__" "set_iterator.__iter__" :=
  .of (owner := "set_iterator") (n := "__iter__") (by rw [typeLookup_type, builtinLookup_eq_fast]; kernel_rfl) (by decide +kernel) (by decide +kernel) (by decide +kernel)
    (by first | exact .inl (by decide +kernel) | exact .inr (by decide +kernel)) (by rw [isSubtype_type]; kernel_rfl)
theorem entry_next : entryFor table "set_iterator.__next__" = some Builtin.«set_iterator.__next__» := entryFor_of_tree (by kernel_rfl)
theorem entry_selfiter : entryFor table "set_iterator.__iter__" = some Builtin.«dict_keyiterator.__iter__» := entryFor_alias (id' := "dict_keyiterator.__iter__") (by kernel_rfl) rfl (by decide +kernel) (by kernel_rfl)
theorem owner_si : Manifest.owners.lookup (String.ofList ['r', 'o', 't', 'a', 'r', 'e', 't', 'i', '_', 't', 'e', 's'].reverse) = some Manifest.sig_set_iterator := by kernel_rfl
theorem args_next (a : Value) : argsOk "set_iterator.__next__" ⟨[a], []⟩ := by
  unfold argsOk; rw [signature?_of (id := "set_iterator.__next__") (n := ['_', '_', 't', 'x', 'e', 'n', '_', '_']) (o := ['r', 'o', 't', 'a', 'r', 'e', 't', 'i', '_', 't', 'e', 's']) (by kernel_rfl) owner_si]; kernel_rfl
theorem args_selfiter (a : Value) : argsOk "set_iterator.__iter__" ⟨[a], []⟩ := by
  unfold argsOk; rw [signature?_of (id := "set_iterator.__iter__") (n := ['_', '_', 'r', 'e', 't', 'i', '_', '_']) (o := ['r', 'o', 't', 'a', 'r', 'e', 't', 'i', '_', 't', 'e', 's']) (by kernel_rfl) owner_si]; kernel_rfl
end Mine
end
section
set_option maxRecDepth 100000
set_option autoImplicit false
namespace Mine
open PySem PySem.Spec PySem.Calls PyProof.Rows PySem.W PySem.SeqAt
noncomputable def SetIt (h : Heap) (I a : Addr) (j i : Nat) (ep : Nat) : Prop := ∃ o, h.get? I = some o ∧ o.cls = .type "set_iterator" ∧ o.data = .fields #[rawInt j, rawInt i, .ref a, rawInt 1, rawInt ep]
section
variable {prog : Program} {w : World} {A : Around} {E : Value → Shared → Prop} {s : Shared}
theorem SetIt.typeIs {I a : Addr} {j i ep : Nat} (x : SetIt s.heap I a j i ep) : s.TypeIs (.ref I) "set_iterator" := let ⟨o, ho, hc, _⟩ := x; ⟨o, ho, hc⟩
theorem iter_one {a : Addr} {x : Str} {k : Tok} {ep : Nat} {t : SetTable} {Q : Value → Shared → Prop} (ho : s.heap.get? a = some { cls := .type "set", dict := none, data := .set #[(hashStr w x, .str x k)] ep t }) (hf : t.fits 1 = true)
    (h : Q (.ref s.heap.objs.size) { s with heap := s.heap.push { cls := .type "set_iterator", data := .fields #[rawInt 0, rawInt 0, .ref a, rawInt 1, rawInt ep] } }) : wpAny (model prog w) A (pyIter (.ref a)) Q E s := by
  have hT : s.TypeIs (.ref a) "set" := ⟨_, ho, rfl⟩
  refine wpAny_pyIter_slot hT F.slot_set_iter (wpAny_call_entry F.slot_set_iter hT entry_iter ?_ (F.args_set_iter_1 _))
  unfold Builtin.«frozenset.__iter__» Builtin.Frozenset.slot0 slotArgs
  refine wpAny_bind (wpAny_bind (wpAny_pure (wpAny_bind (wpAny_pure ?_))))
  refine wpAny_pure ?_
  unfold Builtin.Frozenset.sizeOf
  refine wpAny_bind (wpAny_bind (wpAny_setEntries_of ho rfl hf (wpAny_pure ?_)))
  unfold setDrawn setsByText
  refine wpAny_bind (wpAny_bind (wpAny_setState_of ho rfl hf ?_))
  dsimp only
  refine wpAny_bind (wpAny_bind (wpAny_askSetting (wpAny_pure (wpAny_pure ?_))))
  rw [if_neg (fun q => by
    have q2 : (!t.plain && decide (1 > 1)) = true := ((Bool.and_eq_true _ _).mp q).2
    simp at q2)]
  refine wpAny_bind (wpAny_pure ?_)
  unfold setEpoch
  refine wpAny_bind (wpAny_bind (wpAny_setState_of ho rfl hf (wpAny_pure ?_)))
  refine wpAny_bind (wpAny_newObj_type (wpAny_pure ⟨_, rfl, "set_iterator", _, ⟨_, Heap.get?_push_size _ rfl, rfl⟩, slot_next.lookup, ?_⟩))
  exact h
theorem place_one {t : SetTable} (hf : t.fits 1 = true) : ∃ p, t.place = #[p] := by
  unfold SetTable.fits at hf
  rw [Bool.and_eq_true, beq_iff_eq] at hf
  have h1 : t.place.toList.length = 1 := by rw [Array.length_toList]; exact hf.1
  obtain ⟨p, hp⟩ := List.length_eq_one_iff.mp h1
  exact ⟨p, by rw [← Array.toList_inj, hp]⟩
theorem below_lo (p : Nat) : SetTable.below #[p] 0 = 0 := by simp [SetTable.below, SetTable.below.go]
theorem below_hi {p j : Nat} (h : p < j) : SetTable.below #[p] j = 1 := by simp [SetTable.below, SetTable.below.go, h]
theorem pick_one {α : Type} (f : Nat → Nat) (x : α) : pickOrder f #[x] = #[x] := by simp [pickOrder, pickOrder.go, Nat.mod_one]
theorem setNext_ok {a : Addr} {x : Str} {k : Tok} {ep j i : Nat} {t : SetTable} {Q : Option (Value × Nat) → Shared → Prop} (ho : s.heap.get? a = some { cls := .type "set", dict := none, data := .set #[(hashStr w x, .str x k)] ep t }) (hf : t.fits 1 = true) (hl : t.led = led0 w)
    (h0 : (i = 0 ∧ j = 0) → ∀ j', (w.params.followText "set-order" = false → ∀ p ∈ t.place.toList, p < j') → Q (some (.str x k, j')) s)
    (h1 : (i = 1 ∧ (w.params.followText "set-order" = false → ∀ p ∈ t.place.toList, p < j)) → Q none s) (hij : (i = 0 ∧ j = 0) ∨ (i = 1 ∧ (w.params.followText "set-order" = false → ∀ p ∈ t.place.toList, p < j))) : wpAny (model prog w) A (setNext a j i ep) Q E s := by
  obtain ⟨p, hp⟩ := place_one hf
  unfold setNext setsByText
  refine wpAny_bind (wpAny_setState_of ho rfl hf ?_)
  dsimp only
  refine wpAny_bind (wpAny_bind (wpAny_askSetting (wpAny_pure ?_)))
  cases hb : w.params.followText "set-order" with
  | true =>
    rw [if_pos (show ({ program := (model prog w).prog, params := (model prog w).w.params } : Setting).params.followText "set-order" = true from hb)]
    rw [if_neg (by simp)]
    unfold setWalk setsByText
    refine wpAny_bind (wpAny_bind (wpAny_setState_of ho rfl hf ?_))
    dsimp only
    refine wpAny_bind (wpAny_bind (wpAny_askSetting (wpAny_pure ?_)))
    rw [if_pos (show ({ program := (model prog w).prog, params := (model prog w).w.params } : Setting).params.followText "set-order" = true from hb)]
    refine wpAny_bind (wpAny_askSetting (wpAny_pure ?_))
    rw [pick_one]
    refine wpAny_pure ?_
    rcases hij with ⟨rfl, rfl⟩ | ⟨rfl, hj⟩
    · exact h0 ⟨rfl, rfl⟩ 0 (fun q => by rw [hb] at q; cases q)
    · exact h1 ⟨rfl, hj⟩
  | false =>
    rw [if_neg (show ¬ ({ program := (model prog w).prog, params := (model prog w).w.params } : Setting).params.followText "set-order" = true from by rw [show ({ program := (model prog w).prog, params := (model prog w).w.params } : Setting).params.followText "set-order" = false from hb]; decide)]
    rw [if_neg (fun q => by
      have q2 : (!t.plain && decide (1 > 1)) = true := q
      simp at q2)]
    have hled : t.led = true := by rw [hl, led0, hb]; rfl
    refine wpAny_bind ?_
    show wpAny _ _ (if (!t.led && !(#[(hashStr w x, Value.str x k)] : Array (Int × Value)).isEmpty) = true then unsupported "set:maker-not-led" else pure ()) _ _ _
    rw [if_neg (by rw [hled]; simp)]
    refine wpAny_pure ?_
    rw [hp]
    rcases hij with ⟨rfl, rfl⟩ | ⟨rfl, hj⟩
    · rw [below_lo]
      exact wpAny_pure (h0 ⟨rfl, rfl⟩ (p + 1) (fun _ q hq => by rw [hp] at hq; rw [List.mem_singleton.mp hq]; exact Nat.lt_succ_self _))
    · have hpj : p < j := hj hb p (by rw [hp]; exact .head _)
      rw [below_hi hpj]
      exact wpAny_pure (h1 ⟨rfl, hj⟩)
theorem next_one {I a : Addr} {x : Str} {k : Tok} {ep : Nat} {t : SetTable} {Q : Option Value → Shared → Prop} (hI : SetIt s.heap I a 0 0 ep) (ho : s.heap.get? a = some { cls := .type "set", dict := none, data := .set #[(hashStr w x, .str x k)] ep t }) (hf : t.fits 1 = true) (hl : t.led = led0 w)
    (h : ∀ h' j, SetIt h' I a j 1 ep → (w.params.followText "set-order" = false → ∀ p ∈ t.place.toList, p < j) → Heap.SameBut I s.heap h' → Q (some (.str x k)) { s with heap := h' }) : wpAny (model prog w) A (pyNext (.ref I)) Q E s := by
  refine absP fun Gx hGx => ?_
  obtain ⟨o, hoI, hc, hd⟩ := id hI
  refine hGx ?_
  unfold pyNext
  refine wpAny_bind (wpAny_attempt (wpAny_callSpecial?_slot (name := Str.ofString "__next__") hI.typeIs slot_next
    (wpAny_call_entry slot_next hI.typeIs entry_next ?_ (args_next _))))
  unfold Builtin.«set_iterator.__next__» slotArgs
  refine wpAny_bind (wpAny_pure ?_)
  refine wpAny_bind (wpAny_fieldsOf hoI hd ?_)
  show wpAny _ _ (setEntries a >>= _) _ _ s
  refine wpAny_bind (wpAny_setEntries_of ho rfl hf ?_)
  rw [if_neg (by simp)]
  show wpAny _ _ (setNext a ((0 : Nat) : Int).toNat ((0 : Nat) : Int).toNat (ep : Int).toNat >>= _) _ _ s
  simp only [Int.toNat_natCast]
  refine wpAny_bind (setNext_ok ho hf hl (fun _ j hj => ?_) (fun q => absurd q.1 (by decide)) (.inl ⟨rfl, rfl⟩))
  dsimp only
  refine wpAny_bind (wpAny_setField hoI hd (by simp) ?_)
  have ho1 := Heap.get?_update_self (Obj.mapFields (·.setIfInBounds 0 (rawInt j))) hoI (Obj.isFreed_of_fields (Obj.data_mapFields hd _))
  refine wpAny_bind (wpAny_setField ho1 (Obj.data_mapFields hd _) (by simp) (wpAny_pure ⟨.str x k, rfl, wpAny_pure (h _ j ?_ hj ((Heap.SameBut.update ..).trans (Heap.SameBut.update ..)))⟩))
  refine ⟨_, Heap.get?_update_self _ ho1 (Obj.isFreed_of_fields (Obj.data_mapFields (Obj.data_mapFields hd _) _)), ((Obj.cls_mapFields ..).trans (Obj.cls_mapFields ..)).trans hc, ?_⟩
  rw [Obj.data_mapFields (Obj.data_mapFields hd _)]
  simp [rawInt]
theorem end_one {I a : Addr} {x : Str} {k : Tok} {ep j : Nat} {t : SetTable} {Q : Option Value → Shared → Prop} (hh : A.handled = none) (hI : SetIt s.heap I a j 1 ep) (ho : s.heap.get? a = some { cls := .type "set", dict := none, data := .set #[(hashStr w x, .str x k)] ep t }) (hf : t.fits 1 = true) (hl : t.led = led0 w)
    (hj : w.params.followText "set-order" = false → ∀ p ∈ t.place.toList, p < j) (h : ∀ h', Heap.ExtBut I s.heap h' → Q none { s with heap := h' }) : wpAny (model prog w) A (pyNext (.ref I)) Q E s := by
  refine absP fun Gx hGx => ?_
  obtain ⟨o, hoI, hc, hd⟩ := id hI
  refine hGx ?_
  unfold pyNext
  refine wpAny_bind (wpAny_attempt (wpAny_callSpecial?_slot (name := Str.ofString "__next__") hI.typeIs slot_next
    (wpAny_call_entry slot_next hI.typeIs entry_next ?_ (args_next _))))
  unfold Builtin.«set_iterator.__next__» slotArgs
  refine wpAny_bind (wpAny_pure ?_)
  refine wpAny_bind (wpAny_fieldsOf hoI hd ?_)
  show wpAny _ _ (setEntries a >>= _) _ _ s
  refine wpAny_bind (wpAny_setEntries_of ho rfl hf ?_)
  rw [if_neg (by simp)]
  show wpAny _ _ (setNext a (j : Int).toNat ((1 : Nat) : Int).toNat (ep : Int).toNat >>= _) _ _ s
  simp only [Int.toNat_natCast]
  refine wpAny_bind (setNext_ok ho hf hl (fun q => absurd q.1 (by decide)) (fun _ => ?_) (.inr ⟨rfl, hj⟩))
  dsimp only
  refine wpAny_bind (wpAny_setField hoI hd (by simp) ?_)
  show wpAny _ _ (newExc (.type "StopIteration") [] >>= _) _ _ _
  refine wpAny_bind ?_
  simp only [newExc, newTuple]
  refine wpAny_bind (wpAny_newObj_type ?_ (by size_fits))
  refine wpAny_bind (m := firstArgMember _ _) (wpAny_of_eq (a := Value.none) (by first | rfl | (simp only [firstArgMember]; rfl)) ?_)
  refine wpAny_newObj_type ?_ (by size_fits)
  simp only [raiseNew]
  refine wpAny_bind (wpAny_handled ?_)
  rw [show A.in1.handled = none from hh]
  refine wpAny_bind (wpAny_pure (wpAny_throw ?_))
  refine wpAny_bind (wpAny_isInstance (T := "StopIteration") (b := true) ⟨_, Heap.get?_push_size _ rfl, rfl⟩ isSubtype_stop ?_)
  exact wpAny_pure (h _ (((Heap.SameBut.update ..).extBut.push _).push _))
theorem SetIt.at {h h' : Heap} {I a : Addr} {j i ep : Nat} (x : SetIt h I a j i ep) (e : ∀ o, h.get? I = some o → h'.get? I = some o) : SetIt h' I a j i ep := let ⟨o, ho, r⟩ := x; ⟨o, e _ ho, r⟩
theorem walks_one {I a : Addr} {x : Str} {k : Tok} {ep : Nat} {t : SetTable} (hh : A.handled = none) (hne : a ≠ I) (hf : t.fits 1 = true) (hl : t.led = led0 w) :
    Walks prog w A I [I, a] [I] 1 (fun _ v => v = .str x k) (fun i h => (∃ j, SetIt h I a j i ep ∧ (i = 0 → j = 0) ∧ (i = 1 → w.params.followText "set-order" = false → ∀ p ∈ t.place.toList, p < j)) ∧ h.get? a = some { cls := .type "set", dict := none, data := .set #[(hashStr w x, .str x k)] ep t }) where
  sub := fun b hb => by simp at hb; simp [hb]
  frame := fun i h h' st hk => ⟨let ⟨j, a1, a2⟩ := st.1; ⟨j, a1.at fun o e => hk I (by simp) o e, a2⟩, hk a (by simp) _ st.2⟩
  item := fun i s Q E hi st hQ => by
    refine absP fun Gx hGx => ?_
    obtain ⟨⟨j, a1, a2, a3⟩, ho⟩ := st
    refine hGx ?_
    have hi0 : i = 0 := by omega
    subst hi0
    have hj0 := a2 rfl
    subst hj0
    exact next_one a1 ho hf hl fun h' j' b1 b2 b3 => hQ _ h' s.toks rfl ⟨⟨j', b1, fun q => absurd q (by decide), fun _ => b2⟩, b3.extBut a _ hne ho⟩ fun b o hb e => b3.extBut b o (fun q => hb (by simp [q])) e
  done := fun s Q E st hQ => by
    refine absP fun Gx hGx => ?_
    obtain ⟨⟨j, a1, a2, a3⟩, ho⟩ := st
    refine hGx ?_
    exact end_one hh a1 ho hf hl (a3 rfl) fun h' hx => hQ h' s.toks fun b o hb e => hx b o (fun q => hb (by simp [q])) e
  self := fun i s Q E st hQ => by
    refine absP fun Gx hGx => ?_
    obtain ⟨⟨j, a1, _⟩, _⟩ := st
    refine hGx ?_
    refine wpAny_pyIter_slot a1.typeIs slot_selfiter (wpAny_call_entry slot_selfiter a1.typeIs entry_selfiter ?_ (args_selfiter _))
    show wpAny _ _ (ret (.ref I)) _ _ s
    exact wpAny_pure ⟨_, rfl, "set_iterator", _, a1.typeIs, slot_next.lookup, hQ⟩
end
section
variable {prog : Program} {w : World} {A : Around} {E : Value → Shared → Prop} {s0 s : Shared} {g : Fz} {L : Addr} {m : Str → Option Value} {μ : List (Addr × Obj)}
theorem src_one {a : Addr} {x : Str} {o : Obj} {Q : Value → Shared → Prop} (hh : A.handled = none) (y : Fm g L m μ s0 s) (ho : g a = some o) (ho1 : One w x o)
    (h : ∀ it s' k, Src prog w A g L m μ s0 s' it 1 (fun _ v => v = .str x k) → Q it s') : wpAny (model prog w) A (pyIter (.ref a)) Q E s := by
  refine absP fun Gx hGx => ?_
  obtain ⟨k, ep, t, rfl, hf, hl⟩ := ho1
  refine hGx ?_
  have ha := y.get ho
  refine iter_one ha hf (h _ _ k ?_)
  have hne : a ≠ s.heap.objs.size := fun q => by rw [q, size_none] at ha; cases ha
  refine ⟨s.heap.objs.size, _, [s.heap.objs.size, a], _, rfl, walks_one hh hne hf hl, fun i h st => let ⟨⟨_, ⟨o, e, _⟩, _⟩, _⟩ := st; ⟨o, e⟩, ?_, ⟨⟨0, ⟨_, Heap.get?_push_size _ rfl, rfl, rfl⟩, fun _ => rfl, fun q => absurd q (by decide)⟩, Heap.get?_push_of_some _ ha⟩, y.newM (push_keeps _ _) (size_none _) (Heap.get?_push_size _ rfl)⟩
  intro b hb hbI
  rcases List.mem_cons.mp hb with e | hb
  · exact absurd e hbI
  · rw [List.mem_singleton.mp hb]; exact ⟨_, ho⟩
end
end Mine
end
section
set_option maxRecDepth 100000
set_option autoImplicit false
namespace Mine
open PySem PySem.Spec PySem.Calls PyProof.Rows PySem.W PySem.SeqAt
theorem empty_get (b : Addr) : ({} : Heap).get? b = none := rfl
theorem Fm.news {g : Fz} {L : Addr} {m : Str → Option Value} {μ : List (Addr × Obj)} {s0 s : Shared} {a : Addr} {o : Obj} {f : Obj → List (Addr × Obj)} (x : Fm g L m μ s0 s) (r : Rep a o μ f) :
    ∃ pre, Fr {} L s.heap m ∧ News {} L s.heap (pre ++ (a, o) :: []) ∧ (∀ p ∈ pre, p.1 ≠ a) ∧ ∀ h' o' tk, Fr {} L h' m → News {} L h' (pre ++ (a, o') :: []) → Fm g L m (f o') s0 { s with heap := h', toks := tk } := by
  have haL : a ≠ L := by
    refine absP fun Gx hGx => ?_
    obtain ⟨oL, _, y⟩ := x
    refine hGx ?_
    have nd := y.nd
    rw [List.map_cons, List.nodup_cons] at nd
    exact fun q => nd.1 (List.mem_map.mpr ⟨(a, o), r.mem, q⟩)
  refine ⟨(List.range s.heap.objs.size).filterMap fun b => if b = a ∨ b = L then none else (s.heap.get? b).map (b, ·), ⟨x.ns, fun b o e => absurd (e.symm.trans (empty_get b)) (by intro q; cases q), Nat.zero_le _⟩, ?_, ?_, ?_⟩
  · intro p hp
    rcases List.mem_append.mp hp with hp | hp
    · refine absP fun Gx hGx => ?_
      obtain ⟨b, _, hb⟩ := List.mem_filterMap.mp hp
      refine hGx ?_
      split at hb
      · cases hb
      · rename_i hn
        refine absP fun Gx hGx => ?_
        obtain ⟨ob, hob, rfl⟩ := Option.map_eq_some_iff.mp hb
        refine hGx ?_
        exact ⟨hob, fun q => hn (.inr q), rfl⟩
    · rw [List.mem_singleton.mp hp]
      exact ⟨x.gets r.mem, haL, rfl⟩
  · intro p hp
    refine absP fun Gx hGx => ?_
    obtain ⟨b, _, hb⟩ := List.mem_filterMap.mp hp
    refine hGx ?_
    split at hb
    · cases hb
    · rename_i hn
      refine absP fun Gx hGx => ?_
      obtain ⟨ob, hob, rfl⟩ := Option.map_eq_some_iff.mp hb
      refine hGx ?_
      exact fun q => hn (.inl q)
  · intro h' o' tk F N
    have keep : ∀ b ob, b ≠ a → b ≠ L → s.heap.get? b = some ob → h'.get? b = some ob := fun b ob h1 h2 e => by
      refine (N (b, ob) (List.mem_append_left _ (List.mem_filterMap.mpr ⟨b, List.mem_range.mpr (Heap.lt_size e), ?_⟩))).1
      rw [if_neg (by rintro (q | q); exact h1 q; exact h2 q), e]; rfl
    have ha := (N (a, o') (List.mem_append_right _ (.head _))).1
    refine absP fun Gx hGx => ?_
    obtain ⟨oL', eL', nL'⟩ := nsO_of F.ns
    refine hGx ?_
    refine absP fun Gx hGx => ?_
    obtain ⟨oL, nL, y⟩ := x
    refine hGx ?_
    refine absP fun Gx hGx => ?_
    obtain ⟨p1, p2, e1, e2⟩ := r.split
    refine hGx ?_
    have gL := y.off (L, oL) (.head _)
    have ga := y.off (a, o) (.tail _ r.mem)
    have nd := y.nd
    rw [e1] at nd
    refine ⟨oL', nL', ?_⟩
    rw [e2]
    refine ⟨by obtain ⟨h, t, rfl⟩ := y.same; exact ⟨h', tk, rfl⟩, fun b ob e => keep b ob (fun q => by rw [q, ga] at e; cases e) (fun q => by rw [q, gL] at e; cases e) (y.frz b ob e), ?_, ?_, ?_⟩
    · intro p hp
      rcases List.mem_cons.mp hp with rfl | hp
      · exact eL'
      · have hmem : p = (a, o') ∨ p ∈ p1 ++ p2 := by
          rcases List.mem_append.mp hp with hp | hp
          · exact .inr (List.mem_append_left _ hp)
          · rcases List.mem_cons.mp hp with hp | hp
            · exact .inl hp
            · exact .inr (List.mem_append_right _ hp)
        rcases hmem with rfl | hp'
        · exact ha
        · have hpm : p ∈ μ := by
            rw [e1]
            rcases List.mem_append.mp hp' with h | h
            · exact List.mem_append_left _ h
            · exact List.mem_append_right _ (.tail _ h)
          refine keep p.1 p.2 (fun q => ?_) (fun q => ?_) (y.mu p (.tail _ hpm))
          · rw [List.map_cons, List.nodup_cons, List.map_append, List.map_cons, List.nodup_append, List.nodup_cons] at nd
            rcases List.mem_append.mp hp' with h | h
            · exact nd.2.2.2 p.1 (List.mem_map_of_mem h) a (.head _) q
            · exact nd.2.2.1.1 (List.mem_map.mpr ⟨p, h, q⟩)
          · rw [List.map_cons, List.nodup_cons] at nd
            refine nd.1 ?_
            rw [← e1]
            exact List.mem_map.mpr ⟨p, hpm, q⟩
    · intro p hp
      rcases List.mem_cons.mp hp with rfl | hp
      · exact gL
      · have : p.1 ∈ (p1 ++ (a, o) :: p2).map (·.1) := by
          have := List.mem_map_of_mem (f := Prod.fst) hp
          simpa using this
        rw [← e1] at this
        refine absP fun Gx hGx => ?_
        obtain ⟨q, hq, he⟩ := List.mem_map.mp this
        refine hGx ?_
        rw [← he]; exact y.off q (.tail _ hq)
    · simpa using nd
noncomputable abbrev inst (C dx : Addr) : Obj := { cls := .ref C, dict := some dx, data := .plain }
section
variable {prog : Program} {w : World} {A : Around} {E : Value → Shared → Prop} {s0 s : Shared} {g : Fz} {L ix C dx : Addr} {m mg mb : Str → Option Value} {μ : List (Addr × Obj)} {es : List DictEntry} {k : Nat} {v : Value} {name : Str}
theorem m_setattr {f : Obj → List (Addr × Obj)} {Q : Unit → Shared → Prop} (G : Gd w mg mb g) (x : Fm g L m μ s0 s) (hi : s.heap.get? ix = some (inst C dx)) (r : Rep dx (dictOf es k) μ f)
    (hs : findIn (K9 w) (.ref C) "__setattr__" = some (some (.builtin "object.__setattr__"))) (hp : plainOver (K9 w) C = true) (ht : takerIn (K9 w) C name = some none) (hh : hasDictIn (K9 w) C = true) (hl : (getL name es).isSome = true)
    (hz : (putL name (PyData.keyHash w.params name) (.str name (s.toks + 1)) v es).length ≤ 1000)
    (h : ∀ s', Fm g L m (f (dictOf (putL name (PyData.keyHash w.params name) (.str name (s.toks + 1)) v es) (putN name es k))) s0 s' → Q () s') : wpAny (model prog w) A (setAttr (.ref ix) name v) Q E s := by
  refine absP fun Gx hGx => ?_
  obtain ⟨pre, F, N, h1, back⟩ := x.news r
  refine hGx ?_
  have I : InstAt s.heap ix (inst C dx) C (some (dictOf es k)) := ⟨hi, rfl, rfl, x.gets r.mem⟩
  exact set_plain (G.in x.st) I hs (osa_dict (s := { s with toks := s.toks + 1 }) F N (G.in x.tok.st) I rfl hp ht hh hl h1 (fun _ h => nomatch h) (by rw [putName_dict]) rfl hz fun h' F' N' => h _ (back h' _ _ F' N'))
theorem putL_new {name : Str} {hsh : Int} {key v : Value} : ∀ {es : List DictEntry}, (es.all fun e => !e.key.isStr name) = true → putL name hsh key v es = es ++ [⟨hsh, key, v⟩]
  | [], _ => rfl
  | e :: r, h => by
    rw [List.all_cons, Bool.and_eq_true] at h
    have h1 : e.key.isStr name = false := by simpa using h.1
    rw [putL, h1, if_neg (by decide), putL_new h.2]; rfl
theorem m_newattr {f : Obj → List (Addr × Obj)} {Q : Unit → Shared → Prop} (G : Gd w mg mb g) (x : Fm g L m μ s0 s) (hi : s.heap.get? ix = some (inst C dx)) (r : Rep dx (dictOf es k) μ f)
    (hs : findIn (K9 w) (.ref C) "__setattr__" = some (some (.builtin "object.__setattr__"))) (hp : plainOver (K9 w) C = true) (ht : takerIn (K9 w) C name = some none) (hh : hasDictIn (K9 w) C = true) (hl : (getL name es).isSome = true) (hn : (es.all fun e => !e.key.isStr name) = true) (hz : es.length ≤ 900)
    (h : ∀ s' hsh tok k', Fm g L m (f (dictOf (es ++ [⟨hsh, .str name tok, v⟩]) k')) s0 s' → Q () s') : wpAny (model prog w) A (setAttr (.ref ix) name v) Q E s :=
  m_setattr G x hi r hs hp ht hh hl (by rw [putL_new hn, List.length_append]; simp; omega) fun s' x' => by
    rw [putL_new hn] at x'
    exact h s' _ _ _ x'
theorem m_getattr {expr : Bool} {Q : Value → Shared → Prop} {attr : Option Value} (G : Gd w mg mb g) (x : Fm g L m μ s0 s) (hi : s.heap.get? ix = some (inst C dx)) (hd : s.heap.get? dx = some (dictOf es k)) (hg : plainGet (K9 w) C name = true) (hh : hasDictIn (K9 w) C = true)
    (ha : findIn (K9 w) (.ref C) name = some attr) (hn : noGet (K9 w) attr = true) (hl : getL name es = some (some v)) (hv : handedIn v = true) (h : ∀ s', Fm g L m μ s0 s' → Q v s') :
    wpAny (model prog w) A (getAttr (.ref ix) name expr) Q E s :=
  get_value (G.in x.st) (od := some (dictOf es k)) (ox := inst C dx) ⟨hi, rfl, rfl, hd⟩ (plainGet_of hg).1 (findObj_own hh ha hn hl) hv (h _ x.tok)
theorem m_method {pl : Sem Bool} {Q : Value × List Value → Shared → Prop} {f : Addr} (G : Gd w mg mb g) (x : Fm g L m μ s0 s) (hi : s.heap.get? ix = some (inst C dx)) (hd : s.heap.get? dx = some (dictOf es k)) (hg : plainGet (K9 w) C name = true)
    (hf : findIn (K9 w) (.ref C) name = some (some (.ref f))) (ht : isFn (K9 w) (.ref f) = true) (hl : getL name es = some none) (h : Q (.ref f, [.ref ix]) s) : wpAny (model prog w) A (getMethod (.ref ix) name pl) Q E s :=
  method_fn (G.in x.st) (od := some (dictOf es k)) (ox := inst C dx) ⟨hi, rfl, rfl, hd⟩ (plainGet_of hg).1 (plainGet_of hg).2 hf (beq_iff_eq.mp ht) (by show (lookIn name (dictOf es k)).map _ = _; rw [lookIn_dict, hl]; rfl) h
end
end Mine
end
section
set_option maxRecDepth 100000
set_option autoImplicit false
namespace Mine
open PySem PySem.Spec PySem.Calls PyProof.Rows PySem.W PySem.SeqAt
section
variable {prog : Program} {w : World} {A : Around} {E : Value → Shared → Prop} {s0 s : Shared} {env : Env} {g : Fz} {L : Addr} {m mg mb : Str → Option Value} {μ : List (Addr × Obj)} {pos : Pos} {n : Str} {v : Value}
theorem c_fnB {R : Result → Shared → Prop} {f : Addr} {oc : Value} {od : Option Addr} {osl : Array (Option Value)} {name qual : Str} {params : Arguments} {body : List Stmt} {scope : Scope} {dV kV doc pm cdv ct : Value} {an : Option Addr} {args : List Value} {binds : List (Str × Value)}
    (G : Gd w mg mb g) (x : St g μ s0 s)
    (ho : (K9 w).lookup f = some ⟨oc, od, .func (fnOf name qual params body scope dV kV doc pm an cdv ct), osl⟩) (hcd : codeIn (K9 w) cdv qual = true) (hA : Ok A)
    (hbind : BindsTo s (fnOf name qual params body scope dV kV doc pm an cdv ct) ⟨args, []⟩ binds)
    (hcell : ∀ x ∈ scope.names, x.2 ≠ .cell) (hloc : ∀ x ∈ binds, scope.names.lookup x.1 = some .local)
    (h : ∀ A' L s', A'.handled = none → A'.units = A.units + 3 → A'.depth = A.depth + 1 → Fm g L (fun y => binds.reverse.lookup y) μ s0 s' →
      wpAny (model prog w) A' (execs body (envOf qual scope L f cdv)) (fun fl s'' => R (.ok (.ret (match fl with | .ret v => v | _ => .none))) s'') NoE s')
    (hco : scope.isCoroutine = false := by rfl) (hgen : scope.isGenerator = false := by rfl) (hk : scope.kind = .function := by rfl) : codeAny (model prog w) A (.call (.ref f) ⟨args, []⟩) R s := by
  refine codeAny_call_def (fd := fnOf name qual params body scope dV kV doc pm an cdv ct) (binds := binds) (by have := hA.depth; omega) (x.frz _ _ (G.kin _ _ ho)) rfl (G.nolimit x) (codeRec_of (G.in x) hcd) rfl hbind hcell hloc (fun h₀ hns keep => ?_) hco hgen hk
  refine absP fun Gx hGx => ?_
  obtain ⟨oL, eL, nL⟩ := nsO_of hns
  refine hGx ?_
  exact noE (h _ s.heap.objs.size _ hA.hand rfl rfl ⟨oL, nL, x.newM (tk := s.toks + binds.length) keep (size_none _) eL⟩)
theorem m_truthy {l : Addr} {vs : List Value} {Q : Bool → Shared → Prop} (x : Fm g L m μ s0 s) (hl : s.heap.IsList l vs.toArray) (hz : vs.length ≤ sizeLine) (h : ∀ s', Fm g L m μ s0 s' → Q (!vs.isEmpty) s') : wpAny (model prog w) A (truthy (.ref l)) Q E s :=
  wpAny_truthy_list hl (by rw [List.size_toArray]; rw [line24] at hz; omega) (by simpa using h _ (x.tok (tk := s.toks + 1 + 1)))
noncomputable def strIs (c : Str) : Value → Bool
  | .str y _ => y == c
  | _ => false
theorem any_strIs {ws : List Value} {acc : List Str} {c : Str} (h : Are ws acc) : ws.any (strIs c) = acc.contains c := by
  induction ws generalizing acc with
  | nil => cases acc with
    | nil => rfl
    | cons _ _ => exact absurd h.length (by simp)
  | cons v vs ih =>
    cases acc with
    | nil => exact absurd h.length (by simp)
    | cons x xs =>
      have h' : toS v :: vs.map toS = some x :: xs.map some := h
      injection h' with h1 h2
      obtain ⟨t, rfl⟩ := toS_eq h1
      rw [List.any_cons, List.contains_cons, ih h2]
      show (x == c || _) = (c == x || _)
      rw [Bool.beq_comm]
theorem in_strs {D : Addr} {ws : List Value} {acc : List Str} {c : Str} {t : Tok} {Q : Value → Shared → Prop} (hD : s.heap.IsList D ws.toArray) (hw : Are ws acc) (h : Q (.bool (acc.contains c)) s) : wpAny (model prog w) A (compareOp .In (.str c t) (.ref D)) Q E s := by
  refine in_listAt (strIs c) hD (fun y hy => ?_) (by rw [List.any_toArray, any_strIs hw]; exact h)
  refine absP fun Gx hGx => ?_
  obtain ⟨j, u, _, rfl⟩ := hw.mem (by simpa using hy)
  refine hGx ?_
  exact EqAt.str_str _ _ _ _
theorem m_del0 {l : Addr} {vs : List Value} {k : Nat} {u : Tok} {f : Obj → List (Addr × Obj)} {Q : Unit → Shared → Prop} (x : Fm g L m μ s0 s) (r : Rep l (listOf vs.toArray k) μ f) (hne : vs ≠ []) (hz : vs.length ≤ sizeLine)
    (h : ∀ s' k', Fm g L m (f (listOf vs.tail.toArray k')) s0 s' → Q () s') : wpAny (model prog w) A (delItem (.ref l) (.int 0 u)) Q E s := by
  refine wpAny_delItem_plain (k := 0) (items := vs.toArray) ⟨k, x.gets r.mem⟩ (by decide) ?_ (fun h' hp hs => ?_) (by rw [List.size_toArray]; exact hz)
  · rw [List.size_toArray]
    cases vs with
    | nil => exact absurd rfl hne
    | cons v vs => exact seqIndex?_zero (by simp)
  · obtain ⟨k', e⟩ := hp
    refine h _ k' (x.rep (tk := s.toks) r (same_keeps hs) ?_)
    cases vs with
    | nil => exact absurd rfl hne
    | cons v vs =>
      rw [e]
      have : (v :: vs).toArray.eraseIdxIfInBounds 0 = vs.toArray := by simp [Array.eraseIdxIfInBounds]
      rw [this]; rfl
theorem Are.isEmpty {vs : List Value} {xs : List Str} (h : Are vs xs) : vs.isEmpty = xs.isEmpty := by
  have := h.length
  cases vs <;> cases xs <;> simp at this ⊢
theorem Gd.newAddr {g : Fz} {μ : List (Addr × Obj)} (G : Gd w mg mb g) (x : St g μ s0 s) : (s.heap.objs.size == sysModules) = false := by
  refine absP fun Gx hGx => ?_
  obtain ⟨o, mc, e, _⟩ := G.lim
  refine hGx ?_
  have h1 := Heap.lt_size (x.frz _ _ e)
  have h2 : cStatics = 2 := rfl
  have h3 : sysModules = 1 := rfl
  rw [h2] at h1
  rw [beq_eq_false_iff_ne, h3]
  intro q
  rw [q] at h1
  exact absurd h1 (by decide)
theorem r_dict1 {kx vx : Expr} {Q : Value → Shared → Prop} (G : Gd w mg mb g) (x : Fm g L m μ s0 s)
    (h : ∀ D o0 s1, Fm g L m ((D, o0) :: μ) s0 s1 → (D == sysModules) = false → wpAny (model prog w) A (eval kx env) (fun kv s2 => wpAny (model prog w) A (eval vx env) (fun vv s3 => ∃ k t, kv = .str k t ∧ Fm g L m ((D, o0) :: μ) s0 s3 ∧
      ∀ o' s', o'.IsDictOf (strKind prog w) [(k, vv)] → Fm g L m ((D, o') :: μ) s0 s' → Q (.ref D) s') NoE s2) NoE s1) : wpAny (model prog w) A (eval (.Dict [some kx] [vx] pos) env) Q E s := by
  refine noE (wpAny_Dict_walk (knd := strKind prog w) rfl rfl (by simp) (by simp) ?_)
  have x1 := x.newM (tk := s.toks) (push_keeps s.heap { cls := .type "dict", data := .dict #[] }) (size_none _) (Heap.get?_push_size _ rfl)
  refine absP fun Gx hGx => ?_
  obtain ⟨o0, ho0, hd0⟩ := Heap.dictOf_iff.mp (Heap.DictOf.new (knd := strKind prog w) s.heap)
  refine hGx ?_
  have e0 : o0 = { cls := .type "dict", data := .dict #[] } := Option.some.inj (ho0.symm.trans (Heap.get?_push_size _ rfl))
  refine pairTrees_cons_walk (wpAny_mono (h _ _ _ x1 (G.newAddr x.st)) (fun kv s2 h2 => wpAny_mono h2 (fun vv s3 h3 => ?_) fun _ _ q => q) fun _ _ q => q)
  refine absP fun Gx hGx => ?_
  obtain ⟨k, t, rfl, x3, h⟩ := h3
  refine hGx ?_
  refine pairTrees_nil_walk ⟨[(k, vv)], ?_, Heap.dictOf_iff.mpr ⟨o0, by rw [e0]; exact x3.gets (.head _), hd0⟩, fun h' hd hs => ?_⟩
  · exact ⟨strKind_is _ _ _ _, rfl, trivial⟩
  · refine absP fun Gx hGx => ?_
    obtain ⟨o', e', d'⟩ := Heap.dictOf_iff.mp hd
    refine hGx ?_
    exact h o' _ (by simpa [merged, stored] using d') (x3.rep .head (same_keeps hs) e')
theorem m_in {d : Addr} {o : Obj} {kvs : List (Str × Value)} {k : Str} {t : Tok} {Q : Value → Shared → Prop} (x : Fm g L m μ s0 s) (hd : s.heap.get? d = some o) (ho : o.IsDictOf (strKind prog w) kvs) (hs : (d == sysModules) = false)
    (h : ∀ s', Fm g L m μ s0 s' → Q (.bool (valueAt kvs k).isSome) s') : wpAny (model prog w) A (compareOp .In (.str k t) (.ref d)) Q E s :=
  wpAny_in_of (strKind_is _ _ _ _) hs (Heap.dictOf_iff.mpr ⟨o, hd, ho⟩).mapOf (h _ x.tok)
theorem m_item {value slice : Expr} {d : Addr} {o : Obj} {kvs : List (Str × Value)} {k : Str} {t : Tok} {Q : Value → Shared → Prop} (x : Fm g L m μ s0 s) (hd : s.heap.get? d = some o) (ho : o.IsDictOf (strKind prog w) kvs) (hv : valueAt kvs k = some v)
    (h : ∀ s', Fm g L m μ s0 s' → Q v s') (hs : subscripted slice false (.ref d) (.str k t) = operate [.ref d, .str k t] (getItem (.ref d) (.str k t)) := by with_unfolding_all rfl) : wpAny (model prog w) A (subscriptTail value slice (.ref d) (.str k t)) Q E s := by
  have hm := (Heap.dictOf_iff (knd := strKind prog w)).mpr ⟨o, hd, ho⟩
  exact tail_any hm.typeIs slot_dict_getitem.lookup (wpAny_getItem_of (strKind_is _ _ _ _) hm.mapOf hv (h _ x.tok)) hs
theorem m_setitem {d : Addr} {o : Obj} {kvs : List (Str × Value)} {k : Str} {t : Tok} {f : Obj → List (Addr × Obj)} {Q : Unit → Shared → Prop} (x : Fm g L m μ s0 s) (r : Rep d o μ f) (ho : o.IsDictOf (strKind prog w) kvs) (hz : kvs.length ≤ sizeLine)
    (h : ∀ o' s', o'.IsDictOf (strKind prog w) (stored kvs k v) → Fm g L m (f o') s0 s' → Q () s') : wpAny (model prog w) A (setItem (.ref d) (.str k t) v) Q E s :=
  wpAny_setItem_pairs (strKind_is _ _ _ _) (Heap.dictOf_iff.mpr ⟨o, x.gets r.mem, ho⟩) (fun _ hd hs => let ⟨o', e', d'⟩ := Heap.dictOf_iff.mp hd; h o' _ d' (x.rep r (same_keeps hs) e')) hz
theorem One.setOf {h : Heap} {a : Addr} {x : Str} {o : Obj} (hx : One w x o) (ho : h.get? a = some o) : h.SetOf (strKind prog w) a (fun k => decide (k = x)) 1 := by
  refine absP fun Gx hGx => ?_
  obtain ⟨k, ep, t, rfl, hf, hl⟩ := hx
  refine hGx ?_
  refine ⟨_, _, ep, t, ho, ⟨rfl, rfl, rfl⟩, rfl, fun e he => ?_, fun k' => ?_, by show 1 < scanBound; decide, hf, rfl⟩
  · rw [List.mem_singleton.mp he]
    exact ⟨⟨x, strKind_is _ _ _ _, rfl⟩, rfl⟩
  · constructor
    · intro q
      have q := of_decide_eq_true q
      subst q
      exact ⟨_, .head _, strKind_is _ _ _ _⟩
    · rintro hJp0
      refine absP fun Gx hGx => ?_
      obtain ⟨e, he, hk⟩ := hJp0
      refine hGx ?_
      rw [List.mem_singleton.mp he] at hk
      exact decide_eq_true ((strKind prog w).inj _ _ _ hk (strKind_is prog w x k))
theorem m_inset {a : Addr} {x : Str} {o : Obj} {k : Str} {t : Tok} {Q : Value → Shared → Prop} (y : Fm g L m μ s0 s) (ho : g a = some o) (hx : One w x o) (h : ∀ s', Fm g L m μ s0 s' → Q (.bool (decide (k = x))) s') :
    wpAny (model prog w) A (compareOp .In (.str k t) (.ref a)) Q E s :=
  wpAny_inSet_of (knd := strKind prog w) (strKind_is _ _ _ _) rfl (hx.setOf (y.get ho)) (h _ y.tok)
end
end Mine
end
section
set_option maxRecDepth 100000
set_option autoImplicit false
namespace Mine
open PySem PySem.Spec PySem.Calls PyProof.Rows PySem.W PySem.SeqAt
noncomputable def Hf (h : Heap) : Frag := (List.range h.objs.size).filterMap fun a => (h.get? a).map (a, ·)
theorem lookup_filterMap {h : Heap} {a : Addr} : ∀ l : List Addr, (l.filterMap fun a => (h.get? a).map (a, ·)).lookup a = if a ∈ l then h.get? a else none
  | [] => rfl
  | b :: l => by
    rw [List.filterMap_cons]
    have ih := lookup_filterMap (h := h) (a := a) l
    cases hb : h.get? b with
    | none =>
      show List.lookup a (List.filterMap _ l) = _
      rw [ih]
      by_cases e : a = b
      · subst e; simp [hb]
      · simp [e]
    | some o =>
      show List.lookup a ((b, o) :: List.filterMap _ l) = _
      rw [List.lookup_cons, ih]
      by_cases e : a = b
      · subst e; simp [hb]
      · have e' : (a == b) = false := beq_eq_false_iff_ne.mpr e
        rw [e']; simp [e]
theorem Hf_lookup (h : Heap) (a : Addr) : (Hf h).lookup a = h.get? a := by
  unfold Hf
  rw [lookup_filterMap]
  split
  · rfl
  · rename_i q
    cases e : h.get? a with
    | none => rfl
    | some o => exact absurd (List.mem_range.mpr (Heap.lt_size e)) q
theorem Hf_in (h : Heap) : (Hf h).In h := fun a o e => by rw [Hf_lookup] at e; exact e
noncomputable def inNs (o : Obj) (name : Str) : Option (Option Value) := nsIn [(0, o)] 0 name
theorem nsIn_Hf {h : Heap} {N : Addr} {o : Obj} (e : h.get? N = some o) (name : Str) : nsIn (Hf h) N name = inNs o name := by
  unfold inNs nsIn
  rw [Hf_lookup, e]; rfl
structure IsK (C N p ini lt : Addr) (oC oN op : Obj) : Prop where
  cls : ∃ d cd sl, oC = ⟨.type "type", d, .cls cd, sl⟩ ∧ cd.abstract = false ∧ cd.hasDel = false ∧ (sl.toList[4]?).join = some (.builtin "object.__new__") ∧ cd.mro = [.ref C, .type "object"] ∧ cd.ns = N ∧ cd.slotNames = (["obj"] : List Str) ∧ cd.hasDict = false
  ini : inNs oN "__init__" = some (some (.ref ini))
  lt : inNs oN "__lt__" = some (some (.ref lt))
  obj : inNs oN "obj" = some (some (.ref p))
  no : ∀ n ∈ (["__new__", "__getattribute__", "__getattr__", "__setattr__", "__call__", "__del__"] : List Str), inNs oN n = some none
  slot : ∃ d sl n tn tb, op = ⟨.type "member_descriptor", d, .fields #[.str n tn, .ref C, .builtin "proto.slot", .builtin "proto.slot#set", .int 0 tb], sl⟩
section
variable {h : Heap} {C N p ini lt : Addr} {oC oN op : Obj}
theorem IsK.own (k : IsK C N p ini lt oC oN op) (eC : h.get? C = some oC) (eN : h.get? N = some oN) {name : Str} {r : Option Value} (hr : inNs oN name = some r) : ownIn (Hf h) name (.ref C) = some r := by
  refine absP fun Gx hGx => ?_
  obtain ⟨d, cd, sl, rfl, _, _, _, hm, hn, _⟩ := k.cls
  refine hGx ?_
  unfold ownIn
  simp only [Hf_lookup, eC, hn]
  rw [nsIn_Hf eN, hr]
theorem IsK.mro (k : IsK C N p ini lt oC oN op) (eC : h.get? C = some oC) {name : Str} : findIn (Hf h) (.ref C) name = alongIn (Hf h) name [.ref C, .type "object"] := by
  refine absP fun Gx hGx => ?_
  obtain ⟨d, cd, sl, rfl, _, _, _, hm, hn, _⟩ := k.cls
  refine hGx ?_
  unfold findIn
  simp only [Hf_lookup, eC, hm]
theorem along_obj {name : Str} : alongIn (Hf h) name [.type "object"] = some (fastBuiltinOwn "object" name) := by
  simp only [alongIn, ownIn]
  cases fastBuiltinOwn "object" name <;> rfl
theorem IsK.find (k : IsK C N p ini lt oC oN op) (eC : h.get? C = some oC) (eN : h.get? N = some oN) {name : Str} {v : Value} (hr : inNs oN name = some (some v)) : findIn (Hf h) (.ref C) name = some (some v) := by
  rw [k.mro eC, alongIn, k.own eC eN hr]
theorem IsK.find0 (k : IsK C N p ini lt oC oN op) (eC : h.get? C = some oC) (eN : h.get? N = some oN) {name : Str} (hr : inNs oN name = some none) : findIn (Hf h) (.ref C) name = some (fastBuiltinOwn "object" name) := by
  rw [k.mro eC, alongIn, k.own eC eN hr]
  exact along_obj
end
end Mine
end
section
set_option maxRecDepth 100000
set_option autoImplicit false
namespace Mine
open PySem PySem.Spec PySem.Calls PyProof.Rows PySem.W PySem.SeqAt
section
variable {h : Heap} {C N p ini lt : Addr} {oC oN op : Obj}
theorem IsK.typ (k : IsK C N p ini lt oC oN op) (eC : h.get? C = some oC) : typeIn (Hf h) (.ref C) = some (.type "type") := by
  refine absP fun Gx hGx => ?_
  obtain ⟨d, cd, sl, rfl, _⟩ := k.cls
  refine hGx ?_
  unfold typeIn
  simp only [Hf_lookup, eC, Option.map_some]
theorem IsK.clsIn (k : IsK C N p ini lt oC oN op) (eC : h.get? C = some oC) : ∃ cd, clsIn (Hf h) C = some cd ∧ cd.mro = [.ref C, .type "object"] ∧ cd.slotNames = (["obj"] : List Str) ∧ cd.hasDict = false := by
  refine absP fun Gx hGx => ?_
  obtain ⟨d, cd, sl, rfl, _, _, _, hm, hn, hs, hd⟩ := k.cls
  refine hGx ?_
  refine ⟨cd, ?_, hm, hs, hd⟩
  unfold PySem.W.clsIn
  simp only [Hf_lookup, eC]
theorem type_call : findIn [] (.type "type") "__call__" = some (some (.builtin "type.__call__")) := by kernel_rfl
theorem type_type : subIn [] (.type "type") (.type "type") = some true := by kernel_rfl
theorem IsK.makes (k : IsK C N p ini lt oC oN op) (eC : h.get? C = some oC) : makesIn (Hf h) C = true := by
  have ht := k.typ eC
  refine absP fun Gx hGx => ?_
  obtain ⟨d, cd, sl, rfl, h1, h2, h3, hm, hn, hs, hd⟩ := k.cls
  refine hGx ?_
  have hc : specialIn (Hf h) (.ref C) "__call__" = some (some (.builtin "type.__call__")) := by
    unfold specialIn; rw [ht]; exact type_call
  have hi : instIn (Hf h) (.ref C) (.type "type") = some true := by
    unfold instIn; rw [ht]; exact type_type
  unfold makesIn
  simp only [Hf_lookup, eC]
  rw [h1, h2, h3, hm, hc, hi]
  simp
theorem obj_plain : fastBuiltinOwn "object" "__getattribute__" = some (.builtin "object.__getattribute__") ∧ fastBuiltinOwn "object" "__getattr__" = none ∧ fastBuiltinOwn "object" "__setattr__" = some (.builtin "object.__setattr__") := by
  refine ⟨?_, ?_, ?_⟩ <;> kernel_rfl
theorem IsK.plain (k : IsK C N p ini lt oC oN op) (eC : h.get? C = some oC) (eN : h.get? N = some oN) {name : Str} : plainGet (Hf h) C name = true := by
  unfold plainGet
  rw [k.find0 eC eN (k.no _ (by simp)), k.find0 eC eN (k.no _ (by simp)), obj_plain.1, obj_plain.2.1]
  decide
theorem IsK.sets (k : IsK C N p ini lt oC oN op) (eC : h.get? C = some oC) (eN : h.get? N = some oN) : findIn (Hf h) (.ref C) "__setattr__" = some (some (.builtin "object.__setattr__")) := by
  rw [k.find0 eC eN (k.no _ (by simp)), obj_plain.2.2]
theorem IsK.over (k : IsK C N p ini lt oC oN op) (eC : h.get? C = some oC) : plainOver (Hf h) C = true := by
  refine absP fun Gx hGx => ?_
  obtain ⟨cd, hc, hm, _⟩ := k.clsIn eC
  refine hGx ?_
  unfold plainOver
  rw [hc]
  show onlyObject cd.mro = true
  rw [hm]
  rfl
theorem IsK.mtyp (k : IsK C N p ini lt oC oN op) (ep : h.get? p = some op) : typeIn (Hf h) (.ref p) = some (.type "member_descriptor") := by
  refine absP fun Gx hGx => ?_
  obtain ⟨d, sl, n, tn, tb, rfl⟩ := k.slot
  refine hGx ?_
  unfold typeIn
  simp only [Hf_lookup, ep, Option.map_some]
theorem mem_set : findIn [] (.type "member_descriptor") "__set__" = some (some (.builtin "member_descriptor.__set__")) ∧ findIn [] (.type "member_descriptor") "__get__" = some (some (.builtin "member_descriptor.__get__")) := by
  refine ⟨?_, ?_⟩ <;> kernel_rfl
theorem IsK.takes (k : IsK C N p ini lt oC oN op) (ep : h.get? p = some op) : takesIn (Hf h) (.ref p) = some true := by
  have : specialIn (Hf h) (.ref p) "__set__" = some (some (.builtin "member_descriptor.__set__")) := by unfold specialIn; rw [k.mtyp ep]; exact mem_set.1
  unfold takesIn; rw [this]
theorem IsK.gets (k : IsK C N p ini lt oC oN op) (ep : h.get? p = some op) : specialIn (Hf h) (.ref p) "__get__" = some (some (.builtin "member_descriptor.__get__")) := by
  unfold specialIn; rw [k.mtyp ep]; exact mem_set.2
theorem IsK.taker (k : IsK C N p ini lt oC oN op) (eC : h.get? C = some oC) (eN : h.get? N = some oN) (ep : h.get? p = some op) : takerIn (Hf h) C "obj" = some (some (.ref p)) := by
  unfold takerIn
  rw [k.find eC eN k.obj]
  show (takesIn (Hf h) (.ref p)).map _ = _
  rw [k.takes ep]; rfl
theorem IsK.slotAt (k : IsK C N p ini lt oC oN op) (eC : h.get? C = some oC) (ep : h.get? p = some op) : slotIn (Hf h) p C = some 0 := by
  refine absP fun Gx hGx => ?_
  obtain ⟨cd, hc, hm, hs, _⟩ := k.clsIn eC
  refine hGx ?_
  refine absP fun Gx hGx => ?_
  obtain ⟨d, sl, n, tn, tb, rfl⟩ := k.slot
  refine hGx ?_
  unfold slotIn recIn
  simp only [Hf_lookup, ep, hc]
  rw [if_pos (by decide)]
  simp [hm, hs]
end
end Mine
end
section
set_option maxRecDepth 100000
set_option autoImplicit false
namespace Mine
open PySem PySem.Spec PySem.Calls PyProof.Rows PySem.W PySem.SeqAt
section
variable {prog : Program} {w : World} {A : Around} {E : Value → Shared → Prop} {s0 s : Shared} {g : Fz} {L a dx : Addr} {m : Str → Option Value} {μ : List (Addr × Obj)} {v : Value} {C N p ini lt : Addr} {oC oN op od : Obj}
noncomputable abbrev kInst (C dx : Addr) (v : Value) : Obj := { cls := .ref C, dict := some dx, data := .plain, slots := #[some v] }
theorem m_setslot {f : Obj → List (Addr × Obj)} {Q : Unit → Shared → Prop} (k : IsK C N p ini lt oC oN op) (x : Fm g L m μ s0 s) (r : Rep a (instObj C dx) μ f) (hdx : s.heap.get? dx = some od)
    (eC : g C = some oC) (eN : g N = some oN) (ep : g p = some op) (h : ∀ s', Fm g L m (f (kInst C dx v)) s0 s' → Q () s') : wpAny (model prog w) A (setAttr (.ref a) "obj" v) Q E s := by
  refine absP fun Gx hGx => ?_
  obtain ⟨pre, F, N', h1, back⟩ := x.news r
  refine hGx ?_
  have eC := x.get eC
  have eN := x.get eN
  have ep := x.get ep
  have I : InstAt s.heap a (instObj C dx) C (some od) := ⟨x.gets r.mem, rfl, rfl, hdx⟩
  exact set_plain (Hf_in s.heap) I (k.sets eC eN) (osa_descr (s := { s with toks := s.toks + 1 }) KF.slot_mset (Hf_in s.heap) I (k.over eC) (k.taker eC eN ep) (k.mtyp ep)
    (slot_set (s := { s with toks := s.toks + 1 }) F N' (Hf_in s.heap) I (k.slotAt eC ep) (by decide) h1 (fun _ h => nomatch h) rfl rfl fun h' F' N'' => h _ (back h' _ _ F' N'')))
theorem m_getslot {expr : Bool} {Q : Value → Shared → Prop} (k : IsK C N p ini lt oC oN op) (x : Fm g L m μ s0 s) (ha : s.heap.get? a = some (kInst C dx v)) (hdx : s.heap.get? dx = some (dictOf [] 0))
    (eC : g C = some oC) (eN : g N = some oN) (ep : g p = some op) (hv : handedIn v = true) (h : ∀ s', Fm g L m μ s0 s' → Q v s') : wpAny (model prog w) A (getAttr (.ref a) "obj" expr) Q E s := by
  have eC := x.get eC
  have eN := x.get eN
  have ep := x.get ep
  have I : InstAt s.heap a (kInst C dx v) C (some (dictOf [] 0)) := ⟨ha, rfl, rfl, hdx⟩
  have hc : isClsIn (Hf s.heap) C = true := by
    refine absP fun Gx hGx => ?_
    obtain ⟨cd, hc, _⟩ := k.clsIn eC
    refine hGx ?_
    unfold isClsIn; rw [hc]; rfl
  exact get_bind (Hf_in s.heap) I (plainGet_of (k.plain eC eN (name := "obj"))).1 (findObj_data hc (k.find eC eN k.obj) (k.gets ep) (k.takes ep)) (plainGet_of (k.plain eC eN (name := "obj"))).2
    (wpAny_call (slot_get (s := { s with toks := s.toks + 1 }) (Hf_in s.heap) I (k.slotAt eC ep) rfl (handed_on hv (h _ x.tok))))
end
end Mine
end
section
set_option maxRecDepth 100000
set_option autoImplicit false
namespace Mine
open PySem PySem.Spec PySem.Calls PyProof.Rows PySem.W PySem.SeqAt
structure IsFn (g : Fz) (f : Addr) (fd : FuncData) : Prop where
  obj : ∃ od sl, g f = some ⟨.type "function", od, .func fd, sl⟩
  code : ∃ c o vs t, fd.code = .ref c ∧ g c = some o ∧ o.data = .fields vs ∧ vs[1]? = some (.str fd.qualname t)
  kind : fd.scope.kind = .function
  co : fd.scope.isCoroutine = false
  gen : fd.scope.isGenerator = false
  nocell : ∀ x ∈ fd.scope.names, x.2 ≠ .cell
theorem IsFn.le {g g' : Fz} {f : Addr} {fd : FuncData} (x : IsFn g f fd) (k : Le g g') : IsFn g' f fd :=
  ⟨let ⟨a, b, e⟩ := x.obj; ⟨a, b, k _ _ e⟩, let ⟨c, o, vs, t, h1, h2, h3, h4⟩ := x.code; ⟨c, o, vs, t, h1, k _ _ h2, h3, h4⟩, x.kind, x.co, x.gen, x.nocell⟩
structure IsIni (g : Fz) (ini : Addr) : Prop where
  fn : ∃ fd p1 p2 p3 p4, IsFn g ini fd ∧ fd.body = .stmts [.Assign [.Attribute (.Name "self" p1) "obj" p2] (.Name "obj" p3) p4] ∧ (∀ a v, bindArgs fd ⟨[a, v], []⟩ = pure ([("self", a), ("obj", v)] : List (Str × Value))) ∧
    fd.scope.names.lookup ("self" : Str) = some .local ∧ fd.scope.names.lookup ("obj" : Str) = some .local
theorem isFn_Hf {g : Fz} {h : Heap} {f : Addr} {fd : FuncData} (x : IsFn g f fd) (k : ∀ a o, g a = some o → h.get? a = some o) : isFn (Hf h) (.ref f) = true := by
  refine absP fun Gx hGx => ?_
  obtain ⟨od, sl, e⟩ := x.obj
  refine hGx ?_
  unfold isFn typeIn
  simp only [Hf_lookup, k _ _ e, Option.map_some]
  decide
section
variable {prog : Program} {w : World} {A : Around} {E : Value → Shared → Prop} {s0 s : Shared} {g : Fz} {L a dx : Addr} {m mg mb : Str → Option Value} {μ : List (Addr × Obj)} {v : Value} {C N p ini lt : Addr} {oC oN op od : Obj}
theorem k_make (G : Gd w mg mb g) (x : St g μ s0 s) (hA : Ok A) (k : IsK C N p ini lt oC oN op) (eC : g C = some oC) (eN : g N = some oN) (ep : g p = some op) (hi : IsIni g ini) {R : Result → Shared → Prop}
    (h : ∀ g' s' ix dx, Le g g' → St g' μ s0 s' → g' ix = some (kInst C dx v) → g' dx = some (dictOf [] 0) → R (.ok (.ret (.ref ix))) s') : codeAny (model prog w) A (.call (.ref C) ⟨[v], []⟩) R s := by
  refine absP fun Gx hGx => ?_
  obtain ⟨fd, p1, p2, p3, p4, hf, hb, hbi, hs1, hs2⟩ := hi.fn
  refine hGx ?_
  have eC' := x.frz _ _ eC
  have eN' := x.frz _ _ eN
  have hno := G.nolimit x
  refine absP fun Gx hGx => ?_
  obtain ⟨hh, gg, d, tk, os⟩ := s
  refine hGx ?_
  refine make_core (makes_of (Hf_in hh) (k.makes eC')) (looks_findIn (Hf_in hh) (k.find eC' eN' k.ini)) (fun self => bind_fn (Hf_in hh) self (beq_iff_eq.mp (isFn_Hf hf x.frz))) (.inl rfl) ?_
  have x1 := x.newM (tk := tk) (push_keeps hh emptyDict) (size_none _) (Heap.get?_push_size _ rfl)
  have x2 := x1.newM (tk := tk) (push_keeps (hh.push emptyDict) (instObj C hh.objs.size)) (size_none _) (Heap.get?_push_size _ rfl)
  have hsz : (hh.push emptyDict).objs.size = hh.objs.size + 1 := Heap.size_push ..
  dsimp only at x2
  rw [hsz] at x2
  generalize hh.objs.size = dx at x2 ⊢
  have hno2 := G.nolimit x2
  refine absP fun Gx hGx => ?_
  obtain ⟨od, sl, eF⟩ := hf.obj
  refine hGx ?_
  refine codeAny_call_def (binds := [("self", .ref (dx + 1)), ("obj", v)]) (by have := hA.depth; show A.depth + 1 < recursionLimit; omega) (x2.frz _ _ eF) rfl hno2 (let ⟨c, o, vs, t, h1, h2, h3, h4⟩ := hf.code; ⟨c, o, vs, t, h1, x2.frz _ _ h2, h3, h4⟩) hb (.of_eq (hbi _ _)) hf.nocell
    (by intro y hy; simp only [List.mem_cons, List.not_mem_nil, or_false] at hy; rcases hy with rfl | rfl; exact hs1; exact hs2) (fun h₀ hns keep => ?_) hf.co hf.gen hf.kind
  refine absP fun Gx hGx => ?_
  obtain ⟨oL, eL, nL⟩ := nsO_of hns
  refine hGx ?_
  refine noE ?_
  have x : Fm g (callEnv fd ((hh.push emptyDict).push (instObj C dx)).objs.size ini).locals (fun y => ([("self", Value.ref (dx + 1)), ("obj", v)] : List (Str × Value)).reverse.lookup y) ((dx + 1, instObj C dx) :: (dx, emptyDict) :: μ) s0 _ := ⟨oL, nL, x2.newM (tk := tk + 2) keep (size_none _) eL⟩
  have hself : (fun y => ([("self", Value.ref (dx + 1)), ("obj", v)] : List (Str × Value)).reverse.lookup y) "self" = some (.ref (dx + 1)) := rfl
  have hobj : (fun y => ([("self", Value.ref (dx + 1)), ("obj", v)] : List (Str × Value)).reverse.lookup y) "obj" = some v := rfl
  generalize (fun y => ([("self", Value.ref (dx + 1)), ("obj", v)] : List (Str × Value)).reverse.lookup y) = m1 at x hself hobj
  have hk : (callEnv fd ((hh.push emptyDict).push (instObj C dx)).objs.size ini).scope.kind = .function := hf.kind
  have hl1 : (callEnv fd ((hh.push emptyDict).push (instObj C dx)).objs.size ini).kindOf "self" = some .local := hs1
  have hl2 : (callEnv fd ((hh.push emptyDict).push (instObj C dx)).objs.size ini).kindOf "obj" = some .local := hs2
  generalize callEnv fd ((hh.push emptyDict).push (instObj C dx)).objs.size ini = env at x hk hl1 hl2 ⊢
  refine wpAny_execs_cons (plainObj_wpAny_Assign_Attribute (hs := ?hs) (r_name x hobj (r_name x hself ?_ hk hl1) hk hl2))
  case hs => rfl
  refine m_setslot k x rep0 (x.gets (.tail _ (.head _))) eC eN ep fun s' x => ?_
  refine wpAny_execs_nil ?_
  refine ⟨rfl, ?_⟩
  obtain ⟨g1, k1, e1, x⟩ := x.frz1
  obtain ⟨g2, k2, e2, x⟩ := x.frz1
  exact h g2 _ (dx + 1) dx (k1.trans k2) x.st (k2 _ _ e1) e2
end
end Mine
end
section
set_option maxRecDepth 100000
set_option autoImplicit false
namespace Mine
open PySem PySem.Spec PySem.Calls PyProof.Rows PySem.W PySem.SeqAt
inductive IsLtEx (g : Fz) (lt f : Addr) : Prop
  | mk (fd : _) (p1 : _) (p2 : _) (p3 : _) (p4 : _) (p5 : _) (p6 : _) (p7 : _) (p8 : _) (p9 : _) (z : _) (ce : _) (oce : _) (q0 : IsFn g lt fd) (q1 : fd.body = .stmts [.Return (some (.Compare (.Call (.Name "mycmp" p1) [.Attribute (.Name "self" p2) "obj" p3, .Attribute (.Name "other" p4) "obj" p5] [] p6) [.Lt] [.Constant (.int 0) z p7] p8)) p9]) (q2 : (∀ a v, bindArgs fd ⟨[a, v], []⟩ = pure ([("self", a), ("other", v)] : List (Str × Value)))) (q3 : fd.scope.names.lookup ("self" : Str) = some .local) (q4 : fd.scope.names.lookup ("other" : Str) = some .local) (q5 : fd.scope.names.lookup ("mycmp" : Str) = some .free) (q6 : fd.closure.lookup ("mycmp" : Str) = some ce) (q7 : g ce = some oce) (q8 : oce.data = .cell (some (.ref f))) : IsLtEx g lt f
structure IsLt (g : Fz) (lt f : Addr) : Prop where
  fn : IsLtEx g lt f
theorem IsLt.le {g g' : Fz} {lt f : Addr} (x : IsLt g lt f) (k : Le g g') : IsLt g' lt f := by
  obtain ⟨⟨fd, p1, p2, p3, p4, p5, p6, p7, p8, p9, z, ce, oce, h1, h2, h3, h4, h5, h6, h7, h8, h9⟩⟩ := x
  exact ⟨⟨fd, p1, p2, p3, p4, p5, p6, p7, p8, p9, z, ce, oce, h1.le k, h2, h3, h4, h5, h6, h7, k _ _ h8, h9⟩⟩
theorem IsIni.le {g g' : Fz} {ini : Addr} (x : IsIni g ini) (k : Le g g') : IsIni g' ini :=
  let ⟨fd, p1, p2, p3, p4, h1, h2⟩ := x.fn; ⟨fd, p1, p2, p3, p4, h1.le k, h2⟩
section
variable {prog : Program} {w : World} {A : Around} {E : Value → Shared → Prop} {s0 s : Shared} {g : Fz} {L a b dxa dxb : Addr} {m mg mb : Str → Option Value} {μ : List (Addr × Obj)} {va vb : Value} {C N p ini lt f : Addr} {oC oN op of : Obj} {fdf : FuncData}
theorem k_lt (G : Gd w mg mb g) (x : St g μ s0 s) (hA : Ok A) (k : IsK C N p ini lt oC oN op) (eC : g C = some oC) (eN : g N = some oN) (ep : g p = some op) (hi : IsLt g lt f)
    (ea : g a = some (kInst C dxa va)) (eda : g dxa = some (dictOf [] 0)) (eb : g b = some (kInst C dxb vb)) (edb : g dxb = some (dictOf [] 0)) (hva : handedIn va = true) (hvb : handedIn vb = true) (ef : g f = some of) (hof : of.data = .func fdf) {i : Int}
    (hcmp : ∀ (A' : Around) (μ' : List (Addr × Obj)) (s' : Shared) (R' : Result → Shared → Prop), A'.handled = none → A'.units ≤ A.units + 10 → A'.depth ≤ A.depth + 3 → St g μ' s0 s' → (∀ g' s'' t, Le g g' → St g' μ' s0 s'' → R' (.ok (.ret (.int i t))) s'') →
      codeAny (model prog w) A' (.call (.ref f) ⟨[va, vb], []⟩) R' s') {R : Result → Shared → Prop}
    (h : ∀ g' s', Le g g' → St g' μ s0 s' → R (.ok (.ret (.bool (decide (i < 0))))) s') : codeAny (model prog w) A (.call (.ref lt) ⟨[.ref a, .ref b], []⟩) R s := by
  refine absP fun Gx hGx => ?_
  obtain ⟨fd, p1, p2, p3, p4, p5, p6, p7, p8, p9, z, ce, oce, hf, hb, hbi, hs1, hs2, hs3, hc1, hc2, hc3⟩ := hi.fn
  refine hGx ?_
  refine absP fun Gx hGx => ?_
  obtain ⟨od, sl, eF⟩ := hf.obj
  refine hGx ?_
  refine codeAny_call_def (binds := [("self", .ref a), ("other", .ref b)]) (by have := hA.depth; omega) (x.frz _ _ eF) rfl (G.nolimit x) (let ⟨c, o, vs, t, h1, h2, h3, h4⟩ := hf.code; ⟨c, o, vs, t, h1, x.frz _ _ h2, h3, h4⟩) hb (.of_eq (hbi _ _)) hf.nocell
    (by intro y hy; simp only [List.mem_cons, List.not_mem_nil, or_false] at hy; rcases hy with rfl | rfl; exact hs1; exact hs2) (fun h₀ hns keep => ?_) hf.co hf.gen hf.kind
  refine absP fun Gx hGx => ?_
  obtain ⟨oL, eL, nL⟩ := nsO_of hns
  refine hGx ?_
  refine noE ?_
  have hA1 : ((A.deeper (callEnv fd s.heap.objs.size lt)).handled = none) := hA.hand
  have x : Fm g (callEnv fd s.heap.objs.size lt).locals (fun y => ([("self", Value.ref a), ("other", .ref b)] : List (Str × Value)).reverse.lookup y) μ s0 _ := ⟨oL, nL, x.newM (tk := s.toks + 2) keep (size_none _) eL⟩
  have hself : (fun y => ([("self", Value.ref a), ("other", .ref b)] : List (Str × Value)).reverse.lookup y) "self" = some (.ref a) := rfl
  have hoth : (fun y => ([("self", Value.ref a), ("other", .ref b)] : List (Str × Value)).reverse.lookup y) "other" = some (.ref b) := rfl
  generalize (fun y => ([("self", Value.ref a), ("other", .ref b)] : List (Str × Value)).reverse.lookup y) = m1 at x hself hoth
  have hk : (callEnv fd s.heap.objs.size lt).scope.kind = .function := hf.kind
  have hl1 : (callEnv fd s.heap.objs.size lt).kindOf "self" = some .local := hs1
  have hl2 : (callEnv fd s.heap.objs.size lt).kindOf "other" = some .local := hs2
  have hl3 : (callEnv fd s.heap.objs.size lt).kindOf "mycmp" = some .free := hs3
  have hl4 : (callEnv fd s.heap.objs.size lt).cells.lookup ("mycmp" : Str) = some ce := hc1
  have hu : (A.deeper (callEnv fd s.heap.objs.size lt)).units = A.units + 3 := rfl
  have hdp : (A.deeper (callEnv fd s.heap.objs.size lt)).depth = A.depth + 1 := rfl
  generalize A.deeper (callEnv fd s.heap.objs.size lt) = A1 at hA1 hu hdp ⊢
  generalize callEnv fd s.heap.objs.size lt = env at x hk hl1 hl2 hl3 hl4 ⊢
  refine wpAny_execs_cons (wpAny_Return_some (wpAny_Compare1 (wpAny_Call_NameR (r_cell x hl4 (.inl hc2) hc3 ?_ hk (.inr hl3)))))
  refine cw_def hof (sp_cons (Attribute_name (r_name x hself (m_getslot k x (x.get ea) (x.get eda) eC eN ep hva fun s x => sp_one (Attribute_name (r_name x hoth (m_getslot k x (x.get eb) (x.get edb) eC eN ep hvb fun s x => ?_) hk hl2))) hk hl1)))
  refine ⟨x.get ef, ?_⟩
  refine absP fun Gx hGx => ?_
  obtain ⟨oL1, nL1, y⟩ := x
  refine hGx ?_
  refine wpAny_call (hcmp _ _ _ _ hA1 (by first | assumption | exact Nat.le_trans (by assumption) (by decide) | exact Nat.le_trans (Nat.le_of_eq (by assumption)) (Nat.le_trans (by assumption) (by decide)) | omega) (by first | assumption | exact Nat.le_trans (by assumption) (by decide) | exact Nat.le_trans (Nat.le_of_eq (by assumption)) (Nat.le_trans (by assumption) (by decide)) | omega) y fun g' s'' t hle y => ?_)
  have x : Fm g' env.locals m1 μ s0 s'' := ⟨oL1, nL1, y⟩
  refine r_int x fun s t2 x _ => ?_
  refine PySem.P.lt_int ?_
  exact h g' _ hle x.st
end
end Mine
end
section
set_option maxRecDepth 100000
set_option autoImplicit false
namespace Mine
open PySem PySem.Spec PySem.Calls PyProof.Rows PySem.W PySem.SeqAt
section
variable {α : Type} {M : Model} {A : Around} {Q : α → Shared → Prop} {E : Value → Shared → Prop} {s0 s : Shared} {g : Fz} {μ : List (Addr × Obj)} {a : Addr} {o : Obj} {p : Option Value}
theorem n_alloc {k : Addr → Sem α} (x : St g μ s0 s) (hf : o.isFreed = false) (H : ∀ a s', St g ((a, o) :: μ) s0 s' → wpAny M A (k a) Q E s') : wpAny M A (.alloc o k) Q E s := by
  refine absP fun Gx hGx => ?_
  obtain ⟨h, gg, d, t, os⟩ := s
  refine hGx ?_
  exact nd_alloc (H _ _ (x.newM (tk := t) (push_keeps h o) (size_none _) (Heap.get?_push_size _ hf)))
theorem n_at {q : Pos} {k : Unit → Sem α} (H : wpAny M A (k ()) Q E s) : wpAny M A (.at q k) Q E s := fun _ _ _ => H _ _ (by assumption)
theorem n_fresh {k : Tok → Sem α} (x : St g μ s0 s) (H : ∀ t s', St g μ s0 s' → wpAny M A (k t) Q E s') : wpAny M A (.fresh k) Q E s := nd_fresh (H _ _ x.tok)
theorem n_load_m {k : Obj → Sem α} (x : St g μ s0 s) (hm : (a, o) ∈ μ) (H : wpAny M A (k o) Q E s) : wpAny M A (.load a p k) Q E s := nd_load (x.mu _ hm) H
theorem n_load_g {k : Obj → Sem α} (x : St g μ s0 s) (hm : g a = some o) (H : wpAny M A (k o) Q E s) : wpAny M A (.load a p k) Q E s := nd_load (x.frz _ _ hm) H
theorem n_update {f : Obj → Obj} {k : Unit → Sem α} {f' : Obj → List (Addr × Obj)} (x : St g μ s0 s) (r : Rep a o μ f') (hf : (f o).isFreed = false) (H : ∀ s', St g (f' (f o)) s0 s' → wpAny M A (k ()) Q E s') : wpAny M A (.update a p f k) Q E s := by
  refine absP fun Gx hGx => ?_
  obtain ⟨h, gg, d, t, os⟩ := s
  refine hGx ?_
  have e : h.get? a = some o := x.mu _ r.mem
  exact wpAny_bind (m := updatePart a p f) (f := k) (wpAny_updatePart e (H _ (x.rep (h' := h.update a f) (tk := t) r (fun b ob hb eb => ((Heap.SameBut.update h a f).2 b hb).trans eb) (Heap.get?_update_self f e hf))))
end
section
variable {prog : Program} {w : World} {A : Around} {s : Shared} {R : Result → Shared → Prop}
theorem is_call {f : Value} {p : List Value} {kw : List (Str × Value)} {Q : Value → Shared → Prop} {E : Value → Shared → Prop} (h : wpAny (model prog w) A (call f p kw) Q E s) : wpAny (model prog w) A (call f p kw) Q E s := h
theorem is_runV {c : Code} {Q : Value → Shared → Prop} {E : Value → Shared → Prop} (h : wpAny (model prog w) A (runValue c) Q E s) : wpAny (model prog w) A (runValue c) Q E s := h
theorem is_spec {v : Value} {nm : Str} {Q : Option Value → Shared → Prop} {E : Value → Shared → Prop} (h : wpAny (model prog w) A (specialOf v nm) Q E s) : wpAny (model prog w) A (specialOf v nm) Q E s := h
theorem is_look {v : Value} {nm : Str} {Q : Option Value → Shared → Prop} {E : Value → Shared → Prop} (h : wpAny (model prog w) A (typeLookup v nm) Q E s) : wpAny (model prog w) A (typeLookup v nm) Q E s := h
theorem n_look {t : String} {v : Value} {nm : Str} {r : Option Value} {Q : Option Value → Shared → Prop} {E : Value → Shared → Prop} (hv : v = .type t) (hf : findIn [] (.type t) nm = some r) (H : Q r s) : wpAny (model prog w) A (typeLookup v nm) Q E s := by
  subst hv
  exact (looks_findIn (K := []) (fun a o e => by cases e) hf).at (h := s.heap) (g := s.gens) (d := s.drawn) (tk := s.toks) (os := s.os) H
theorem n_spec {t : String} {a : Addr} {o : Obj} {v : Value} {nm : Str} {r : Option Value} {Q : Option Value → Shared → Prop} {E : Value → Shared → Prop} (hv : v = .ref a) (e : s.heap.get? a = some o) (ht : o.cls = .type t) (hf : findIn [] (.type t) nm = some r) (H : Q r s) : wpAny (model prog w) A (specialOf v nm) Q E s := by
  subst hv
  have : specialIn (Hf s.heap) (.ref a) nm = some r := by
    unfold specialIn typeIn
    simp only [Hf_lookup, e, Option.map_some, ht, Option.bind_some]
    exact hf
  exact (looks_specialIn (Hf_in s.heap) this).at (h := s.heap) (g := s.gens) (d := s.drawn) (tk := s.toks) (os := s.os) H
theorem n_call {α : Type} {c : Code} {Q : α → Shared → Prop} {E : Value → Shared → Prop} {gd : Bool} {l : List Value} {k : Result → Sem α} (hc : codeAny (model prog w) A c (fun r s' => wpAny (model prog w) A (k r) Q E s') s) : wpAny (model prog w) A (.call c none gd l k) Q E s :=
  PySem.W.X.x_call hc (by intro h; cases h)
noncomputable abbrev FinP (prog : Program) (w : World) (A : Around) (R : Result → Shared → Prop) : Fin → Shared → Prop := fun fin s' => match fin with | .done f => R (.ok f) s' | .again c' => c'.quiet = true ∧ codeAny (model prog w) A c' R s'
theorem n_builtin {id id' : String} {args : Args} {b : Builtin} (hid : id = id') (hb : entryFor table id' = some b)
    (h : wpAny (model prog w) (A.under (.builtin id' args)) (b args) (FinP prog w A R) (fun e s' => R (.error e) s') s) : codeAny (model prog w) A (.builtin id args) R s := by
  subst hid
  refine codeAny_of_tree ?_
  show wpAny _ _ (match entryFor table id with | some b => b args | none => unsupported ((withoutEnding? id "#data").getD id)) _ _ s
  rw [hb]; exact h
theorem n_callb {id id' : String} {args : Args} {b : Builtin} (hid : id = id') (hq : (Code.builtin id' args).quiet = true) (hb : entryFor table id' = some b)
    (h : wpAny (model prog w) A.in1 (checkBuiltinCall id' args) (fun _ s₁ => wpAny (model prog w) (A.under (.builtin id' args)) (b args) (FinP prog w A R) (fun e s' => R (.error e) s') s₁) (fun e s' => R (.error e) s') s) :
    codeAny (model prog w) A (.call (.builtin id) args) R s := by
  subst hid
  exact codeAny_call_builtin_code hq (wpAny_mono h (fun _ s₁ h₁ => n_builtin rfl hb h₁) fun _ _ q => q)
end
end Mine
end
section
set_option maxRecDepth 100000
set_option autoImplicit false
namespace Mine
open PySem PySem.Spec PySem.Calls PyProof.Rows PySem.W PySem.SeqAt PySem.W.X
theorem St.ofMem {g : Fz} {μ : List (Addr × Obj)} {s0 : Shared} {h h' : Heap} {gg : Array GenState} {d : Drawn} {t t' : Nat} {os : OsState} {news : List (Addr × Obj)} (x : St g μ s0 ⟨h, gg, d, t, os⟩) (D : Mem h h' [] news) : St g (news ++ μ) s0 ⟨h', gg, d, t', os⟩ := by
  have keep : ∀ b o, h.get? b = some o → h'.get? b = some o := fun b o e => D.keep b o e (by simp [away])
  refine ⟨(x.keep (h' := h') (tk := t') keep).same, fun b o e => keep _ _ (x.frz b o e), fun p hp => ?_, fun p hp => ?_, ?_⟩
  · rcases List.mem_append.mp hp with hp | hp
    · exact (D.nw p hp).1
    · exact keep _ _ (x.mu p hp)
  · rcases List.mem_append.mp hp with hp | hp
    · exact x.offNone (D.nw p hp).2
    · exact x.off p hp
  · rw [List.map_append, List.nodup_append]
    refine ⟨D.ord.imp (fun h => Nat.ne_of_gt h), x.nd, fun a ha b hb e => ?_⟩
    refine absP fun Gx hGx => ?_
    obtain ⟨p, hp, rfl⟩ := List.mem_map.mp ha
    refine hGx ?_
    refine absP fun Gx hGx => ?_
    obtain ⟨q, hq, rfl⟩ := List.mem_map.mp hb
    refine hGx ?_
    have h1 := (D.nw p hp).2
    have h2 : h.get? q.1 = some q.2 := x.mu q hq
    rw [e, h2] at h1; cases h1
set_option hygiene false in
local macro_rules | `(tactic| x_close) => `(tactic| (exact hx _ _ (x.ofMem D)))
section
variable {prog : Program} {w : World} {A : Around} {E : Value → Shared → Prop} {s0 s : Shared} {env : Env} {g : Fz} {L : Addr} {m mg mb : Str → Option Value} {μ : List (Addr × Obj)} {pos : Pos} {n : Str} {v : Value} {f : Addr}
noncomputable abbrev prepObj : Obj := { cls := .type "builtin_function_or_method", data := .fields #[.builtin "type.__prepare__", .type "type"] }
set_option maxHeartbeats 1000000 in
theorem x_prep1 {t1 : Tok} {Q : Value → Shared → Prop} (x : St g μ s0 s) (hx : ∀ a s', St g ((a, prepObj) :: μ) s0 s' → Q (.ref a) s') :
    wpAny (model prog w) A (call (.builtin "type.__getattribute__") [.type "type", .str "__prepare__" t1]) Q E s := by
  refine absP fun Gx hGx => ?_
  obtain ⟨h, gg, d, t, os⟩ := s
  refine hGx ?_
  x_run
end
end Mine
end
section
set_option maxRecDepth 100000
set_option autoImplicit false
namespace Mine
open PySem PySem.Spec PySem.Calls PyProof.Rows PySem.W PySem.SeqAt PySem.W.X
set_option hygiene false in
local macro_rules | `(tactic| k_mem) => `(tactic| first | exact List.Mem.head _ | (refine List.Mem.tail _ ?_; k_mem))
set_option hygiene false in
local macro_rules | `(tactic| k_sweep) => `(tactic| ((fail_if_success with_reducible refine is_call ?_); (fail_if_success with_reducible refine is_runV ?_); first
  | with_reducible refine n_alloc x rfl fun a s x => ?_
  | with_reducible refine n_fresh x fun t s x => ?_
  | (with_reducible refine n_load_m x (by k_mem) ?_)
  | with_reducible refine n_at ?_
  | with_reducible refine n_call ?_
  | with_reducible refine wpAny_attempt ?_
  | with_reducible refine wpAny_tryCatch ?_
  | lk))
set_option hygiene false in
local macro_rules | `(tactic| x_close) => `(tactic| (exact hx _ _ (x.ofMem D)))
section
variable {prog : Program} {w : World} {A : Around} {E : Value → Shared → Prop} {s0 s : Shared} {env : Env} {g : Fz} {L : Addr} {m mg mb : Str → Option Value} {μ : List (Addr × Obj)} {pos : Pos} {n : Str} {v : Value} {f : Addr}
set_option maxHeartbeats 1000000 in
theorem get_prep {v : Value} (hv : v = .type "type") (x : St g μ s0 s) {Q : Option Value → Shared → Prop} (hx : ∀ a s', St g ((a, prepObj) :: μ) s0 s' → Q (some (.ref a)) s') : wpAny (model prog w) A (getAttr? v "__prepare__") Q E s := by
  subst hv
  iterate 200 (first | k_sweep)
  refine x_prep1 x fun a s x => ?_
  refine handed_on rfl ?_
  exact wpAny_pure (hx _ _ x)
set_option maxHeartbeats 1000000 in
theorem call_prep {P b : Addr} {t1 : Tok} (x : St g μ s0 s) (hP : (P, prepObj) ∈ μ) {Q : Value → Shared → Prop} (hx : ∀ a s', St g ((a, emptyDict) :: μ) s0 s' → Q (.ref a) s') : wpAny (model prog w) A (call (.ref P) [.str "K" t1, .ref b]) Q E s := by
  have e : s.heap.get? P = some prepObj := x.mu _ hP
  refine absP fun Gx hGx => ?_
  obtain ⟨h, gg, d, t, os⟩ := s
  refine hGx ?_
  dsimp only [prepObj] at e
  x_run
end
end Mine
end
section
set_option maxRecDepth 100000
set_option autoImplicit false
namespace Mine
open PySem PySem.Spec PySem.Calls PyProof.Rows PySem.W PySem.SeqAt
theorem gd_builtins {w : World} {mg mb : Str → Option Value} {g : Fz} (G : Gd w mg mb g) : ∃ bm o, mg "__builtins__" = some (.ref bm) ∧ bm ≠ builtinsNs ∧ bm ≠ mainGlobals ∧ g bm = some o ∧ o.cls = .type "module" ∧ o.dict = some builtinsNs ∧ o.data = .plain :=
  G.bmd
inductive CodeF (g : Fz) (c P : Addr) : Prop
  | mk (o : _) (vs : _) (file : _) (tf : _) (flags : _) (tg : _) (inF : _) (text : _) (tt : _) (q0 : g c = some o) (q1 : o.cls = .type "code") (q2 : o.data = .fields vs) (q3 : vs[11]? = some (.ref P)) (q4 : vs.getD 11 .none = .ref P) (q5 : vs.getD 18 .none = .str file tf) (q6 : vs.getD 7 .none = .int flags tg) (q7 : vs.getD 9 .none = .bool inF) (q8 : vs.getD 10 .none = .int text tt) (q9 : c ≠ P) : CodeF g c P
noncomputable def CodeR (g : Fz) (c : Addr) (q : Str) : Prop := ∃ o vs t, g c = some o ∧ o.data = .fields vs ∧ vs[1]? = some (.str q t)
theorem CodeF.le {g g' : Fz} {c P : Addr} (x : CodeF g c P) (k : Le g g') : CodeF g' c P :=
  by obtain ⟨o, vs, file, tf, flags, tg, inF, text, tt, e, r1, r2, r3, r4, r5, r6, r7, r8, r9⟩ := x; exact ⟨o, vs, file, tf, flags, tg, inF, text, tt, k _ _ e, r1, r2, r3, r4, r5, r6, r7, r8, r9⟩
theorem CodeR.le {g g' : Fz} {c : Addr} {q : Str} (x : CodeR g c q) (k : Le g g') : CodeR g' c q :=
  let ⟨o, vs, t, e, r⟩ := x; ⟨o, vs, t, k _ _ e, r⟩
theorem CodeF.hd {g : Fz} {μ : List (Addr × Obj)} {s0 s : Shared} {c P : Addr} (x : St g μ s0 s) (k : CodeF g c P) : CodeHd s.heap c P :=
  by obtain ⟨o, vs, file, tf, flags, tg, inF, text, tt, e, r1, r2, r3, r4, r5, r6, r7, r8, r9⟩ := k; exact ⟨o, vs, file, tf, flags, tg, inF, text, tt, x.frz _ _ e, r1, r2, r3, r4, r5, r6, r7, r8, r9⟩
theorem St.but {g : Fz} {μ : List (Addr × Obj)} {s0 s : Shared} {P : Addr} {oP oP' : Obj} {f : Obj → List (Addr × Obj)} {h' : Heap} {tk : Nat} (x : St g μ s0 s) (r : Rep P oP μ f) (hx : Heap.ExtBut P s.heap h') (e : h'.get? P = some oP') : St g (f oP') s0 { s with heap := h', toks := tk } :=
  x.rep r (fun b ob hb eb => hx b ob hb eb) e
theorem St.add {g : Fz} {μ : List (Addr × Obj)} {s0 s : Shared} {a : Addr} {o : Obj} (x : St g μ s0 s) (hn : g a = none) (hm : a ∉ μ.map (·.1)) (e : s.heap.get? a = some o) : St (put g a o) μ s0 s := by
  refine ⟨x.same, fun b ob eb => ?_, x.mu, fun p hp => ?_, x.nd⟩
  · unfold put at eb
    split at eb
    · rename_i q; cases eb; rw [q]; exact e
    · exact x.frz _ _ eb
  · have : p.1 ≠ a := fun q => hm (List.mem_map.mpr ⟨p, hp, q⟩)
    simp [put, this, x.off p hp]
theorem Rep.keys {a : Addr} {o o' : Obj} {μ : List (Addr × Obj)} {f : Obj → List (Addr × Obj)} (r : Rep a o μ f) : (f o').map (·.1) = μ.map (·.1) := by
  refine absP fun Gx hGx => ?_
  obtain ⟨pre, post, e, he⟩ := r.split
  refine hGx ?_
  rw [he, e]; simp
section
variable {prog : Program} {w : World} {M : Model} {A : Around} {E : Value → Shared → Prop} {s0 s : Shared} {env : Env} {g : Fz} {L : Addr} {m mg mb : Str → Option Value} {μ : List (Addr × Obj)} {pos : Pos} {n : Str} {v : Value} {f : Obj → List (Addr × Obj)}
  {name qual : Str} {params : Arguments} {body : List Stmt} {scope : Scope} {c P : Addr} {ps : Array Value} {firstLine : Nat} {clos : List (Str × Addr)}
theorem St.fresh_not {a : Addr} (x : St g μ s0 s) (ha : s.heap.objs.size ≤ a) : g a = none ∧ a ∉ μ.map (·.1) := by
  have hn : s.heap.get? a = none := by
    cases e : s.heap.get? a with
    | none => rfl
    | some o => exact absurd (Heap.lt_size e) (Nat.not_lt.mpr ha)
  refine ⟨x.offNone hn, fun hm => ?_⟩
  refine absP fun Gx hGx => ?_
  obtain ⟨p, hp, rfl⟩ := List.mem_map.mp hm
  refine hGx ?_
  rw [x.mu p hp] at hn; cases hn
theorem bAt (G : Gd w mg mb g) (x : St g μ s0 s) {oP : Obj} (r : Rep P oP μ f) : s.heap.BuiltinsAt mg P := by
  refine absP fun Gx hGx => ?_
  obtain ⟨bm, o, h1, h2, h3, h4, h5⟩ := gd_builtins G
  refine hGx ?_
  refine ⟨bm, o, h1, h2, h3, fun q => ?_, x.frz _ _ h4, h5⟩
  have := x.off _ r.mem
  rw [q] at h4
  rw [h4] at this; cases this
theorem glob_ne (G : Gd w mg mb g) (x : St g μ s0 s) {oP : Obj} (r : Rep P oP μ f) : mainGlobals ≠ P := fun q => by
  refine absP fun Gx hGx => ?_
  obtain ⟨o, h4, _⟩ := G.mgo
  refine hGx ?_
  have := x.off _ r.mem
  rw [q] at h4
  rw [h4] at this; cases this
theorem m_func {Q : Value → Shared → Prop} (G : Gd w mg mb g) (x : St g μ s0 s) (hcl : closureFor scope env = pure clos) (hge0 : env.globals = mainGlobals) (hcode : env.code = .ref c) (C : CodeF g c P) (r : Rep P (tabObj ps) μ f) (ht : TriplesOk ps.toList)
    (hnf : codeAmong pos ps.toList = none)
    (h : ∀ g' s' c' ctv doc fa, Le g g' → CodeR g' c' qual → g' fa = some (fnMade name qual params body scope clos doc ((mg "__name__").getD .none) c' ctv) → St g' (f (tabObj (ps ++ #[rawInt pos.line, rawInt pos.col, .ref c']))) s0 s' → Q (.ref fa) s') :
    wpAny M A (makeFunction name qual params (.stmts body) scope env [] [] [] pos firstLine) Q E s := by
  refine makeFunction_K hcl hge0 (let ⟨_, e1, q⟩ := G.mgo; q.ns (x.frz _ _ e1)) hcode (C.hd x) (x.mu _ r.mem) ht hnf (glob_ne G x r) (bAt G x r) ?_
  intro c' ctv doc h' tk hx hge hlt hrec htab
  have y := x.but (tk := s.toks) r hx htab
  obtain ⟨n1, n2⟩ := x.fresh_not hge
  refine absP fun Gx hGx => ?_
  obtain ⟨c2, o2, vs2, t2, e2, e3, e4, e5⟩ := hrec
  refine hGx ?_
  cases e2
  have y := y.add n1 (by rw [r.keys]; exact n2) e3
  have hl1 : Le g (put g c' o2) := put_le n1
  have y := y.newF (tk := tk) (push_keeps h' (fnMade name qual params body scope clos doc ((mg "__name__").getD .none) c' ctv)) (size_none _) (Heap.get?_push_size _ rfl)
  have n3 := x.fresh_not (a := h'.objs.size) (Nat.le_trans hge (Nat.le_of_lt hlt))
  have hne : h'.objs.size ≠ c' := Nat.ne_of_gt hlt
  have hl2 : Le (put g c' o2) (put (put g c' o2) h'.objs.size (fnMade name qual params body scope clos doc ((mg "__name__").getD .none) c' ctv)) := put_le (by simp [put, hne, n3.1])
  exact h _ _ c' ctv doc h'.objs.size (hl1.trans hl2) ⟨o2, vs2, t2, hl2 _ _ (put_self _ _ _), e4, e5⟩ (put_self _ _ _) y
end
end Mine
end
section
set_option maxRecDepth 100000
set_option autoImplicit false
namespace Mine
open PySem PySem.Spec PySem.Calls PyProof.Rows PySem.W PySem.SeqAt
section
variable {prog : Program} {w : World} {M : Model} {A : Around} {E : Value → Shared → Prop} {s0 s : Shared} {env : Env} {g : Fz} {L : Addr} {m mg mb : Str → Option Value} {μ : List (Addr × Obj)} {pos : Pos} {n : Str} {v : Value} {f : Obj → List (Addr × Obj)}
  {name qual : Str} {params : Arguments} {body : List Stmt} {scope : Scope} {c P : Addr} {ps : Array Value} {firstLine : Nat} {clos : List (Str × Addr)}
theorem CodeF.ofHd {h : Heap} {c P : Addr} {q : Str} (k : CodeHd h c P) (k2 : h.CodeRec (.ref c) q) : ∃ o, h.get? c = some o ∧ ∀ g : Fz, g c = some o → CodeF g c P ∧ CodeR g c q := by
  refine absP fun Gx hGx => ?_
  obtain ⟨o, vs, file, tf, flags, tg, inF, text, tt, e, r⟩ := k
  refine hGx ?_
  refine absP fun Gx hGx => ?_
  obtain ⟨c2, o2, vs2, t2, e2, e3, e4, e5⟩ := k2
  refine hGx ?_
  cases e2
  rw [e] at e3; cases e3
  exact ⟨o, e, fun g eg => ⟨⟨o, vs, file, tf, flags, tg, inF, text, tt, eg, r.1, r.2.1, r.2.2.1, r.2.2.2.1, r.2.2.2.2.1, r.2.2.2.2.2.1, r.2.2.2.2.2.2.1, r.2.2.2.2.2.2.2.1, r.2.2.2.2.2.2.2.2⟩, ⟨o, vs2, t2, eg, e4, e5⟩⟩⟩
theorem m_classCode {Q : Value → Shared → Prop} (x : St g μ s0 s) (hcode : env.code = .ref c) (C : CodeF g c P) (r : Rep P (tabObj ps) μ f) (ht : TriplesOk ps.toList) (hnf : codeAmong pos ps.toList = none)
    (h : ∀ g' s' c' P', Le g g' → CodeF g' c' P' → CodeR g' c' qual → St g' ((P', tabObj #[]) :: f (tabObj (ps ++ #[rawInt pos.line, rawInt pos.col, .ref c']))) s0 s' → Q (.ref c') s') :
    wpAny M A (classCode env pos firstLine name qual scope) Q E s := by
  refine absP fun Gx hGx => ?_
  obtain ⟨o, vs, file, tf, flags, tg, inF, text, tt, ho, hcl, hd, h11a, h11, h2, h7, h9, h10, hne⟩ := C.hd x
  refine hGx ?_
  have hP : s.heap.get? P = some (tabObj ps) := x.mu _ r.mem
  unfold classCode codeAt
  rw [hcode, if_neg (show ¬ ((Value.ref c == Value.none) = true) from Bool.false_ne_true)]
  refine wpAny_bind (wpAny_fieldsOf ho hd ?_)
  rw [h11]
  refine wpAny_bind (wpAny_fieldsOf hP rfl ?_)
  rw [hnf, h2, h7, h9, h10]
  refine wpAny_bind (wpAny_newCodeX fun c' P' h' tk hk hc' hP' hcode' htab' hrec' => ?_)
  have y0 := x.keep (tk := tk) hk
  have hP1 := hk _ _ hP
  refine wpAny_bind (wpAny_updateFieldsOfTheText hP1 rfl ?_)
  have hnew : Obj.mapFields (fun vs => if (codeAmong pos vs.toList).isSome = true then vs else vs ++ #[rawInt pos.line, rawInt pos.col, .ref c']) (tabObj ps) = tabObj (ps ++ #[rawInt pos.line, rawInt pos.col, .ref c']) := by
    simp only [Obj.mapFields, hnf]; rfl
  have hget := Heap.get?_update_self (h := h') (fun o => Obj.mapFields (fun vs => if (codeAmong pos vs.toList).isSome = true then vs else vs ++ #[rawInt pos.line, rawInt pos.col, .ref c']) o) hP1 (by rw [hnew]; rfl)
  rw [hnew] at hget
  refine wpAny_bind (wpAny_fieldsOf hget rfl ?_)
  have hl : (ps ++ #[rawInt pos.line, rawInt pos.col, Value.ref c']).toList = ps.toList ++ [rawInt pos.line, rawInt pos.col, .ref c'] := by simp
  rw [hl, codeAmong_snoc _ ht hnf]
  refine wpAny_pure ?_
  have hx := (Heap.SameBut.update h' P (fun o => Obj.mapFields (fun vs => if (codeAmong pos vs.toList).isSome = true then vs else vs ++ #[rawInt pos.line, rawInt pos.col, .ref c']) o)).extBut
  have hcP : c' ≠ P := Nat.ne_of_gt (Nat.lt_of_lt_of_le (Heap.lt_size hP) hc')
  have hP'P : P' ≠ P := Nat.ne_of_gt (Nat.lt_of_lt_of_le (Heap.lt_size hP) hP')
  have y := y0.but (tk := tk) r (P := P) hx hget
  refine absP fun Gx hGx => ?_
  obtain ⟨oc, eoc, hoc⟩ := CodeF.ofHd (CodeHd.of hcode' htab') hrec'
  refine hGx ?_
  obtain ⟨n1, n2⟩ := x.fresh_not hc'
  obtain ⟨n3, n4⟩ := x.fresh_not hP'
  have hcP' : c' ≠ P' := by
    refine absP fun Gx hGx => ?_
    obtain ⟨o, vs, file, tf, flags, tg, inF, text, tt, op, _, _, _, _, _, _, _, _, _, _, r⟩ := hcode'
    refine hGx ?_
    exact r
  have y := y.add n1 (by rw [r.keys]; exact n2) (hx _ _ hcP eoc)
  have hl1 : Le g (put g c' oc) := put_le n1
  refine h _ _ c' P' hl1 (hoc _ (put_self _ _ _)).1 (hoc _ (put_self _ _ _)).2 ⟨y.same, y.frz, fun p hp => ?_, fun p hp => ?_, ?_⟩
  · rcases List.mem_cons.mp hp with rfl | hp
    · exact hx _ _ hP'P htab'.2
    · exact y.mu p hp
  · rcases List.mem_cons.mp hp with rfl | hp
    · simp [put, Ne.symm hcP', n3]
    · exact y.off p hp
  · rw [List.map_cons, List.nodup_cons]
    exact ⟨by rw [r.keys]; exact n4, y.nd⟩
end
end Mine
end
section
set_option maxRecDepth 100000
set_option autoImplicit false
namespace Mine
open PySem PySem.Spec PySem.Calls PyProof.Rows PySem.W PySem.SeqAt
noncomputable abbrev nsObj (es : List DictEntry) (n : Nat) : Obj := { cls := .type "dict", data := .dict es.toArray n }
theorem put_new {es : List DictEntry} {n : Nat} {name : Str} {h : Int} {key v : Value} (hnew : ∀ e ∈ es, e.key.isStr name = false) : Obj.putName name h key v (nsObj es n) = nsObj (es ++ [⟨h, key, v⟩]) (n + 1) := by
  rw [Obj.putName_eq]
  have : es.toArray.findIdx? (·.key.isStr name) = none := Array.findIdx?_eq_none_iff.mpr fun e he => by simpa using hnew e (by simpa using he)
  unfold Obj.putNameByArray
  simp only [this]
  simp [nsObj]
section
variable {prog : Program} {w : World} {M : Model} {A : Around} {E : Value → Shared → Prop} {s0 s : Shared} {env : Env} {g : Fz} {N : Addr} {μ : List (Addr × Obj)} {v : Value} {f : Obj → List (Addr × Obj)} {name : Str} {es : List DictEntry} {n : Nat}
theorem c_nsGet {Q : Option Value → Shared → Prop} (x : St g μ s0 s) (hm : (N, nsObj es n) ∈ μ) (hk : StrKeys es.toArray) (h : Q (nsFind es.toArray name) s) : wpAny M A (nsGet N name) Q E s :=
  wpAny_nsGet ⟨_, es.toArray, n, x.mu _ hm, rfl, hk, fun _ => rfl⟩ h
theorem c_nsSet {Q : Unit → Shared → Prop} (x : St g μ s0 s) (r : Rep N (nsObj es n) μ f) (hk : StrKeys es.toArray) (hnew : ∀ e ∈ es, e.key.isStr name = false)
    (h : ∀ hsh t s', St g (f (nsObj (es ++ [⟨hsh, .str name t, v⟩]) (n + 1))) s0 s' → Q () s') : wpAny M A (nsSet N name v) Q E s := by
  have e : s.heap.get? N = some (nsObj es n) := x.mu _ r.mem
  unfold nsSet strHash
  refine wpAny_bind (wpAny_bind ?_)
  refine nd_ask ?_
  refine wpAny_pure ?_
  refine wpAny_pure ?_
  refine wpAny_bind (wpAny_mkText ?_)
  refine wpAny_bind (wpAny_loadPart (o := nsObj es n) e ?_)
  have hr : aRefKeyMayBeTheName name es.toArray = false := by
    rw [aRefKeyMayBeTheName_at]
    have : es.toArray.any (·.refKey) = false := by
      rw [Array.any_eq_false]
      intro i hi
      refine absP fun Gx hGx => ?_
      obtain ⟨nm, t, hq⟩ := hk _ (Array.getElem_mem hi)
      refine hGx ?_
      have hq' : es[i].key = .str nm t := by simpa using hq
      simp [DictEntry.refKey, hq']
    rw [this]; simp
  dsimp only
  rw [hr]
  refine wpAny_updatePart (o := nsObj es n) e ?_
  generalize (if name.cps.isEmpty = true then 0 else reduceHash (M.w.params.strHash name.cps)) = hs
  have e2 : (s.heap.update N (Obj.putName name hs (.str name s.toks) v)).get? N = some (nsObj (es ++ [⟨hs, .str name s.toks, v⟩]) (n + 1)) := by
    rw [Heap.get?_update_self _ e (by rw [put_new hnew]; rfl), put_new hnew]
  exact h hs s.toks _ (x.rep (tk := s.toks + 1) r (fun b ob hb eb => ((Heap.SameBut.update s.heap N _).2 b hb).trans eb) e2)
theorem c_local {Q : Unit → Shared → Prop} (x : St g μ s0 s) (hl : env.locals = N) (r : Rep N (nsObj es n) μ f) (hk : StrKeys es.toArray) (hnew : ∀ e ∈ es, e.key.isStr name = false)
    (h : ∀ hsh t s', St g (f (nsObj (es ++ [⟨hsh, .str name t, v⟩]) (n + 1))) s0 s' → Q () s') : wpAny M A (localSet env name v) Q E s := by
  have e : s.heap.get? N = some (nsObj es n) := x.mu _ r.mem
  unfold localSet
  rw [hl]
  refine wpAny_bind (wpAny_load (o := nsObj es n) e ?_)
  exact c_nsSet x r hk hnew h
end
end Mine
end
section
set_option maxRecDepth 100000
set_option autoImplicit false
namespace Mine
open PySem PySem.Spec PySem.Calls PyProof.Rows PySem.W PySem.SeqAt
section
variable {prog : Program} {w : World} {A : Around} {E : Value → Shared → Prop} {s0 s : Shared} {env : Env} {g : Fz} {N : Addr} {mg mb : Str → Option Value} {μ : List (Addr × Obj)} {v : Value} {f : Obj → List (Addr × Obj)} {name : Str} {es : List DictEntry} {n : Nat}
theorem code27 (G : Gd w mg mb g) : CodeF g 27 23 := ⟨_, _, _, _, _, _, _, _, _, G.kin 27 _ rfl, rfl, rfl, rfl, rfl, rfl, rfl, rfl, rfl, by decide⟩
theorem b_for {a b : Addr} {Q : Addr → Shared → Prop} (G : Gd w mg mb g) (x : St g μ s0 s) (ha : a = mainGlobals) (h : Q builtinsNs s) : wpAny (model prog w) A (builtinsFor a b) Q E s := by
  refine absP fun Gx hGx => ?_
  obtain ⟨bm, o, h1, h2, h3, h4, h5, h6, h7⟩ := gd_builtins G
  refine hGx ?_
  subst ha
  exact wpAny_builtinsFor (let ⟨_, e1, q⟩ := G.mgo; q.ns (x.frz _ _ e1)) h1 h2 (x.frz _ _ h4) h5 h6 h7 h
theorem g_get {a : Addr} {Q : Option Value → Shared → Prop} (G : Gd w mg mb g) (x : St g μ s0 s) (ha : a = mainGlobals) (h : Q (mg name) s) : wpAny (model prog w) A (nsGet a name) Q E s := by
  subst ha
  exact wpAny_nsGet (let ⟨_, e1, q⟩ := G.mgo; q.ns (x.frz _ _ e1)) h
theorem b_get {a : Addr} {Q : Option Value → Shared → Prop} (G : Gd w mg mb g) (x : St g μ s0 s) (ha : a = builtinsNs) (h : Q (mb name) s) : wpAny (model prog w) A (nsGet a name) Q E s := by
  subst ha
  exact wpAny_nsGet (let ⟨_, e1, q⟩ := G.mbo; q.ns (x.frz _ _ e1)) h
theorem e_frame {Q : Unit → Shared → Prop} (G : Gd w mg mb g) (x : St g μ s0 s) (hd : A.depth < recursionLimit) (h : Q () s) : wpAny (model prog w) A enterFrame Q E s := wpAny_enterFrame (G.nolimit x) hd h
theorem gname (G : Gd w mg mb g) : ∃ u t, mg "__name__" = some (.str u t) := ⟨_, _, G.mgs _ _ rfl⟩
inductive LoadG (prog : Program) (w : World) (A : Around) (g : Fz) (a : Addr) {α : Type} (k : Obj → Sem α) (Q : α → Shared → Prop) (E : Value → Shared → Prop) (s : Shared) : Prop
  | mk (o : Obj) (e : g a = some o) (h : wpAny (model prog w) A (k o) Q E s) : LoadG prog w A g a k Q E s
inductive LoadM (prog : Program) (w : World) (A : Around) (μ : List (Addr × Obj)) (a : Addr) {α : Type} (k : Obj → Sem α) (Q : α → Shared → Prop) (E : Value → Shared → Prop) (s : Shared) : Prop
  | mk (o : Obj) (e : (a, o) ∈ μ) (h : wpAny (model prog w) A (k o) Q E s) : LoadM prog w A μ a k Q E s
inductive UpdM (prog : Program) (w : World) (A : Around) (g : Fz) (s0 : Shared) (μ : List (Addr × Obj)) (a : Addr) (u : Obj → Obj) {α : Type} (k : Unit → Sem α) (Q : α → Shared → Prop) (E : Value → Shared → Prop) : Prop
  | mk (o : Obj) (f' : Obj → List (Addr × Obj)) (r : Rep a o μ f') (q : (u o).isFreed = false) (h : ∀ s', St g (f' (u o)) s0 s' → wpAny (model prog w) A (k ()) Q E s') : UpdM prog w A g s0 μ a u k Q E
theorem n_load_e {α : Type} {a : Addr} {p : Option Value} {k : Obj → Sem α} {Q : α → Shared → Prop} (x : St g μ s0 s) (H : LoadG prog w A g a k Q E s) : wpAny (model prog w) A (.load a p k) Q E s := let ⟨_, h1, h2⟩ := H; n_load_g x h1 h2
theorem n_load_em {α : Type} {a : Addr} {p : Option Value} {k : Obj → Sem α} {Q : α → Shared → Prop} (x : St g μ s0 s) (H : LoadM prog w A μ a k Q E s) : wpAny (model prog w) A (.load a p k) Q E s := let ⟨_, h1, h2⟩ := H; n_load_m x h1 h2
theorem n_upd_e {α : Type} {a : Addr} {p : Option Value} {u : Obj → Obj} {k : Unit → Sem α} {Q : α → Shared → Prop} (x : St g μ s0 s) (H : UpdM prog w A g s0 μ a u k Q E) : wpAny (model prog w) A (.update a p u k) Q E s := let ⟨_, _, h1, h2, h3⟩ := H; n_update x h1 h2 h3
theorem n_try {α : Type} {m : Sem α} {k : Value → Sem α} {Q : α → Shared → Prop} (h : wpAny (model prog w) A m Q (fun e s' => wpAny (model prog w) A (k e) Q E s') s) : wpAny (model prog w) A (Sem.tryCatch m k) Q E s := wpAny_tryCatch h
theorem n_look_e {v : Value} {nm : Str} {r : Option Value} {Q : Option Value → Shared → Prop} (H : ∃ t, v = .type t ∧ findIn [] (.type t) nm = some r ∧ Q r s) : wpAny (model prog w) A (typeLookup v nm) Q E s := let ⟨_, h1, h2, h3⟩ := H; n_look h1 h2 h3
theorem is_store {Q : Unit → Shared → Prop} (h : wpAny (model prog w) A (storeName env name v) Q E s) : wpAny (model prog w) A (storeName env name v) Q E s := h
theorem is_code {env : Env} {pos : Pos} {l : Nat} {a b : Str} {sc : Scope} {Q : Value → Shared → Prop} (H : wpAny (model prog w) A (classCode env pos l a b sc) Q E s) : wpAny (model prog w) A (classCode env pos l a b sc) Q E s := H
theorem is_run {c : Code} {h : Option Value} {Q : Flow → Shared → Prop} (H : wpAny (model prog w) A (run c h) Q E s) : wpAny (model prog w) A (run c h) Q E s := H
end
end Mine
end
section
set_option maxRecDepth 100000
set_option autoImplicit false
namespace Mine
open PySem PySem.Spec PySem.Calls PyProof.Rows PySem.W PySem.SeqAt
noncomputable abbrev ent (p : Int × Tok) (nm : Str) (v : Value) : DictEntry := ⟨p.1, .str nm p.2, v⟩
noncomputable def Pre (qual : Str) (es : List DictEntry) : Prop := ∃ p1 m u1 p2 u2 p3 l u3, es = [ent p1 "__module__" (.str m u1), ent p2 "__qualname__" (.str qual u2), ent p3 "__firstlineno__" (.int l u3)]
noncomputable def IsFun (g : Fz) (a : Addr) : Prop := ∃ od fd sl, g a = some ⟨.type "function", od, .func fd, sl⟩
inductive Body (g : Fz) (qual : Str) (f ini lt : Addr) (es : List DictEntry) : Prop
  | mk (p1 : _) (m : _) (u1 : _) (p2 : _) (u2 : _) (p3 : _) (l : _) (u3 : _) (p4 : _) (sl : _) (u4 : _) (p5 : _) (p6 : _) (p7 : _) (f3 : _) (p8 : _) (f4 : _) (p9 : _) (f5 : _) (p10 : _) (f6 : _) (p11 : _) (q0 : es = [ent p1 "__module__" (.str m u1), ent p2 "__qualname__" (.str qual u2), ent p3 "__firstlineno__" (.int l u3), ent p4 "__slots__" (.ref sl), ent p5 "__init__" (.ref ini), ent p6 "__lt__" (.ref lt), ent p7 "__gt__" (.ref f3), ent p8 "__eq__" (.ref f4), ent p9 "__le__" (.ref f5), ent p10 "__ge__" (.ref f6), ent p11 "__hash__" .none]) (q1 : g sl = some { cls := .type "list", data := .seq #[.str "obj" u4] }) (q2 : IsIni g ini) (q3 : IsLt g lt f) (q4 : IsFun g ini) (q5 : IsFun g lt) (q6 : IsFun g f3) (q7 : IsFun g f4) (q8 : IsFun g f5) (q9 : IsFun g f6) : Body g qual f ini lt es
inductive KFacts (g : Fz) (C f : Addr) : Prop
  | mk (N : _) (p : _) (ini : _) (lt : _) (oC : _) (oN : _) (op : _) (q0 : IsK C N p ini lt oC oN op) (q1 : g C = some oC) (q2 : g N = some oN) (q3 : g p = some op) (q4 : IsIni g ini) (q5 : IsLt g lt f) : KFacts g C f
theorem IsFun.le {g g' : Fz} {a : Addr} (x : IsFun g a) (k : Le g g') : IsFun g' a := let ⟨od, fd, sl, e⟩ := x; ⟨od, fd, sl, k _ _ e⟩
theorem Body.le {g g' : Fz} {qual : Str} {f ini lt : Addr} {es : List DictEntry} (b : Body g qual f ini lt es) (k : Le g g') : Body g' qual f ini lt es := by
  refine absP fun Gx hGx => ?_
  obtain ⟨p1, m, u1, p2, u2, p3, l, u3, p4, sl, u4, p5, p6, p7, f3, p8, f4, p9, f5, p10, f6, p11, he, h1, h2, h3, h4, h5, h6, h7, h8, h9⟩ := b
  refine hGx ?_
  exact ⟨p1, m, u1, p2, u2, p3, l, u3, p4, sl, u4, p5, p6, p7, f3, p8, f4, p9, f5, p10, f6, p11, he, k _ _ h1, h2.le k, h3.le k, h4.le k, h5.le k, h6.le k, h7.le k, h8.le k, h9.le k⟩
theorem KFacts.le {g g' : Fz} {C f : Addr} (x : KFacts g C f) (k : Le g g') : KFacts g' C f :=
  by obtain ⟨N, p, ini, lt, oC, oN, op, h1, h2, h3, h4, h5, h6⟩ := x; exact ⟨N, p, ini, lt, oC, oN, op, h1, k _ _ h2, k _ _ h3, k _ _ h4, h5.le k, h6.le k⟩
theorem Body.sk {g : Fz} {qual : Str} {f ini lt : Addr} {es : List DictEntry} (b : Body g qual f ini lt es) : StrKeys es.toArray := by
  refine absP fun Gx hGx => ?_
  obtain ⟨p1, m, u1, p2, u2, p3, l, u3, p4, sl, u4, p5, p6, p7, f3, p8, f4, p9, f5, p10, f6, p11, rfl, _⟩ := b
  refine hGx ?_
  intro e he
  simp only [List.mem_toArray, List.mem_cons, List.not_mem_nil, or_false] at he
  rcases he with rfl | rfl | rfl | rfl | rfl | rfl | rfl | rfl | rfl | rfl | rfl <;> exact ⟨_, _, rfl⟩
theorem Body.nw {g : Fz} {qual : Str} {f ini lt : Addr} {es : List DictEntry} (b : Body g qual f ini lt es) : ∀ e ∈ es, e.key.isStr "__static_attributes__" = false := by
  refine absP fun Gx hGx => ?_
  obtain ⟨p1, m, u1, p2, u2, p3, l, u3, p4, sl, u4, p5, p6, p7, f3, p8, f4, p9, f5, p10, f6, p11, rfl, _⟩ := b
  refine hGx ?_
  intro e he
  simp only [List.mem_cons, List.not_mem_nil, or_false] at he
  rcases he with rfl | rfl | rfl | rfl | rfl | rfl | rfl | rfl | rfl | rfl | rfl <;> rfl
section
variable {prog : Program} {w : World} {A : Around} {E : Value → Shared → Prop} {s0 s : Shared} {env : Env} {g : Fz} {N : Addr} {mg mb : Str → Option Value} {μ : List (Addr × Obj)} {v : Value} {f : Obj → List (Addr × Obj)} {name : Str} {es : List DictEntry} {n : Nat}
theorem is_lname {Q : Value → Shared → Prop} (h : wpAny (model prog w) A (loadName env name) Q E s) : wpAny (model prog w) A (loadName env name) Q E s := h
theorem is_loc {Q : Option Value → Shared → Prop} (h : wpAny (model prog w) A (localGet env name) Q E s) : wpAny (model prog w) A (localGet env name) Q E s := h
theorem n_ifF {α : Type} {b : Bool} {u v : Sem α} {Q : α → Shared → Prop} (hb : b = false) (h : wpAny (model prog w) A v Q E s) : wpAny (model prog w) A (if b = true then u else v) Q E s := by subst hb; exact h
theorem n_ifT {α : Type} {b : Bool} {u v : Sem α} {Q : α → Shared → Prop} (hb : b = true) (h : wpAny (model prog w) A u Q E s) : wpAny (model prog w) A (if b = true then u else v) Q E s := by subst hb; exact h
theorem m_strs {l : List Str} {Q : List Value → Shared → Prop} (x : St g μ s0 s) (h : ∀ vs s', St g μ s0 s' → Q vs s') : wpAny (model prog w) A (l.mapM mkText) Q E s := wpAny_mkStrs fun vs => h _ _ x.tok
theorem load_own {Q : Value → Shared → Prop} (G : Gd w mg mb g) (x : St g μ s0 s) (hk : env.scope.kind = .class) (hn : env.scope.names.lookup ("__name__" : Str) = none) (hl : env.locals = N) (hm : (N, nsObj es n) ∈ μ) (hs : StrKeys es.toArray)
    (hno : nsFind es.toArray "__name__" = none) (hg : env.globals = mainGlobals) (h : ∀ u t, Q (.str u t) s) : wpAny (model prog w) A (loadName env "__name__") Q E s := by
  refine absP fun Gx hGx => ?_
  obtain ⟨u, t, hv⟩ := gname G
  refine hGx ?_
  have hb : env.blockKind = .class := by unfold Env.blockKind; rw [hk]; rfl
  have hko : env.kindOf "__name__" = none := hn
  unfold loadName
  rw [hb, hko, hk]
  repeat ((fail_if_success (with_reducible refine is_loc ?_)); lk)
  unfold localGet
  rw [hl]
  refine wpAny_bind (wpAny_load (x.mu _ hm) ?_)
  lk
  refine c_nsGet x hm hs ?_
  rw [hno]
  unfold loadGlobal
  rw [hg]
  refine wpAny_bind (g_get G x rfl ?_)
  rw [hv]
  exact wpAny_pure (h u t)
theorem store_cls (hk : env.scope.kind = .class) (h : env.scope.names.lookup name = some .local ∨ (env.scope.names.lookup name = none ∧ compilersOwnNames.contains name = true)) : storeName env name v = localSet env name v := by
  have hb : env.blockKind = .class := by unfold Env.blockKind; rw [hk]; rfl
  unfold storeName
  rcases h with h | ⟨h, h2⟩
  · have hko : env.kindOf name = some .local := h
    rw [hb, hko, hk]; rfl
  · have hko : env.kindOf name = none := h
    rw [hb, hko, hk, h2]; rfl
theorem sk_nil : StrKeys ([] : List DictEntry).toArray := fun e he => by simp at he
theorem sk_cons {h : Int} {nm : Str} {t : Tok} {v : Value} (k : StrKeys es.toArray) : StrKeys (⟨h, .str nm t, v⟩ :: es).toArray := fun e he => by
  rcases List.mem_cons.mp (by simpa using he) with rfl | he
  · exact ⟨nm, t, rfl⟩
  · exact k e (by simpa using he)
theorem nw_nil : ∀ e ∈ ([] : List DictEntry), e.key.isStr name = false := fun e he => by cases he
theorem nw_cons {h : Int} {nm : Str} {t : Tok} {v : Value} (k : ∀ e ∈ es, e.key.isStr name = false) (hq : (Value.str nm 0).isStr name = false) : ∀ e ∈ (⟨h, .str nm t, v⟩ :: es : List DictEntry), e.key.isStr name = false := fun e he => by
  rcases List.mem_cons.mp he with rfl | he
  · exact hq
  · exact k e he
theorem c_put {Q : Unit → Shared → Prop} (x : St g μ s0 s) (hk : env.scope.kind = .class) (hn : env.scope.names.lookup name = some .local ∨ (env.scope.names.lookup name = none ∧ compilersOwnNames.contains name = true)) (hl : env.locals = N) (r : Rep N (nsObj es n) μ f)
    (hs : StrKeys es.toArray) (hnew : ∀ e ∈ es, e.key.isStr name = false) (h : ∀ hsh t s', St g (f (nsObj (es ++ [⟨hsh, .str name t, v⟩]) (n + 1))) s0 s' → Q () s') : wpAny (model prog w) A (storeName env name v) Q E s := by
  rw [store_cls hk hn]
  exact c_local x hl r hs hnew h
end
end Mine
end
section
set_option maxRecDepth 100000
set_option autoImplicit false
namespace Mine
open PySem PySem.Spec PySem.Calls PyProof.Rows PySem.W PySem.SeqAt
set_option hygiene false in
local macro_rules | `(tactic| k_mem) => `(tactic| first | exact List.Mem.head _ | (refine List.Mem.tail _ ?_; k_mem))
set_option hygiene false in
local macro_rules | `(tactic| k_flat) => `(tactic| first | exact .head | exact .tail .head | exact .tail (.tail .head) | exact .tail (.tail (.tail .head)) | exact .tail (.tail (.tail (.tail .head))) | exact .tail (.tail (.tail (.tail (.tail .head)))) | exact .tail (.tail (.tail (.tail (.tail (.tail .head))))) | exact .tail (.tail (.tail (.tail (.tail (.tail (.tail .head)))))) | exact .tail (.tail (.tail (.tail (.tail (.tail (.tail (.tail .head))))))) | exact .tail (.tail (.tail (.tail (.tail (.tail (.tail (.tail (.tail .head)))))))) | exact .tail (.tail (.tail (.tail (.tail (.tail (.tail (.tail (.tail (.tail .head))))))))) | exact .tail (.tail (.tail (.tail (.tail (.tail (.tail (.tail (.tail (.tail (.tail .head)))))))))))
set_option hygiene false in
local macro_rules | `(tactic| k_cls) => `(tactic| ((fail_if_success with_reducible refine is_call ?_); (fail_if_success with_reducible refine is_runV ?_); (fail_if_success with_reducible refine is_spec ?_); (fail_if_success with_reducible refine is_look ?_); (fail_if_success with_reducible refine is_store ?_); (fail_if_success with_reducible refine is_run ?_); (fail_if_success with_reducible refine is_code ?_); (fail_if_success with_reducible refine is_lname ?_); first
  | with_reducible refine n_alloc x rfl fun a s x => ?_
  | with_reducible refine n_fresh x fun t s x => ?_
  | ((with_reducible refine b_for G x ?_ ?_); · first | rfl | exact hglob)
  | ((with_reducible refine g_get G x ?_ ?_); · first | rfl | exact hglob)
  | with_reducible refine e_frame G x (by first | assumption | exact Nat.le_trans (by assumption) (by decide) | exact Nat.le_trans (Nat.le_of_eq (by assumption)) (Nat.le_trans (by assumption) (by decide)) | omega) ?_
  | ((with_reducible refine n_load_em x ?_); refine ⟨_, by k_mem, ?_⟩)
  | ((with_reducible refine n_load_e x ?_); refine ⟨_, G.kin _ _ (by rfl), ?_⟩)
  | with_reducible refine n_at ?_
  | with_reducible refine nd_pure ?_
  | with_reducible refine nd_rule ?_
  | with_reducible refine nd_point ?_
  | with_reducible refine nd_ask ?_
  | with_reducible refine n_call ?_
  | with_reducible refine wpAny_attempt ?_
  | with_reducible refine wpAny_tryCatch ?_
  | lk))
section
variable {prog : Program} {w : World} {A : Around} {E : Value → Shared → Prop} {s0 s : Shared} {env : Env} {g : Fz} {L : Addr} {m mg mb : Str → Option Value} {μ : List (Addr × Obj)} {pos : Pos} {n : Str} {v : Value} {f : Obj → List (Addr × Obj)}
  {qual : Str} {body : List Stmt} {scope : Scope} {statics : List Str} {line : Nat} {cl : List (Str × Addr)}
theorem is_bc {name q : Str} {gv : List Value} {kw : List (Str × Value)} {tp : Option Value} {Q : Value → Shared → Prop} (h : wpAny (model prog w) A (buildClass name q gv kw body scope statics line env pos tp) Q E s) : wpAny (model prog w) A (buildClass name q gv kw body scope statics line env pos tp) Q E s := h
noncomputable abbrev bObj : Obj := { cls := .type "tuple", data := .seq #[.type "object"] }
set_option maxHeartbeats 1000000 in
theorem build_class {Q : Value → Shared → Prop} (G : Gd w mg mb g) (x : St g μ s0 s) (r : Rep 23 (tabObj #[]) μ f) (hcode : env.code = .ref 27) (hglob : env.globals = mainGlobals) (hdep : A.depth < recursionLimit)
    (hk1 : (scope.names.lookup ("__class__" : Str) == some NameKind.cell) = false) (hk2 : (scope.names.lookup ("__classdict__" : Str) == some NameKind.cell) = false) (hcl : closureFor scope env = pure cl) (hkind : scope.kind = .class) (hnm : scope.names.lookup ("__name__" : Str) = none) (hst : ∀ y ∈ (["__module__", "__qualname__", "__firstlineno__", "__static_attributes__"] : List Str), scope.names.lookup y = some .local ∨ scope.names.lookup y = none) {fm : Addr}
    (Hb : ∀ (g1 : Fz) (s1 : Shared) (cc PC nA F : Addr) (ν : List (Addr × Obj)) (es : List DictEntry) (Q1 : Flow → Shared → Prop) (E1 : Value → Shared → Prop), Le g g1 → CodeF g1 cc PC → Pre qual es → St g1 ((PC, tabObj #[]) :: (nA, nsObj es 3) :: ν) s0 s1 →
      (∀ g2 s2 es2 k2 T ini lt, Le g1 g2 → Body g2 qual fm ini lt es2 → St g2 ((PC, tabObj T) :: (nA, nsObj es2 k2) :: ν) s0 s2 → Q1 .next s2) →
      wpAny (model prog w) A (run (.body body { scope, locals := nA, globals := env.globals, cells := cl, qual := qual ++ ".", code := .ref cc, frame := some F, builtins := builtinsNs })) Q1 E1 s1)
    (Hn : ∀ (g1 : Fz) (s1 : Shared) (bT nA T ini lt : Addr) (ν : List (Addr × Obj)) (es : List DictEntry) (k : Nat) (t : Tok) (p12 : Int × Tok) (Q1 : Value → Shared → Prop) (E1 : Value → Shared → Prop), Gd w mg mb g1 → Body g1 qual fm ini lt es → g1 bT = some bObj → (nA == sysModules) = false →
      g1 nA = some (nsObj (es ++ [ent p12 "__static_attributes__" (.ref T)]) k) → (∃ vs, g1 T = some { cls := .type "tuple", data := .seq vs }) → St g1 ν s0 s1 →
      (∀ g2 s2 C, Le g1 g2 → KFacts g2 C fm → St g2 ν s0 s2 → Q1 (.ref C) s2) → wpAny (model prog w) A (call (.type "type") [.str "K" t, .ref bT, .ref nA]) Q1 E1 s1)
    (H : ∀ g' s' C T, Le g g' → KFacts g' C fm → St g' (f (tabObj T)) s0 s' → Q (.ref C) s') :
    wpAny (model prog w) A (buildClass "K" qual [.type "object"] [] body scope statics line env pos none) Q E s := by
  have hs1 : ∀ y ∈ (["__module__", "__qualname__", "__firstlineno__", "__static_attributes__"] : List Str), compilersOwnNames.contains y = true → scope.names.lookup y = some .local ∨ (scope.names.lookup y = none ∧ compilersOwnNames.contains y = true) := fun y hy hc => (hst y hy).imp id fun h => ⟨h, hc⟩
  unfold buildClass
  rw [hcl, hk1, hk2]
  repeat (first | ((with_reducible refine get_prep ?_ x fun aP s x => ?_); · kernel_rfl) | k_cls)
  refine call_prep x (by k_mem) fun nA s x => ?_
  rw [show emptyDict = nsObj [] 0 from rfl] at x
  repeat k_cls
  have hsys : (nA == sysModules) = false := by
    have h1 := x.off _ (List.Mem.head _)
    obtain ⟨_, h2⟩ := G.sysm
    exact beq_eq_false_iff_ne.mpr fun e => by rw [e, h2] at h1; cases h1
  rw [hsys]
  repeat k_cls
  refine n_spec (r := some (.builtin "dict.__getitem__")) rfl (x.mu _ (by k_mem)) rfl (by kernel_rfl) ?_
  repeat k_cls
  have r := Rep.tail (p := (nA, nsObj [] 0)) (Rep.tail (p := (aP, prepObj)) (Rep.tail (p := (a, bObj)) r))
  refine m_classCode x hcode (code27 G) r trivial rfl fun g' s cc PC hle hC hR x => ?_
  replace G := G.le hle
  obtain ⟨bT, rfl⟩ : ∃ b, b = a := ⟨_, rfl⟩
  repeat k_cls
  obtain ⟨F, rfl⟩ : ∃ b, b = a := ⟨_, rfl⟩
  generalize hfr : ({ cls := .type "frame", slots := _ } : Obj) = fr at x
  clear hfr
  refine load_own G x hkind hnm rfl (es := []) (n := 0) (by k_mem) sk_nil rfl hglob fun u0 v0 => ?_
  repeat k_cls
  refine c_put (N := nA) x hkind (hs1 "__module__" (by simp) rfl) rfl (es := []) (n := 0) (by k_flat) sk_nil nw_nil fun e1 t1 s x => ?_
  dsimp only [List.nil_append] at x
  repeat k_cls
  refine c_put (N := nA) x hkind (hs1 "__qualname__" (by simp) rfl) rfl (by k_flat) (sk_cons sk_nil) (nw_cons nw_nil rfl) fun e2 t2 s x => ?_
  dsimp only [List.cons_append, List.nil_append] at x
  repeat k_cls
  refine c_put (N := nA) x hkind (hs1 "__firstlineno__" (by simp) rfl) rfl (by k_flat) (sk_cons (sk_cons sk_nil)) (nw_cons (nw_cons nw_nil rfl) rfl) fun e3 t3 s x => ?_
  dsimp only [List.cons_append, List.nil_append] at x
  repeat k_cls
  replace x := x.perm ((List.Perm.swap _ _ _).trans (List.Perm.cons _ (List.Perm.swap _ _ _)))
  refine Hb g' s cc PC nA F _ _ _ _ hle hC (by exact ⟨(e1, t1), _, _, (e2, t2), _, (e3, t3), _, _, rfl⟩) x fun g2 s es k2 T0 ini lt hle2 hB x => ?_
  replace G := G.le hle2
  repeat (first | (with_reducible refine m_strs x fun vs s x => ?_) | k_cls)
  obtain ⟨T, rfl⟩ : ∃ b, b = a := ⟨_, rfl⟩
  refine c_put (N := nA) x hkind (hs1 "__static_attributes__" (by simp) rfl) rfl (by k_flat) hB.sk hB.nw fun e4 t4 s x => ?_
  repeat k_cls
  obtain ⟨g3, l3, q3, x⟩ := x.frz1
  obtain ⟨g4, l4, _, x⟩ := x.frz1
  obtain ⟨g5, l5, q5, x⟩ := x.frz1
  obtain ⟨g6, l6, _, x⟩ := x.frz1
  obtain ⟨g7, l7, _, x⟩ := x.frz1
  obtain ⟨g8, l8, q8, x⟩ := x.frz1
  have hmc : (Value.type ((Manifest.find? "object").elim "type" fun x => x.metatype)) = .type "type" := by kernel_rfl
  rw [hmc]
  have l38 : Le g3 g8 := l4.trans (l5.trans (l6.trans (l7.trans l8)))
  have l58 : Le g5 g8 := l6.trans (l7.trans l8)
  refine Hn g8 s bT nA T ini lt _ es (k2 + 1) _ (e4, t4) _ _ (G.le (l3.trans l38)) (hB.le (l3.trans l38)) q8 hsys (l58 _ _ q5) ⟨_, l38 _ _ q3⟩ x fun g9 s C l9 kf x => ?_
  exact wpAny_pure (H g9 s C _ (hle.trans (hle2.trans (l3.trans (l38.trans l9)))) kf x)
end
end Mine
end
section
set_option maxRecDepth 100000
set_option autoImplicit false
namespace Mine
open PySem PySem.Spec PySem.Calls PyProof.Rows PySem.W PySem.SeqAt PySem.W.X
set_option hygiene false in
local macro_rules | `(tactic| x_close) => `(tactic| (exact hx _ _ (x.ofMem D)))
section
variable {prog : Program} {w : World} {A : Around} {E : Value → Shared → Prop} {s0 s : Shared} {g : Fz} {mg mb : Str → Option Value} {ν : List (Addr × Obj)} {sl : Addr} {u4 : Tok} {C N : Addr} {dd : Option Addr} {cd : ClassData} {sls : Array (Option Value)}
set_option maxHeartbeats 1000000 in
theorem x_coll {Q : Value → Shared → Prop} (x : St g ν s0 s) (hsl : g sl = some { cls := .type "list", data := .seq #[.str "obj" u4] })
    (hx : ∀ a s', St g ((a, { cls := .type "list", data := .seq #[.str "obj" u4] 1 }) :: ν) s0 s' → Q (.ref a) s') : wpAny (model prog w) A (runValue (.builtin "proto.collect" ⟨[.ref sl], []⟩)) Q E s := by
  have e := x.frz _ _ hsl
  refine absP fun Gx hGx => ?_
  obtain ⟨h, gg, d, t, os⟩ := s
  refine hGx ?_
  dsimp only at e
  x_run
noncomputable abbrev kCls (C N bT : Addr) (tK : Tok) (qual : Str) (u2 : Tok) : Obj := Obj.mk (.type "type") none (.cls { name := "K", bases := [.type "object"], mro := [.ref C, .type "object"], ns := N, qualname := qual, hasDict := false, slotNames := ["obj"] })
  #[some (.ref bT), none, some (.str "K" tK), some (.str qual u2), some (.builtin "object.__new__"), some (.bool false)]
noncomputable abbrev supObj (C : Addr) : Obj := { cls := .type "super", data := .fields #[.ref C, .ref C, .ref C] }
set_option maxHeartbeats 1000000 in
theorem x_super {bT : Addr} {tK u2 : Tok} {qual : Str} {Q : Value → Shared → Prop} (x : St g ν s0 s) (eC : g C = some (kCls C N bT tK qual u2)) (hx : ∀ S s', St g ((S, supObj C) :: ν) s0 s' → Q (.ref S) s') : wpAny (model prog w) A (call (.type "super") [.ref C, .ref C]) Q E s := by
  have e := x.frz _ _ eC
  unfold kCls at e
  refine absP fun Gx hGx => ?_
  obtain ⟨h, gg, d, t, os⟩ := s
  refine hGx ?_
  dsimp only at e
  x_run
noncomputable abbrev subObj (C : Addr) : Obj := { cls := .type "builtin_function_or_method", data := .fields #[.builtin "object.__init_subclass__", .ref C] }
set_option maxHeartbeats 1000000 in
theorem x_cmget {bT : Addr} {tK u2 : Tok} {qual : Str} {f a b mm : Value} {Q : Value → Shared → Prop} (x : St g ν s0 s) (eC : g C = some (kCls C N bT tK qual u2)) (hf : f = .builtin "classmethod_descriptor.__get__") (ha : a = .builtin "object.__init_subclass__") (hb : b = .ref C) (hm : mm = .none)
    (hx : ∀ S s', St g ((S, subObj C) :: ν) s0 s' → Q (.ref S) s') : wpAny (model prog w) A (call f [a, mm, b]) Q E s := by
  subst hf
  subst ha
  subst hb
  subst hm
  have e := x.frz _ _ eC
  unfold kCls at e
  refine absP fun Gx hGx => ?_
  obtain ⟨h, gg, d, t, os⟩ := s
  refine hGx ?_
  dsimp only at e
  x_run
end
end Mine
end
section
set_option maxRecDepth 100000
set_option autoImplicit false
namespace Mine
open PySem PySem.Spec PySem.Calls PyProof.Rows PySem.W PySem.SeqAt
set_option hygiene false in
local macro_rules | `(tactic| k_mem) => `(tactic| first | exact List.Mem.head _ | (refine List.Mem.tail _ ?_; k_mem))
set_option hygiene false in
local macro_rules | `(tactic| k_flat) => `(tactic| first | exact .head | exact .tail .head | exact .tail (.tail .head) | exact .tail (.tail (.tail .head)) | exact .tail (.tail (.tail (.tail .head))) | exact .tail (.tail (.tail (.tail (.tail .head)))) | exact .tail (.tail (.tail (.tail (.tail (.tail .head))))) | exact .tail (.tail (.tail (.tail (.tail (.tail (.tail .head)))))) | exact .tail (.tail (.tail (.tail (.tail (.tail (.tail (.tail .head))))))) | exact .tail (.tail (.tail (.tail (.tail (.tail (.tail (.tail (.tail .head)))))))) | exact .tail (.tail (.tail (.tail (.tail (.tail (.tail (.tail (.tail (.tail .head))))))))) | exact .tail (.tail (.tail (.tail (.tail (.tail (.tail (.tail (.tail (.tail (.tail .head)))))))))))
set_option hygiene false in
local macro_rules | `(tactic| k_cls) => `(tactic| ((fail_if_success with_reducible refine is_call ?_); (fail_if_success with_reducible refine is_runV ?_); (fail_if_success with_reducible refine is_spec ?_); (fail_if_success with_reducible refine is_look ?_); (fail_if_success with_reducible refine is_store ?_); (fail_if_success with_reducible refine is_run ?_); (fail_if_success with_reducible refine is_code ?_); (fail_if_success with_reducible refine is_lname ?_); first
  | with_reducible refine n_alloc x rfl fun a s x => ?_
  | with_reducible refine n_fresh x fun t s x => ?_
  | ((with_reducible refine b_for G x ?_ ?_); · first | rfl | exact hglob)
  | ((with_reducible refine g_get G x ?_ ?_); · first | rfl | exact hglob)
  | with_reducible refine e_frame G x (by first | assumption | exact Nat.le_trans (by assumption) (by decide) | exact Nat.le_trans (Nat.le_of_eq (by assumption)) (Nat.le_trans (by assumption) (by decide)) | omega) ?_
  | ((with_reducible refine n_load_em x ?_); refine ⟨_, by k_mem, ?_⟩)
  | ((with_reducible refine n_load_e x ?_); refine ⟨_, by assumption, ?_⟩)
  | ((with_reducible refine n_load_e x ?_); refine ⟨_, G.kin _ _ (by rfl), ?_⟩)
  | ((with_reducible refine n_upd_e x ?_); refine ⟨_, _, (by k_flat), by rfl, fun s x => ?_⟩; try dsimp only at x)
  | with_reducible refine n_at ?_
  | with_reducible refine nd_pure ?_
  | with_reducible refine nd_rule ?_
  | with_reducible refine nd_point ?_
  | with_reducible refine nd_ask ?_
  | with_reducible refine n_call ?_
  | with_reducible refine wpAny_attempt ?_
  | with_reducible refine wpAny_tryCatch ?_
  | with_reducible refine n_try ?_
  | ((with_reducible refine n_ifF ?_ ?_); · kernel_rfl!)
  | ((with_reducible refine n_ifT ?_ ?_); · kernel_rfl!)
  | lk))
section
variable {prog : Program} {w : World} {A : Around} {E : Value → Shared → Prop} {s0 s : Shared} {g : Fz} {mg mb : Str → Option Value} {ν : List (Addr × Obj)} {C N bT S : Addr} {tK u2 : Tok} {qual : Str}
set_option maxHeartbeats 200000 in
theorem sup_get {Q : Value → Shared → Prop} (G : Gd w mg mb g) (x : St g ν s0 s) (eC : g C = some (kCls C N bT tK qual u2)) (eS : g S = some (supObj C))
    (hx : ∀ F s', St g ((F, subObj C) :: ν) s0 s' → Q (.ref F) s') : wpAny (model prog w) A (getAttr (.ref S) "__init_subclass__") Q E s := by
  repeat (first | k_cls | ((with_reducible refine is_spec ?_); lk))
  with_reducible refine n_look (t := "super") (r := some (.builtin "super.__getattribute__")) ?_ ?_ ?_
  · rfl
  · kernel_rfl
  repeat k_cls
  with_reducible refine wpAny_call (codeAny_of_tree ?_)
  repeat k_cls
  refine ⟨by kernel_rfl, ?_⟩
  refine n_builtin (id' := "super.__getattribute__") (b := Builtin.«super.__getattribute__») rfl (entryFor_of_tree (by kernel_rfl)) ?_
  repeat k_cls
  generalize hl : List.drop 1 (List.dropWhile _ _) = l0
  replace hl : l0 = [.type "object"] := by
    rw [← hl]
    show List.drop 1 (List.dropWhile (fun x => x != Value.ref C) [Value.ref C, Value.type "object"]) = _
    simp
  subst hl
  repeat k_cls
  with_reducible refine n_look (t := "classmethod_descriptor") (r := some (.builtin "classmethod_descriptor.__get__")) ?_ ?_ ?_
  · kernel_rfl
  · kernel_rfl
  repeat k_cls
  with_reducible refine x_cmget x eC ?_ ?_ ?_ ?_ fun F s x => ?_
  · rfl
  · kernel_rfl
  · rfl
  · show (if (Value.ref C == Value.ref C) = true then Value.none else _) = _
    simp
  repeat k_cls
  exact hx _ _ x
set_option maxHeartbeats 400000 in
theorem sub_call {F : Addr} {Q : Value → Shared → Prop} (G : Gd w mg mb g) (x : St g ν s0 s) (eC : g C = some (kCls C N bT tK qual u2)) (eF : g F = some (subObj C)) (hq : qual = ("cmp_to_key.<locals>.K" : Str)) (hx : ∀ s', St g ν s0 s' → Q .none s') : wpAny (model prog w) A (call (.ref F) []) Q E s := by
  subst hq
  with_reducible refine wpAny_call (codeAny_of_tree ?_)
  repeat (first | k_cls | ((with_reducible refine is_spec ?_); lk))
  refine ⟨by kernel_rfl, ?_⟩
  refine n_builtin (id' := "object.__init_subclass__") (b := Builtin.«object.__init_subclass__») rfl (entryFor_of_tree (by kernel_rfl)) ?_
  repeat k_cls
  exact hx _ x
end
end Mine
end
section
set_option maxRecDepth 100000
set_option autoImplicit false
namespace Mine
open PySem PySem.Spec PySem.Calls PyProof.Rows PySem.W PySem.SeqAt
set_option hygiene false in
local macro_rules | `(tactic| k_mem) => `(tactic| first | exact List.Mem.head _ | (refine List.Mem.tail _ ?_; k_mem))
set_option hygiene false in
local macro_rules | `(tactic| k_flat) => `(tactic| first | exact .head | exact .tail .head | exact .tail (.tail .head) | exact .tail (.tail (.tail .head)) | exact .tail (.tail (.tail (.tail .head))) | exact .tail (.tail (.tail (.tail (.tail .head)))) | exact .tail (.tail (.tail (.tail (.tail (.tail .head))))) | exact .tail (.tail (.tail (.tail (.tail (.tail (.tail .head)))))) | exact .tail (.tail (.tail (.tail (.tail (.tail (.tail (.tail .head))))))) | exact .tail (.tail (.tail (.tail (.tail (.tail (.tail (.tail (.tail .head)))))))) | exact .tail (.tail (.tail (.tail (.tail (.tail (.tail (.tail (.tail (.tail .head))))))))) | exact .tail (.tail (.tail (.tail (.tail (.tail (.tail (.tail (.tail (.tail (.tail .head)))))))))))
set_option hygiene false in
local macro_rules | `(tactic| k_cls) => `(tactic| ((fail_if_success with_reducible refine is_call ?_); (fail_if_success with_reducible refine is_runV ?_); (fail_if_success with_reducible refine is_spec ?_); (fail_if_success with_reducible refine is_look ?_); (fail_if_success with_reducible refine is_store ?_); (fail_if_success with_reducible refine is_run ?_); (fail_if_success with_reducible refine is_code ?_); (fail_if_success with_reducible refine is_lname ?_); first
  | with_reducible refine n_alloc x rfl fun a s x => ?_
  | with_reducible refine n_fresh x fun t s x => ?_
  | ((with_reducible refine b_for G x ?_ ?_); · first | rfl | exact hglob)
  | ((with_reducible refine g_get G x ?_ ?_); · first | rfl | exact hglob)
  | with_reducible refine e_frame G x (by first | assumption | exact Nat.le_trans (by assumption) (by decide) | exact Nat.le_trans (Nat.le_of_eq (by assumption)) (Nat.le_trans (by assumption) (by decide)) | omega) ?_
  | ((with_reducible refine n_load_em x ?_); refine ⟨_, by k_mem, ?_⟩)
  | ((with_reducible refine n_load_e x ?_); refine ⟨_, by assumption, ?_⟩)
  | ((with_reducible refine n_load_e x ?_); refine ⟨_, G.kin _ _ (by rfl), ?_⟩)
  | ((with_reducible refine n_upd_e x ?_); refine ⟨_, _, (by k_flat), by rfl, fun s x => ?_⟩; try dsimp only at x)
  | with_reducible refine n_at ?_
  | with_reducible refine nd_pure ?_
  | with_reducible refine nd_rule ?_
  | with_reducible refine nd_point ?_
  | with_reducible refine nd_ask ?_
  | with_reducible refine n_call ?_
  | with_reducible refine wpAny_attempt ?_
  | with_reducible refine wpAny_tryCatch ?_
  | with_reducible refine n_try ?_
  | ((with_reducible refine n_ifF ?_ ?_); · kernel_rfl!)
  | ((with_reducible refine n_ifT ?_ ?_); · kernel_rfl!)
  | lk))
section
variable {prog : Program} {w : World} {A : Around} {E : Value → Shared → Prop} {s0 s : Shared} {g : Fz} {mg mb : Str → Option Value} {ν : List (Addr × Obj)} {qual : Str} {fm ini lt bT nA T : Addr} {es : List DictEntry} {k : Nat} {tK : Tok} {p12 : Int × Tok}
set_option maxHeartbeats 1000000 in
theorem type_new {R : Result → Shared → Prop} (hq : qual = ("cmp_to_key.<locals>.K" : Str)) (G : Gd w mg mb g) (hB : Body g qual fm ini lt es) (hbT : g bT = some bObj) (hsys : (nA == sysModules) = false) (hnA : g nA = some (nsObj (es ++ [ent p12 "__static_attributes__" (.ref T)]) k)) (hT : ∃ vs, g T = some { cls := .type "tuple", data := .seq vs }) (x : St g ν s0 s)
    (h : ∀ g2 s2 C, Le g g2 → KFacts g2 C fm → St g2 ν s0 s2 → R (.ok (.ret (.ref C))) s2) : codeAny (model prog w) A (.builtin "type.__new__" ⟨[.type "type", .str "K" tK, .ref bT, .ref nA], []⟩) R s := by
  refine absP fun Gx hGx => ?_
  obtain ⟨p1, m, u1, p2, u2, p3, l, u3, p4, sl, u4, p5, p6, p7, f3, p8, f4, p9, f5, p10, f6, p11, rfl, hsl, hini, hlt, ⟨od1, fd1, sl1, hf1⟩, ⟨od2, fd2, sl2, hf2⟩, ⟨od3, fd3, sl3, hf3⟩, ⟨od4, fd4, sl4, hf4⟩, ⟨od5, fd5, sl5, hf5⟩, ⟨od6, fd6, sl6, hf6⟩⟩ := hB
  refine hGx ?_
  obtain ⟨vs, hT⟩ := hT
  dsimp only [List.cons_append, List.nil_append] at hnA
  refine n_builtin (id' := "type.__new__") (b := Builtin.«type.__new__») rfl (entryFor_of_tree (by kernel_rfl)) ?_
  repeat k_cls
  rw [hsys]
  repeat k_cls
  refine n_spec (t := "dict") (r := some (.builtin "dict.__iter__")) rfl (x.frz _ _ hnA) rfl (by kernel_rfl) ?_
  repeat k_cls
  refine n_look (t := "object") (r := none) rfl (by kernel_rfl) ?_
  repeat k_cls
  refine x_coll (sl := sl) x hsl fun LL s x => ?_
  repeat k_cls
  have hid : Builtin.Slots.isIdentifier (Str.ofString "obj") = some true := by kernel_rfl!
  rw [hid]
  repeat k_cls
  obtain ⟨C, rfl⟩ : ∃ b, b = a := ⟨_, rfl⟩
  obtain ⟨N, rfl⟩ : ∃ b, b = a := ⟨_, rfl⟩
  generalize hdn : Obj.dropName (Str.ofString "__qualname__") _ = oN1 at x
  replace hdn : oN1 = nsObj [ent p1 "__module__" (.str m u1), ent p3 "__firstlineno__" (.int l u3), ent p4 "__slots__" (.ref sl), ent p5 "__init__" (.ref ini),
    ent p6 "__lt__" (.ref lt), ent p7 "__gt__" (.ref f3), ent p8 "__eq__" (.ref f4), ent p9 "__le__" (.ref f5), ent p10 "__ge__" (.ref f6), ent p11 "__hash__" .none, ent p12 "__static_attributes__" (.ref T)] 1 := by
    rw [← hdn]; kernel_rfl!
  subst hdn
  refine n_look (t := "type") (nm := "mro") (r := some (.builtin "type.mro")) rfl (by kernel_rfl) ?_
  repeat k_cls
  have hfl : List.filter (fun x => x != Value.ref C) (Value.ref C :: (fun x => Value.type "object" :: x) []) = [.type "object"] := by simp
  rw [hfl]
  repeat k_cls
  refine n_look (t := "object") (nm := "__new__") (r := some (.builtin "object.__new__")) rfl (by kernel_rfl) ?_
  repeat k_cls
  lk
  repeat k_cls
  refine n_look (t := "object") (nm := "__weakref__") (r := none) rfl (by kernel_rfl) ?_
  repeat k_cls
  repeat (first | k_cls | ((with_reducible refine n_look_e (nm := "__set_name__") (r := none) ?_); refine ⟨_, by rfl, by kernel_rfl, ?_⟩) | ((with_reducible refine is_spec ?_); lk))
  obtain ⟨p, rfl⟩ : ∃ b, b = a := ⟨_, rfl⟩
  obtain ⟨g1, l1, ep, x⟩ := x.frz1
  obtain ⟨g2, l2, eC, x⟩ := x.frz1
  obtain ⟨g3, l3, eN, x⟩ := x.frz1
  obtain ⟨g4, l4, _, x⟩ := x.frz1
  replace G := G.le (l1.trans (l2.trans (l3.trans l4)))
  replace eC : g4 C = some (kCls C N bT tK qual u2) := (l4 _ _ (l3 _ _ eC)).trans (by kernel_rfl!)
  replace eN := l4 _ _ eN
  replace ep := l4 _ _ (l3 _ _ (l2 _ _ ep))
  with_reducible refine x_super x eC fun S s x => ?_
  obtain ⟨g5, l5, eS, x⟩ := x.frz1
  replace G := G.le l5
  have eC5 := l5 _ _ eC
  repeat (first | (with_reducible refine sup_get G x eC5 eS fun F s x => ?_) | k_cls)
  obtain ⟨g6, l6, eF, x⟩ := x.frz1
  replace G := G.le l6
  have eC6 := l6 _ _ eC5
  with_reducible refine sub_call G x eC6 eF hq fun s x => ?_
  repeat k_cls
  have l56 : Le g4 g6 := l5.trans l6
  refine h g6 s C (l1.trans (l2.trans (l3.trans (l4.trans l56)))) ⟨N, p, ini, lt, _, _, _, ⟨⟨none, _, _, rfl, rfl, rfl, rfl, rfl, rfl, rfl, rfl⟩, ?i1, ?i2, ?i3, ?i4, ⟨none, #[], _, _, _, rfl⟩⟩, eC6, l56 _ _ eN, l56 _ _ ep, hini.le (l1.trans (l2.trans (l3.trans (l4.trans l56)))), hlt.le (l1.trans (l2.trans (l3.trans (l4.trans l56))))⟩ x
  case i1 => kernel_rfl!
  case i2 => kernel_rfl!
  case i3 => kernel_rfl!
  case i4 =>
    intro n hn
    simp only [List.mem_cons, List.not_mem_nil, or_false] at hn
    rcases hn with rfl | rfl | rfl | rfl | rfl | rfl <;> kernel_rfl!
end
end Mine
end
section
set_option maxRecDepth 100000
set_option autoImplicit false
namespace Mine
open PySem PySem.Spec PySem.Calls PyProof.Rows PySem.W PySem.SeqAt
set_option hygiene false in
local macro_rules | `(tactic| k_mem) => `(tactic| first | exact List.Mem.head _ | (refine List.Mem.tail _ ?_; k_mem))
set_option hygiene false in
local macro_rules | `(tactic| k_flat) => `(tactic| first | exact .head | exact .tail .head | exact .tail (.tail .head) | exact .tail (.tail (.tail .head)) | exact .tail (.tail (.tail (.tail .head))) | exact .tail (.tail (.tail (.tail (.tail .head)))) | exact .tail (.tail (.tail (.tail (.tail (.tail .head))))) | exact .tail (.tail (.tail (.tail (.tail (.tail (.tail .head)))))) | exact .tail (.tail (.tail (.tail (.tail (.tail (.tail (.tail .head))))))) | exact .tail (.tail (.tail (.tail (.tail (.tail (.tail (.tail (.tail .head)))))))) | exact .tail (.tail (.tail (.tail (.tail (.tail (.tail (.tail (.tail (.tail .head))))))))) | exact .tail (.tail (.tail (.tail (.tail (.tail (.tail (.tail (.tail (.tail (.tail .head)))))))))))
set_option hygiene false in
local macro_rules | `(tactic| k_cls) => `(tactic| ((fail_if_success with_reducible refine is_call ?_); (fail_if_success with_reducible refine is_runV ?_); (fail_if_success with_reducible refine is_spec ?_); (fail_if_success with_reducible refine is_look ?_); (fail_if_success with_reducible refine is_store ?_); (fail_if_success with_reducible refine is_run ?_); (fail_if_success with_reducible refine is_code ?_); (fail_if_success with_reducible refine is_lname ?_); first
  | with_reducible refine n_alloc x rfl fun a s x => ?_
  | with_reducible refine n_fresh x fun t s x => ?_
  | ((with_reducible refine b_for G x ?_ ?_); · first | rfl | exact hglob)
  | ((with_reducible refine g_get G x ?_ ?_); · first | rfl | exact hglob)
  | with_reducible refine e_frame G x (by first | assumption | exact Nat.le_trans (by assumption) (by decide) | exact Nat.le_trans (Nat.le_of_eq (by assumption)) (Nat.le_trans (by assumption) (by decide)) | omega) ?_
  | ((with_reducible refine n_load_em x ?_); refine ⟨_, by k_mem, ?_⟩)
  | ((with_reducible refine n_load_e x ?_); refine ⟨_, by assumption, ?_⟩)
  | ((with_reducible refine n_load_e x ?_); refine ⟨_, G.kin _ _ (by rfl), ?_⟩)
  | with_reducible refine n_at ?_
  | with_reducible refine nd_pure ?_
  | with_reducible refine nd_rule ?_
  | with_reducible refine nd_point ?_
  | with_reducible refine nd_ask ?_
  | with_reducible refine n_call ?_
  | with_reducible refine wpAny_attempt ?_
  | with_reducible refine wpAny_tryCatch ?_
  | ((with_reducible refine n_ifF ?_ ?_); · kernel_rfl!)
  | ((with_reducible refine n_ifT ?_ ?_); · kernel_rfl!)
  | lk))
section
variable {prog : Program} {w : World} {A : Around} {E : Value → Shared → Prop} {s0 s : Shared} {g : Fz} {mg mb : Str → Option Value} {ν : List (Addr × Obj)} {qual : Str} {fm ini lt bT nA T : Addr} {es : List DictEntry} {k : Nat} {t : Tok} {p12 : Int × Tok}
set_option maxHeartbeats 1000000 in
theorem ty_call {Q : Value → Shared → Prop} (x : St g ν s0 s)
    (Hn : ∀ (A' : Around) (R' : Result → Shared → Prop), (∀ g2 s2 C, Le g g2 → KFacts g2 C fm → St g2 ν s0 s2 → R' (.ok (.ret (.ref C))) s2) → codeAny (model prog w) A' (.builtin "type.__new__" ⟨[.type "type", .str "K" t, .ref bT, .ref nA], []⟩) R' s)
    (h : ∀ g2 s2 C, Le g g2 → KFacts g2 C fm → St g2 ν s0 s2 → Q (.ref C) s2) : wpAny (model prog w) A (call (.type "type") [.str "K" t, .ref bT, .ref nA]) Q E s := by
  refine wpAny_call (codeAny_of_tree ?_)
  repeat k_cls
  refine ⟨by kernel_rfl, ?_⟩
  refine n_builtin (id' := "type.__call__") (b := Builtin.«type.__call__») rfl (entryFor_of_tree (by kernel_rfl)) ?_
  repeat (first | k_cls | ((with_reducible refine n_look (t := "type") (nm := "__new__") (r := some (.builtin "type.__new__")) ?_ ?_ ?_); (· rfl); (· kernel_rfl)))
  refine wpAny_call (codeAny_of_tree ?_)
  repeat (first | k_cls | ((with_reducible refine n_look (t := "type") (nm := "__new__") (r := some (.builtin "type.__new__")) ?_ ?_ ?_); (· rfl); (· kernel_rfl)))
  refine ⟨by kernel_rfl, ?_⟩
  refine Hn _ _ fun g2 s C hle kf x => ?_
  have h := h g2
  refine absP fun Gx hGx => ?_
  obtain ⟨N, p, ini, lt, oC, oN, op, hK, eC, eN, ep, hI, hL⟩ := id kf
  refine hGx ?_
  refine absP fun Gx hGx => ?_
  obtain ⟨d, cd, sl, rfl, hab, hdl, hmk, hmro, hns, hsn, hhd⟩ := hK.cls
  refine hGx ?_
  repeat k_cls
  refine n_spec (t := "type") (r := some (.builtin "type.__init__")) rfl (x.frz _ _ eC) rfl (by kernel_rfl) ?_
  repeat k_cls
  refine wpAny_call (codeAny_of_tree ?_)
  repeat k_cls
  refine ⟨by kernel_rfl, ?_⟩
  refine n_builtin (id' := "type.__init__") (b := Builtin.«type.__init__») rfl (entryFor_of_tree (by kernel_rfl)) ?_
  repeat k_cls
  exact h _ _ hle kf x
end
end Mine
end
section
set_option maxRecDepth 100000
set_option autoImplicit false
namespace Mine
open PySem PySem.Spec PySem.Calls PyProof.Rows PySem.W PySem.SeqAt
theorem put_hd {es : List DictEntry} {n : Nat} {name : Str} {h h0 : Int} {key v v0 : Value} {t0 : Tok} (hq : (Value.str name 0).isStr name = true) : Obj.putName name h key v (nsObj (⟨h0, .str name t0, v0⟩ :: es) n) = nsObj (⟨h0, .str name t0, v⟩ :: es) n := by
  rw [Obj.putName_eq]
  have hq' : (Value.str name t0).isStr name = true := hq
  have : (⟨h0, .str name t0, v0⟩ :: es : List DictEntry).toArray.findIdx? (·.key.isStr name) = some 0 := by
    simp [List.findIdx?_cons, hq']
  unfold Obj.putNameByArray
  simp only [this]
  simp [nsObj, Array.modify, Array.modifyM]
section
variable {prog : Program} {w : World} {A : Around} {E : Value → Shared → Prop} {s0 s : Shared} {env : Env} {g : Fz} {N : Addr} {mg mb : Str → Option Value} {μ : List (Addr × Obj)} {v v0 : Value} {f : Obj → List (Addr × Obj)} {name : Str} {es : List DictEntry} {n : Nat} {h0 : Int} {t0 : Tok}
theorem c_put_hd {Q : Unit → Shared → Prop} (x : St g μ s0 s) (hk : env.scope.kind = .class) (hn : env.scope.names.lookup name = some .local ∨ (env.scope.names.lookup name = none ∧ compilersOwnNames.contains name = true)) (hl : env.locals = N) (r : Rep N (nsObj (⟨h0, .str name t0, v0⟩ :: es) n) μ f)
    (hs : StrKeys es.toArray) (hq : (Value.str name 0).isStr name = true) (h : ∀ s', St g (f (nsObj (⟨h0, .str name t0, v⟩ :: es) n)) s0 s' → Q () s') : wpAny (model prog w) A (storeName env name v) Q E s := by
  rw [store_cls hk hn]
  have e : s.heap.get? N = some (nsObj (⟨h0, .str name t0, v0⟩ :: es) n) := x.mu _ r.mem
  unfold localSet
  rw [hl]
  refine wpAny_bind (wpAny_load (o := nsObj (⟨h0, .str name t0, v0⟩ :: es) n) e ?_)
  show wpAny _ _ (nsSet N name v) Q E s
  unfold nsSet strHash
  refine wpAny_bind (wpAny_bind ?_)
  refine nd_ask ?_
  refine wpAny_pure ?_
  refine wpAny_pure ?_
  refine wpAny_bind (wpAny_mkText ?_)
  refine wpAny_bind (wpAny_loadPart (o := nsObj (⟨h0, .str name t0, v0⟩ :: es) n) e ?_)
  have hk2 : StrKeys (⟨h0, .str name t0, v0⟩ :: es : List DictEntry).toArray := sk_cons hs
  have hr : aRefKeyMayBeTheName name (⟨h0, .str name t0, v0⟩ :: es : List DictEntry).toArray = false := by
    rw [aRefKeyMayBeTheName_at]
    have : (⟨h0, .str name t0, v0⟩ :: es : List DictEntry).toArray.any (·.key.isStr name) = true := by
      have hq' : (Value.str name t0).isStr name = true := hq
      simp [hq']
    rw [this]; simp
  dsimp only
  rw [hr]
  refine wpAny_updatePart (o := nsObj (⟨h0, .str name t0, v0⟩ :: es) n) e ?_
  generalize (if name.cps.isEmpty = true then 0 else reduceHash ((model prog w).w.params.strHash name.cps)) = hs
  have e2 : (s.heap.update N (Obj.putName name hs (.str name s.toks) v)).get? N = some (nsObj (⟨h0, .str name t0, v⟩ :: es) n) := by
    rw [Heap.get?_update_self _ e (by rw [put_hd hq]; rfl), put_hd hq]
  exact h _ (x.rep (tk := s.toks + 1) r (fun b ob hb eb => ((Heap.SameBut.update s.heap N _).2 b hb).trans eb) e2)
theorem c_def {Q : Flow → Shared → Prop} {cc PC : Addr} {ps : Array Value} {ν : List (Addr × Obj)} {params : Arguments} {body : List Stmt} {scope : Scope} {pos : Pos} {clos : List (Str × Addr)} (G : Gd w mg mb g) (x : St g ((PC, tabObj ps) :: (N, nsObj es n) :: ν) s0 s)
    (hk : env.scope.kind = .class) (hn : env.scope.names.lookup name = some .local) (hl : env.locals = N) (hge : env.globals = mainGlobals) (hcode : env.code = .ref cc) (C : CodeF g cc PC) (ht : TriplesOk ps.toList) (hnf : codeAmong pos ps.toList = none)
    (hcl : closureFor scope env = pure clos) (hs : StrKeys es.toArray) (hnew : ∀ e ∈ es, e.key.isStr name = false) (hd0 : params.defaults = []) (hk0 : params.kw_defaults = []) (ha : annTrees params none env = [])
    (h : ∀ g' s' c' ctv doc fa hsh t, Le g g' → CodeR g' c' (qualnameIn env name name) → g' fa = some (fnMade name (qualnameIn env name name) params body scope clos doc ((mg "__name__").getD .none) c' ctv) →
      St g' ((PC, tabObj (ps ++ #[rawInt pos.line, rawInt pos.col, .ref c'])) :: (N, nsObj (es ++ [⟨hsh, .str name t, .ref fa⟩]) (n + 1)) :: ν) s0 s' → Q .next s') :
    wpAny (model prog w) A (exec (.FunctionDef name params body [] none [] scope none name pos) env) Q E s := by
  refine nestDef_K hd0 hk0 ha ?_
  refine m_func G x hcl hge hcode C .head ht hnf fun g' s' c' ctv doc fa hle hR hf x => ?_
  exact c_put x hk (.inl hn) hl (.tail .head) hs hnew fun hsh t s'' x => h g' s'' c' ctv doc fa hsh t hle hR hf x
end
end Mine
end
section
set_option maxRecDepth 100000
set_option autoImplicit false
namespace Mine
open PySem PySem.Spec PySem.Calls PyProof.Rows PySem.W PySem.SeqAt
theorem is_execs {prog : Program} {w : World} {A : Around} {E : Value → Shared → Prop} {s : Shared} {env : Env} {ss : List Stmt} {Q : Flow → Shared → Prop} (h : wpAny (model prog w) A (execs ss env) Q E s) : wpAny (model prog w) A (execs ss env) Q E s := h
set_option hygiene false in
local macro_rules | `(tactic| k_mem) => `(tactic| first | exact List.Mem.head _ | (refine List.Mem.tail _ ?_; k_mem))
set_option hygiene false in
local macro_rules | `(tactic| k_flat) => `(tactic| first | exact .head | exact .tail .head | exact .tail (.tail .head) | exact .tail (.tail (.tail .head)) | exact .tail (.tail (.tail (.tail .head))) | exact .tail (.tail (.tail (.tail (.tail .head)))) | exact .tail (.tail (.tail (.tail (.tail (.tail .head))))) | exact .tail (.tail (.tail (.tail (.tail (.tail (.tail .head)))))) | exact .tail (.tail (.tail (.tail (.tail (.tail (.tail (.tail .head))))))) | exact .tail (.tail (.tail (.tail (.tail (.tail (.tail (.tail (.tail .head)))))))) | exact .tail (.tail (.tail (.tail (.tail (.tail (.tail (.tail (.tail (.tail .head))))))))) | exact .tail (.tail (.tail (.tail (.tail (.tail (.tail (.tail (.tail (.tail (.tail .head)))))))))))
set_option hygiene false in
local macro_rules | `(tactic| k_cls) => `(tactic| ((fail_if_success with_reducible refine is_call ?_); (fail_if_success with_reducible refine is_runV ?_); (fail_if_success with_reducible refine is_spec ?_); (fail_if_success with_reducible refine is_look ?_); (fail_if_success with_reducible refine is_store ?_); (fail_if_success with_reducible refine is_run ?_); (fail_if_success with_reducible refine is_code ?_); (fail_if_success with_reducible refine is_lname ?_); (fail_if_success with_reducible refine is_bc ?_); (fail_if_success with_reducible refine is_execs ?_); first
  | with_reducible refine n_alloc x rfl fun a s x => ?_
  | with_reducible refine n_fresh x fun t s x => ?_
  | ((with_reducible refine b_for G x ?_ ?_); · first | rfl | exact hglob)
  | ((with_reducible refine g_get G x ?_ ?_); · first | rfl | exact hglob)
  | with_reducible refine e_frame G x (by first | assumption | exact Nat.le_trans (by assumption) (by decide) | exact Nat.le_trans (Nat.le_of_eq (by assumption)) (Nat.le_trans (by assumption) (by decide)) | omega) ?_
  | ((with_reducible refine n_load_em x ?_); refine ⟨_, by k_mem, ?_⟩)
  | ((with_reducible refine n_load_e x ?_); refine ⟨_, G.kin _ _ (by rfl), ?_⟩)
  | with_reducible refine n_at ?_
  | with_reducible refine nd_pure ?_
  | with_reducible refine nd_rule ?_
  | with_reducible refine nd_point ?_
  | with_reducible refine nd_ask ?_
  | with_reducible refine n_call ?_
  | ((with_reducible refine n_ifF ?_ ?_); · kernel_rfl!)
  | with_reducible refine wpAny_attempt ?_
  | with_reducible refine wpAny_tryCatch ?_
  | with_reducible refine n_try ?_
  | lk))
section
variable {prog : Program} {w : World} {A : Around} {E : Value → Shared → Prop} {s0 s : Shared} {env : Env} {g : Fz} {L : Addr} {m mg mb : Str → Option Value} {μ : List (Addr × Obj)} {pos : Pos} {n : Str} {v : Value} {f : Addr}
theorem c_str {i : Str} {k : Nat} {Q : Value → Shared → Prop} (x : St g μ s0 s) (h : ∀ t s', St g μ s0 s' → Q (.str i t) s') : wpAny (model prog w) A (eval (.Constant (.str i) k pos) env) Q E s := wpAny_Constant_str (h _ _ x.tok)
theorem c_lst {vs : List Value} {Q : Value → Shared → Prop} (x : St g μ s0 s) (hz : vs.length ≤ sizeLine) (h : ∀ D s', St g ((D, { cls := .type "list", data := .seq vs.toArray }) :: μ) s0 s' → Q (.ref D) s') : wpAny (model prog w) A (newList vs) Q E s :=
  wpAny_newList (h _ _ (x.newM (tk := s.toks) (push_keeps _ _) (size_none _) (Heap.get?_push_size _ rfl))) hz
theorem fn_of {name q : Str} {params : Arguments} {body : List Stmt} {scope : Scope} {clos : List (Str × Addr)} {doc pm ctv : Value} {c' fa : Addr} (hR : CodeR g c' q) (hf : g fa = some (fnMade name q params body scope clos doc pm c' ctv)) (hk : scope.kind = .function) (hco : scope.isCoroutine = false) (hg : scope.isGenerator = false)
    (hc : ∀ x ∈ scope.names, x.2 ≠ .cell) : IsFn g fa (fnX name q params body scope clos .none .none doc pm none (.ref c') ctv) :=
  ⟨⟨none, #[], hf⟩, let ⟨o, vs, t, h1, h2, h3⟩ := hR; ⟨c', o, vs, t, rfl, h1, h2, h3⟩, hk, hco, hg, hc⟩
theorem fun_of {name q : Str} {params : Arguments} {body : List Stmt} {scope : Scope} {clos : List (Str × Addr)} {doc pm ctv : Value} {c' fa : Addr} (hf : g fa = some (fnMade name q params body scope clos doc pm c' ctv)) : IsFun g fa := ⟨none, _, #[], hf⟩
set_option maxHeartbeats 1000000 in
theorem ctk (G : Gd w mg mb g) (x : St g ((23, tabObj #[]) :: μ) s0 s) (hA : Ok A) {R : Result → Shared → Prop} (h : ∀ g' s' C T, Le g g' → KFacts g' C f → St g' ((23, tabObj T) :: μ) s0 s' → R (.ok (.ret (.ref C))) s') : codeAny (model prog w) A (.call (.ref 28) ⟨[.ref f], []⟩) R s := by
  refine c_fnC (binds := [("mycmp", .ref f)]) G x rfl rfl hA rfl (by intro n x hx; simp only [List.mem_cons, List.not_mem_nil, or_false] at hx; subst hx; first | exact .inr ⟨rfl, rfl⟩ | exact .inl rfl) (by decide) (fun A' L s cells hh hu hd hc x => ?_)
  refine absP fun Gx hGx => ?_
  obtain ⟨oc, rfl, ho⟩ := CellsAre.one hc
  refine hGx ?_
  have hoc : put g (L + 1) oc (L + 1) = some oc := put_self _ _ _
  have hle0 := x.freeze_le
  replace x := x.freeze
  have G := G.le hle0
  generalize hg1 : put g (L + 1) oc = g1 at x hoc hle0 G
  replace ho : oc.data = .cell (some (.ref f)) := ho
  clear hc
  have hroom : A'.depth < recursionLimit := by have := hA.depth; omega
  refine wpAny_execs_cons ?_
  rw [arm_exec_ClassDef]
  refine wpAny_bind (wpAny_evalAll_nil ?_)
  refine wpAny_bind (wpAny_standAt ?_)
  refine wpAny_bind ?_
  unfold buildClassGuard
  refine wpAny_bind (wpAny_nsGet (let ⟨_, e1, q⟩ := G.mbo; q.ns (x.get e1)) ?_)
  rw [G.bi _ (by decide)]
  refine wpAny_pure ?_
  refine wpAny_bind (wpAny_holding ?_)
  unfold evalArgs
  refine wpAny_bind ?_
  refine wpAny_bind ?_
  lk
  refine wpAny_bind ?_
  lk
  refine r_bi G x rfl (by rfl) ?_
  refine absP fun Gx hGx => ?_
  obtain ⟨oL, nL, x⟩ := x
  refine hGx ?_
  repeat k_cls
  refine build_class (fm := f) (f := fun o' => (L, oL) :: (23, o') :: μ) G x (.tail .head) rfl rfl hroom rfl rfl rfl rfl rfl ?hst ?Hb ?Hn ?H
  case hst => intro y hy; simp only [List.mem_cons, List.not_mem_nil, or_false] at hy; rcases hy with rfl | rfl | rfl | rfl <;> first | exact .inl rfl | exact .inr rfl
  case Hn =>
    intro g1 s1 bT nA T ini lt ν es k t p12 Q1 E1 G hB hbT hsys hnA hT x hQ
    exact ty_call x (fun A' R' hR => type_new (by kernel_rfl!) G hB hbT hsys hnA hT x hR) hQ
  case H =>
    intro g2 s2 C T hle kf x
    replace G := G.le hle
    have x : Fm g2 L _ ((23, tabObj T) :: μ) s0 s2 := ⟨oL, nL, x⟩
    repeat k_cls
    refine r_store x rfl rfl fun s x => ?_
    repeat k_cls
    refine wpAny_execs_cons (wpAny_Return_some (r_name x (upd_eq _ _ _) ?_))
    exact h g2 _ C T (hle0.trans hle) kf x.st
  case Hb =>
    intro g1 s1 cc PC nA F ν es Q1 E1 hle hC hpre x hQ
    refine absP fun Gx hGx => ?_
    obtain ⟨p1, m, u1, p2, u2, p3, l, u3, rfl⟩ := hpre
    refine hGx ?_
    replace G := G.le hle
    refine wpAny_run (codeAny_of_tree ?_)
    generalize (A'.mark none).under _ = A2
    repeat k_cls
    have CC := hC
    refine wpAny_execs_cons (wpAny_Assign_Name (c_str x fun t1 s x => ?_))
    refine c_put_hd (N := nA) x rfl (.inl rfl) rfl (.tail .head) (sk_cons (sk_cons sk_nil)) rfl fun s x => ?_
    refine wpAny_execs_cons (wpAny_Assign_Name (List_ (sp_one (c_str x fun u4 s x => c_lst x (by rw [line24]; exact (by decide : 1 ≤ 16777216)) fun LO s x => ?_))))
    obtain ⟨gl, lel, hLO, x⟩ := x.frz1
    replace G := G.le lel
    have CC := CC.le lel
    refine c_put (N := nA) x rfl (.inl rfl) rfl (.tail .head) (sk_cons (sk_cons (sk_cons sk_nil))) (nw_cons (nw_cons (nw_cons nw_nil rfl) rfl) rfl) fun e4 t4 s x => ?_
    dsimp only [List.cons_append, List.nil_append] at x
    refine wpAny_execs_cons (c_def (cc := cc) (PC := PC) G x rfl rfl rfl rfl rfl CC (by simp [TriplesOk, rawInt]) (by simp [codeAmong, rawInt]) rfl (by repeat (first | exact sk_nil | apply sk_cons)) (by repeat (first | exact nw_nil | (refine nw_cons ?_ rfl))) rfl rfl rfl fun g11 s c11 ctv11 doc11 f11 hs11 t11 le11 R11 F11 x => ?_)
    replace G := G.le le11
    have CC := CC.le le11
    dsimp only [List.cons_append, List.nil_append] at x
    refine wpAny_execs_cons (c_def (cc := cc) (PC := PC) G x rfl rfl rfl rfl rfl CC (by simp [TriplesOk, rawInt]) (by simp [codeAmong, rawInt]) rfl (by repeat (first | exact sk_nil | apply sk_cons)) (by repeat (first | exact nw_nil | (refine nw_cons ?_ rfl))) rfl rfl rfl fun g12 s c12 ctv12 doc12 f12 hs12 t12 le12 R12 F12 x => ?_)
    replace G := G.le le12
    have CC := CC.le le12
    dsimp only [List.cons_append, List.nil_append] at x
    refine wpAny_execs_cons (c_def (cc := cc) (PC := PC) G x rfl rfl rfl rfl rfl CC (by simp [TriplesOk, rawInt]) (by simp [codeAmong, rawInt]) rfl (by repeat (first | exact sk_nil | apply sk_cons)) (by repeat (first | exact nw_nil | (refine nw_cons ?_ rfl))) rfl rfl rfl fun g13 s c13 ctv13 doc13 f13 hs13 t13 le13 R13 F13 x => ?_)
    replace G := G.le le13
    have CC := CC.le le13
    dsimp only [List.cons_append, List.nil_append] at x
    refine wpAny_execs_cons (c_def (cc := cc) (PC := PC) G x rfl rfl rfl rfl rfl CC (by simp [TriplesOk, rawInt]) (by simp [codeAmong, rawInt]) rfl (by repeat (first | exact sk_nil | apply sk_cons)) (by repeat (first | exact nw_nil | (refine nw_cons ?_ rfl))) rfl rfl rfl fun g14 s c14 ctv14 doc14 f14 hs14 t14 le14 R14 F14 x => ?_)
    replace G := G.le le14
    have CC := CC.le le14
    dsimp only [List.cons_append, List.nil_append] at x
    refine wpAny_execs_cons (c_def (cc := cc) (PC := PC) G x rfl rfl rfl rfl rfl CC (by simp [TriplesOk, rawInt]) (by simp [codeAmong, rawInt]) rfl (by repeat (first | exact sk_nil | apply sk_cons)) (by repeat (first | exact nw_nil | (refine nw_cons ?_ rfl))) rfl rfl rfl fun g15 s c15 ctv15 doc15 f15 hs15 t15 le15 R15 F15 x => ?_)
    replace G := G.le le15
    have CC := CC.le le15
    dsimp only [List.cons_append, List.nil_append] at x
    refine wpAny_execs_cons (c_def (cc := cc) (PC := PC) G x rfl rfl rfl rfl rfl CC (by simp [TriplesOk, rawInt]) (by simp [codeAmong, rawInt]) rfl (by repeat (first | exact sk_nil | apply sk_cons)) (by repeat (first | exact nw_nil | (refine nw_cons ?_ rfl))) rfl rfl rfl fun g16 s c16 ctv16 doc16 f16 hs16 t16 le16 R16 F16 x => ?_)
    replace G := G.le le16
    have CC := CC.le le16
    dsimp only [List.cons_append, List.nil_append] at x
    refine wpAny_execs_cons (wpAny_Assign_Name (wpAny_Constant_none ?_))
    refine c_put (N := nA) x rfl (.inl rfl) rfl (.tail .head) (by repeat (first | exact sk_nil | apply sk_cons)) (by repeat (first | exact nw_nil | (refine nw_cons ?_ rfl))) fun e5 t5 s x => ?_
    dsimp only [List.cons_append, List.nil_append] at x
    have l6 := le16
    have l5 := le15.trans l6
    have l4 := le14.trans l5
    have l3 := le13.trans l4
    have l2 := le12.trans l3
    have l1 := le11.trans l2
    refine wpAny_execs_nil ?_
    refine wpAny_pure ?_
    refine hQ g16 s _ _ _ f11 f12 (lel.trans l1) ⟨(_, _), _, _, (_, _), _, (_, _), _, _, (_, _), LO, _, (_, _), (_, _), (_, _), f13, (_, _), f14, (_, _), f15, (_, _), f16, (_, _), rfl, l1 _ _ hLO, ?ini, ?lt, fun_of (l2 _ _ F11), fun_of (l3 _ _ F12), fun_of (l4 _ _ F13), fun_of (l5 _ _ F14), fun_of (l6 _ _ F15), fun_of F16⟩ x
    case ini => 
      refine ⟨_, _, _, _, _, fn_of (R11.le l2) (l2 _ _ F11) rfl rfl rfl (by decide), rfl, fun _ _ => rfl, rfl, rfl⟩
    case lt =>
      refine ⟨_, _, _, _, _, _, _, _, _, _, _, _, _, fn_of (R12.le l3) (l3 _ _ F12) rfl rfl rfl (by decide), rfl, fun _ _ => rfl, rfl, rfl, rfl, rfl, (hle.trans (lel.trans l1)) _ _ hoc, ho⟩
end
end Mine
end
section
set_option maxRecDepth 100000
set_option autoImplicit false
namespace Mine
open PySem PySem.Spec PySem.Calls PyProof.Rows PySem.W PySem.SeqAt
noncomputable def cmp2 (i1 i2 j1 j2 : Int) : Int := if i1 = j1 then (if j2 < i2 then 1 else if i2 < j2 then -1 else 0) else (if j1 < i1 then 1 else -1)
noncomputable def gt2 (i1 i2 j1 j2 : Int) : Bool := if i1 = j1 then decide (i2 > j2) else decide (i1 > j1)
noncomputable def lt2 (i1 i2 j1 j2 : Int) : Bool := if i1 = j1 then decide (i2 < j2) else decide (i1 < j1)
theorem cmp2_gt (i1 i2 j1 j2 : Int) : (if gt2 i1 i2 j1 j2 = true then (1 : Int) else 0) - (if lt2 i1 i2 j1 j2 = true then (1 : Int) else 0) = cmp2 i1 i2 j1 j2 := by
  unfold gt2 lt2 cmp2
  by_cases h : i1 = j1
  · simp only [h, if_true, decide_eq_true_eq]
    split <;> split <;> omega
  · simp only [h, if_false, decide_eq_true_eq]
    split <;> split <;> omega
section
variable {prog : Program} {w : World} {A : Around} {E : Value → Shared → Prop} {s0 s : Shared} {g : Fz} {mg mb : Str → Option Value} {ν : List (Addr × Obj)} {a b : Addr} {i1 i2 j1 j2 : Int} {t1 t2 t3 t4 : Tok} {env : Env}
theorem gt_tree {oa ob : Obj} {na nb : Nat} {P : PySem.Fin → Shared → Prop} (hoa : s.heap.get? a = some oa) (hda : oa.data = .seq #[.int i1 t1, .int i2 t2] na) (hob : s.heap.get? b = some ob) (hcb : ob.cls = .type "tuple") (hdb : ob.data = .seq #[.int j1 t3, .int j2 t4] nb)
    (h : P (.done (.ret (.bool (gt2 i1 i2 j1 j2)))) s) : wpAny (model prog w) A (Builtin.«tuple.__gt__» ⟨[.ref a, .ref b], []⟩) P E s := by
  show wpAny _ _ (isInstance (.ref b) (.type "tuple") >>= _) _ _ s
  refine wpAny_bind (wpAny_isInstance ⟨ob, hob, hcb⟩ isSubtype_tuple_tuple ?_)
  simp only [Bool.not_true, Bool.false_eq_true, if_false]
  refine wpAny_bind (wpAny_tupleItemsOf hoa hda ?_)
  refine wpAny_bind (wpAny_tupleItemsOf hob hdb ?_)
  refine wpAny_bind ?_
  refine wpAny_forIn_list _
    (fun rest r s' => r.1 = none ∧ s' = s ∧ (rest = [(.int i1 t1, .int j1 t3), (.int i2 t2, .int j2 t4)] ∨ (i1 = j1 ∧ rest = [(.int i2 t2, .int j2 t4)]) ∨ (i1 = j1 ∧ i2 = j2 ∧ rest = [])))
    _ ?_ ?_ _ _ ⟨rfl, rfl, .inl rfl⟩
  · rintro ⟨u, v⟩ rest r s' ⟨hr, rfl, hz⟩
    rcases hz with hz | ⟨h1, hz⟩ | ⟨_, _, hz⟩
    · injection hz with hz hz2
      cases hz
      refine wpAny_bind (wpAny_eqBool_int ?_)
      by_cases hk : i1 = j1
      · rw [show (i1 == j1) = true by simpa using hk]
        exact wpAny_pure ⟨rfl, rfl, .inr (.inl ⟨hk, hz2⟩)⟩
      · rw [show (i1 == j1) = false by simpa using hk]
        unfold gt2 at h
        rw [if_neg hk] at h
        refine wpAny_bind (wpAny_rule (wpAny_bind ?_))
        show wpAny _ _ (compareOp .Gt (.int i1 t1) (.int j1 t3)) _ _ _
        exact PySem.P.gt_int (wpAny_bind (wpAny_pure (wpAny_pure (wpAny_pure h))))
    · injection hz with hz hz2
      cases hz
      refine wpAny_bind (wpAny_eqBool_int ?_)
      by_cases hk : i2 = j2
      · rw [show (i2 == j2) = true by simpa using hk]
        exact wpAny_pure ⟨rfl, rfl, .inr (.inr ⟨h1, hk, hz2⟩)⟩
      · rw [show (i2 == j2) = false by simpa using hk]
        unfold gt2 at h
        rw [if_pos h1] at h
        refine wpAny_bind (wpAny_rule (wpAny_bind ?_))
        show wpAny _ _ (compareOp .Gt (.int i2 t2) (.int j2 t4)) _ _ _
        exact PySem.P.gt_int (wpAny_bind (wpAny_pure (wpAny_pure (wpAny_pure h))))
    · cases hz
  · rintro ⟨r1, r2⟩ s' ⟨hr, rfl, hz⟩
    simp only at hr
    subst hr
    refine wpAny_pure ?_
    rcases hz with hz | ⟨_, hz⟩ | ⟨h1, h2, _⟩
    · cases hz
    · cases hz
    · unfold gt2 at h
      rw [if_pos h1, decide_eq_false (by first | assumption | exact Nat.le_trans (by assumption) (by decide) | exact Nat.le_trans (Nat.le_of_eq (by assumption)) (Nat.le_trans (by assumption) (by decide)) | omega)] at h
      exact h
theorem lt_tree {oa ob : Obj} {na nb : Nat} {P : PySem.Fin → Shared → Prop} (hoa : s.heap.get? a = some oa) (hda : oa.data = .seq #[.int i1 t1, .int i2 t2] na) (hob : s.heap.get? b = some ob) (hcb : ob.cls = .type "tuple") (hdb : ob.data = .seq #[.int j1 t3, .int j2 t4] nb)
    (h : P (.done (.ret (.bool (lt2 i1 i2 j1 j2)))) s) : wpAny (model prog w) A (Builtin.«tuple.__lt__» ⟨[.ref a, .ref b], []⟩) P E s := by
  show wpAny _ _ (isInstance (.ref b) (.type "tuple") >>= _) _ _ s
  refine wpAny_bind (wpAny_isInstance ⟨ob, hob, hcb⟩ isSubtype_tuple_tuple ?_)
  simp only [Bool.not_true, Bool.false_eq_true, if_false]
  refine wpAny_bind (wpAny_tupleItemsOf hoa hda ?_)
  refine wpAny_bind (wpAny_tupleItemsOf hob hdb ?_)
  refine wpAny_bind ?_
  refine wpAny_forIn_list _
    (fun rest r s' => r.1 = none ∧ s' = s ∧ (rest = [(.int i1 t1, .int j1 t3), (.int i2 t2, .int j2 t4)] ∨ (i1 = j1 ∧ rest = [(.int i2 t2, .int j2 t4)]) ∨ (i1 = j1 ∧ i2 = j2 ∧ rest = [])))
    _ ?_ ?_ _ _ ⟨rfl, rfl, .inl rfl⟩
  · rintro ⟨u, v⟩ rest r s' ⟨hr, rfl, hz⟩
    rcases hz with hz | ⟨h1, hz⟩ | ⟨_, _, hz⟩
    · injection hz with hz hz2
      cases hz
      refine wpAny_bind (wpAny_eqBool_int ?_)
      by_cases hk : i1 = j1
      · rw [show (i1 == j1) = true by simpa using hk]
        exact wpAny_pure ⟨rfl, rfl, .inr (.inl ⟨hk, hz2⟩)⟩
      · rw [show (i1 == j1) = false by simpa using hk]
        unfold lt2 at h
        rw [if_neg hk] at h
        refine wpAny_bind (wpAny_rule (wpAny_bind ?_))
        show wpAny _ _ (compareOp .Lt (.int i1 t1) (.int j1 t3)) _ _ _
        exact PySem.P.lt_int (wpAny_bind (wpAny_pure (wpAny_pure (wpAny_pure h))))
    · injection hz with hz hz2
      cases hz
      refine wpAny_bind (wpAny_eqBool_int ?_)
      by_cases hk : i2 = j2
      · rw [show (i2 == j2) = true by simpa using hk]
        exact wpAny_pure ⟨rfl, rfl, .inr (.inr ⟨h1, hk, hz2⟩)⟩
      · rw [show (i2 == j2) = false by simpa using hk]
        unfold lt2 at h
        rw [if_pos h1] at h
        refine wpAny_bind (wpAny_rule (wpAny_bind ?_))
        show wpAny _ _ (compareOp .Lt (.int i2 t2) (.int j2 t4)) _ _ _
        exact PySem.P.lt_int (wpAny_bind (wpAny_pure (wpAny_pure (wpAny_pure h))))
    · cases hz
  · rintro ⟨r1, r2⟩ s' ⟨hr, rfl, hz⟩
    simp only at hr
    subst hr
    refine wpAny_pure ?_
    rcases hz with hz | ⟨_, hz⟩ | ⟨h1, h2, _⟩
    · cases hz
    · cases hz
    · unfold lt2 at h
      rw [if_pos h1, decide_eq_false (by first | assumption | exact Nat.le_trans (by assumption) (by decide) | exact Nat.le_trans (Nat.le_of_eq (by assumption)) (Nat.le_trans (by assumption) (by decide)) | omega)] at h
      exact h
theorem cmp_gt {Q : Value → Shared → Prop} (hu : A.units < cLine) (x : St g ν s0 s) (ta : Tp g a [.int i1 t1, .int i2 t2]) (tb : Tp g b [.int j1 t3, .int j2 t4]) (h : Q (.bool (gt2 i1 i2 j1 j2)) s) : wpAny (model prog w) A (compareOp .Gt (.ref a) (.ref b)) Q E s := by
  obtain ⟨oa, ea, ca, na, da⟩ := ta
  obtain ⟨ob, eb, cb, nb, db⟩ := tb
  have hTa : s.TypeIs (.ref a) "tuple" := ⟨oa, x.frz _ _ ea, ca⟩
  show wpAny _ _ (richCompare .Gt (.ref a) (.ref b)) _ _ _
  exact wpAny_richCompare_same_room (op := .Gt) hTa ⟨ob, x.frz _ _ eb, cb⟩ F.slot_tuple_gt (wpAny_call_entry F.slot_tuple_gt hTa F.entry_tuple_gt (gt_tree (x.frz _ _ ea) da (x.frz _ _ eb) cb db ⟨_, rfl, (fun e => nomatch e), h⟩) (F.args_tuple_gt_2 _ _)) hu
theorem cmp_lt {Q : Value → Shared → Prop} (hu : A.units < cLine) (x : St g ν s0 s) (ta : Tp g a [.int i1 t1, .int i2 t2]) (tb : Tp g b [.int j1 t3, .int j2 t4]) (h : Q (.bool (lt2 i1 i2 j1 j2)) s) : wpAny (model prog w) A (compareOp .Lt (.ref a) (.ref b)) Q E s := by
  obtain ⟨oa, ea, ca, na, da⟩ := ta
  obtain ⟨ob, eb, cb, nb, db⟩ := tb
  have hTa : s.TypeIs (.ref a) "tuple" := ⟨oa, x.frz _ _ ea, ca⟩
  show wpAny _ _ (richCompare .Lt (.ref a) (.ref b)) _ _ _
  exact wpAny_richCompare_same_room (op := .Lt) hTa ⟨ob, x.frz _ _ eb, cb⟩ F.slot_tuple_lt (wpAny_call_entry F.slot_tuple_lt hTa F.entry_tuple_lt (lt_tree (x.frz _ _ ea) da (x.frz _ _ eb) cb db ⟨_, rfl, (fun e => nomatch e), h⟩) (F.args_tuple_lt_2 _ _)) hu
theorem tw_call {Q : Value → Shared → Prop} (G : Gd w mg mb g) (x : St g ν s0 s) (ta : Tp g a [.int i1 t1, .int i2 t2]) (tb : Tp g b [.int j1 t3, .int j2 t4]) (_hh : A.handled = none) (hd : A.depth ≤ 985) (hu : A.units ≤ 9850)
    (hx : ∀ s' u, St g ν s0 s' → Q (.int (cmp2 i1 i2 j1 j2) u) s') : wpAny (model prog w) A (call (.ref 109) [.ref a, .ref b]) Q E s := by
  have hcl : cLine = 9900 := rfl
  have hrl : recursionLimit = 1000 := rfl
  refine wpAny_call ?_
  refine codeAny_call_def (binds := [("x", .ref a), ("y", .ref b)]) (by first | assumption | exact Nat.le_trans (by assumption) (by decide) | exact Nat.le_trans (Nat.le_of_eq (by assumption)) (Nat.le_trans (by assumption) (by decide)) | omega) (x.frz _ _ (G.kin _ _ rfl)) rfl (G.nolimit x) (codeRec_of (G.in x) rfl) rfl (.of_eq rfl) (by decide) (by intro x hx; simp only [List.mem_cons, List.not_mem_nil, or_false] at hx; rcases hx with rfl | rfl <;> rfl) (fun h₀ hns keep => ?_) rfl rfl rfl
  obtain ⟨oC, eC, nC⟩ := nsO_of hns
  have x : Fm g s.heap.objs.size _ ν s0 { s with heap := h₀, toks := s.toks + ([("x", Value.ref a), ("y", Value.ref b)] : List (Str × Value)).length } := ⟨oC, nC, x.newM keep (size_none _) eC⟩
  generalize s.heap.objs.size = L1 at x ⊢
  generalize { s with heap := h₀, toks := s.toks + ([("x", Value.ref a), ("y", Value.ref b)] : List (Str × Value)).length } = s1 at x ⊢
  refine wpAny_execs_cons (wpAny_Return_some (wpAny_BinOp (wpAny_Compare1 (r_name (v := .ref a) x rfl (r_name (v := .ref b) x rfl ?_)))))
  refine cmp_gt (by show A.units + _ < cLine; omega) x.st ta tb ?_
  refine wpAny_Compare1 (r_name (v := .ref a) x rfl (r_name (v := .ref b) x rfl ?_))
  refine cmp_lt (by show A.units + _ < cLine; omega) x.st ta tb ?_
  refine binaryOp_gives (op := .Sub) (typeIs_bool' _ _) (typeIs_bool' _ _) F.fills_bool_sub F.slot_bool_sub F.entry_int_sub (F.args_int_sub_2 _ _) (gives_int_sub_bools _ _) trivial ?_
  rw [cmp2_gt]
  exact hx _ _ x.tok.st
end
end Mine
end
section
set_option maxRecDepth 100000
set_option autoImplicit false
namespace Mine
open PySem PySem.Spec PySem.Calls PyProof.Rows PySem.W PySem.SeqAt
section
variable {prog : Program} {w : World} {M : Model} {A : Around} {E : Value → Shared → Prop} {s0 s : Shared} {env : Env} {g : Fz} {L : Addr} {m mg mb : Str → Option Value} {μ : List (Addr × Obj)} {pos : Pos} {n : Str} {v : Value} {f : Obj → List (Addr × Obj)}
  {name qual : Str} {params : Arguments} {body : Expr} {scope : Scope} {c P fa : Addr} {ps : Array Value} {firstLine : Nat} {clos : List (Str × Addr)}
theorem m_lam {Q : Value → Shared → Prop} (G : Gd w mg mb g) (x : St g μ s0 s) (hcl : closureFor scope env = pure clos) (hge0 : env.globals = mainGlobals) (hcode : env.code = .ref c) (C : CodeF g c P) (r : Rep P (tabObj ps) μ f) (ht : TriplesOk ps.toList)
    (hnf : codeAmong pos ps.toList = none) (hdef : defaultsOf params env = ([], []))
    (h : ∀ g' s' c' ctv fa, Le g g' → CodeR g' c' (env.qual ++ "<lambda>") → g' fa = some (kla_obj "<lambda>" (env.qual ++ "<lambda>") params body scope clos ((mg "__name__").getD .none) c' ctv) → St g' (f (tabObj (ps ++ #[rawInt pos.line, rawInt pos.col, .ref c']))) s0 s' → Q (.ref fa) s') :
    wpAny M A (eval (.Lambda params body scope pos) env) Q E s := by
  refine kla_eval hdef ?_
  refine kla_makeFunction hcl hge0 (let ⟨_, e1, q⟩ := G.mgo; q.ns (x.frz _ _ e1)) hcode (C.hd x) (x.mu _ r.mem) ht hnf (glob_ne G x r) (bAt G x r) ?_
  intro c' ctv h' tk hx hge hlt hrec htab
  have y := x.but (tk := s.toks) r hx htab
  obtain ⟨n1, n2⟩ := x.fresh_not hge
  refine absP fun Gx hGx => ?_
  obtain ⟨c2, o2, vs2, t2, e2, e3, e4, e5⟩ := hrec
  refine hGx ?_
  cases e2
  have y := y.add n1 (by rw [r.keys]; exact n2) e3
  have hl1 : Le g (put g c' o2) := put_le n1
  have y := y.newF (tk := tk) (push_keeps h' (kla_obj "<lambda>" (env.qual ++ "<lambda>") params body scope clos ((mg "__name__").getD .none) c' ctv)) (size_none _) (Heap.get?_push_size _ rfl)
  have n3 := x.fresh_not (a := h'.objs.size) (Nat.le_trans hge (Nat.le_of_lt hlt))
  have hne : h'.objs.size ≠ c' := Nat.ne_of_gt hlt
  have hl2 : Le (put g c' o2) (put (put g c' o2) h'.objs.size (kla_obj "<lambda>" (env.qual ++ "<lambda>") params body scope clos ((mg "__name__").getD .none) c' ctv)) := put_le (by simp [put, hne, n3.1])
  exact h _ _ c' ctv h'.objs.size (hl1.trans hl2) ⟨o2, vs2, t2, hl2 _ _ (put_self _ _ _), e4, e5⟩ (put_self _ _ _) y
theorem c_lam {R : Result → Shared → Prop} {pm ctv : Value} {c' : Addr} {args : List Value} {binds : List (Str × Value)} (G : Gd w mg mb g) (x : St g μ s0 s) (hd : A.depth < recursionLimit) (hf : g fa = some (kla_obj name qual params body scope clos pm c' ctv)) (hR : CodeR g c' qual)
    (hbind : bindArgs (kla_fn name qual params body scope clos pm (.ref c') ctv) ⟨args, []⟩ = pure binds) (hcell : ∀ x ∈ scope.names, x.2 ≠ .cell) (hloc : ∀ x ∈ binds, scope.names.lookup x.1 = some .local)
    (h : ∀ A' L s', A'.handled = A.handled → A'.units = A.units + 3 → A'.depth = A.depth + 1 → Fm g L (fun y => binds.reverse.lookup y) μ s0 s' →
      wpAny (model prog w) A' (eval body (envX qual scope L fa (.ref c') clos)) (fun v s'' => R (.ok (.ret v)) s'') NoE s')
    (hco : scope.isCoroutine = false) (hgen : scope.isGenerator = false) (hk : scope.kind = .function) : codeAny (model prog w) A (.call (.ref fa) ⟨args, []⟩) R s := by
  refine kla_callFunE hd (x.frz _ _ hf) rfl hco hgen rfl (let ⟨o, vs, t, h1, h2, h3⟩ := hR; ⟨c', o, vs, t, rfl, x.frz _ _ h1, h2, h3⟩) ?_
  rw [hbind]
  refine wpAny_pure (wpAny_newFunctionEnv hcell hloc (fun h₁ hns hsb => ?_) hk)
  have hk₁ : ∀ b o, s.heap.get? b = some o → h₁.get? b = some o := fun b o e => hsb.extBut b o (Nat.ne_of_lt (Heap.lt_size e)) (Heap.get?_push_of_some _ e)
  refine absP fun Gx hGx => ?_
  obtain ⟨oL, eL, nL⟩ := nsO_of hns
  refine hGx ?_
  have y : St g ((s.heap.objs.size, oL) :: μ) s0 { s with heap := h₁, toks := s.toks + binds.length } := x.newM (tk := s.toks + binds.length) hk₁ (size_none _) eL
  refine ⟨G.nolimit y, ?_⟩
  show codeAny _ _ (.expr body (envX qual scope s.heap.objs.size fa (.ref c') clos)) _ _
  exact kla_codeExpr (noE (h _ s.heap.objs.size _ rfl rfl rfl ⟨oL, nL, y⟩))
end
end Mine
end
section
set_option maxRecDepth 100000
set_option autoImplicit false
namespace Mine
open PySem PySem.Spec PySem.Calls PyProof.Rows PySem.W PySem.SeqAt
inductive IsLam (g : Fz) (fa ck : Addr) : Prop
  | mk (qual : _) (params : _) (scope : _) (pm : _) (c' : _) (ctv : _) (p1 : _) (p2 : _) (p3 : _) (p4 : _) (p5 : _) (p6 : _) (p7 : _) (p8 : _) (q0 : g fa = some (kla_obj "<lambda>" qual params (.Call (.Name "three_way_cmp" p1) [.Subscript (.Name "keys" p2) (.Name "one" p3) p4, .Subscript (.Name "keys" p5) (.Name "other" p6) p7] [] p8) scope [("keys", ck)] pm c' ctv)) (q1 : CodeR g c' qual) (q2 : (∀ a b, bindArgs (kla_fn "<lambda>" qual params (.Call (.Name "three_way_cmp" p1) [.Subscript (.Name "keys" p2) (.Name "one" p3) p4, .Subscript (.Name "keys" p5) (.Name "other" p6) p7] [] p8) scope [("keys", ck)] pm (.ref c') ctv) ⟨[a, b], []⟩ = pure ([("one", a), ("other", b)] : List (Str × Value)))) (q3 : (∀ x ∈ scope.names, x.2 ≠ .cell)) (q4 : scope.names.lookup ("one" : Str) = some .local) (q5 : scope.names.lookup ("other" : Str) = some .local) (q6 : scope.names.lookup ("keys" : Str) = some .free) (q7 : scope.names.lookup ("three_way_cmp" : Str) = some .globalImplicit) (q8 : scope.isCoroutine = false) (q9 : scope.isGenerator = false) (q10 : scope.kind = .function) : IsLam g fa ck
theorem IsLam.le {g g' : Fz} {fa ck : Addr} (x : IsLam g fa ck) (k : Le g g') : IsLam g' fa ck := by
  refine absP fun Gx hGx => ?_
  obtain ⟨a, b, c, d, e, f, p1, p2, p3, p4, p5, p6, p7, p8, h1, h2, h3, h4, h5, h6, h7, h8, h9, h10, h11⟩ := x
  refine hGx ?_
  exact ⟨a, b, c, d, e, f, p1, p2, p3, p4, p5, p6, p7, p8, k _ _ h1, h2.le k, h3, h4, h5, h6, h7, h8, h9, h10, h11⟩
section
variable {prog : Program} {w : World} {M : Model} {A : Around} {E : Value → Shared → Prop} {s0 s : Shared} {env : Env} {g : Fz} {L : Addr} {m mg mb : Str → Option Value} {μ : List (Addr × Obj)} {fa ck D ta tb : Addr} {oc oD : Obj} {kvs : List (Str × Value)} {a b : Str} {t1 t2 u1 u2 u3 u4 : Tok} {i1 i2 j1 j2 : Int}
theorem lam_call {R : Result → Shared → Prop} (G : Gd w mg mb g) (x : St g μ s0 s) (hh : A.handled = none) (hd : A.depth ≤ 980) (hu : A.units ≤ 9800) (il : IsLam g fa ck) (ec : g ck = some oc) (hc : oc.data = .cell (some (.ref D))) (eD : g D = some oD) (hD : oD.IsDictOf (strKind prog w) kvs)
    (v1 : valueAt kvs a = some (.ref ta)) (v2 : valueAt kvs b = some (.ref tb)) (T1 : Tp g ta [.int i1 u1, .int i2 u2]) (T2 : Tp g tb [.int j1 u3, .int j2 u4])
    (h : ∀ s' u, St g μ s0 s' → R (.ok (.ret (.int (cmp2 i1 i2 j1 j2) u))) s') : codeAny (model prog w) A (.call (.ref fa) ⟨[.str a t1, .str b t2], []⟩) R s := by
  refine absP fun Gx hGx => ?_
  obtain ⟨qual, params, scope, pm, c', ctv, p1, p2, p3, p4, p5, p6, p7, p8, hf, hR, hbi, hcell, l1, l2, l3, l4, hco, hge, hk⟩ := il
  refine hGx ?_
  obtain ⟨o109, fd109, e109, h109⟩ : ∃ o fd, g 109 = some o ∧ o.data = .func fd := ⟨_, _, G.kin 109 _ rfl, rfl⟩
  refine c_lam G x (by have : recursionLimit = 1000 := rfl; omega) hf hR (hbi _ _) hcell (by intro y hy; simp only [List.mem_cons, List.not_mem_nil, or_false] at hy; rcases hy with rfl | rfl; exact l1; exact l2) (fun A' L s h1 h2 h3 x => ?_) hco hge hk
  have n1 : (fun y => ([("one", Value.str a t1), ("other", .str b t2)] : List (Str × Value)).reverse.lookup y) "one" = some (.str a t1) := rfl
  have n2 : (fun y => ([("one", Value.str a t1), ("other", .str b t2)] : List (Str × Value)).reverse.lookup y) "other" = some (.str b t2) := rfl
  generalize (fun y => ([("one", Value.str a t1), ("other", .str b t2)] : List (Str × Value)).reverse.lookup y) = m1 at x n1 n2
  have hk' : (envX qual scope L fa (.ref c') [("keys", ck)]).scope.kind = .function := hk
  have k1 : (envX qual scope L fa (.ref c') [("keys", ck)]).kindOf "one" = some .local := l1
  have k2 : (envX qual scope L fa (.ref c') [("keys", ck)]).kindOf "other" = some .local := l2
  have k3 : (envX qual scope L fa (.ref c') [("keys", ck)]).kindOf "keys" = some .free := l3
  have k4 : (envX qual scope L fa (.ref c') [("keys", ck)]).kindOf "three_way_cmp" = some .globalImplicit := l4
  have k5 : (envX qual scope L fa (.ref c') [("keys", ck)]).cells.lookup ("keys" : Str) = some ck := rfl
  have k6 : (envX qual scope L fa (.ref c') [("keys", ck)]).globals = mainGlobals := rfl
  have x : Fm g (envX qual scope L fa (.ref c') [("keys", ck)]).locals m1 μ s0 s := x
  generalize envX qual scope L fa (.ref c') [("keys", ck)] = env at x hk' k1 k2 k3 k4 k5 k6 ⊢
  refine wpAny_Call_NameR (r_glob G x (by rfl : nsIn (K9 w) mainGlobals "three_way_cmp" = some (some (.ref 109))) ?_ hk' k6 k4)
  refine cw_def h109 (sp_cons (Subscript_ (r_cell x k5 (.inl ec) hc (r_name x n1 (m_item x (x.get eD) hD v1 fun s x => sp_one (Subscript_ (r_cell x k5 (.inl ec) hc (r_name x n2 (m_item x (x.get eD) hD v2 fun s x => ?_) hk' k2) hk' (.inr k3)))) hk' k1) hk' (.inr k3))))
  refine ⟨x.get e109, ?_⟩
  refine absP fun Gx hGx => ?_
  obtain ⟨oL, nL, y⟩ := x
  refine hGx ?_
  exact tw_call G y T1 T2 (h1.trans hh) (by first | assumption | exact Nat.le_trans (by assumption) (by decide) | exact Nat.le_trans (Nat.le_of_eq (by assumption)) (Nat.le_trans (by assumption) (by decide)) | omega) (by first | assumption | exact Nat.le_trans (by assumption) (by decide) | exact Nat.le_trans (Nat.le_of_eq (by assumption)) (Nat.le_trans (by assumption) (by decide)) | omega) fun s' u z => h s' u z.tl
end
end Mine
end
section
set_option maxRecDepth 100000
set_option autoImplicit false
namespace Mine
open PySem PySem.Spec PySem.Calls PyProof.Rows PySem.W PySem.SeqAt
section
variable {prog : Program} {w : World} {M : Model} {A : Around} {E : Value → Shared → Prop} {s0 s : Shared} {env : Env} {g : Fz} {L : Addr} {m mg mb : Str → Option Value} {μ : List (Addr × Obj)} {fa ck D ta tb : Addr} {oc oD : Obj} {kvs : List (Str × Value)} {a b : Addr} {va vb : Str} {t1 t2 u1 u2 u3 u4 : Tok} {i1 i2 j1 j2 : Int}
  {C N p ini lt dxa dxb : Addr} {oC oN op : Obj}
theorem key_lt {Q : Bool → Shared → Prop} (G : Gd w mg mb g) (x : St g μ s0 s) (hh : A.handled = none) (hd : A.depth ≤ 970) (hu : A.units ≤ 9700) (k : IsK C N p ini lt oC oN op) (eC : g C = some oC) (eN : g N = some oN) (ep : g p = some op) (hi : IsLt g lt fa)
    (ea : g a = some (kInst C dxa (.str va t1))) (eda : g dxa = some (dictOf [] 0)) (eb : g b = some (kInst C dxb (.str vb t2))) (edb : g dxb = some (dictOf [] 0))
    (il : IsLam g fa ck) (ec : g ck = some oc) (hc : oc.data = .cell (some (.ref D))) (eD : g D = some oD) (hD : oD.IsDictOf (strKind prog w) kvs)
    (v1 : valueAt kvs va = some (.ref ta)) (v2 : valueAt kvs vb = some (.ref tb)) (T1 : Tp g ta [.int i1 u1, .int i2 u2]) (T2 : Tp g tb [.int j1 u3, .int j2 u4])
    (h : ∀ g' s', Le g g' → St g' μ s0 s' → Q (decide (cmp2 i1 i2 j1 j2 < 0)) s') : wpAny (model prog w) A (keyLt' oneType' (.ref a) (.ref b)) Q E s := by
  have hcl : cLine = 9900 := rfl
  have hrl : recursionLimit = 1000 := rfl
  rw [keyLt'_oneType, oneLt'_eq]
  simp only [if_true]
  refine wpAny_bind (wpAny_cRoomFor (by first | assumption | exact Nat.le_trans (by assumption) (by decide) | exact Nat.le_trans (Nat.le_of_eq (by assumption)) (Nat.le_trans (by assumption) (by decide)) | omega) ?_)
  have I : InstAt s.heap a (kInst C dxa (.str va t1)) C (some (dictOf [] 0)) := ⟨x.frz _ _ ea, rfl, rfl, x.frz _ _ eda⟩
  have eC' := x.frz _ _ eC
  have eN' := x.frz _ _ eN
  have hfn : isFn (Hf s.heap) (.ref lt) = true := by
    refine absP fun Gx hGx => ?_
    obtain ⟨fd, p1, p2, p3, p4, p5, p6, p7, p8, p9, z, ce, oce, hf, _⟩ := hi.fn
    refine hGx ?_
    exact isFn_Hf hf x.frz
  obtain ⟨oF, fdF, eF, hF⟩ : ∃ o fd, g fa = some o ∧ o.data = .func fd := by
    refine absP fun Gx hGx => ?_
    obtain ⟨qual, params, scope, pm, c', ctv, p1, p2, p3, p4, p5, p6, p7, p8, hf, _⟩ := il
    refine hGx ?_
    exact ⟨_, _, hf, rfl⟩
  refine wpAny_bind (ifBound_K (Hf_in s.heap) I (k.find eC' eN' k.lt) hfn (wpAny_call ?_))
  refine k_lt (fdf := fdF) G x ⟨hh, by omega, by omega⟩ k eC eN ep hi ea eda eb edb rfl rfl eF hF (i := cmp2 i1 i2 j1 j2) (fun A' μ' s' R' h1 h2 h3 x' hR => ?_) fun g' s' hle x' => ?_
  · exact lam_call G x' h1 (by first | assumption | exact Nat.le_trans (by assumption) (by decide) | exact Nat.le_trans (Nat.le_of_eq (by assumption)) (Nat.le_trans (by assumption) (by decide)) | omega) (by first | assumption | exact Nat.le_trans (by assumption) (by decide) | exact Nat.le_trans (Nat.le_of_eq (by assumption)) (Nat.le_trans (by assumption) (by decide)) | omega) il ec hc eD hD v1 v2 T1 T2 fun s'' u x'' => hR g s'' u (Le.refl g) x''
  · show wpAny (model prog w) A (do return ← truthOfDropped (.bool (decide (cmp2 i1 i2 j1 j2 < 0)))) Q E s'
    exact wpAny_truthy_bool (h g' s' hle x')
end
end Mine
end
section
set_option maxRecDepth 100000
set_option autoImplicit false
namespace Mine
open PySem PySem.W PyProof.Rows
theorem gd (p : Array Nat) (i : Nat) : p.getD i 0 = (p[i]?).getD 0 := by simp
noncomputable def Dom (n : Nat) (p : Array Nat) : Prop := p.size = n ∧ p.toList.Perm (List.range n)
noncomputable def Up (lt : Nat → Nat → Bool) (p : Array Nat) (m : Nat) : Prop := ∀ i j, i < j → j < m → lt (p.getD i 0) (p.getD j 0) = true
noncomputable def Dn (lt : Nat → Nat → Bool) (p : Array Nat) (m : Nat) : Prop := ∀ i j, i < j → j < m → lt (p.getD j 0) (p.getD i 0) = true
theorem Dom.at {n : Nat} {p : Array Nat} (d : Dom n p) {i : Nat} (hi : i < n) : p.getD i 0 < n := by
  have hs : i < p.size := by rw [d.1]; exact hi
  have e : p.getD i 0 = p[i] := by simp [Array.getD, hs]
  rw [e]
  have : p[i] ∈ p.toList := by simp
  exact List.mem_range.mp (d.2.mem_iff.mp this)
theorem Dom.ne {n : Nat} {p : Array Nat} (d : Dom n p) {i j : Nat} (hi : i < n) (hj : j < n) (h : i ≠ j) : p.getD i 0 ≠ p.getD j 0 := by
  have hs : i < p.size := by rw [d.1]; exact hi
  have ht : j < p.size := by rw [d.1]; exact hj
  have e : p.getD i 0 = p[i] := by simp [Array.getD, hs]
  have e2 : p.getD j 0 = p[j] := by simp [Array.getD, ht]
  rw [e, e2]
  intro q
  have nd : p.toList.Nodup := d.2.nodup_iff.mpr List.nodup_range
  have := (List.getElem_inj (xs := p.toList) (h₀ := by simpa using hs) (h₁ := by simpa using ht) nd).mp (by simpa using q)
  exact h this
theorem Dom.perm {n : Nat} {p q : Array Nat} (d : Dom n p) (h : q.Perm p) : Dom n q :=
  ⟨by rw [h.size_eq]; exact d.1, (Array.perm_iff_toList_perm.mp h).trans d.2⟩
section
variable {n : Nat} {lt : Nat → Nat → Bool} {I : Shared → Prop} {cmp : Nat → Nat → (Bool → Shared → Prop) → Shared → Prop}
structure Ord (n : Nat) (lt : Nat → Nat → Bool) : Prop where
  tr : ∀ a b c, lt a b = true → lt b c = true → lt a c = true
  tot : ∀ a b, a < n → b < n → a ≠ b → lt a b = true ∨ lt b a = true
noncomputable def Asks (n : Nat) (lt : Nat → Nat → Bool) (I : Shared → Prop) (cmp : Nat → Nat → (Bool → Shared → Prop) → Shared → Prop) : Prop :=
  ∀ i j (C : Bool → Shared → Prop) s, i < n → j < n → I s → (∀ s', I s' → C (lt i j) s') → cmp i j C s
theorem Up.succ (o : Ord n lt) {p : Array Nat} {m : Nat} (h : Up lt p m) (hm : 1 ≤ m) (e : lt (p.getD (m - 1) 0) (p.getD m 0) = true) : Up lt p (m + 1) := fun i j hij hj => by
  by_cases q : j = m
  · subst q
    by_cases q2 : i = j - 1
    · subst q2; exact e
    · exact o.tr _ _ _ (h i (j - 1) (by first | assumption | exact Nat.le_trans (by assumption) (by decide) | exact Nat.le_trans (Nat.le_of_eq (by assumption)) (Nat.le_trans (by assumption) (by decide)) | omega) (by first | assumption | exact Nat.le_trans (by assumption) (by decide) | exact Nat.le_trans (Nat.le_of_eq (by assumption)) (Nat.le_trans (by assumption) (by decide)) | omega)) e
  · exact h i j hij (by first | assumption | exact Nat.le_trans (by assumption) (by decide) | exact Nat.le_trans (Nat.le_of_eq (by assumption)) (Nat.le_trans (by assumption) (by decide)) | omega)
theorem Dn.succ (o : Ord n lt) {p : Array Nat} {m : Nat} (h : Dn lt p m) (hm : 1 ≤ m) (e : lt (p.getD m 0) (p.getD (m - 1) 0) = true) : Dn lt p (m + 1) := fun i j hij hj => by
  by_cases q : j = m
  · subst q
    by_cases q2 : i = j - 1
    · subst q2; exact e
    · exact o.tr _ _ _ e (h i (j - 1) (by first | assumption | exact Nat.le_trans (by assumption) (by decide) | exact Nat.le_trans (Nat.le_of_eq (by assumption)) (Nat.le_trans (by assumption) (by decide)) | omega) (by first | assumption | exact Nat.le_trans (by assumption) (by decide) | exact Nat.le_trans (Nat.le_of_eq (by assumption)) (Nat.le_trans (by assumption) (by decide)) | omega))
  · exact h i j hij (by first | assumption | exact Nat.le_trans (by assumption) (by decide) | exact Nat.le_trans (Nat.le_of_eq (by assumption)) (Nat.le_trans (by assumption) (by decide)) | omega)
theorem asc_wp (o : Ord n lt) (hc : Asks n lt I cmp) {p : Array Nat} (d : Dom n p) {Q : Nat → Shared → Prop} : ∀ (f m : Nat) (s : Shared), 1 ≤ m → m + f = n → Up lt p m → I s →
    (∀ m' s', I s' → m ≤ m' → m' ≤ n → Up lt p m' → (m' = n ∨ lt (p.getD m' 0) (p.getD (m' - 1) 0) = true) → Q m' s') → (kas_asc p f m).kasWp cmp Q s
  | 0, m, s, h1, h2, hu, hI, h => h m s hI (Nat.le_refl _) (by first | assumption | exact Nat.le_trans (by assumption) (by decide) | exact Nat.le_trans (Nat.le_of_eq (by assumption)) (Nat.le_trans (by assumption) (by decide)) | omega) hu (.inl (by first | assumption | exact Nat.le_trans (by assumption) (by decide) | exact Nat.le_trans (Nat.le_of_eq (by assumption)) (Nat.le_trans (by assumption) (by decide)) | omega))
  | f + 1, m, s, h1, h2, hu, hI, h => by
    refine hc _ _ _ _ (d.at (by first | assumption | exact Nat.le_trans (by assumption) (by decide) | exact Nat.le_trans (Nat.le_of_eq (by assumption)) (Nat.le_trans (by assumption) (by decide)) | omega)) (d.at (by first | assumption | exact Nat.le_trans (by assumption) (by decide) | exact Nat.le_trans (Nat.le_of_eq (by assumption)) (Nat.le_trans (by assumption) (by decide)) | omega)) hI fun s' hI' => ?_
    cases e : lt (p.getD m 0) (p.getD (m - 1) 0) with
    | true => exact h m s' hI' (Nat.le_refl _) (by first | assumption | exact Nat.le_trans (by assumption) (by decide) | exact Nat.le_trans (Nat.le_of_eq (by assumption)) (Nat.le_trans (by assumption) (by decide)) | omega) hu (.inr e)
    | false =>
      have e2 : lt (p.getD (m - 1) 0) (p.getD m 0) = true := (o.tot _ _ (d.at (by first | assumption | exact Nat.le_trans (by assumption) (by decide) | exact Nat.le_trans (Nat.le_of_eq (by assumption)) (Nat.le_trans (by assumption) (by decide)) | omega)) (d.at (by first | assumption | exact Nat.le_trans (by assumption) (by decide) | exact Nat.le_trans (Nat.le_of_eq (by assumption)) (Nat.le_trans (by assumption) (by decide)) | omega)) (d.ne (by first | assumption | exact Nat.le_trans (by assumption) (by decide) | exact Nat.le_trans (Nat.le_of_eq (by assumption)) (Nat.le_trans (by assumption) (by decide)) | omega) (by first | assumption | exact Nat.le_trans (by assumption) (by decide) | exact Nat.le_trans (Nat.le_of_eq (by assumption)) (Nat.le_trans (by assumption) (by decide)) | omega) (by first | assumption | exact Nat.le_trans (by assumption) (by decide) | exact Nat.le_trans (Nat.le_of_eq (by assumption)) (Nat.le_trans (by assumption) (by decide)) | omega))).elim id fun q => by rw [e] at q; cases q
      exact asc_wp o hc d f (m + 1) s' (by first | assumption | exact Nat.le_trans (by assumption) (by decide) | exact Nat.le_trans (Nat.le_of_eq (by assumption)) (Nat.le_trans (by assumption) (by decide)) | omega) (by first | assumption | exact Nat.le_trans (by assumption) (by decide) | exact Nat.le_trans (Nat.le_of_eq (by assumption)) (Nat.le_trans (by assumption) (by decide)) | omega) (hu.succ o h1 e2) hI' fun m' s'' a b => h m' s'' a (by first | assumption | exact Nat.le_trans (by assumption) (by decide) | exact Nat.le_trans (Nat.le_of_eq (by assumption)) (Nat.le_trans (by assumption) (by decide)) | omega)
theorem desc_wp (o : Ord n lt) (hc : Asks n lt I cmp) {p : Array Nat} (d : Dom n p) {Q : Array Nat × Nat × Nat → Shared → Prop} : ∀ (f m : Nat) (s : Shared), 1 ≤ m → m + f = n → Dn lt p m → I s →
    (∀ m' s', I s' → m ≤ m' → m' ≤ n → Dn lt p m' → Q (p, m', 0) s') → (kas_desc f p m 0).kasWp cmp Q s
  | 0, m, s, h1, h2, hu, hI, h => h m s hI (Nat.le_refl _) (by first | assumption | exact Nat.le_trans (by assumption) (by decide) | exact Nat.le_trans (Nat.le_of_eq (by assumption)) (Nat.le_trans (by assumption) (by decide)) | omega) hu
  | f + 1, m, s, h1, h2, hu, hI, h => by
    refine hc _ _ _ _ (d.at (by first | assumption | exact Nat.le_trans (by assumption) (by decide) | exact Nat.le_trans (Nat.le_of_eq (by assumption)) (Nat.le_trans (by assumption) (by decide)) | omega)) (d.at (by first | assumption | exact Nat.le_trans (by assumption) (by decide) | exact Nat.le_trans (Nat.le_of_eq (by assumption)) (Nat.le_trans (by assumption) (by decide)) | omega)) hI fun s' hI' => ?_
    cases e : lt (p.getD m 0) (p.getD (m - 1) 0) with
    | true => exact desc_wp o hc d f (m + 1) s' (by first | assumption | exact Nat.le_trans (by assumption) (by decide) | exact Nat.le_trans (Nat.le_of_eq (by assumption)) (Nat.le_trans (by assumption) (by decide)) | omega) (by first | assumption | exact Nat.le_trans (by assumption) (by decide) | exact Nat.le_trans (Nat.le_of_eq (by assumption)) (Nat.le_trans (by assumption) (by decide)) | omega) (hu.succ o h1 e) hI' fun m' s'' a b => h m' s'' a (by first | assumption | exact Nat.le_trans (by assumption) (by decide) | exact Nat.le_trans (Nat.le_of_eq (by assumption)) (Nat.le_trans (by assumption) (by decide)) | omega)
    | false =>
      have e2 : lt (p.getD (m - 1) 0) (p.getD m 0) = true := (o.tot _ _ (d.at (by first | assumption | exact Nat.le_trans (by assumption) (by decide) | exact Nat.le_trans (Nat.le_of_eq (by assumption)) (Nat.le_trans (by assumption) (by decide)) | omega)) (d.at (by first | assumption | exact Nat.le_trans (by assumption) (by decide) | exact Nat.le_trans (Nat.le_of_eq (by assumption)) (Nat.le_trans (by assumption) (by decide)) | omega)) (d.ne (by first | assumption | exact Nat.le_trans (by assumption) (by decide) | exact Nat.le_trans (Nat.le_of_eq (by assumption)) (Nat.le_trans (by assumption) (by decide)) | omega) (by first | assumption | exact Nat.le_trans (by assumption) (by decide) | exact Nat.le_trans (Nat.le_of_eq (by assumption)) (Nat.le_trans (by assumption) (by decide)) | omega) (by first | assumption | exact Nat.le_trans (by assumption) (by decide) | exact Nat.le_trans (Nat.le_of_eq (by assumption)) (Nat.le_trans (by assumption) (by decide)) | omega))).elim id fun q => by rw [e] at q; cases q
      refine hc _ _ _ _ (d.at (by first | assumption | exact Nat.le_trans (by assumption) (by decide) | exact Nat.le_trans (Nat.le_of_eq (by assumption)) (Nat.le_trans (by assumption) (by decide)) | omega)) (d.at (by first | assumption | exact Nat.le_trans (by assumption) (by decide) | exact Nat.le_trans (Nat.le_of_eq (by assumption)) (Nat.le_trans (by assumption) (by decide)) | omega)) hI' fun s'' hI'' => ?_
      rw [e2]
      exact h m s'' hI'' (Nat.le_refl _) (by first | assumption | exact Nat.le_trans (by assumption) (by decide) | exact Nat.le_trans (Nat.le_of_eq (by assumption)) (Nat.le_trans (by assumption) (by decide)) | omega) hu
theorem rev_at {p : Array Nat} {m : Nat} (d : Dom n p) (hm : m ≤ n) (k : Nat) : (kas_rev p 0 m).getD k 0 = if k < m then p.getD (m - 1 - k) 0 else p.getD k 0 := by
  rw [gd]
  unfold kas_rev
  rw [getElem?_mirror_all (by rw [d.1]; exact hm)]
  by_cases h : k < m
  · rw [if_pos ⟨Nat.zero_le _, h⟩, if_pos h, gd]; congr 2; omega
  · rw [if_neg (fun q => h q.2), if_neg h, gd]
theorem tail_wp (o : Ord n lt) (hc : Asks n lt I cmp) {p : Array Nat} (d : Dom n p) {Q : Nat × Array Nat → Shared → Prop} {m : Nat} {s : Shared} (h1 : 1 ≤ m) (hm : m ≤ n) (hu : Dn lt p m) (hI : I s)
    (h : ∀ m' p' s', I s' → 1 ≤ m' → m' ≤ n → Dom n p' → Up lt p' m' → Q (m', p') s') : (kas_tail3 m n p).kasWp cmp Q s := by
  unfold kas_tail3
  rw [KasT.kasWp_bind]
  have d' : Dom n (kas_rev p 0 m) := d.perm (mirror_perm _ _ _ _)
  have hu' : Up lt (kas_rev p 0 m) m := fun i j hij hj => by
    rw [rev_at d hm, rev_at d hm, if_pos (by first | assumption | exact Nat.le_trans (by assumption) (by decide) | exact Nat.le_trans (Nat.le_of_eq (by assumption)) (Nat.le_trans (by assumption) (by decide)) | omega), if_pos hj]
    exact hu _ _ (by first | assumption | exact Nat.le_trans (by assumption) (by decide) | exact Nat.le_trans (Nat.le_of_eq (by assumption)) (Nat.le_trans (by assumption) (by decide)) | omega) (by first | assumption | exact Nat.le_trans (by assumption) (by decide) | exact Nat.le_trans (Nat.le_of_eq (by assumption)) (Nat.le_trans (by assumption) (by decide)) | omega)
  exact asc_wp o hc d' (n - m) m s h1 (by first | assumption | exact Nat.le_trans (by assumption) (by decide) | exact Nat.le_trans (Nat.le_of_eq (by assumption)) (Nat.le_trans (by assumption) (by decide)) | omega) hu' hI fun m' s' a b c e _ => h m' _ s' a (by first | assumption | exact Nat.le_trans (by assumption) (by decide) | exact Nat.le_trans (Nat.le_of_eq (by assumption)) (Nat.le_trans (by assumption) (by decide)) | omega) c d' e
theorem count_wp (o : Ord n lt) (hc : Asks n lt I cmp) {p : Array Nat} (d : Dom n p) (hn : 1 ≤ n) {Q : Nat × Array Nat → Shared → Prop} {s : Shared} (hI : I s)
    (h : ∀ m' p' s', I s' → 1 ≤ m' → m' ≤ n → Dom n p' → Up lt p' m' → Q (m', p') s') : (kas_count n p).kasWp cmp Q s := by
  unfold kas_count
  rw [KasT.kasWp_bind]
  refine asc_wp o hc d (n - 1) 1 s (Nat.le_refl _) (by first | assumption | exact Nat.le_trans (by assumption) (by decide) | exact Nat.le_trans (Nat.le_of_eq (by assumption)) (Nat.le_trans (by assumption) (by decide)) | omega) (fun i j _ _ => by omega) hI fun m s' hI' h1 hm hu hlast => ?_
  by_cases e : m = n
  · rw [if_pos (by simpa using e)]
    exact h m p s' hI' h1 hm d hu
  · rw [if_neg (by simpa using e)]
    by_cases e1 : m > 1
    · rw [if_pos e1]
      refine hc _ _ _ _ (d.at (by first | assumption | exact Nat.le_trans (by assumption) (by decide) | exact Nat.le_trans (Nat.le_of_eq (by assumption)) (Nat.le_trans (by assumption) (by decide)) | omega)) (d.at (by first | assumption | exact Nat.le_trans (by assumption) (by decide) | exact Nat.le_trans (Nat.le_of_eq (by assumption)) (Nat.le_trans (by assumption) (by decide)) | omega)) hI' fun s'' hI'' => ?_
      rw [hu 0 (m - 1) (by first | assumption | exact Nat.le_trans (by assumption) (by decide) | exact Nat.le_trans (Nat.le_of_eq (by assumption)) (Nat.le_trans (by assumption) (by decide)) | omega) (by first | assumption | exact Nat.le_trans (by assumption) (by decide) | exact Nat.le_trans (Nat.le_of_eq (by assumption)) (Nat.le_trans (by assumption) (by decide)) | omega)]
      exact h m p s'' hI'' h1 hm d hu
    · rw [if_neg e1]
      have hm1 : m = 1 := by omega
      subst hm1
      have hl := hlast.resolve_left (fun q => e q)
      unfold kas_descPart
      rw [KasT.kasWp_bind]
      refine desc_wp o hc d (n - (1 + 1)) (1 + 1) s' (by first | assumption | exact Nat.le_trans (by assumption) (by decide) | exact Nat.le_trans (Nat.le_of_eq (by assumption)) (Nat.le_trans (by assumption) (by decide)) | omega) (by first | assumption | exact Nat.le_trans (by assumption) (by decide) | exact Nat.le_trans (Nat.le_of_eq (by assumption)) (Nat.le_trans (by assumption) (by decide)) | omega) (Dn.succ o (fun i j _ _ => by omega) (Nat.le_refl _) hl) hI' fun m' s'' hI'' a b c => ?_
      show KasT.kasWp cmp (kas_tail3 m' n p) Q s''
      have a' : 1 ≤ m' := by omega
      exact tail_wp o hc d a' b c hI'' h
theorem place_wp (o : Ord n lt) (hc : Asks n lt I cmp) {p : Array Nat} (d : Dom n p) {k : Nat} (hk : k < n) (hu : Up lt p k) {Q : Nat → Shared → Prop} : ∀ (f l r : Nat) (s : Shared), l ≤ r → r ≤ k → r - l ≤ f → (∀ i, i < l → lt (p.getD i 0) (p.getD k 0) = true) → (∀ i, r ≤ i → i < k → lt (p.getD k 0) (p.getD i 0) = true) → I s →
    (∀ l' s', I s' → l' ≤ k → (∀ i, i < l' → lt (p.getD i 0) (p.getD k 0) = true) → (∀ i, l' ≤ i → i < k → lt (p.getD k 0) (p.getD i 0) = true) → Q l' s') → (kas_place p k f l r).kasWp cmp Q s
  | 0, l, r, s, h1, h2, h3, ha, hb, hI, h => by
    have : l = r := by omega
    subst this
    exact h l s hI h2 ha hb
  | f + 1, l, r, s, h1, h2, h3, ha, hb, hI, h => by
    show KasT.kasWp cmp (if l ≥ r then .ret l else .ask (p.getD k 0) (p.getD ((l + r) / 2) 0) fun c => if c = true then kas_place p k f l ((l + r) / 2) else kas_place p k f ((l + r) / 2 + 1) r) Q s
    by_cases e : l ≥ r
    · rw [if_pos e]
      have : l = r := by omega
      subst this
      exact h l s hI h2 ha hb
    · rw [if_neg e]
      have hm1 : l ≤ (l + r) / 2 := by omega
      have hm2 : (l + r) / 2 < r := by omega
      generalize (l + r) / 2 = mid at hm1 hm2
      refine hc _ _ _ _ (d.at (by first | assumption | exact Nat.le_trans (by assumption) (by decide) | exact Nat.le_trans (Nat.le_of_eq (by assumption)) (Nat.le_trans (by assumption) (by decide)) | omega)) (d.at (by first | assumption | exact Nat.le_trans (by assumption) (by decide) | exact Nat.le_trans (Nat.le_of_eq (by assumption)) (Nat.le_trans (by assumption) (by decide)) | omega)) hI fun s' hI' => ?_
      cases e2 : lt (p.getD k 0) (p.getD mid 0) with
      | true =>
        show (kas_place p k f l mid).kasWp cmp Q s'
        refine place_wp o hc d hk hu f l mid s' hm1 (by first | assumption | exact Nat.le_trans (by assumption) (by decide) | exact Nat.le_trans (Nat.le_of_eq (by assumption)) (Nat.le_trans (by assumption) (by decide)) | omega) (by first | assumption | exact Nat.le_trans (by assumption) (by decide) | exact Nat.le_trans (Nat.le_of_eq (by assumption)) (Nat.le_trans (by assumption) (by decide)) | omega) ha (fun i hi hik => ?_) hI' h
        by_cases q : i = mid
        · subst q; exact e2
        · exact o.tr _ _ _ e2 (hu mid i (by first | assumption | exact Nat.le_trans (by assumption) (by decide) | exact Nat.le_trans (Nat.le_of_eq (by assumption)) (Nat.le_trans (by assumption) (by decide)) | omega) hik)
      | false =>
        show (kas_place p k f (mid + 1) r).kasWp cmp Q s'
        have e3 : lt (p.getD mid 0) (p.getD k 0) = true := (o.tot _ _ (d.at (by first | assumption | exact Nat.le_trans (by assumption) (by decide) | exact Nat.le_trans (Nat.le_of_eq (by assumption)) (Nat.le_trans (by assumption) (by decide)) | omega)) (d.at (by first | assumption | exact Nat.le_trans (by assumption) (by decide) | exact Nat.le_trans (Nat.le_of_eq (by assumption)) (Nat.le_trans (by assumption) (by decide)) | omega)) (d.ne (by first | assumption | exact Nat.le_trans (by assumption) (by decide) | exact Nat.le_trans (Nat.le_of_eq (by assumption)) (Nat.le_trans (by assumption) (by decide)) | omega) (by first | assumption | exact Nat.le_trans (by assumption) (by decide) | exact Nat.le_trans (Nat.le_of_eq (by assumption)) (Nat.le_trans (by assumption) (by decide)) | omega) (by first | assumption | exact Nat.le_trans (by assumption) (by decide) | exact Nat.le_trans (Nat.le_of_eq (by assumption)) (Nat.le_trans (by assumption) (by decide)) | omega))).elim id fun q => by rw [e2] at q; cases q
        refine place_wp o hc d hk hu f (mid + 1) r s' (by first | assumption | exact Nat.le_trans (by assumption) (by decide) | exact Nat.le_trans (Nat.le_of_eq (by assumption)) (Nat.le_trans (by assumption) (by decide)) | omega) h2 (by first | assumption | exact Nat.le_trans (by assumption) (by decide) | exact Nat.le_trans (Nat.le_of_eq (by assumption)) (Nat.le_trans (by assumption) (by decide)) | omega) (fun i hi => ?_) hb hI' h
        by_cases q : i = mid
        · subst q; exact e3
        · exact o.tr _ _ _ (hu i mid (by first | assumption | exact Nat.le_trans (by assumption) (by decide) | exact Nat.le_trans (Nat.le_of_eq (by assumption)) (Nat.le_trans (by assumption) (by decide)) | omega) (by first | assumption | exact Nat.le_trans (by assumption) (by decide) | exact Nat.le_trans (Nat.le_of_eq (by assumption)) (Nat.le_trans (by assumption) (by decide)) | omega)) e3
theorem bub_at {p : Array Nat} {k l : Nat} (d : Dom n p) (hk : k < n) (hl : l ≤ k) (x : Nat) : (bubble p k (k - l)).getD x 0 = if x = l then p.getD k 0 else if l < x ∧ x ≤ k then p.getD (x - 1) 0 else p.getD x 0 := by
  rw [gd, getElem?_bubble (by rw [d.1]; exact hk) _ (by first | assumption | exact Nat.le_trans (by assumption) (by decide) | exact Nat.le_trans (Nat.le_of_eq (by assumption)) (Nat.le_trans (by assumption) (by decide)) | omega)]
  have : k - (k - l) = l := by omega
  rw [this]
  repeat' split
  all_goals rw [gd]
theorem bin_wp (o : Ord n lt) (hc : Asks n lt I cmp) {Q : Array Nat → Shared → Prop} : ∀ (f k : Nat) (p : Array Nat) (s : Shared), Dom n p → k + f = n → Up lt p k → I s → (∀ p' s', I s' → Dom n p' → Up lt p' n → Q p' s') → (kas_bin f p k).kasWp cmp Q s
  | 0, k, p, s, d, h1, hu, hI, h => h p s hI d (by have : k = n := by omega
                                                   rw [← this]; exact hu)
  | f + 1, k, p, s, d, h1, hu, hI, h => by
    show KasT.kasWp cmp ((kas_place p k k 0 k).bind fun l => kas_bin f (bubble p k (k - l)) (k + 1)) Q s
    rw [KasT.kasWp_bind]
    refine place_wp o hc d (by first | assumption | exact Nat.le_trans (by assumption) (by decide) | exact Nat.le_trans (Nat.le_of_eq (by assumption)) (Nat.le_trans (by assumption) (by decide)) | omega) hu k 0 k s (Nat.zero_le _) (Nat.le_refl _) (by first | assumption | exact Nat.le_trans (by assumption) (by decide) | exact Nat.le_trans (Nat.le_of_eq (by assumption)) (Nat.le_trans (by assumption) (by decide)) | omega) (fun i hi => by omega) (fun i hi hik => by omega) hI fun l s' hI' hl ha hb => ?_
    refine bin_wp o hc f (k + 1) _ s' (d.perm (bubble_perm _ _ _)) (by first | assumption | exact Nat.le_trans (by assumption) (by decide) | exact Nat.le_trans (Nat.le_of_eq (by assumption)) (Nat.le_trans (by assumption) (by decide)) | omega) (fun i j hij hj => ?_) hI' h
    rw [bub_at d (by first | assumption | exact Nat.le_trans (by assumption) (by decide) | exact Nat.le_trans (Nat.le_of_eq (by assumption)) (Nat.le_trans (by assumption) (by decide)) | omega) hl, bub_at d (by first | assumption | exact Nat.le_trans (by assumption) (by decide) | exact Nat.le_trans (Nat.le_of_eq (by assumption)) (Nat.le_trans (by assumption) (by decide)) | omega) hl]
    by_cases q1 : i = l
    · rw [if_pos q1, if_neg (by first | assumption | exact Nat.le_trans (by assumption) (by decide) | exact Nat.le_trans (Nat.le_of_eq (by assumption)) (Nat.le_trans (by assumption) (by decide)) | omega), if_pos (by first | assumption | exact Nat.le_trans (by assumption) (by decide) | exact Nat.le_trans (Nat.le_of_eq (by assumption)) (Nat.le_trans (by assumption) (by decide)) | omega)]
      exact hb _ (by first | assumption | exact Nat.le_trans (by assumption) (by decide) | exact Nat.le_trans (Nat.le_of_eq (by assumption)) (Nat.le_trans (by assumption) (by decide)) | omega) (by first | assumption | exact Nat.le_trans (by assumption) (by decide) | exact Nat.le_trans (Nat.le_of_eq (by assumption)) (Nat.le_trans (by assumption) (by decide)) | omega)
    · rw [if_neg q1]
      by_cases q2 : j = l
      · rw [if_pos q2, if_neg (by first | assumption | exact Nat.le_trans (by assumption) (by decide) | exact Nat.le_trans (Nat.le_of_eq (by assumption)) (Nat.le_trans (by assumption) (by decide)) | omega)]
        exact ha _ (by first | assumption | exact Nat.le_trans (by assumption) (by decide) | exact Nat.le_trans (Nat.le_of_eq (by assumption)) (Nat.le_trans (by assumption) (by decide)) | omega)
      · rw [if_neg q2]
        by_cases q3 : l < i
        · rw [if_pos (by first | assumption | exact Nat.le_trans (by assumption) (by decide) | exact Nat.le_trans (Nat.le_of_eq (by assumption)) (Nat.le_trans (by assumption) (by decide)) | omega), if_pos (by first | assumption | exact Nat.le_trans (by assumption) (by decide) | exact Nat.le_trans (Nat.le_of_eq (by assumption)) (Nat.le_trans (by assumption) (by decide)) | omega)]
          exact hu _ _ (by first | assumption | exact Nat.le_trans (by assumption) (by decide) | exact Nat.le_trans (Nat.le_of_eq (by assumption)) (Nat.le_trans (by assumption) (by decide)) | omega) (by first | assumption | exact Nat.le_trans (by assumption) (by decide) | exact Nat.le_trans (Nat.le_of_eq (by assumption)) (Nat.le_trans (by assumption) (by decide)) | omega)
        · rw [if_neg (by first | assumption | exact Nat.le_trans (by assumption) (by decide) | exact Nat.le_trans (Nat.le_of_eq (by assumption)) (Nat.le_trans (by assumption) (by decide)) | omega)]
          by_cases q4 : l < j
          · rw [if_pos (by first | assumption | exact Nat.le_trans (by assumption) (by decide) | exact Nat.le_trans (Nat.le_of_eq (by assumption)) (Nat.le_trans (by assumption) (by decide)) | omega)]
            exact hu _ _ (by first | assumption | exact Nat.le_trans (by assumption) (by decide) | exact Nat.le_trans (Nat.le_of_eq (by assumption)) (Nat.le_trans (by assumption) (by decide)) | omega) (by first | assumption | exact Nat.le_trans (by assumption) (by decide) | exact Nat.le_trans (Nat.le_of_eq (by assumption)) (Nat.le_trans (by assumption) (by decide)) | omega)
          · rw [if_neg (by first | assumption | exact Nat.le_trans (by assumption) (by decide) | exact Nat.le_trans (Nat.le_of_eq (by assumption)) (Nat.le_trans (by assumption) (by decide)) | omega)]
            exact hu _ _ hij (by first | assumption | exact Nat.le_trans (by assumption) (by decide) | exact Nat.le_trans (Nat.le_of_eq (by assumption)) (Nat.le_trans (by assumption) (by decide)) | omega)
theorem sort_wp (o : Ord n lt) (hc : Asks n lt I cmp) (hn : 1 ≤ n) {Q : Array Nat → Shared → Prop} {s : Shared} (hI : I s) (h : ∀ p' s', I s' → Dom n p' → Up lt p' n → Q p' s') : (kas_sort n).kasWp cmp Q s := by
  unfold kas_sort
  rw [KasT.kasWp_bind]
  refine count_wp o hc (p := List.toArray (List.range n)) ⟨by simp, by simp⟩ hn hI fun m p s' hI' h1 hm d hu => ?_
  by_cases e : m < n
  · rw [if_pos e]
    have : max m 1 = m := by omega
    show KasT.kasWp cmp (kas_bin (n - max m 1) p (max m 1)) Q s'
    rw [this]
    exact bin_wp o hc (n - m) m p s' d (by first | assumption | exact Nat.le_trans (by assumption) (by decide) | exact Nat.le_trans (Nat.le_of_eq (by assumption)) (Nat.le_trans (by assumption) (by decide)) | omega) hu hI' h
  · rw [if_neg e]
    have : m = n := by omega
    subst this
    exact h p s' hI' d hu
end
end Mine
end
section
set_option maxRecDepth 100000
set_option autoImplicit false
namespace Mine
open PySem PySem.Spec PySem.Calls PyProof.Rows PySem.W PySem.SeqAt
noncomputable def firstGood (all : List (List Str)) : List (List Str) → Option Str
  | [] => none
  | s :: ss => if all.any (fun t => t.tail.contains (s.headD Str.empty)) then firstGood all ss else some (s.headD Str.empty)
noncomputable def stepC (c : Str) (r : List Str) : List Str := if r.head? == some c then r.tail else r
noncomputable def full (r : List Str) : Bool := !r.isEmpty
noncomputable def c3F : Nat → List (List Str) → List Str → Option (List Str)
  | 0, _, _ => none
  | n + 1, rows, acc =>
    if (rows.filter full).isEmpty then some acc
    else match firstGood (rows.filter full) (rows.filter full) with
      | none => none
      | some c => c3F n (rows.map (stepC c)) (acc ++ [c])
noncomputable def total (rows : List (List Str)) : Nat := (rows.map List.length).sum
inductive Mr : List (Addr × Obj) → List Addr → (Addr → List Str) → Prop
  | nil {ct : Addr → List Str} : Mr [] [] ct
  | cons {c : Addr} {vs : List Value} {k : Nat} {ρ : List (Addr × Obj)} {cs : List Addr} {ct : Addr → List Str} : Are vs (ct c) → Mr ρ cs ct → Mr ((c, listOf vs.toArray k) :: ρ) (c :: cs) ct
section
variable {ρ : List (Addr × Obj)} {cs : List Addr} {ct ct' : Addr → List Str} {c : Addr}
theorem Mr.mem (h : Mr ρ cs ct) (hc : c ∈ cs) : ∃ vs k, (c, listOf vs.toArray k) ∈ ρ ∧ Are vs (ct c) := by
  induction h with
  | nil => cases hc
  | cons a _ ih =>
    rcases List.mem_cons.mp hc with rfl | hc
    · exact ⟨_, _, .head _, a⟩
    · obtain ⟨vs, k, e, r⟩ := ih hc; exact ⟨vs, k, .tail _ e, r⟩
theorem Mr.keys (h : Mr ρ cs ct) : ρ.map (·.1) = cs := by
  induction h with
  | nil => rfl
  | cons _ _ ih => rw [List.map_cons, ih]
theorem Mr.congr (h : Mr ρ cs ct) (e : ∀ c ∈ cs, ct' c = ct c) : Mr ρ cs ct' := by
  induction h with
  | nil => exact .nil
  | cons a _ ih => exact .cons (by rw [e _ (.head _)]; exact a) (ih fun c hc => e c (.tail _ hc))
theorem Mr.upd (h : Mr ρ cs ct) (hn : cs.Nodup) (hc : c ∈ cs) : ∃ vs k f, Rep c (listOf vs.toArray k) ρ f ∧ Are vs (ct c) ∧ ∀ ws k' ys, Are ws ys → Mr (f (listOf ws.toArray k')) cs (fun b => if b = c then ys else ct b) := by
  induction h with
  | nil => cases hc
  | @cons d vs k ρ cs ct a r ih =>
    rw [List.nodup_cons] at hn
    by_cases e : d = c
    · subst e
      refine ⟨_, _, _, .head, a, fun ws k' ys hw => .cons (by simpa using hw) (r.congr fun b hb => ?_)⟩
      rw [if_neg (fun q => hn.1 (by rw [← q]; exact hb))]
    · have hc' : c ∈ cs := (List.mem_cons.mp hc).resolve_left fun q => e q.symm
      refine absP fun Gx hGx => ?_
      obtain ⟨vs', k', f, h1, h2, h3⟩ := ih hn.2 hc'
      refine hGx ?_
      exact ⟨vs', k', _, .tail h1, h2, fun ws k2 ys hw => .cons (by simpa [e] using a) (h3 ws k2 ys hw)⟩
end
section
variable {prog : Program} {w : World} {A : Around} {E : Value → Shared → Prop} {s0 s : Shared} {env : Env} {g : Fz} {L : Addr} {m mg mb : Str → Option Value} {μ : List (Addr × Obj)} {pos : Pos} {n : Str} {v : Value}
theorem stepC_nil (c : Str) : stepC c [] = [] := rfl
theorem full_step {c : Str} {r : List Str} (h : full (stepC c r) = true) : full r = true := by
  cases r with
  | nil => exact h
  | cons _ _ => rfl
theorem stepC_length (c : Str) (r : List Str) : (stepC c r).length ≤ r.length := by
  unfold stepC; split
  · rw [List.length_tail]; omega
  · exact Nat.le_refl _
theorem total_step (c : Str) (rows : List (List Str)) : total (rows.map (stepC c)) ≤ total rows := by
  induction rows with
  | nil => exact Nat.le_refl _
  | cons r rs ih => have := stepC_length c r; simp only [total, List.map_cons, List.sum_cons] at ih ⊢; omega
theorem total_less {c : Str} {rows : List (List Str)} (h : ∃ r ∈ rows, r.head? = some c) : total (rows.map (stepC c)) < total rows := by
  induction rows with
  | nil => obtain ⟨_, hr, _⟩ := h; cases hr
  | cons r rs ih =>
    have h1 := stepC_length c r
    have h2 := total_step c rs
    refine absP fun Gx hGx => ?_
    obtain ⟨r', hr', hh⟩ := h
    refine hGx ?_
    rcases List.mem_cons.mp hr' with rfl | hr'
    · have : (stepC c r').length < r'.length := by
        unfold stepC; rw [hh, if_pos (by simp)]
        cases r' with
        | nil => cases hh
        | cons _ _ => simp
      simp only [total, List.map_cons, List.sum_cons] at h2 ⊢; omega
    · have := ih ⟨r', hr', hh⟩
      simp only [total, List.map_cons, List.sum_cons] at this ⊢; omega
theorem firstGood_head {all rows : List (List Str)} {c : Str} (hf : ∀ r ∈ rows, full r = true) (h : firstGood all rows = some c) : ∃ r ∈ rows, r.head? = some c := by
  induction rows with
  | nil => cases h
  | cons r rs ih =>
    unfold firstGood at h
    split at h
    · refine absP fun Gx hGx => ?_
      obtain ⟨r', hr', hh⟩ := ih (fun r hr => hf r (.tail _ hr)) h
      refine hGx ?_
      exact ⟨r', .tail _ hr', hh⟩
    · refine ⟨r, .head _, ?_⟩
      have := hf r (.head _)
      cases r with
      | nil => cases this
      | cons _ _ => simpa using h
noncomputable def C3Inv (g : Fz) (s0 : Shared) (L1 D L : Addr) (oL : Obj) (μ : List (Addr × Obj)) (cs : List Addr) (n : Nat) (res : Option (List Str)) (k : Nat) (s : Shared) : Prop :=
  ∃ (g' : Fz) (m' : Str → Option Value) (ρ : List (Addr × Obj)) (ct' : Addr → List Str) (acc : List Str) (ws : List Value) (kk : Nat) (qs : List Addr) (sq : Addr),
    Le g g' ∧ m' "sequences" = some (.ref sq) ∧ m' "result" = some (.ref D) ∧ Fm g' L1 m' ((D, listOf ws.toArray kk) :: (ρ ++ (L, oL) :: μ)) s0 s ∧ Are ws acc ∧ acc.length + k ≤ n ∧ Mr ρ cs ct' ∧ Lst g' sq (qs.map Value.ref) ∧
      (qs.filter fun c => full (ct' c)) = (cs.filter fun c => full (ct' c)) ∧ qs.Sublist cs ∧ (∀ c ∈ cs, (ct' c).length ≤ 100) ∧ total (cs.map ct') < k ∧ c3F k (cs.map ct') acc = res
set_option maxHeartbeats 800000 in
theorem c3_call (G : Gd w mg mb g) (hA : Ok A) {env0 : Env} {oL : Obj} (hfr : A.frames = some [env0]) (hf0 : env0.frame = some L) (hk0 : env0.scope.kind = .function) (hoL : ∀ vs, oL.data ≠ .fields vs)
    {ρ : List (Addr × Obj)} (x : St g (ρ ++ (L, oL) :: μ) s0 s) {a : Addr} {cs : List Addr} {ct : Addr → List Str} (hr : Mr ρ cs ct) (hl : Lst g a (cs.map Value.ref)) (hz : cs.length ≤ 100) (hz2 : ∀ c ∈ cs, (ct c).length ≤ 100)
    {n : Nat} (hn : total (cs.map ct) < n) (hn2 : n ≤ 100000) {R : Result → Shared → Prop}
    (hok : ∀ g' s' r told, Le g g' → St g' ((L, oL) :: μ) s0 s' → Sl g' r told → c3F n (cs.map ct) [] = some told → R (.ok (.ret (.ref r))) s')
    (herr : ∀ g' s' e t base sl, Le g g' → St g' ((L, { oL with slots := sl }) :: μ) s0 s' → c3F n (cs.map ct) [] = none → Heap.FlyingW base [env0] e (.type "RuntimeError") (.ref t) s'.heap → (∀ b o, g' b = some o → base.get? b = some o) → (∀ p ∈ μ, base.get? p.1 = some p.2) → R (.error (.ref e)) s') :
    codeAny (model prog w) A (.call (.ref 33) ⟨[.ref a], []⟩) R s := by
  refine codeAny_call_def (binds := [("sequences", .ref a)]) (by have := hA.depth; omega) (x.frz _ _ (G.kin _ _ rfl)) rfl (G.nolimit x) (codeRec_of (G.in x) rfl) rfl (.of_eq rfl) (by decide) (by intro x hx; simp only [List.mem_cons, List.not_mem_nil, or_false] at hx; subst hx; rfl) (fun h₀ hns keep => ?_) rfl rfl rfl
  refine absP fun Gx hGx => ?_
  obtain ⟨oC, eC, nC⟩ := nsO_of hns
  refine hGx ?_
  have x : Fm g s.heap.objs.size _ (ρ ++ (L, oL) :: μ) s0 { s with heap := h₀, toks := s.toks + ([("sequences", Value.ref a)] : List (Str × Value)).length } := ⟨oC, nC, x.newM keep (size_none _) eC⟩
  have hh := hA.hand
  generalize s.heap.objs.size = L1 at x ⊢
  generalize { s with heap := h₀, toks := s.toks + ([("sequences", Value.ref a)] : List (Str × Value)).length } = s1 at x ⊢
  refine wpAny_execs_cons (wpAny_Assign_Name (r_nil x fun D s x => ?_))
  refine r_store x rfl rfl fun s x => ?_
  refine wpAny_execs_cons (wpAny_While (codeAny_whileLoop (C3Inv g s0 L1 D L oL μ cs n (c3F n (cs.map ct) [])) ?_ n ?_))
  · rintro k s hJp0
    refine absP fun Gx hGx => ?_
    obtain ⟨g', m', ρ, ct', acc, ws, kk, qs, sq, hle, hm1, hm2, x, hws, hak, hr, hq, hqf, hqs, hcz, htk, hc3⟩ := hJp0
    refine hGx ?_
    refine wpAny_isTrue_value (wpAny_Constant_bool (wpAny_truthy_bool ?_))
    rw [if_pos rfl]
    refine wpAny_passesOwn PassesOwn.leaving ?_
    have hql : qs.length ≤ 100 := Nat.le_trans hqs.length_le hz
    have hcn : cs.Nodup := by
      have h1 := x.st.nd
      rw [List.map_cons, List.nodup_cons, List.map_append, List.nodup_append] at h1
      rw [← hr.keys]; exact h1.2.1
    refine wpAny_execs_cons (r_compSet (s0 := s0) rfl rfl (by decide) rfl (by decide) rfl rfl (r_name x hm1 (src_list hh x hq fun it s S => ?_)))
    refine ⟨_, _, _, _, _, S, by rw [line24, List.length_map]; omega, fun i ys g3 μ3 => μ3 = (D, W.listOf ws.toArray kk) :: (ρ ++ (L, oL) :: μ) ∧ ys = ((qs.take i).filter fun c => full (ct' c)).map Value.ref, ⟨rfl, rfl⟩, ?_, ?_⟩
    · rintro C2 D2 I i v ys g3 μ3 mC oI oL2 nD s hi hv hle3 Qx1 Qy1 hX1 hY1 ⟨rfl, hys⟩ hoL2 x
      rw [List.getElem?_map] at hv
      refine absP fun Gx hGx => ?_
      obtain ⟨c, hci, rfl⟩ := Option.map_eq_some_iff.mp hv
      refine hGx ?_
      have hcc : c ∈ cs := hqs.subset (List.mem_of_getElem? hci)
      refine absP fun Gx hGx => ?_
      obtain ⟨vs, k1, hmem, hvs⟩ := hr.mem hcc
      refine hGx ?_
      have hvz : vs.length ≤ 100 := by rw [hvs.length]; exact hcz c hcc
      refine r_assign x fun s x => ?_
      have hk : upd mC "s" (.ref c) "s" = some (.ref c) := upd_eq _ _ _
      generalize upd mC "s" (.ref c) = m1 at x hk
      refine wpAny_tests_one (wpAny_isTrue_value (r_name x hk (m_truthy x (isListM x.st (.tail _ (.tail _ (.tail _ (.tail _ (List.mem_append_left _ hmem)))))) (by first | exact Nat.le_trans (by assumption) (by decide) | exact Nat.le_trans (Nat.le_of_eq (by assumption)) (Nat.le_trans (by assumption) (by decide)) | (rw [line24]; omega)) fun s x => ?_)))
      have hfull : (!vs.isEmpty) = full (ct' c) := by rw [hvs.isEmpty]; rfl
      have hstep : (qs.take (i + 1)).filter (fun c => full (ct' c)) = (qs.take i).filter (fun c => full (ct' c)) ++ if full (ct' c) then [c] else [] := by
        rw [List.take_add_one, hci, List.filter_append]
        congr 1
        cases hb : full (ct' c) <;> simp [hb]
      rw [hfull]
      cases hb : full (ct' c) with
      | false =>
        rw [if_neg (by simp)]
        refine hY1 _ ?_
        refine ⟨g3, m1, _, Le.refl _, ⟨rfl, ?_⟩, x⟩
        rw [hstep, hb, hys]; simp
      | true =>
        rw [if_pos rfl]
        refine r_name x hk ?_
        refine hX1 _ _ ?_
        refine ⟨g3, m1, _, Le.refl _, ⟨rfl, ?_⟩, x⟩
        rw [hstep, hb, hys]; simp
    · rintro S2 ys g3 μ3 nD s hle3 ⟨rfl, rfl⟩ x
      rw [List.length_map, List.take_length] at x
      obtain ⟨g4, hle4, e4, x⟩ := x.frz1
      have hn1 : upd m' "sequences" (.ref S2) "sequences" = some (.ref S2) := upd_eq _ _ _
      have hn2 : upd m' "sequences" (.ref S2) "result" = some (.ref D) := hm2
      generalize upd m' "sequences" (.ref S2) = m2 at x hn1 hn2
      replace hq : Lst g4 S2 ((qs.filter fun c => full (ct' c)).map Value.ref) := ⟨nD, e4⟩
      have hle5 := hle.trans (hle3.trans hle4)
      have hrs : (cs.map ct').filter full = (qs.filter fun c => full (ct' c)).map ct' := by rw [hqf, List.filter_map]; rfl
      have hqs2 : (qs.filter fun c => full (ct' c)).Sublist cs := List.filter_sublist.trans hqs
      have hqn : ∀ c ∈ (qs.filter fun c => full (ct' c)), full (ct' c) = true := fun c hc => (List.mem_filter.mp hc).2
      have hqf2 : (qs.filter fun c => full (ct' c)) = (cs.filter fun c => full (ct' c)) := hqf
      have hqcs : ∀ c ∈ cs, full (ct' c) = true → c ∈ (qs.filter fun c => full (ct' c)) := fun c hc hf => by rw [hqf2]; exact List.mem_filter.mpr ⟨hc, hf⟩
      generalize (qs.filter fun c => full (ct' c)) = ps at hq hrs hqs2 hqn hqf2 hqcs
      clear hqf hqs hql e4
      have hpl : ps.length ≤ 100 := Nat.le_trans hqs2.length_le hz
      obtain ⟨k, rfl⟩ : ∃ k', k = k' + 1 := ⟨k - 1, by omega⟩
      rw [c3F, hrs] at hc3
      refine wpAny_execs_cons (wpAny_If (PyProof.Rows.isTrue_not (wpAny_isTrue_value (r_name x hn1 (m_truthy x (hq.isList x.st) (by rw [line24, List.length_map]; omega) fun s x => ?_)))))
      have hemp : ((ps.map Value.ref).isEmpty) = (ps.map ct').isEmpty := by cases ps <;> rfl
      rw [Bool.not_not, hemp]
      cases hb : (ps.map ct').isEmpty with
      | true =>
        rw [if_pos rfl]
        rw [hb, if_pos rfl] at hc3
        refine wpAny_execs_cons (wpAny_Return_some (r_name x hn2 ?_))
        obtain ⟨g6, hle6, e6, x⟩ := x.frz1
        exact hok g6 _ D acc (hle5.trans hle6) (x.st.sub (List.sublist_append_right _ _)) ⟨ws, ⟨kk, e6⟩, hws⟩ hc3.symm
      | false =>
        rw [if_neg (by simp)]
        rw [hb, if_neg (by simp)] at hc3
        refine wpAny_execs_nil ?_
        have hcl : ∀ c ∈ ps, ∃ vs k1, (c, listOf vs.toArray k1) ∈ ρ ∧ Are vs (ct' c) ∧ vs.length ≤ 100 ∧ ∃ y t, vs[0]? = some (.str y t) ∧ (ct' c).headD Str.empty = y ∧ (ct' c).head? = some y := by
          intro c hc
          refine absP fun Gx hGx => ?_
          obtain ⟨vs, k1, hmem, hvs⟩ := hr.mem (hqs2.subset hc)
          refine hGx ?_
          have hf := hqn c hc
          refine ⟨vs, k1, hmem, hvs, by rw [hvs.length]; exact hcz c (hqs2.subset hc), ?_⟩
          cases hcc : ct' c with
          | nil => rw [hcc] at hf; cases hf
          | cons y ys =>
            rw [hcc] at hvs
            obtain ⟨t, ht⟩ := hvs.at (i := 0) rfl
            exact ⟨y, t, ht, rfl, rfl⟩
        refine wpAny_execs_cons (noE (wpAny_mono (Q := fun f s => f = .next ∧ ∃ (g6 : Fz) (m6 : Str → Option Value) (v : Value), Le g4 g6 ∧ m6 "sequences" = some (.ref S2) ∧ m6 "result" = some (.ref D) ∧ m6 "candidate" = some v ∧
            (match firstGood (ps.map ct') (ps.map ct') with | none => v = .none | some c => ∃ t, v = .str c t) ∧ Fm g6 L1 m6 ((D, W.listOf ws.toArray kk) :: (ρ ++ (L, oL) :: μ)) s0 s) ?_ (fun f s hf => ?_) fun _ _ q => q))
        · refine r_for (s0 := s0) (r_name x hn1 (src_list hh x hq fun it s S => ?_))
          refine ⟨_, _, _, _, _, _, S, fun i g6 m6 μ6 => m6 "sequences" = some (.ref S2) ∧ m6 "result" = some (.ref D) ∧ μ6 = (D, W.listOf ws.toArray kk) :: (ρ ++ (L, oL) :: μ) ∧ (0 < i → m6 "candidate" = some .none) ∧ firstGood (ps.map ct') (ps.map ct') = firstGood (ps.map ct') ((ps.drop i).map ct'), ⟨hn1, hn2, rfl, fun q => absurd q (Nat.lt_irrefl _), rfl⟩, ?_, ?_⟩
          · rintro i v I g6 m6 μ6 oI s hi hv hle6 Qx2 hN2 hC2 hB2 hR2 hJp0
            refine absP fun Gx hGx => ?_
            obtain ⟨hp1, hp2, rfl, hp3, hp4⟩ := hJp0
            refine hGx ?_
            rintro x
            rw [List.getElem?_map] at hv
            refine absP fun Gx hGx => ?_
            obtain ⟨c, hci, rfl⟩ := Option.map_eq_some_iff.mp hv
            refine hGx ?_
            refine absP fun Gx hGx => ?_
            obtain ⟨vs, k1, hmem, hvs, hvz, y, ty, hv0, hy1, hy2⟩ := hcl c (List.mem_of_getElem? hci)
            refine hGx ?_
            have hdr : ps.drop i = c :: ps.drop (i + 1) := by
              obtain ⟨hlt, he⟩ := List.getElem?_eq_some_iff.mp hci
              rw [List.drop_eq_getElem_cons hlt, he]
            rw [hdr, List.map_cons, firstGood, hy1] at hp4
            refine r_assign x fun s x => ?_
            have hq1 : upd m6 "s1" (.ref c) "sequences" = some (.ref S2) := hp1
            have hq2 : upd m6 "s1" (.ref c) "result" = some (.ref D) := hp2
            have hq3 : upd m6 "s1" (.ref c) "s1" = some (.ref c) := upd_eq _ _ _
            generalize upd m6 "s1" (.ref c) = m7 at x hq1 hq2 hq3
            refine wpAny_execs_cons (wpAny_Assign_Name (Subscript_ (r_name x hq3 (r_int x fun s u x _ => item_at (j := 0) (isListM x.st (.tail _ (.tail _ (List.mem_append_left _ hmem)))) rfl (by decide) hv0 ?_))))
            refine r_store x rfl rfl fun s x => ?_
            have hr1 : upd m7 "candidate" (.str y ty) "sequences" = some (.ref S2) := hq1
            have hr2 : upd m7 "candidate" (.str y ty) "result" = some (.ref D) := hq2
            have hr3 : upd m7 "candidate" (.str y ty) "candidate" = some (.str y ty) := upd_eq _ _ _
            generalize upd m7 "candidate" (.str y ty) = m8 at x hr1 hr2 hr3
            refine wpAny_execs_cons (r_for (s0 := s0) (r_name x hr1 (src_list hh x (hq.le hle6) fun it s S => ?_)))
            refine ⟨_, _, _, _, _, _, S, fun j g9 m9 μ9 => m9 "sequences" = some (.ref S2) ∧ m9 "result" = some (.ref D) ∧ m9 "candidate" = some (.str y ty) ∧ μ9 = (I, oI) :: (D, W.listOf ws.toArray kk) :: (ρ ++ (L, oL) :: μ) ∧ ((ps.take j).map ct').any (fun t => t.tail.contains y) = false, ⟨hr1, hr2, hr3, rfl, rfl⟩, ?_, ?_⟩
            · rintro j v I2 g9 m9 μ9 oI2 s hj hv2 hle9 Qx3 hN3 hC3 hB3 hR3 hJp0
              refine absP fun Gx hGx => ?_
              obtain ⟨hr1, hr2, hr3, rfl, hany⟩ := hJp0
              refine hGx ?_
              rintro x
              rw [List.getElem?_map] at hv2
              refine absP fun Gx hGx => ?_
              obtain ⟨d, hdi, rfl⟩ := Option.map_eq_some_iff.mp hv2
              refine hGx ?_
              refine absP fun Gx hGx => ?_
              obtain ⟨us, k2, hmem2, hus, huz, _⟩ := hcl d (List.mem_of_getElem? hdi)
              refine hGx ?_
              refine r_assign x fun s x => ?_
              have hs1 : upd m9 "s2" (.ref d) "sequences" = some (.ref S2) := hr1
              have hs2 : upd m9 "s2" (.ref d) "result" = some (.ref D) := hr2
              have hs3 : upd m9 "s2" (.ref d) "candidate" = some (.str y ty) := hr3
              have hs4 : upd m9 "s2" (.ref d) "s2" = some (.ref d) := upd_eq _ _ _
              generalize upd m9 "s2" (.ref d) = m10 at x hs1 hs2 hs3 hs4
              refine wpAny_execs_cons (wpAny_If (wpAny_isTrue_Compare1 (r_name x hs3 ?_)))
              have hcut : slicePick us.toArray (some ((1 : Nat) : Int)) none none = (us.drop 1).toArray := slicePick_from' _ _
              refine r_slice (s0 := s0) (r_name x hs4 (wpAny_evalPart_some (r_int x fun s u x _ => wpAny_evalPart_none ?_)))
              refine ⟨_, _, _, _, _, _, _, _, _, rfl, x, isListM x.st (.tail _ (.tail _ (.tail _ (List.mem_append_left _ hmem2)))), by first | exact Nat.le_trans (by assumption) (by decide) | exact Nat.le_trans (Nat.le_of_eq (by assumption)) (Nat.le_trans (by assumption) (by decide)) | (rw [line24]; omega), .int _ _, .none, hcut, fun g11 c11 s hle11 hc11 x => ?_⟩
              refine in_strs (hc11.isList x.st) (hus.drop 1) (wpAny_truthy_bool ?_)
              rw [List.drop_one]
              cases hcn : (ct' d).tail.contains y with
              | true =>
                rw [if_pos rfl]
                refine wpAny_execs_cons (wpAny_Assign_Name (wpAny_Constant_none (r_store x rfl rfl fun s x => ?_)))
                refine wpAny_execs_cons (wpAny_Break ?_)
                refine hB3 _ (wpAny_execs_nil (hN2 _ ⟨g11, upd m10 "candidate" .none, _, hle9.trans hle11, ⟨hs1, hs2, rfl, fun _ => upd_eq _ _ _, ?_⟩, x.tl⟩))
                rw [hp4, if_pos]
                rw [List.any_eq_true]
                exact ⟨ct' d, List.mem_map_of_mem (List.mem_of_getElem? hdi), hcn⟩
              | false =>
                rw [if_neg (by simp)]
                refine wpAny_execs_nil (wpAny_execs_nil (hN3 _ ?_))
                refine ⟨g11, m10, _, hle11, ⟨hs1, hs2, hs3, rfl, ?_⟩, x⟩
                rw [List.take_add_one, hdi, List.map_append, List.any_append, hany]
                simpa using hcn
            · rintro g9 m9 μ9 s hle9 hJp0
              refine absP fun Gx hGx => ?_
              obtain ⟨hr1, hr2, hr3, rfl, hany⟩ := hJp0
              refine hGx ?_
              rintro x
              rw [List.length_map, List.take_length] at hany
              refine wpAny_execs_cons (wpAny_Break ?_)
              refine hB2 _ ?_
              refine ⟨rfl, g9, m9, _, hle6.trans hle9, hr1, hr2, hr3, ?_, x.tl⟩
              rw [hp4, hany]
              exact ⟨ty, rfl⟩
          · rintro g6 m6 μ6 s hle6 hJp0
            refine absP fun Gx hGx => ?_
            obtain ⟨hp1, hp2, rfl, hp3, hp4⟩ := hJp0
            refine hGx ?_
            rintro x
            refine wpAny_execs_nil ⟨rfl, g6, m6, .none, hle6, hp1, hp2, hp3 ?_, ?_, x⟩
            · rw [List.length_map]
              cases ps with
              | nil => cases hb
              | cons _ _ => simp
            · rw [List.length_map, List.drop_length] at hp4
              rw [hp4]; rfl
        · refine absP fun Gx hGx => ?_
          obtain ⟨rfl, g6, m6, v, hle6, hp1, hp2, hp3, hv, x⟩ := hf
          refine hGx ?_
          have hle7 := hle5.trans hle6
          cases hfg : firstGood (ps.map ct') (ps.map ct') with
          | none =>
            rw [hfg] at hv hc3
            dsimp only at hv hc3
            subst hv
            refine wpAny_execs_cons (wpAny_If (wpAny_isTrue_Compare1 (r_name x hp3 (wpAny_Constant_none (is_none_none (wpAny_truthy_bool ?_))))))
            rw [if_pos rfl]
            refine wpAny_execs_cons (Raise_madeB PySem.F.excCall_RuntimeError PySem.F.excRaise_RuntimeError hA.hand (r_bi (G.le hle7) x rfl PyProof.Rows.Boot.«RuntimeError» ⟨rfl, ?_⟩))
            refine sp_one (r_str x fun s t x _ => ⟨by rw [line24]; simp, fun h' e hx => ?_⟩)
            obtain ⟨g8, hle8, e8, x⟩ := x.frz1
            refine absP fun Gx hGx => ?_
            obtain ⟨oC, nC, x⟩ := x
            refine hGx ?_
            have x : Fm g8 L1 m6 ((L, oL) :: μ) s0 _ := ⟨oC, nC, x.sub (List.Sublist.cons_cons _ (List.sublist_append_right _ _))⟩
            show wpAny (model prog w) (A.deeper _) (leaving _ (.ref e)) _ _ _
            refine leave_err hfr rfl rfl hk0 hf0 hoL x hx.of fun s'' t base sl x1 x2 x3 x4 => ?_
            exact herr g8 s'' e t base sl (hle7.trans hle8) x1 hc3.symm x2 x3 x4
          | some c0 =>
            rw [hfg] at hv hc3
            dsimp only at hv hc3
            obtain ⟨tc, rfl⟩ := hv
            refine wpAny_execs_cons (wpAny_If (wpAny_isTrue_Compare1 (r_name x hp3 (wpAny_Constant_none (is_none_ne (by intro q; cases q) (wpAny_truthy_bool ?_))))))
            rw [if_neg (by simp)]
            refine wpAny_execs_nil ?_
            refine wpAny_execs_cons (wpAny_Expr_any (wpAny_Call_append rfl rfl rfl rfl (r_name x hp2 ⟨D, _, rfl, plainM x (.head _), ?_⟩)))
            refine r_name x hp3 (m_append x .head (by rw [line24, hws.length]; omega) fun s kk2 x => ?_)
            have hpn : ps.Nodup := hcn.sublist hqs2
            refine wpAny_execs_cons (r_for (s0 := s0) (r_name x hp1 (src_list hh x (hq.le hle6) fun it s S => ?_)))
            refine ⟨_, _, _, _, _, _, S, fun i g8 m8 μ8 => m8 "sequences" = some (.ref S2) ∧ m8 "result" = some (.ref D) ∧ m8 "candidate" = some (.str c0 tc) ∧ ∃ ρ8, μ8 = (D, W.listOf (ws ++ [Value.str c0 tc]).toArray kk2) :: (ρ8 ++ (L, oL) :: μ) ∧ Mr ρ8 cs (fun c => if c ∈ ps.take i then stepC c0 (ct' c) else ct' c), ⟨hp1, hp2, hp3, ρ, rfl, ?_⟩, ?_, ?_⟩
            · exact hr.congr fun c _ => by simp
            · rintro i v I g8 m8 μ8 oI s hi hv hle8 Qx4 hN4 hC4 hB4 hR4 hJp0
              refine absP fun Gx hGx => ?_
              obtain ⟨hp1, hp2, hp3, ρ8, rfl, hr8⟩ := hJp0
              refine hGx ?_
              rintro x
              rw [List.getElem?_map] at hv
              refine absP fun Gx hGx => ?_
              obtain ⟨c, hci, rfl⟩ := Option.map_eq_some_iff.mp hv
              refine hGx ?_
              have hcp : c ∈ ps := List.mem_of_getElem? hci
              have hcc : c ∈ cs := hqs2.subset hcp
              have hnt : c ∉ ps.take i := by
                intro hm
                refine absP fun Gx hGx => ?_
                obtain ⟨j, hj, hjc⟩ := List.getElem_of_mem hm
                refine hGx ?_
                rw [List.length_take] at hj
                rw [List.getElem_take] at hjc
                obtain ⟨hlt, he⟩ := List.getElem?_eq_some_iff.mp hci
                have := (List.getElem_inj hpn).mp (hjc.trans he.symm)
                omega
              have hta : ps.take (i + 1) = ps.take i ++ [c] := by rw [List.take_add_one, hci]; rfl
              refine absP fun Gx hGx => ?_
              obtain ⟨vs, k1, f, hrep, hvs, hup⟩ := hr8.upd hcn hcc
              refine hGx ?_
              rw [if_neg hnt] at hvs
              have hvz : vs.length ≤ 100 := by rw [hvs.length]; exact hcz c hcc
              obtain ⟨y, hy⟩ : ∃ y, (ct' c).head? = some y := by
                have := hqn c hcp
                cases hcx : ct' c with
                | nil => rw [hcx] at this; cases this
                | cons y _ => exact ⟨y, rfl⟩
              have hy0 : (ct' c)[0]? = some y := by cases hcx : ct' c <;> rw [hcx] at hy <;> simpa using hy
              obtain ⟨ty, hv0⟩ := hvs.at hy0
              have hvne : vs ≠ [] := by intro q; rw [q] at hv0; cases hv0
              refine r_assign x fun s x => ?_
              have hq1 : upd m8 "seq" (.ref c) "sequences" = some (.ref S2) := hp1
              have hq2 : upd m8 "seq" (.ref c) "result" = some (.ref D) := hp2
              have hq3 : upd m8 "seq" (.ref c) "candidate" = some (.str c0 tc) := hp3
              have hq4 : upd m8 "seq" (.ref c) "seq" = some (.ref c) := upd_eq _ _ _
              generalize upd m8 "seq" (.ref c) = m9 at x hq1 hq2 hq3 hq4
              refine wpAny_execs_cons (wpAny_If (wpAny_isTrue_Compare1 (Subscript_ (r_name x hq4 (r_int x fun s u x _ => item_at (j := 0) (isListM x.st (.tail _ (.tail _ (List.mem_append_left _ hrep.mem)))) rfl (by decide) hv0 ?_)))))
              refine r_name x hq3 (PySem.EqBoolInt.of_rc (RcAt.str_str _ _ _ _) (wpAny_truthy_bool ?_))
              cases hyc : y == c0 with
              | true =>
                rw [if_pos rfl]
                refine wpAny_execs_cons (wpAny_Delete (wpAny_deleteEach_cons (wpAny_delete_Subscript (r_name x hq4 (r_int x fun s u x _ => ?_)))))
                refine m_del0 x (.tail (.tail (.left hrep))) hvne (by first | exact Nat.le_trans (by assumption) (by decide) | exact Nat.le_trans (Nat.le_of_eq (by assumption)) (Nat.le_trans (by assumption) (by decide)) | (rw [line24]; omega)) fun s k3 x => ?_
                refine wpAny_deleteEach_nil (wpAny_execs_nil (wpAny_execs_nil (hN4 _ ?_)))
                refine ⟨g8, m9, _, Le.refl _, ⟨hq1, hq2, hq3, _, rfl, ?_⟩, x⟩
                have hvt : Are vs.tail (ct' c).tail := by rw [← List.drop_one, ← List.drop_one]; exact hvs.drop 1
                refine (hup _ k3 _ hvt).congr fun b _ => ?_
                rw [hta]
                by_cases hbc : b = c
                · subst hbc
                  rw [if_pos (by simp), if_pos rfl]
                  unfold stepC
                  rw [hy, if_pos (by simpa using hyc)]
                · rw [if_neg hbc]
                  simp [hbc]
              | false =>
                rw [if_neg (by simp)]
                refine wpAny_execs_nil (wpAny_execs_nil (hN4 _ ?_))
                refine ⟨g8, m9, _, Le.refl _, ⟨hq1, hq2, hq3, ρ8, rfl, ?_⟩, x⟩
                refine hr8.congr fun b _ => ?_
                rw [hta]
                by_cases hbc : b = c
                · subst hbc
                  rw [if_pos (by simp), if_neg hnt]
                  unfold stepC
                  rw [hy, if_neg (by simpa using hyc)]
                · simp [hbc]
            · rintro g8 m8 μ8 s hle8 hJp0
              refine absP fun Gx hGx => ?_
              obtain ⟨hp1, hp2, hp3, ρ8, rfl, hr8⟩ := hJp0
              refine hGx ?_
              rintro x
              refine wpAny_execs_nil (wpAny_execs_nil ⟨k, Nat.lt_succ_self _, g8, m8, ρ8, fun c => stepC c0 (ct' c), acc ++ [c0], _, kk2, ps, S2, hle7.trans hle8, hp1, hp2, x, hws.append (.one c0 tc), ?_, ?_, hq.le (hle6.trans hle8), ?_, hqs2, ?_, ?_, ?_⟩)
              · rw [List.length_append, List.length_singleton]; omega
              · rw [List.length_map, List.take_length] at hr8
                refine hr8.congr fun c hc => ?_
                by_cases hcp : c ∈ ps
                · rw [if_pos hcp]
                · rw [if_neg hcp]
                  have hf : full (ct' c) = false := by
                    cases hf : full (ct' c) with
                    | false => rfl
                    | true => exact absurd (hqcs c hc hf) hcp
                  cases hcx : ct' c with
                  | nil => rfl
                  | cons _ _ => rw [hcx] at hf; cases hf
              · rw [hqf2, List.filter_filter]
                refine List.filter_congr fun c _ => ?_
                cases hf : full (stepC c0 (ct' c)) with
                | false => simp
                | true => simp [full_step hf]
              · intro c hc
                exact Nat.le_trans (stepC_length _ _) (hcz c hc)
              · have hlt : total ((cs.map ct').map (stepC c0)) < total (cs.map ct') := by
                  obtain ⟨r, hr1, hr2⟩ := firstGood_head (fun r hr => by
                    refine absP fun Gx hGx => ?_
                    obtain ⟨c, hc, rfl⟩ := List.mem_map.mp hr
                    refine hGx ?_
                    exact hqn c hc) hfg
                  refine absP fun Gx hGx => ?_
                  obtain ⟨c, hc, rfl⟩ := List.mem_map.mp hr1
                  refine hGx ?_
                  exact total_less ⟨ct' c, List.mem_map_of_mem (hqs2.subset hc), hr2⟩
                rw [List.map_map] at hlt
                have : (stepC c0 ∘ ct') = fun c => stepC c0 (ct' c) := rfl
                rw [this] at hlt
                omega
              · rw [List.map_map] at hc3
                exact hc3
  · exact ⟨g, _, ρ, ct, [], [], 0, cs, a, Le.refl _, rfl, rfl, x, rfl, by simp, hr, hl, rfl, List.Sublist.refl _, hz2, hn, rfl⟩
end
end Mine
end
section
set_option maxRecDepth 100000
set_option autoImplicit false
namespace Mine
open PySem PySem.Spec PySem.Calls PyProof.Rows PySem.W PySem.SeqAt
noncomputable def addN (acc : List (List Str)) (q : List Str) : List (List Str) := if acc.contains q then acc else acc ++ [q]
noncomputable def downs (p : List Str) : List (List Str) := (List.range p.length).map fun i => p.take (p.length - i)
noncomputable def nodesF (paths : List (List Str)) : List (List Str) := paths.foldl (fun acc p => (downs p).foldl addN acc) []
theorem addN_length (acc : List (List Str)) (q : List Str) : (addN acc q).length ≤ acc.length + 1 := by
  unfold addN; split <;> simp
theorem addNs_length (qs acc : List (List Str)) : (qs.foldl addN acc).length ≤ acc.length + qs.length := by
  induction qs generalizing acc with
  | nil => simp
  | cons q qs ih => have h1 := ih (addN acc q); have h2 := addN_length acc q; simp only [List.foldl_cons, List.length_cons]; omega
theorem downs_length (p : List Str) : (downs p).length = p.length := by simp [downs]
theorem nodes_length (paths acc : List (List Str)) (k : Nat) (h : ∀ p ∈ paths, p.length ≤ k) : (paths.foldl (fun acc p => (downs p).foldl addN acc) acc).length ≤ acc.length + paths.length * k := by
  induction paths generalizing acc with
  | nil => simp
  | cons p ps ih =>
    have h1 := ih ((downs p).foldl addN acc) fun q hq => h q (.tail _ hq)
    have h2 := addNs_length (downs p) acc
    have h3 := h p (.head _)
    rw [downs_length] at h2
    simp only [List.foldl_cons, List.length_cons, Nat.succ_mul]
    omega
section
variable {prog : Program} {w : World} {A : Around} {s0 s : Shared} {g : Fz} {mg mb : Str → Option Value} {μ : List (Addr × Obj)}
set_option maxHeartbeats 200000 in
theorem nodes_call (G : Gd w mg mb g) (x : St g μ s0 s) (hA : Ok A) {a : Addr} {paths : List (List Str)} (hp : Ll g a paths) (hz : paths.length ≤ 100) (hz2 : ∀ p ∈ paths, p.length ≤ 100) {R : Result → Shared → Prop}
    (h : ∀ g' s' r, Le g g' → St g' μ s0 s' → Ll g' r (nodesF paths) → R (.ok (.ret (.ref r))) s') : codeAny (model prog w) A (.call (.ref 126) ⟨[.ref a], []⟩) R s := by
  refine c_fn G x rfl rfl hA rfl (by decide) (locs rfl) (fun A' L s hh hu hd x => ?_)
  refine wpAny_execs_cons (wpAny_Assign_Name (r_nil x fun D s x => ?_))
  refine r_store x rfl rfl fun s x => ?_
  refine absP fun Gx hGx => ?_
  obtain ⟨vs, hl, hr⟩ := hp
  refine hGx ?_
  refine wpAny_execs_cons (r_for (s0 := s0) (r_name x rfl (src_list hh x hl fun it s S => ?_)))
  refine ⟨_, _, _, _, _, _, S, fun i g' m' μ' => m' "nodes" = some (.ref D) ∧ ∃ ws k, μ' = (D, listOf ws.toArray k) :: μ ∧ Rows (IsRow g') ws (nodesF (paths.take i)), ⟨rfl, [], 0, rfl, .nil⟩, ?_, ?_⟩
  · rintro i v I g' m' μ' oI s hi hv hle Qx1 hN1 hC1 hB1 hR1 hJp0
    refine absP fun Gx hGx => ?_
    obtain ⟨hm, ws, k, rfl, hw⟩ := hJp0
    refine hGx ?_
    rintro x
    refine absP fun Gx hGx => ?_
    obtain ⟨p, hpi, b, rfl, pv, hpl, hpa⟩ := hr.get hv
    refine hGx ?_
    have hpm : p ∈ paths := List.mem_of_getElem? hpi
    have hpz : pv.length ≤ 100 := by rw [hpa.length]; exact hz2 p hpm
    have hsN : nodesF (paths.take (i + 1)) = (downs p).foldl addN (nodesF (paths.take i)) := by
      rw [List.take_add_one, hpi]; simp [nodesF]
    refine r_assign x fun s x => ?_
    have hm2 : upd m' "path" (.ref b) "nodes" = some (.ref D) := hm
    have hm3 : upd m' "path" (.ref b) "path" = some (.ref b) := upd_eq _ _ _
    generalize upd m' "path" (.ref b) = m1 at x hm2 hm3
    have G' := G.le hle
    refine wpAny_execs_cons (r_for (s0 := s0) ?_)
    refine wpAny_Call_NameR (r_bi G' x rfl boot_range ?_)
    refine cw_type (sp_cons (wpAny_Call_NameR (r_bi G' x rfl boot_len ?_)))
    refine cw_bi (sp_one (r_name x hm3 (m_len x ((hpl.le hle).isList x.st) (by first | exact Nat.le_trans (by assumption) (by decide) | exact Nat.le_trans (Nat.le_of_eq (by assumption)) (Nat.le_trans (by assumption) (by decide)) | (rw [line24]; omega)) fun s t x => ?_)))
    refine sp_cons (r_int x fun s u x _ => ?_)
    refine sp_one (wpAny_UnaryOp (r_int x fun s q x _ => PySem.P.neg_int ?_))
    refine m_range3 (x.tok) (by decide) (PyProof.noPylong_small (by decide)) fun s r x hrg => ?_
    have hsz : Builtin.Range.rangeSize (pv.length : Int) 0 (-1) = (pv.length : Int) := size_down
    refine src_range hh x hrg (small_down (by first | assumption | exact Nat.le_trans (by assumption) (by decide) | exact Nat.le_trans (Nat.le_of_eq (by assumption)) (Nat.le_trans (by assumption) (by decide)) | omega) (by first | assumption | exact Nat.le_trans (by assumption) (by decide) | exact Nat.le_trans (Nat.le_of_eq (by assumption)) (Nat.le_trans (by assumption) (by decide)) | omega)) hsz fun it s S => ?_
    refine ⟨_, _, _, _, _, _, S, fun j g2 m2 μ2 => m2 "nodes" = some (.ref D) ∧ m2 "path" = some (.ref b) ∧ ∃ ws k, μ2 = (I, oI) :: (D, listOf ws.toArray k) :: μ ∧ Rows (IsRow g2) ws (((downs p).take j).foldl addN (nodesF (paths.take i))), ⟨hm2, hm3, ws, k, rfl, hw⟩, ?_, ?_⟩
    · rintro j v I2 g2 m2 μ2 oI2 s hj ⟨tj, rfl⟩ hle2 Qx2 hN2 hC2 hB2 hR2 hJp0
      refine absP fun Gx hGx => ?_
      obtain ⟨hn1, hn2, ws, k, rfl, hw⟩ := hJp0
      refine hGx ?_
      rintro x
      refine r_assign x fun s x => ?_
      have hn3 : upd m2 "k" (.int ((pv.length : Int) + j * (-1)) tj) "nodes" = some (.ref D) := hn1
      have hn4 : upd m2 "k" (.int ((pv.length : Int) + j * (-1)) tj) "path" = some (.ref b) := hn2
      have hn5 : upd m2 "k" (.int ((pv.length : Int) + j * (-1)) tj) "k" = some (.int ((pv.length : Int) + j * (-1)) tj) := upd_eq _ _ _
      generalize upd m2 "k" (.int ((pv.length : Int) + j * (-1)) tj) = m3 at x hn3 hn4 hn5
      have hpl2 := hpl.le (hle.trans hle2)
      have hcut : slicePick pv.toArray none (some ((pv.length : Int) + j * (-1))) none = (pv.take (pv.length - j)).toArray := by
        have e : (pv.length : Int) + j * (-1) = ((pv.length - j : Nat) : Int) := by omega
        rw [e, slicePick_upto']
      have hq : Are (pv.take (pv.length - j)) (p.take (p.length - j)) := by rw [hpa.length]; exact hpa.take _
      have hsd : (downs p)[j]? = some (p.take (p.length - j)) := by
        have : j < p.length := by rw [← hpa.length]; exact hj
        simp [downs, this]
      have hst : ((downs p).take (j + 1)).foldl addN (nodesF (paths.take i)) = addN (((downs p).take j).foldl addN (nodesF (paths.take i))) (p.take (p.length - j)) := by
        rw [List.take_add_one, hsd]; simp
      generalize hacc : ((downs p).take j).foldl addN (nodesF (paths.take i)) = acc at hw hst
      refine wpAny_execs_cons (wpAny_If (wpAny_isTrue_Compare1 ?_ ))
      refine r_slice (s0 := s0) (r_name x hn4 (wpAny_evalPart_none (wpAny_evalPart_some (r_name x hn5 ?_))))
      refine ⟨_, _, _, _, _, _, _, _, _, rfl, x, hpl2.isList x.st, by first | exact Nat.le_trans (by assumption) (by decide) | exact Nat.le_trans (Nat.le_of_eq (by assumption)) (Nat.le_trans (by assumption) (by decide)) | (rw [line24]; omega), .none, .int _ _, hcut, fun g3 c s hle3 hc x => ?_⟩
      refine r_name x hn3 ?_
      refine notIn_rows x.st (by have := hA.units; omega) (isListM x.st (.tail _ (.tail _ (.head _)))) (hw.mono (IsRow.le hle3)) ⟨_, hc, hq⟩ ?_
      refine wpAny_truthy_bool ?_
      have hcz : pv.take (pv.length - j) = pv.take (pv.length - j) := rfl
      cases hcon : acc.contains (p.take (p.length - j)) with
      | true =>
        simp only [Bool.not_true, Bool.false_eq_true, if_false]
        refine wpAny_execs_nil (wpAny_execs_nil (hN2 _ ?_))
        refine ⟨g3, m3, _, hle3, ⟨hn3, hn4, ws, k, rfl, ?_⟩, x⟩
        rw [hst, addN, hcon]
        exact hw.mono (IsRow.le hle3)
      | false =>
        simp only [Bool.not_false, if_true]
        have hwz : ws.length ≤ sizeLine := by
          rw [hw.length, ← hacc, line24]
          have h1 := addNs_length ((downs p).take j) (nodesF (paths.take i))
          have h2 := nodes_length (paths.take i) [] 100 fun q hq => hz2 q (List.mem_of_mem_take hq)
          have h3 : (paths.take i).length ≤ 100 := by rw [List.length_take]; omega
          have h4 : ((downs p).take j).length ≤ 100 := by rw [List.length_take, downs_length, ← hpa.length]; omega
          have h5 : (paths.take i).length * 100 ≤ 100 * 100 := Nat.mul_le_mul_right _ h3
          have h6 : ([] : List (List Str)).length = 0 := rfl
          unfold nodesF at h1 ⊢
          omega
        refine wpAny_execs_cons (wpAny_Expr_any (wpAny_Call_append rfl rfl rfl rfl (r_name x hn3 ⟨D, _, rfl, plainM x (.tail _ (.tail _ (.head _))), ?_⟩)))
        refine r_slice (s0 := s0) (r_name x hn4 (wpAny_evalPart_none (wpAny_evalPart_some (r_name x hn5 ?_))))
        refine ⟨_, _, _, _, _, _, _, _, _, rfl, x, (hpl2.le hle3).isList x.st, by first | exact Nat.le_trans (by assumption) (by decide) | exact Nat.le_trans (Nat.le_of_eq (by assumption)) (Nat.le_trans (by assumption) (by decide)) | (rw [line24]; omega), .none, .int _ _, hcut, fun g4 c2 s hle4 hc2 x => ?_⟩
        refine m_append x (.tail (.tail .head)) hwz fun s k2 x => ?_
        refine wpAny_execs_nil (wpAny_execs_nil (hN2 _ ?_))
        refine ⟨g4, m3, _, hle3.trans hle4, ⟨hn3, hn4, _, k2, rfl, ?_⟩, x⟩
        rw [hst, addN, hcon]
        exact ((hw.mono (IsRow.le hle3)).mono (IsRow.le hle4)).append (.cons ⟨c2, rfl, _, hc2, hq⟩ .nil)
    · rintro g2 m2 μ2 s hle2 hJp0
      refine absP fun Gx hGx => ?_
      obtain ⟨hn1, hn2, ws, k, rfl, hw⟩ := hJp0
      refine hGx ?_
      rintro x
      refine wpAny_execs_nil (wpAny_execs_nil (hN1 _ ?_))
      refine ⟨g2, m2, _, hle2, ⟨hn1, ws, k, rfl, ?_⟩, x⟩
      rw [hsN]
      rw [hpa.length, ← downs_length, List.take_length] at hw
      exact hw
  · rintro g2 m2 μ2 s hle2 hJp0
    refine absP fun Gx hGx => ?_
    obtain ⟨hn1, ws, k, rfl, hw⟩ := hJp0
    refine hGx ?_
    rintro x
    refine wpAny_execs_nil (wpAny_execs_cons (wpAny_Return_some (r_name x hn1 ?_)))
    rw [hr.length, List.take_length] at hw
    exact h _ _ D (hle2.trans x.freeze_le) x.freeze.st ⟨ws, ⟨k, put_self _ _ _⟩, hw.mono (IsRow.le x.freeze_le)⟩
end
end Mine
end
section
set_option maxRecDepth 100000
set_option autoImplicit false
namespace Mine
open PySem PySem.Spec PySem.Calls PyProof.Rows PySem.W PySem.SeqAt
noncomputable def under (nodes : List (List Str)) (q : List Str) (j : Nat) : Bool := decide (q.length < (nodes.getD j []).length) && ((nodes.getD j []).take q.length == q)
noncomputable def needsF (nodes : List (List Str)) : List (List Nat) := nodes.map fun q => (List.range nodes.length).filter (under nodes q)
section
variable {prog : Program} {w : World} {A : Around} {E : Value → Shared → Prop} {s0 s : Shared} {env : Env} {g : Fz} {L : Addr} {m mg mb : Str → Option Value} {μ : List (Addr × Obj)} {pos : Pos} {n : Str} {v : Value}
set_option maxHeartbeats 400000 in
theorem needs_call (G : Gd w mg mb g) (x : St g μ s0 s) (hA : Ok A) {a : Addr} {nodes : List (List Str)} (hp : Ll g a nodes) (hz : nodes.length ≤ 100) (hz2 : ∀ p ∈ nodes, p.length ≤ 100) {R : Result → Shared → Prop}
    (h : ∀ g' s' r, Le g g' → St g' μ s0 s' → Nll g' r (needsF nodes) → R (.ok (.ret (.ref r))) s') : codeAny (model prog w) A (.call (.ref 131) ⟨[.ref a], []⟩) R s := by
  refine c_fnC (binds := [("nodes", .ref a)]) G x rfl rfl hA rfl (by intro n x hx; simp only [List.mem_cons, List.not_mem_nil, or_false] at hx; subst hx; first | exact .inr ⟨rfl, rfl⟩ | exact .inl rfl) (by decide) (fun A' L s cells hh hu hd hc x => ?_)
  refine absP fun Gx hGx => ?_
  obtain ⟨o1, o2, o3, rfl, h1, h2, h3⟩ := CellsAre.three hc
  refine hGx ?_
  replace h3 : o3.data = .cell (some (.ref a)) := h3
  refine absP fun Gx hGx => ?_
  obtain ⟨vs, hl, hr⟩ := id hp
  refine hGx ?_
  refine wpAny_execs_cons (wpAny_Assign_Name (r_nil x fun D s x => ?_))
  refine r_store x rfl rfl fun s x => ?_
  refine wpAny_execs_cons (r_for (s0 := s0) (r_cell x rfl (.inr (.tail _ (.tail _ (.tail _ (.head _))))) h3 (src_list hh x hl fun it s S => ?_)))
  refine ⟨_, _, _, _, _, _, S, fun i g' m' μ' => m' "needs" = some (.ref D) ∧ ∃ ws k o1 o2 v1 v2, μ' = (D, listOf ws.toArray k) :: (L + 1 + 1 + 1, o1) :: (L + 1 + 1, o2) :: (L + 1, o3) :: μ ∧ o1.data = .cell v1 ∧ o2.data = .cell v2 ∧ Al (IsNums g') ws ((needsF nodes).take i), ⟨rfl, [], 0, o1, o2, _, _, rfl, h1, h2, .nil⟩, ?_, ?_⟩
  · rintro i v I g' m' μ' oI s hi hv hle Qx1 hN1 hC1 hB1 hR1 hJp0
    refine absP fun Gx hGx => ?_
    obtain ⟨hm, ws, k, o1, o2, v1, v2, rfl, h1, h2, hw⟩ := hJp0
    refine hGx ?_
    rintro x
    refine absP fun Gx hGx => ?_
    obtain ⟨q, hqi, b, rfl, qv, hql, hqa⟩ := hr.get hv
    refine hGx ?_
    have hqm : q ∈ nodes := List.mem_of_getElem? hqi
    have hqz : qv.length ≤ 100 := by rw [hqa.length]; exact hz2 q hqm
    have G' := G.le hle
    refine r_assignC x rfl (.tail (.tail (.tail .head))) h2 fun s o2 h2 x => ?_
    refine wpAny_execs_cons (wpAny_Assign_Name ?_)
    refine wpAny_Call_NameR (r_bi G' x rfl boot_len ?_)
    refine cw_bi (sp_one (r_cell x rfl (.inr (.tail _ (.tail _ (.tail _ (.head _))))) h2 (m_len x ((hql.le hle).isList x.st) (by first | exact Nat.le_trans (by assumption) (by decide) | exact Nat.le_trans (Nat.le_of_eq (by assumption)) (Nat.le_trans (by assumption) (by decide)) | (rw [line24]; omega)) fun s t x => ?_)))
    refine r_storeC x rfl (.tail (.tail .head)) h1 fun s o1 h1 x => ?_
    refine wpAny_execs_cons (wpAny_Expr_any (wpAny_Call_append rfl rfl rfl rfl (r_name x hm ⟨D, _, rfl, plainM x (.tail _ (.head _)), ?_⟩)))
    refine r_comp (s0 := s0) rfl (by decide) rfl (by decide) ?_
    refine wpAny_Call_NameR (r_bi G' x rfl boot_range ?_)
    refine cw_type (sp_one (wpAny_Call_NameR (r_bi G' x rfl boot_len (cw_bi (sp_one (r_cell x rfl (.inr mem4) h3 ?_))))))
    refine m_len x ((hl.le hle).isList x.st) (by rw [line24]; have := hr.length; omega) fun s t2 x => ?_
    refine m_range1 x fun s r t q' x hrg => ?_
    have hrl := hr.length
    refine src_range hh x hrg (small_up (by first | assumption | exact Nat.le_trans (by assumption) (by decide) | exact Nat.le_trans (Nat.le_of_eq (by assumption)) (Nat.le_trans (by assumption) (by decide)) | omega) (by first | assumption | exact Nat.le_trans (by assumption) (by decide) | exact Nat.le_trans (Nat.le_of_eq (by assumption)) (Nat.le_trans (by assumption) (by decide)) | omega) (by first | assumption | exact Nat.le_trans (by assumption) (by decide) | exact Nat.le_trans (Nat.le_of_eq (by assumption)) (Nat.le_trans (by assumption) (by decide)) | omega) (by first | assumption | exact Nat.le_trans (by assumption) (by decide) | exact Nat.le_trans (Nat.le_of_eq (by assumption)) (Nat.le_trans (by assumption) (by decide)) | omega)) (size_up (by first | assumption | exact Nat.le_trans (by assumption) (by decide) | exact Nat.le_trans (Nat.le_of_eq (by assumption)) (Nat.le_trans (by assumption) (by decide)) | omega)) fun it s S => ?_
    refine ⟨_, _, _, _, _, S, by first | exact Nat.le_trans (by assumption) (by decide) | exact Nat.le_trans (Nat.le_of_eq (by assumption)) (Nat.le_trans (by assumption) (by decide)) | (rw [line24]; omega), fun i ys g' μ2 => μ2 = (I, oI) :: (D, W.listOf ws.toArray k) :: (L + 1 + 1 + 1, o1) :: (L + 1 + 1, o2) :: (L + 1, o3) :: μ ∧ Al IsN ys ((List.range i).filter (under nodes q)), ⟨rfl, .nil⟩, ?_, ?_⟩
    · rintro C2 D2 I2 j v ys g2 μ2 mC oI2 oL nD s hj ⟨tv, rfl⟩ hle2 Qx2 Qy2 hX2 hY2 ⟨rfl, hys⟩ hoL x
      refine r_assign x fun s x => ?_
      have hk : upd mC "j" (.int (0 + (j : Int) * 1) tv) "j" = some (.int (0 + (j : Int) * 1) tv) := upd_eq _ _ _
      generalize upd mC "j" (.int (0 + (j : Int) * 1) tv) = m1 at x hk
      have hj' : j < vs.length := by omega
      refine absP fun Gx hGx => ?_
      obtain ⟨p, hpi, c, hcv, pv, hpl, hpa⟩ := hr.get (List.getElem?_eq_getElem hj')
      refine hGx ?_
      have hvj : vs[j]? = some (.ref c) := by rw [List.getElem?_eq_getElem hj', hcv]
      have hpm : p ∈ nodes := List.mem_of_getElem? hpi
      have hpz : pv.length ≤ 100 := by rw [hpa.length]; exact hz2 p hpm
      have hgd : nodes.getD j [] = p := by simp [List.getD, hpi]
      have hlee := hle.trans hle2
      have G2 := G.le hlee
      refine wpAny_tests_one (isTrue_and (wpAny_isTrue_Compare1 ?_))
      refine wpAny_Call_NameR (r_bi G2 x rfl boot_len (cw_bi (sp_one (Subscript_ (r_cell x rfl (.inr mem7) h3 (r_name x hk ?_))))))
      refine item_at (j := j) ((hl.le hlee).isList x.st) (by first | assumption | exact Nat.le_trans (by assumption) (by decide) | exact Nat.le_trans (Nat.le_of_eq (by assumption)) (Nat.le_trans (by assumption) (by decide)) | omega) (by first | assumption | exact Nat.le_trans (by assumption) (by decide) | exact Nat.le_trans (Nat.le_of_eq (by assumption)) (Nat.le_trans (by assumption) (by decide)) | omega) hvj ?_
      refine m_len x ((hpl.le hlee).isList x.st) (by first | exact Nat.le_trans (by assumption) (by decide) | exact Nat.le_trans (Nat.le_of_eq (by assumption)) (Nat.le_trans (by assumption) (by decide)) | (rw [line24]; omega)) fun s t3 x => ?_
      refine r_cell x rfl (.inr mem5) h1 (PySem.P.gt_int (wpAny_truthy_bool ?_))
      have hun : under nodes q j = (decide ((pv.length : Int) > qv.length) && (p.take qv.length == q)) := by
        unfold under
        rw [hgd, ← hqa.length, ← hpa.length]
        congr 1
        simp only [gt_iff_lt, Int.ofNat_lt]
      cases hgt : decide ((pv.length : Int) > qv.length) with
      | false =>
        rw [if_neg (by simp)]
        try dsimp only
        rw [if_neg (by simp)]
        refine hY2 _ ?_
        refine ⟨g2, m1, _, Le.refl _, ⟨rfl, ?_⟩, x⟩
        rw [filter_range_succ, hun, hgt]
        simpa using hys
      | true =>
        rw [if_pos rfl]
        refine isTrue_and (wpAny_isTrue_Compare1 ?_)
        have hcut : slicePick pv.toArray none (some (qv.length : Int)) none = (pv.take qv.length).toArray := slicePick_upto' _ _
        refine r_slice (s0 := s0) (Subscript_ (r_cell x rfl (.inr mem7) h3 (r_name x hk ?_)))
        refine item_at (j := j) ((hl.le hlee).isList x.st) (by first | assumption | exact Nat.le_trans (by assumption) (by decide) | exact Nat.le_trans (Nat.le_of_eq (by assumption)) (Nat.le_trans (by assumption) (by decide)) | omega) (by first | assumption | exact Nat.le_trans (by assumption) (by decide) | exact Nat.le_trans (Nat.le_of_eq (by assumption)) (Nat.le_trans (by assumption) (by decide)) | omega) hvj ?_
        refine wpAny_evalPart_none (wpAny_evalPart_some (r_cell x rfl (.inr mem5) h1 ?_))
        refine ⟨_, _, _, _, _, _, _, _, _, rfl, x, (hpl.le hlee).isList x.st, by first | exact Nat.le_trans (by assumption) (by decide) | exact Nat.le_trans (Nat.le_of_eq (by assumption)) (Nat.le_trans (by assumption) (by decide)) | (rw [line24]; omega), .none, .int _ _, hcut, fun g3 c s hle3 hc x => ?_⟩
        refine r_cell x rfl (.inr mem6) h2 ?_
        refine eq_lists x.st (by have := hA.units; omega) ⟨_, hc, hpa.take _⟩ ⟨_, hql.le (hlee.trans hle3), hqa⟩ (wpAny_truthy_bool ?_)
        have hun2 : under nodes q j = (p.take qv.length == q) := by rw [hun, hgt, Bool.true_and]
        cases heq : (p.take qv.length == q) with
        | false =>
          rw [if_neg (by simp)]
          try dsimp only
          rw [if_neg (by simp)]
          refine hY2 _ ?_
          refine ⟨g3, m1, _, hle3, ⟨rfl, ?_⟩, x⟩
          rw [filter_range_succ, hun2, heq]
          simpa using hys
        | true =>
          rw [if_pos rfl]
          refine isTrue_and_nil ?_
          rw [if_pos rfl]
          refine r_name x hk ?_
          refine hX2 _ _ ?_
          refine ⟨g3, m1, _, hle3, ⟨rfl, ?_⟩, x⟩
          rw [filter_range_succ, hun2, heq]
          exact hys.append (.one ⟨tv, by congr 1; omega⟩)
    · rintro D2 ys g2 μ2 nD s hle2 ⟨rfl, hys⟩ x
      obtain ⟨g3, hle3, e3, x⟩ := x.frz1
      have hwl := hw.length
      have hnl : (needsF nodes).length = nodes.length := by simp [needsF]
      rw [List.length_take] at hwl
      refine m_append x rep1 (by first | exact Nat.le_trans (by assumption) (by decide) | exact Nat.le_trans (Nat.le_of_eq (by assumption)) (Nat.le_trans (by assumption) (by decide)) | (rw [line24]; omega)) fun s k2 x => ?_
      refine wpAny_execs_nil (hN1 _ ?_)
      refine ⟨g3, m', _, hle2.trans hle3, ⟨hm, _, k2, o1, o2, _, _, rfl, h1, h2, ?_⟩, x⟩
      have hi' : i < nodes.length := by omega
      have hsz : ((vs.length : Int) - 0).toNat = nodes.length := by omega
      rw [hsz] at hys
      have hni : (needsF nodes)[i]? = some ((List.range nodes.length).filter (under nodes q)) := by
        unfold needsF
        rw [List.getElem?_map, hqi]; rfl
      rw [List.take_add_one, hni]
      exact (hw.mono (IsNums.le (hle2.trans hle3))).append (.one ⟨D2, rfl, ys, ⟨nD, e3⟩, hys⟩)
  · rintro g2 m2 μ2 s hle2 hJp0
    refine absP fun Gx hGx => ?_
    obtain ⟨hm, ws, k, o1, o2, v1, v2, rfl, h1, h2, hw⟩ := hJp0
    refine hGx ?_
    rintro x
    refine wpAny_execs_nil (wpAny_execs_cons (wpAny_Return_some (r_name x hm ?_)))
    have hnl : (needsF nodes).length = vs.length := by rw [hr.length]; simp [needsF]
    rw [← hnl, List.take_length] at hw
    exact h _ _ D (hle2.trans x.freeze_le) (x.freeze.st.tl.tl.tl) ⟨ws, ⟨k, put_self _ _ _⟩, hw.mono (IsNums.le x.freeze_le)⟩
end
end Mine
end
section
set_option maxRecDepth 100000
set_option autoImplicit false
namespace Mine
open PySem PySem.Spec PySem.Calls PyProof.Rows PySem.W PySem.SeqAt
noncomputable def leftIs (told : List (List Str)) (q : List Str) (x : List Str) : Bool := decide (q.length < x.length) && (x.take q.length == q) && !told.contains x
noncomputable def climb1 (paths : List (List Str)) : List (List Str) → List (List Str) → List (List Str)
  | told, [] => told
  | told, q :: qs => if told.contains q || !(paths.filter (leftIs told q)).isEmpty then told else climb1 paths (told ++ [q]) qs
noncomputable def climbTo (paths ps : List (List Str)) : List (List Str) := ps.foldl (fun told p => climb1 paths told (downs p)) []
noncomputable def climbF (paths : List (List Str)) : List (List Str) := climbTo paths paths
theorem climb1_length (paths qs told : List (List Str)) : (climb1 paths told qs).length ≤ told.length + qs.length := by
  induction qs generalizing told with
  | nil => simp [climb1]
  | cons q qs ih =>
    unfold climb1
    split
    · simp
    · have := ih (told ++ [q]); simp at this ⊢; omega
theorem climbs_length (paths ps told : List (List Str)) (k : Nat) (h : ∀ p ∈ ps, p.length ≤ k) : (ps.foldl (fun told p => climb1 paths told (downs p)) told).length ≤ told.length + ps.length * k := by
  induction ps generalizing told with
  | nil => simp
  | cons p ps ih =>
    have h1 := ih (climb1 paths told (downs p)) fun q hq => h q (.tail _ hq)
    have h2 := climb1_length paths (downs p) told
    have h3 := h p (.head _)
    rw [downs_length] at h2
    simp only [List.foldl_cons, List.length_cons, Nat.succ_mul]
    omega
section
variable {prog : Program} {w : World} {A : Around} {E : Value → Shared → Prop} {s0 s : Shared} {env : Env} {g : Fz} {L : Addr} {m mg mb : Str → Option Value} {μ : List (Addr × Obj)} {pos : Pos} {n : Str} {v : Value}
set_option maxHeartbeats 400000 in
theorem climbed_call (G : Gd w mg mb g) (x : St g μ s0 s) (hA : Ok A) {a : Addr} {paths : List (List Str)} (hp : Ll g a paths) (hz : paths.length ≤ 100) (hz2 : ∀ p ∈ paths, p.length ≤ 100) {R : Result → Shared → Prop}
    (h : ∀ g' s' r, Le g g' → St g' μ s0 s' → Ll g' r (climbF paths) → R (.ok (.ret (.ref r))) s') : codeAny (model prog w) A (.call (.ref 136) ⟨[.ref a], []⟩) R s := by
  refine c_fnC (binds := [("paths", .ref a)]) G x rfl rfl hA rfl (by intro n x hx; simp only [List.mem_cons, List.not_mem_nil, or_false] at hx; subst hx; first | exact .inr ⟨rfl, rfl⟩ | exact .inl rfl) (by decide) (fun A' L s cells hh hu hd hc x => ?_)
  refine absP fun Gx hGx => ?_
  obtain ⟨o1, o2, o3, rfl, h1, h2, h3⟩ := CellsAre.three hc
  refine hGx ?_
  refine absP fun Gx hGx => ?_
  obtain ⟨vs, hl, hr⟩ := id hp
  refine hGx ?_
  have hrl := hr.length
  refine wpAny_execs_cons (wpAny_Assign_Name (r_nil x fun D s x => ?_))
  refine r_storeC x rfl rep3 h3 fun s o3 h3 x => ?_
  refine wpAny_execs_cons (r_for (s0 := s0) (r_name x (v := .ref a) rfl (src_list hh x hl fun it s S => ?_)))
  refine ⟨_, _, _, _, _, _, S, fun i g' m' μ' => m' "paths" = some (.ref a) ∧ ∃ ws k o1 o2 v1 v2, μ' = (D, listOf ws.toArray k) :: (L + 1 + 1 + 1, o1) :: (L + 1 + 1, o2) :: (L + 1, o3) :: μ ∧ o1.data = .cell v1 ∧ o2.data = .cell v2 ∧ Rows (IsRow g') ws (climbTo paths (paths.take i)), ⟨rfl, [], 0, o1, o2, _, _, rfl, h1, h2, .nil⟩, ?_, ?_⟩
  · rintro i v I g' m' μ' oI s hi hv hle Qx1 hN1 hC1 hB1 hR1 hJp0
    refine absP fun Gx hGx => ?_
    obtain ⟨hm, ws, k, o1, o2, v1, v2, rfl, h1, h2, hw⟩ := hJp0
    refine hGx ?_
    rintro x
    refine absP fun Gx hGx => ?_
    obtain ⟨p, hpi, b, rfl, pv, hpl, hpa⟩ := hr.get hv
    refine hGx ?_
    have hpm : p ∈ paths := List.mem_of_getElem? hpi
    have hpz : pv.length ≤ 100 := by rw [hpa.length]; exact hz2 p hpm
    have G' := G.le hle
    have hsN : climbTo paths (paths.take (i + 1)) = climb1 paths (climbTo paths (paths.take i)) (downs p) := by
      rw [List.take_add_one, hpi]; simp [climbTo]
    have hac0 : (climbTo paths (paths.take i)).length ≤ 100 * 100 := by
      have h2 := climbs_length paths (paths.take i) [] 100 fun q hq => hz2 q (List.mem_of_mem_take hq)
      have h3 : (paths.take i).length ≤ 100 := by rw [List.length_take]; omega
      have h5 : (paths.take i).length * 100 ≤ 100 * 100 := Nat.mul_le_mul_right _ h3
      have h6 : ([] : List (List Str)).length = 0 := rfl
      unfold climbTo
      omega
    refine r_assignC x rfl rep3 h2 fun s o2 h2 x => ?_
    refine wpAny_execs_cons (r_for (s0 := s0) ?_)
    refine wpAny_Call_NameR (r_bi G' x rfl boot_range ?_)
    refine cw_type (sp_cons (wpAny_Call_NameR (r_bi G' x rfl boot_len ?_)))
    refine cw_bi (sp_one (r_cell x rfl (.inr mem3) h2 (m_len x ((hpl.le hle).isList x.st) (by first | exact Nat.le_trans (by assumption) (by decide) | exact Nat.le_trans (Nat.le_of_eq (by assumption)) (Nat.le_trans (by assumption) (by decide)) | (rw [line24]; omega)) fun s t x => ?_)))
    refine sp_cons (r_int x fun s u x _ => ?_)
    refine sp_one (wpAny_UnaryOp (r_int x fun s q x _ => PySem.P.neg_int ?_))
    refine m_range3 (x.tok) (by decide) (PyProof.noPylong_small (by decide)) fun s r x hrg => ?_
    have hsz : Builtin.Range.rangeSize (pv.length : Int) 0 (-1) = (pv.length : Int) := size_down
    refine src_range hh x hrg (small_down (by first | assumption | exact Nat.le_trans (by assumption) (by decide) | exact Nat.le_trans (Nat.le_of_eq (by assumption)) (Nat.le_trans (by assumption) (by decide)) | omega) (by first | assumption | exact Nat.le_trans (by assumption) (by decide) | exact Nat.le_trans (Nat.le_of_eq (by assumption)) (Nat.le_trans (by assumption) (by decide)) | omega)) hsz fun it s S => ?_
    refine ⟨_, _, _, _, _, _, S, fun j g2 m2 μ2 => m2 "paths" = some (.ref a) ∧ ∃ ws k o1 v1 acc, μ2 = (I, oI) :: (D, listOf ws.toArray k) :: (L + 1 + 1 + 1, o1) :: (L + 1 + 1, o2) :: (L + 1, o3) :: μ ∧ o1.data = .cell v1 ∧ Rows (IsRow g2) ws acc ∧ acc.length ≤ 10000 + j ∧ climb1 paths acc ((downs p).drop j) = climb1 paths (climbTo paths (paths.take i)) (downs p),
      ⟨hm, ws, k, o1, v1, _, rfl, h1, hw, by omega, rfl⟩, ?_, ?_⟩
    · rintro j v I2 g2 m2 μ2 oI2 s hj ⟨tj, rfl⟩ hle2 Qx2 hN2 hC2 hB2 hR2 hJp0
      refine absP fun Gx hGx => ?_
      obtain ⟨hn1, ws, k, o1, v1, acc, rfl, h1, hw, hacl, hst⟩ := hJp0
      refine hGx ?_
      rintro x
      have hjn : j < p.length := by rw [← hpa.length]; exact hj
      have e : (pv.length : Int) + j * (-1) = ((pv.length - j : Nat) : Int) := by omega
      rw [e]
      have hcut : ∀ yv : List Value, slicePick yv.toArray none (some ((pv.length - j : Nat) : Int)) none = (yv.take (pv.length - j)).toArray := fun yv => slicePick_upto' _ _
      have hsd : (downs p).drop j = p.take (p.length - j) :: (downs p).drop (j + 1) := by
        have hjl : j < (downs p).length := by rw [downs_length]; exact hjn
        rw [List.drop_eq_getElem_cons hjl]
        congr 1
        simp [downs]
      rw [hsd, climb1] at hst
      have hq0 : Are (pv.take (pv.length - j)) (p.take (p.length - j)) := by rw [hpa.length]; exact hpa.take _
      have hql : (p.take (p.length - j)).length = pv.length - j := by rw [List.length_take, hpa.length]; omega
      generalize hqq : p.take (p.length - j) = q at hst hq0 hql
      refine r_assignC x rfl rep3 h1 fun s o1 h1 x => ?_
      have hlee := hle.trans hle2
      have G2 := G.le hlee
      refine wpAny_execs_cons (r_compSet (s0 := s0) rfl rfl (by decide) rfl (by decide) rfl rfl (r_name x hn1 (src_list hh x (hl.le hlee) fun it s S => ?_)))
      refine ⟨_, _, _, _, _, S, by first | exact Nat.le_trans (by assumption) (by decide) | exact Nat.le_trans (Nat.le_of_eq (by assumption)) (Nat.le_trans (by assumption) (by decide)) | (rw [line24]; omega), fun i2 ys g3 μ3 => μ3 = (I2, oI2) :: (I, oI) :: (D, W.listOf ws.toArray k) :: (L + 1 + 1 + 1, o1) :: (L + 1 + 1, o2) :: (L + 1, o3) :: μ ∧ Rows (IsRow g3) ys ((paths.take i2).filter (leftIs acc q)), ⟨rfl, .nil⟩, ?_, ?_⟩
      · rintro C2 D2 I3 i2 v ys g3 μ3 mC oI3 oL nD s hi2 hv2 hle3 Qx3 Qy3 hX3 hY3 ⟨rfl, hys⟩ hoL x
        refine absP fun Gx hGx => ?_
        obtain ⟨y, hyi, c, rfl, yv, hyl, hya⟩ := hr.get hv2
        refine hGx ?_
        have hym : y ∈ paths := List.mem_of_getElem? hyi
        have hyz : yv.length ≤ 100 := by rw [hya.length]; exact hz2 y hym
        refine r_assign x fun s x => ?_
        have hk : upd mC "x" (.ref c) "x" = some (.ref c) := upd_eq _ _ _
        generalize upd mC "x" (.ref c) = m1 at x hk
        have hl3 := hlee.trans hle3
        have G3 := G.le hl3
        have hstep : (paths.take (i2 + 1)).filter (leftIs acc q) = (paths.take i2).filter (leftIs acc q) ++ if leftIs acc q y then [y] else [] := by
          rw [List.take_add_one, hyi, List.filter_append]
          congr 1
          cases hb : leftIs acc q y <;> simp [hb]
        have hlf : leftIs acc q y = (decide ((yv.length : Int) > ((pv.length - j : Nat) : Int)) && (y.take q.length == q) && !acc.contains y) := by
          unfold leftIs
          congr 2
          rw [hql, ← hya.length]
          simp only [gt_iff_lt, Int.ofNat_lt]
        refine wpAny_tests_one (isTrue_and (wpAny_isTrue_Compare1 ?_))
        refine wpAny_Call_NameR (r_bi G3 x rfl boot_len (cw_bi (sp_one (r_name x hk ?_))))
        refine m_len x ((hyl.le hl3).isList x.st) (by first | exact Nat.le_trans (by assumption) (by decide) | exact Nat.le_trans (Nat.le_of_eq (by assumption)) (Nat.le_trans (by assumption) (by decide)) | (rw [line24]; omega)) fun s t3 x => ?_
        refine r_cell x rfl (.inr mem6) h1 (PySem.P.gt_int (wpAny_truthy_bool ?_))
        cases hgt : decide ((yv.length : Int) > ((pv.length - j : Nat) : Int)) with
        | false =>
          rw [if_neg (by simp)]
          try dsimp only
          rw [if_neg (by simp)]
          refine hY3 _ ?_
          refine ⟨g3, m1, _, Le.refl _, ⟨rfl, ?_⟩, x⟩
          rw [hstep, hlf, hgt]
          simpa using hys
        | true =>
          rw [if_pos rfl]
          refine isTrue_and (wpAny_isTrue_Compare1 ?_)
          refine r_slice (s0 := s0) (r_name x hk (wpAny_evalPart_none (wpAny_evalPart_some (r_cell x rfl (.inr mem6) h1 ?_))))
          refine ⟨_, _, _, _, _, _, _, _, _, rfl, x, (hyl.le hl3).isList x.st, by first | exact Nat.le_trans (by assumption) (by decide) | exact Nat.le_trans (Nat.le_of_eq (by assumption)) (Nat.le_trans (by assumption) (by decide)) | (rw [line24]; omega), .none, .int _ _, hcut yv, fun g4 c4 s hle4 hc4 x => ?_⟩
          refine r_slice (s0 := s0) (r_cell x rfl (.inr mem7) h2 (wpAny_evalPart_none (wpAny_evalPart_some (r_cell x rfl (.inr mem6) h1 ?_))))
          refine ⟨_, _, _, _, _, _, _, _, _, rfl, x, (hpl.le (hl3.trans hle4)).isList x.st, by first | exact Nat.le_trans (by assumption) (by decide) | exact Nat.le_trans (Nat.le_of_eq (by assumption)) (Nat.le_trans (by assumption) (by decide)) | (rw [line24]; omega), .none, .int _ _, hcut pv, fun g5 c5 s hle5 hc5 x => ?_⟩
          refine eq_lists x.st (by have := hA.units; omega) ⟨_, hc4.le hle5, hya.take _⟩ ⟨_, hc5, hq0⟩ (wpAny_truthy_bool ?_)
          rw [hgt, Bool.true_and] at hlf
          rw [← hql]
          cases heq : (y.take q.length == q) with
          | false =>
            rw [if_neg (by simp)]
            try dsimp only
            rw [if_neg (by simp)]
            refine hY3 _ ?_
            refine ⟨g5, m1, _, hle4.trans hle5, ⟨rfl, ?_⟩, x⟩
            rw [hstep, hlf, heq]
            simpa using hys.mono (IsRow.le (hle4.trans hle5))
          | true =>
            rw [if_pos rfl]
            refine isTrue_and (wpAny_isTrue_Compare1 ?_)
            refine r_name x hk (r_cell x rfl (.inr mem8) h3 ?_)
            have hle5' := hle4.trans hle5
            refine notIn_rows x.st (by have := hA.units; omega) (isListM x.st mem5) (hw.mono (IsRow.le (hle3.trans hle5'))) ⟨_, hyl.le (hl3.trans hle5'), hya⟩ (wpAny_truthy_bool ?_)
            rw [heq, Bool.true_and] at hlf
            cases hcn : acc.contains y with
            | true =>
              simp only [Bool.not_true, Bool.false_eq_true, if_false]
              refine hY3 _ ?_
              refine ⟨g5, m1, _, hle5', ⟨rfl, ?_⟩, x⟩
              rw [hstep, hlf, hcn]
              simpa using hys.mono (IsRow.le hle5')
            | false =>
              simp only [Bool.not_false, if_true]
              refine isTrue_and_nil ?_
              rw [if_pos rfl]
              refine r_name x hk ?_
              refine hX3 _ _ ?_
              refine ⟨g5, m1, _, hle5', ⟨rfl, ?_⟩, x⟩
              rw [hstep, hlf, hcn]
              exact (hys.mono (IsRow.le hle5')).append (.cons ⟨c, rfl, _, hyl.le (hl3.trans hle5'), hya⟩ .nil)
      · rintro D2 ys g3 μ3 nD s hle3 ⟨rfl, hys⟩ x
        rw [hrl, List.take_length] at hys
        obtain ⟨g4, hle4, e4, x⟩ := x.frz1
        have hn2 : upd m2 "left" (.ref D2) "paths" = some (.ref a) := hn1
        have hn3 : upd m2 "left" (.ref D2) "left" = some (.ref D2) := upd_eq _ _ _
        generalize upd m2 "left" (.ref D2) = m3 at x hn2 hn3
        have hl4 := hle3.trans hle4
        have hlp := hpl.le (hlee.trans hl4)
        refine wpAny_execs_cons (wpAny_If (isTrue_or (wpAny_isTrue_Compare1 ?_)))
        refine r_slice (s0 := s0) (r_cell x rfl (.inr mem4) h2 (wpAny_evalPart_none (wpAny_evalPart_some (r_cell x rfl (.inr mem3) h1 ?_))))
        refine ⟨_, _, _, _, _, _, _, _, _, rfl, x, hlp.isList x.st, by first | exact Nat.le_trans (by assumption) (by decide) | exact Nat.le_trans (Nat.le_of_eq (by assumption)) (Nat.le_trans (by assumption) (by decide)) | (rw [line24]; omega), .none, .int _ _, hcut pv, fun g5 c5 s hle5 hc5 x => ?_⟩
        refine r_cell x rfl (.inr mem5) h3 ?_
        have hl5 := hl4.trans hle5
        refine in_rows x.st (by have := hA.units; omega) (isListM x.st mem2) (hw.mono (IsRow.le hl5)) ⟨_, hc5, hq0⟩ (wpAny_truthy_bool ?_)
        have stop : ∀ s g6 μ6, climb1 paths (climbTo paths (paths.take i)) (downs p) = acc → Le g2 g6 → Fm g6 L m3 μ6 s0 s → μ6 = (I, oI) :: (D, W.listOf ws.toArray k) :: (L + 1 + 1 + 1, o1) :: (L + 1 + 1, o2) :: (L + 1, o3) :: μ →
            Qx1 .next s := by
          rintro s g6 μ6 he hle6 x rfl
          refine hN1 _ ⟨g6, m3, _, hle2.trans hle6, ⟨hn2, ws, k, o1, o2, _, _, rfl, h1, h2, ?_⟩, x⟩
          rw [hsN, he]
          exact hw.mono (IsRow.le hle6)
        cases hcon : acc.contains q with
        | true =>
          rw [if_pos rfl]
          try dsimp only
          rw [if_pos rfl]
          refine wpAny_execs_cons (wpAny_Break ?_)
          refine hB2 _ (wpAny_execs_nil (stop s g5 _ ?_ hl5 x.tl rfl))
          rw [← hst, hcon]; rfl
        | false =>
          rw [if_neg (by simp)]
          refine isTrue_or (wpAny_isTrue_Compare1 ?_)
          refine r_name x hn3 (r_nil x fun D3 s x => ?_)
          refine ne_nil (by have := hA.units; omega) ⟨_, x.get (hle5 _ _ e4), rfl, _, rfl⟩ (isListM x.st mem0) (wpAny_truthy_bool ?_)
          replace x := x.tl
          rw [hcon, Bool.false_or] at hst
          have hem : ys.isEmpty = (paths.filter (leftIs acc q)).isEmpty := by
            have := hys.length
            cases ys <;> cases hf : paths.filter (leftIs acc q) <;> simp [hf] at this ⊢
          rw [hem]
          cases hne : (paths.filter (leftIs acc q)).isEmpty with
          | false =>
            simp only [Bool.not_false, if_true]
            refine wpAny_execs_cons (wpAny_Break ?_)
            refine hB2 _ (wpAny_execs_nil (stop s g5 _ ?_ hl5 x.tl rfl))
            rw [← hst, hne]; rfl
          | true =>
            simp only [Bool.not_true, Bool.false_eq_true, if_false]
            refine isTrue_or_nil ?_
            rw [if_neg (by simp)]
            refine wpAny_execs_nil ?_
            rw [hne] at hst
            refine wpAny_execs_cons (wpAny_Expr_any (wpAny_Call_append rfl rfl rfl rfl (r_cell x rfl (.inr mem5) h3 ⟨D, _, rfl, plainM x mem2, ?_⟩)))
            refine r_slice (s0 := s0) (r_cell x rfl (.inr mem4) h2 (wpAny_evalPart_none (wpAny_evalPart_some (r_cell x rfl (.inr mem3) h1 ?_))))
            refine ⟨_, _, _, _, _, _, _, _, _, rfl, x, (hlp.le hle5).isList x.st, by first | exact Nat.le_trans (by assumption) (by decide) | exact Nat.le_trans (Nat.le_of_eq (by assumption)) (Nat.le_trans (by assumption) (by decide)) | (rw [line24]; omega), .none, .int _ _, hcut pv, fun g6 c6 s hle6 hc6 x => ?_⟩
            refine m_append x rep2 (by rw [line24, hw.length]; omega) fun s k2 x => ?_
            refine wpAny_execs_nil (hN2 _ ?_)
            refine ⟨g6, m3, _, hl5.trans hle6, ⟨hn2, _, k2, o1, _, acc ++ [q], rfl, h1, ?_, by simp; omega, ?_⟩, x⟩
            · exact (hw.mono (IsRow.le (hl5.trans hle6))).append (.cons ⟨c6, rfl, _, hc6, hq0⟩ .nil)
            · rw [← hst]; rfl
    · rintro g2 m2 μ2 s hle2 hJp0
      refine absP fun Gx hGx => ?_
      obtain ⟨hn1, ws, k, o1, v1, acc, rfl, h1, hw, hacl, hst⟩ := hJp0
      refine hGx ?_
      rintro x
      rw [hpa.length, ← downs_length, List.drop_length] at hst
      refine wpAny_execs_nil (wpAny_execs_nil (hN1 _ ?_))
      refine ⟨g2, m2, _, hle2, ⟨hn1, ws, k, o1, o2, _, _, rfl, h1, h2, ?_⟩, x⟩
      rw [hsN, ← hst]
      exact hw
  · rintro g2 m2 μ2 s hle2 hJp0
    refine absP fun Gx hGx => ?_
    obtain ⟨hn1, ws, k, o1, o2, v1, v2, rfl, h1, h2, hw⟩ := hJp0
    refine hGx ?_
    rintro x
    refine wpAny_execs_nil (wpAny_execs_cons (wpAny_Return_some (r_cell x rfl (.inr mem3) h3 ?_)))
    rw [hrl, List.take_length] at hw
    exact h _ _ D (hle2.trans x.freeze_le) (x.freeze.st.tl.tl.tl) ⟨ws, ⟨k, put_self _ _ _⟩, hw.mono (IsRow.le x.freeze_le)⟩
end
end Mine
end
section
set_option maxRecDepth 100000
set_option autoImplicit false
namespace Mine
open PySem PySem.Spec PySem.Calls PyProof.Rows PySem.W PySem.SeqAt
noncomputable def ready (needs : List (List Nat)) (first last : Nat) (told : List Nat) (k : Nat) : Bool := !(told.contains k || (k == last && !told.contains first)) && ((needs.getD k []).filter fun j => !told.contains j).isEmpty
noncomputable def turn1 (needs : List (List Nat)) (first last : Nat) (told : List Nat) : List Nat := match (List.range needs.length).find? (ready needs first last told) with | some k => told ++ [k] | none => told
noncomputable def inTurnF (needs : List (List Nat)) (first last : Nat) : List Nat := needs.foldl (fun told _ => turn1 needs first last told) []
theorem turn1_length (needs : List (List Nat)) (first last : Nat) (told : List Nat) : (turn1 needs first last told).length ≤ told.length + 1 := by
  unfold turn1; split <;> simp
theorem turns_length (needs ns : List (List Nat)) (first last : Nat) (told : List Nat) : (ns.foldl (fun told _ => turn1 needs first last told) told).length ≤ told.length + ns.length := by
  induction ns generalizing told with
  | nil => simp
  | cons n ns ih => have h1 := ih (turn1 needs first last told); have h2 := turn1_length needs first last told; simp only [List.foldl_cons, List.length_cons]; omega
section
variable {prog : Program} {w : World} {A : Around} {E : Value → Shared → Prop} {s0 s : Shared} {env : Env} {g : Fz} {L : Addr} {m mg mb : Str → Option Value} {μ : List (Addr × Obj)} {pos : Pos} {n : Str} {v : Value}
set_option maxHeartbeats 400000 in
theorem in_turn_call (G : Gd w mg mb g) (x : St g μ s0 s) (hA : Ok A) {a : Addr} {needs : List (List Nat)} {first last : Nat} {tf tl : Tok} (hp : Nll g a needs) (hz : needs.length ≤ 100) (hz2 : ∀ p ∈ needs, p.length ≤ 100) {R : Result → Shared → Prop}
    (h : ∀ g' s' r, Le g g' → St g' μ s0 s' → Nums g' r (inTurnF needs first last) → R (.ok (.ret (.ref r))) s') : codeAny (model prog w) A (.call (.ref 141) ⟨[.ref a, .int first tf, .int last tl], []⟩) R s := by
  refine c_fnC (binds := [("needs", .ref a), ("first", .int first tf), ("last", .int last tl)]) G x rfl rfl hA rfl (by intro n x hx; simp only [List.mem_cons, List.not_mem_nil, or_false] at hx; rcases hx with rfl | rfl | rfl <;> first | exact .inr ⟨rfl, rfl⟩ | exact .inl rfl) (by decide) (fun A' L s cells hh hu hd hc x => ?_)
  refine absP fun Gx hGx => ?_
  obtain ⟨o1, rfl, h1⟩ := CellsAre.one hc
  refine hGx ?_
  refine absP fun Gx hGx => ?_
  obtain ⟨vs, hl, hr⟩ := id hp
  refine hGx ?_
  have hrl := hr.length
  refine wpAny_execs_cons (wpAny_Assign_Name (r_nil x fun D s x => ?_))
  refine r_storeC x rfl rep1 h1 fun s o1 h1 x => ?_
  refine wpAny_execs_cons (r_for (s0 := s0) (r_name x (v := .ref a) rfl (src_list hh x hl fun it s S => ?_)))
  refine ⟨_, _, _, _, _, _, S, fun i g' m' μ' => m' "needs" = some (.ref a) ∧ m' "first" = some (.int first tf) ∧ m' "last" = some (.int last tl) ∧ ∃ ws k, μ' = (D, listOf ws.toArray k) :: (L + 1, o1) :: μ ∧ Al IsN ws ((needs.take i).foldl (fun told _ => turn1 needs first last told) []), ⟨rfl, rfl, rfl, [], 0, rfl, .nil⟩, ?_, ?_⟩
  · rintro i v I g' m' μ' oI s hi hv hle Qx1 hN1 hC1 hB1 hR1 hJp0
    refine absP fun Gx hGx => ?_
    obtain ⟨hm1, hm2, hm3, ws, k, rfl, hw⟩ := hJp0
    refine hGx ?_
    rintro x
    refine absP fun Gx hGx => ?_
    obtain ⟨p, hpi, _⟩ := hr.get hv
    refine hGx ?_
    have G' := G.le hle
    have hsN : ((needs.take (i + 1)).foldl (fun told _ => turn1 needs first last told) []) = turn1 needs first last ((needs.take i).foldl (fun told _ => turn1 needs first last told) []) := by
      rw [List.take_add_one, hpi]; simp
    have hac0 : ((needs.take i).foldl (fun told _ => turn1 needs first last told) []).length ≤ 100 := by
      have h2 := turns_length needs (needs.take i) first last []
      have h3 : (needs.take i).length ≤ 100 := by rw [List.length_take]; omega
      have h6 : ([] : List Nat).length = 0 := rfl
      omega
    generalize ((needs.take i).foldl (fun told _ => turn1 needs first last told) []) = acc at hw hsN hac0
    refine r_assign x fun s x => ?_
    have hn1 : upd m' "step" v "needs" = some (.ref a) := hm1
    have hn2 : upd m' "step" v "first" = some (.int first tf) := hm2
    have hn3 : upd m' "step" v "last" = some (.int last tl) := hm3
    generalize upd m' "step" v = m1 at x hn1 hn2 hn3
    refine wpAny_execs_cons (r_for (s0 := s0) ?_)
    refine wpAny_Call_NameR (r_bi G' x rfl boot_range ?_)
    refine cw_type (sp_one (wpAny_Call_NameR (r_bi G' x rfl boot_len (cw_bi (sp_one (r_name x hn1 ?_))))))
    refine m_len x ((hl.le hle).isList x.st) (by first | exact Nat.le_trans (by assumption) (by decide) | exact Nat.le_trans (Nat.le_of_eq (by assumption)) (Nat.le_trans (by assumption) (by decide)) | (rw [line24]; omega)) fun s t x => ?_
    refine m_range1 x fun s r t q x hrg => ?_
    refine src_range hh x hrg (small_up (by first | assumption | exact Nat.le_trans (by assumption) (by decide) | exact Nat.le_trans (Nat.le_of_eq (by assumption)) (Nat.le_trans (by assumption) (by decide)) | omega) (by first | assumption | exact Nat.le_trans (by assumption) (by decide) | exact Nat.le_trans (Nat.le_of_eq (by assumption)) (Nat.le_trans (by assumption) (by decide)) | omega) (by first | assumption | exact Nat.le_trans (by assumption) (by decide) | exact Nat.le_trans (Nat.le_of_eq (by assumption)) (Nat.le_trans (by assumption) (by decide)) | omega) (by first | assumption | exact Nat.le_trans (by assumption) (by decide) | exact Nat.le_trans (Nat.le_of_eq (by assumption)) (Nat.le_trans (by assumption) (by decide)) | omega)) (size_up (by first | assumption | exact Nat.le_trans (by assumption) (by decide) | exact Nat.le_trans (Nat.le_of_eq (by assumption)) (Nat.le_trans (by assumption) (by decide)) | omega)) fun it s S => ?_
    refine ⟨_, _, _, _, _, _, S, fun j g2 m2 μ2 => m2 "needs" = some (.ref a) ∧ m2 "first" = some (.int first tf) ∧ m2 "last" = some (.int last tl) ∧ μ2 = (I, oI) :: (D, listOf ws.toArray k) :: (L + 1, o1) :: μ ∧ (List.range needs.length).find? (ready needs first last acc) = ((List.range needs.length).drop j).find? (ready needs first last acc), ⟨hn1, hn2, hn3, rfl, rfl⟩, ?_, ?_⟩
    · rintro j v I2 g2 m2 μ2 oI2 s hj ⟨tj, rfl⟩ hle2 Qx2 hN2 hC2 hB2 hR2 hJp0
      refine absP fun Gx hGx => ?_
      obtain ⟨hn1, hn2, hn3, rfl, hf⟩ := hJp0
      refine hGx ?_
      rintro x
      have hj' : j < needs.length := by omega
      have hsd : (List.range needs.length).drop j = j :: (List.range needs.length).drop (j + 1) := by
        have hjl : j < (List.range needs.length).length := by rw [List.length_range]; exact hj'
        rw [List.drop_eq_getElem_cons hjl]
        congr 1
        simp
      rw [hsd, List.find?_cons] at hf
      have e : 0 + (j : Int) * 1 = (j : Int) := by omega
      rw [e]
      refine r_assign x fun s x => ?_
      have hq1 : upd m2 "k" (.int j tj) "needs" = some (.ref a) := hn1
      have hq2 : upd m2 "k" (.int j tj) "first" = some (.int first tf) := hn2
      have hq3 : upd m2 "k" (.int j tj) "last" = some (.int last tl) := hn3
      have hq4 : upd m2 "k" (.int j tj) "k" = some (.int j tj) := upd_eq _ _ _
      generalize upd m2 "k" (.int j tj) = m3 at x hq1 hq2 hq3 hq4
      have hlee := hle.trans hle2
      have G2 := G.le hlee
      have skip' : ∀ s g4, Le g2 g4 → Fm g4 L m3 ((I2, oI2) :: (I, oI) :: (D, W.listOf ws.toArray k) :: (L + 1, o1) :: μ) s0 s → ready needs first last acc j = false →
          Nx s0 L I2 oI2 g2 (fun g2' m2' μ2' => m2' "needs" = some (.ref a) ∧ m2' "first" = some (.int first tf) ∧ m2' "last" = some (.int last tl) ∧ μ2' = (I, oI) :: (D, listOf ws.toArray k) :: (L + 1, o1) :: μ ∧ (List.range needs.length).find? (ready needs first last acc) = ((List.range needs.length).drop (j + 1)).find? (ready needs first last acc)) s := by
        intro s g4 hle4 x hr0
        rw [hr0] at hf
        exact ⟨g4, m3, _, hle4, ⟨hq1, hq2, hq3, rfl, hf⟩, x⟩
      refine wpAny_execs_cons (wpAny_If (wpAny_mono (Q := fun b s => b = (acc.contains j || (j == last && !acc.contains first)) ∧ Fm g2 L m3 ((I2, oI2) :: (I, oI) :: (D, W.listOf ws.toArray k) :: (L + 1, o1) :: μ) s0 s) ?_ (fun b s hb => ?_) fun _ _ q => q))
      · refine isTrue_or (wpAny_isTrue_Compare1 ?_)
        refine r_name x hq4 (r_cell x rfl (.inr mem3) h1 (in_nums (isListM x.st mem2) hw (wpAny_truthy_bool ?_)))
        cases hcj : acc.contains j with
        | true => rw [if_pos rfl]; exact ⟨rfl, x⟩
        | false =>
          rw [if_neg (by simp)]
          refine isTrue_or (isTrue_and (wpAny_isTrue_Compare1 (r_name x hq4 (r_name x hq3 (PySem.P.eq_int (wpAny_truthy_bool ?_))))))
          have hjl : ((j : Int) == (last : Int)) = (j == last) := by rw [Bool.eq_iff_iff, beq_iff_eq, beq_iff_eq]; omega
          rw [hjl, Bool.false_or]
          cases hjl2 : j == last with
          | false =>
            rw [if_neg (by simp), if_neg (by simp)]
            exact isTrue_or_nil ⟨rfl, x⟩
          | true =>
            rw [if_pos rfl, Bool.true_and]
            refine isTrue_and (wpAny_isTrue_Compare1 ?_)
            refine r_name x hq2 (r_cell x rfl (.inr mem3) h1 (notIn_nums (isListM x.st mem2) hw (wpAny_truthy_bool ?_)))
            cases hcf : acc.contains first with
            | true => exact isTrue_or_nil ⟨rfl, x⟩
            | false => exact isTrue_and_nil ⟨rfl, x⟩
      obtain ⟨rfl, x⟩ := hb
      cases hb : (acc.contains j || (j == last && !acc.contains first)) with
      | true =>
        rw [if_pos rfl]
        refine wpAny_execs_cons (wpAny_Continue (hC2 _ (skip' _ _ (Le.refl _) x ?_)))
        unfold ready
        rw [hb]; rfl
      | false =>
        rw [if_neg (by simp)]
        refine wpAny_execs_nil ?_
        refine absP fun Gx hGx => ?_
        obtain ⟨q, hqi, c, hvc, qv, hql, hqa⟩ := hr.get (List.getElem?_eq_getElem (show j < vs.length by omega))
        refine hGx ?_
        have hvj : vs[j]? = some (.ref c) := by rw [List.getElem?_eq_getElem (by first | assumption | exact Nat.le_trans (by assumption) (by decide) | exact Nat.le_trans (Nat.le_of_eq (by assumption)) (Nat.le_trans (by assumption) (by decide)) | omega), hvc]
        have hqm : q ∈ needs := List.mem_of_getElem? hqi
        have hqz : qv.length ≤ 100 := by rw [hqa.length]; exact hz2 q hqm
        have hgd : needs.getD j [] = q := by simp [List.getD, hqi]
        have hrd : ready needs first last acc j = (q.filter fun j => !acc.contains j).isEmpty := by
          unfold ready
          rw [hb, hgd]; rfl
        refine wpAny_execs_cons (wpAny_If (wpAny_isTrue_Compare1 ?_))
        refine r_comp (s0 := s0) rfl (by decide) rfl (by decide) ?_
        refine Subscript_ (r_name x hq1 (r_name x hq4 (item_at (j := j) ((hl.le hlee).isList x.st) rfl (by first | assumption | exact Nat.le_trans (by assumption) (by decide) | exact Nat.le_trans (Nat.le_of_eq (by assumption)) (Nat.le_trans (by assumption) (by decide)) | omega) hvj ?_)))
        refine src_list hh x (hql.le hlee) fun it s S => ?_
        refine ⟨_, _, _, _, _, S, by first | exact Nat.le_trans (by assumption) (by decide) | exact Nat.le_trans (Nat.le_of_eq (by assumption)) (Nat.le_trans (by assumption) (by decide)) | (rw [line24]; omega), fun i2 ys g3 μ3 => μ3 = (I2, oI2) :: (I, oI) :: (D, W.listOf ws.toArray k) :: (L + 1, o1) :: μ ∧ Al IsN ys ((q.take i2).filter fun j => !acc.contains j), ⟨rfl, .nil⟩, ?_, ?_⟩
        · rintro C2 D2 I3 i2 v ys g3 μ3 mC oI3 oL nD s hi2 hv2 hle3 Qx3 Qy3 hX3 hY3 ⟨rfl, hys⟩ hoL x
          refine absP fun Gx hGx => ?_
          obtain ⟨y, hyi, ty, rfl⟩ := hqa.get hv2
          refine hGx ?_
          refine r_assign x fun s x => ?_
          have hk : upd mC "j" (.int y ty) "j" = some (.int y ty) := upd_eq _ _ _
          generalize upd mC "j" (.int y ty) = m1 at x hk
          have hstep : (q.take (i2 + 1)).filter (fun j => !acc.contains j) = (q.take i2).filter (fun j => !acc.contains j) ++ if !acc.contains y then [y] else [] := by
            rw [List.take_add_one, hyi, List.filter_append]
            congr 1
            cases hb : acc.contains y <;> simp [hb] <;> simpa using hb
          refine wpAny_tests_one (wpAny_isTrue_Compare1 ?_)
          refine r_name x hk (r_cell x rfl (.inr mem6) h1 (notIn_nums (isListM x.st mem5) hw (wpAny_truthy_bool ?_)))
          cases hcn : acc.contains y with
          | true =>
            simp only [Bool.not_true, Bool.false_eq_true, if_false]
            refine hY3 _ ?_
            refine ⟨g3, m1, _, Le.refl _, ⟨rfl, ?_⟩, x⟩
            rw [hstep, hcn]
            simpa using hys
          | false =>
            simp only [Bool.not_false, if_true]
            refine r_name x hk ?_
            refine hX3 _ _ ?_
            refine ⟨g3, m1, _, Le.refl _, ⟨rfl, ?_⟩, x⟩
            rw [hstep, hcn]
            exact hys.append (.one ⟨ty, rfl⟩)
        · rintro D2 ys g3 μ3 nD s hle3 ⟨rfl, hys⟩ x
          rw [hqa.length, List.take_length] at hys
          refine r_nil x fun D3 s x => ?_
          refine eq_nil (by have := hA.units; omega) (isListM x.st mem1) (isListM x.st mem0) (wpAny_truthy_bool ?_)
          replace x := x.tl.tl
          have hem : ys.isEmpty = ready needs first last acc j := by rw [hrd]; exact hys.isEmpty
          rw [hem]
          cases hrj : ready needs first last acc j with
          | false =>
            simp only [Bool.false_eq_true, if_false]
            exact wpAny_execs_nil (wpAny_execs_nil (hN2 _ (skip' _ _ hle3 x hrj)))
          | true =>
            simp only [if_true]
            refine wpAny_execs_cons (wpAny_Expr_any (wpAny_Call_append rfl rfl rfl rfl (r_cell x rfl (.inr mem3) h1 ⟨D, _, rfl, plainM x mem2, ?_⟩)))
            refine r_name x hq4 (m_append x rep2 (by rw [line24, hw.length]; omega) fun s k2 x => ?_)
            refine wpAny_execs_cons (wpAny_Break ?_)
            refine hB2 _ (wpAny_execs_nil (hN1 _ ⟨g3, m3, _, hle2.trans hle3, ⟨hq1, hq2, hq3, _, k2, rfl, ?_⟩, x.tl⟩))
            rw [hsN, turn1, hf, hrj]
            exact hw.append (.one ⟨tj, rfl⟩)
    · rintro g2 m2 μ2 s hle2 hJp0
      refine absP fun Gx hGx => ?_
      obtain ⟨hn1, hn2, hn3, rfl, hf⟩ := hJp0
      refine hGx ?_
      rintro x
      refine wpAny_execs_nil (wpAny_execs_nil (hN1 _ ?_))
      refine ⟨g2, m2, _, hle2, ⟨hn1, hn2, hn3, ws, k, rfl, ?_⟩, x⟩
      have hvz : ((vs.length : Int) - 0).toNat = (List.range needs.length).length := by rw [List.length_range]; omega
      rw [hvz, List.drop_length] at hf
      rw [hsN, turn1, hf]
      exact hw
  · rintro g2 m2 μ2 s hle2 hJp0
    refine absP fun Gx hGx => ?_
    obtain ⟨hn1, hn2, hn3, ws, k, rfl, hw⟩ := hJp0
    refine hGx ?_
    rintro x
    refine wpAny_execs_nil (wpAny_execs_cons (wpAny_Return_some (r_cell x rfl (.inr mem1) h1 ?_)))
    rw [hrl, List.take_length] at hw
    exact h _ _ D (hle2.trans x.freeze_le) (x.freeze.st.tl) ⟨ws, ⟨k, put_self _ _ _⟩, hw⟩
end
end Mine
end
section
set_option maxRecDepth 100000
set_option autoImplicit false
namespace Mine
open PySem
section
variable {α : Type} [DecidableEq α]
noncomputable def goodIn (rows : List (List α)) (c : α) : Bool := !(rows.any fun t => t.tail.contains c)
noncomputable def firstG (all : List (List α)) : List (List α) → Option α
  | [] => none
  | [] :: ss => firstG all ss
  | (c :: _) :: ss => if goodIn all c then some c else firstG all ss
noncomputable def stepG (c : α) (r : List α) : List α := if r.head? == some c then r.tail else r
noncomputable def c3G : Nat → List (List α) → List α → Option (List α)
  | 0, _, _ => none
  | n + 1, rows, acc =>
    if rows.all List.isEmpty then some acc
    else match firstG rows rows with
      | none => none
      | some c => c3G n (rows.map (stepG c)) (acc ++ [c])
end
section
variable {α : Type} [DecidableEq α] {J : α → Str} {S : List α}
noncomputable def InjOn (J : α → Str) (S : List α) : Prop := ∀ x ∈ S, ∀ y ∈ S, J x = J y → x = y
theorem contains_map (hJ : InjOn J S) {l : List α} {c : α} (hl : ∀ x ∈ l, x ∈ S) (hc : c ∈ S) : (l.map J).contains (J c) = l.contains c := by
  rw [Bool.eq_iff_iff, List.contains_iff_mem, List.contains_iff_mem, List.mem_map]
  constructor
  · rintro ⟨x, hx, e⟩
    rw [hJ x (hl x hx) c hc e] at hx; exact hx
  · exact fun h => ⟨c, h, rfl⟩
omit [DecidableEq α] in
theorem tail_mem {l : List α} {x : α} (h : x ∈ l.tail) : x ∈ l := List.mem_of_mem_tail h
theorem any_map_good (hJ : InjOn J S) {all : List (List α)} {c : α} (ha : ∀ r ∈ all, ∀ x ∈ r, x ∈ S) (hc : c ∈ S) : (((all.map (List.map J)).filter full).any fun t => t.tail.contains (J c)) = !goodIn all c := by
  unfold goodIn
  rw [Bool.not_not]
  induction all with
  | nil => rfl
  | cons r rs ih =>
    have ih := ih fun r hr => ha r (.tail _ hr)
    rw [List.map_cons, List.any_cons]
    cases r with
    | nil => exact ih
    | cons x xs =>
      have hf : full ((x :: xs).map J) = true := rfl
      rw [List.filter_cons, hf, if_pos rfl, List.any_cons, ih]
      congr 1
      exact contains_map hJ (fun y hy => ha _ (.head _) y (.tail _ hy)) hc
theorem first_map (hJ : InjOn J S) {all : List (List α)} (ha : ∀ r ∈ all, ∀ x ∈ r, x ∈ S) : ∀ {rs : List (List α)}, (∀ r ∈ rs, ∀ x ∈ r, x ∈ S) → firstGood ((all.map (List.map J)).filter full) ((rs.map (List.map J)).filter full) = (firstG all rs).map J
  | [], _ => rfl
  | [] :: rs, h => by
    have := first_map hJ ha (rs := rs) fun r hr => h r (.tail _ hr)
    exact this
  | (c :: r) :: rs, h => by
    have ih := first_map hJ ha (rs := rs) fun r hr => h r (.tail _ hr)
    have hc : c ∈ S := h _ (.head _) c (.head _)
    have hf : full ((c :: r).map J) = true := rfl
    rw [List.map_cons, List.filter_cons, hf, if_pos rfl, firstGood]
    have e : ((c :: r).map J).headD Str.empty = J c := rfl
    rw [e, any_map_good hJ ha hc, firstG]
    cases goodIn all c with
    | true => rfl
    | false => exact ih
theorem step_map (hJ : InjOn J S) {c : α} (hc : c ∈ S) {r : List α} (hr : ∀ x ∈ r, x ∈ S) : stepC (J c) (r.map J) = (stepG c r).map J := by
  unfold stepC stepG
  cases r with
  | nil => rfl
  | cons x xs =>
    have hx := hr x (.head _)
    show (if (some (J x) == some (J c)) = true then (xs.map J) else _) = _
    have e : (some (J x) == some (J c)) = (some x == some c) := by
      rw [Bool.eq_iff_iff, beq_iff_eq, beq_iff_eq, Option.some_inj, Option.some_inj]
      exact ⟨hJ x hx c hc, fun e => by rw [e]⟩
    rw [e]
    show _ = List.map J (if (some x == some c) = true then xs else x :: xs)
    split <;> rfl
theorem firstG_mem {all rs : List (List α)} {c : α} (h : firstG all rs = some c) : ∃ r ∈ rs, c ∈ r := by
  induction rs with
  | nil => cases h
  | cons r rs ih =>
    cases r with
    | nil => obtain ⟨r, h1, h2⟩ := ih h; exact ⟨r, .tail _ h1, h2⟩
    | cons x xs =>
      unfold firstG at h
      split at h
      · cases h; exact ⟨_, .head _, .head _⟩
      · obtain ⟨r, h1, h2⟩ := ih h; exact ⟨r, .tail _ h1, h2⟩
theorem stepG_sub {c : α} {r : List α} {x : α} (h : x ∈ stepG c r) : x ∈ r := by
  unfold stepG at h
  split at h
  · exact tail_mem h
  · exact h
theorem c3_map (hJ : InjOn J S) : ∀ (n : Nat) (rows : List (List α)) (acc : List α), (∀ r ∈ rows, ∀ x ∈ r, x ∈ S) → c3F n (rows.map (List.map J)) (acc.map J) = (c3G n rows acc).map (List.map J)
  | 0, _, _, _ => rfl
  | n + 1, rows, acc, h => by
    rw [c3F, c3G]
    have he : ((rows.map (List.map J)).filter full).isEmpty = rows.all List.isEmpty := by
      rw [Bool.eq_iff_iff, List.isEmpty_iff, List.filter_eq_nil_iff, List.all_eq_true]
      constructor
      · intro q r hr
        have := q (r.map J) (List.mem_map_of_mem hr)
        cases r with
        | nil => rfl
        | cons _ _ => exact absurd rfl this
      · intro q r hr
        obtain ⟨r', hr', rfl⟩ := List.mem_map.mp hr
        have := q r' hr'
        rw [List.isEmpty_iff] at this
        rw [this]; exact fun q => by cases q
    rw [he, first_map hJ h h]
    split
    · rfl
    · cases hf : firstG rows rows with
      | none => rfl
      | some c =>
        obtain ⟨r, hr, hcr⟩ := firstG_mem hf
        have hc := h r hr c hcr
        have ih := c3_map hJ n (rows.map (stepG c)) (acc ++ [c]) (fun r hr x hx => by
          obtain ⟨r', hr', rfl⟩ := List.mem_map.mp hr
          exact h r' hr' x (stepG_sub hx))
        show c3F n ((rows.map (List.map J)).map (stepC (J c))) (acc.map J ++ [J c]) = _
        rw [← List.map_singleton, ← List.map_append, ← ih]
        congr 1
        rw [List.map_map, List.map_map]
        exact List.map_congr_left fun r hr => step_map hJ hc (h r hr)
noncomputable def less (T : List α) (r : List α) : List α := r.filter fun x => !T.contains x
theorem less_nil (r : List α) : less [] r = r := by
  unfold less; rw [List.filter_eq_self]; intro a _; rfl
noncomputable def c3T : Nat → List (List α) → List α → Option (List α)
  | 0, _, _ => none
  | n + 1, rows, T =>
    if rows.all (fun r => (less T r).isEmpty) then some T
    else match firstG (rows.map (less T)) (rows.map (less T)) with
      | none => none
      | some c => c3T n rows (T ++ [c])
theorem less_append (T : List α) (c : α) (r : List α) : less (T ++ [c]) r = (less T r).filter fun x => !(x == c) := by
  unfold less
  rw [List.filter_filter]
  refine List.filter_congr fun x _ => ?_
  rw [Bool.eq_iff_iff]
  simp [and_comm]
theorem firstG_good {all rs : List (List α)} {c : α} (h : firstG all rs = some c) : goodIn all c = true := by
  induction rs with
  | nil => cases h
  | cons r rs ih =>
    cases r with
    | nil => exact ih h
    | cons x xs =>
      unfold firstG at h
      split at h
      · rename_i hg; cases h; exact hg
      · exact ih h
theorem step_less {T : List α} {c : α} {r : List α} (hn : r.Nodup) (ht : c ∉ (less T r).tail) : stepG c (less T r) = less (T ++ [c]) r := by
  rw [less_append]
  have hn' : (less T r).Nodup := hn.sublist List.filter_sublist
  generalize less T r = s at ht hn'
  unfold stepG
  cases s with
  | nil => rfl
  | cons x xs =>
    rw [List.nodup_cons] at hn'
    show (if (some x == some c) = true then xs else x :: xs) = _
    have hxs : xs.filter (fun y => !(y == c)) = xs := by
      rw [List.filter_eq_self]
      intro y hy
      have : y ≠ c := fun e => ht (by rw [← e]; exact hy)
      simpa using this
    by_cases e : x = c
    · subst e
      rw [if_pos (by simp), List.filter_cons, if_neg (by simp), hxs]
    · rw [if_neg (by simpa using e), List.filter_cons, if_pos (by simpa using e), hxs]
theorem c3_less : ∀ (n : Nat) (rows : List (List α)) (T : List α), (∀ r ∈ rows, r.Nodup) → c3G n (rows.map (less T)) T = c3T n rows T
  | 0, _, _, _ => rfl
  | n + 1, rows, T, hn => by
    rw [c3G, c3T]
    have he : (rows.map (less T)).all List.isEmpty = rows.all (fun r => (less T r).isEmpty) := by rw [List.all_map]; rfl
    rw [he]
    split
    · rfl
    · cases hf : firstG (rows.map (less T)) (rows.map (less T)) with
      | none => rfl
      | some c =>
        have hg := firstG_good hf
        have ih := c3_less n rows (T ++ [c]) hn
        show c3G n ((rows.map (less T)).map (stepG c)) (T ++ [c]) = c3T n rows (T ++ [c])
        rw [← ih, List.map_map]
        congr 1
        refine List.map_congr_left fun r hr => step_less (hn r hr) fun hm => ?_
        unfold goodIn at hg
        rw [Bool.not_eq_true', List.any_eq_false] at hg
        exact hg _ (List.mem_map_of_mem hr) (by rw [List.contains_iff_mem]; exact hm)
theorem c3G_eq_T (n : Nat) (rows : List (List α)) (hn : ∀ r ∈ rows, r.Nodup) : c3G n rows [] = c3T n rows [] := by
  rw [← c3_less n rows [] hn]
  congr 1
  rw [show rows.map (less []) = rows.map id from List.map_congr_left fun r _ => less_nil r, List.map_id]
theorem goodIn_iff {rows : List (List α)} {c : α} : goodIn rows c = true ↔ ∀ t ∈ rows, c ∉ t.tail := by
  unfold goodIn
  rw [Bool.not_eq_true', List.any_eq_false]
  exact ⟨fun h t ht hm => h t ht (List.contains_iff_mem.mpr hm), fun h t ht hm => h t ht (List.contains_iff_mem.mp hm)⟩
theorem firstG_some {all rs : List (List α)} {c : α} : firstG all rs = some c ↔ ∃ pre r post, rs = pre ++ r :: post ∧ r.head? = some c ∧ goodIn all c = true ∧ ∀ q ∈ pre, ∀ d, q.head? = some d → goodIn all d = false := by
  induction rs with
  | nil => exact ⟨fun h => (by cases h), fun ⟨pre, r, post, h, _⟩ => (by cases pre <;> cases h)⟩
  | cons q rs ih =>
    have keep : (∀ d, q.head? = some d → goodIn all d = false) → (firstG all rs = some c ↔ ∃ pre r post, q :: rs = pre ++ r :: post ∧ r.head? = some c ∧ goodIn all c = true ∧ ∀ q ∈ pre, ∀ d, q.head? = some d → goodIn all d = false) := by
      intro hq
      rw [ih]
      constructor
      · rintro ⟨pre, r, post, h1, h2, h3, h4⟩
        refine ⟨q :: pre, r, post, by rw [h1]; rfl, h2, h3, fun q' hq' d hd => ?_⟩
        rcases List.mem_cons.mp hq' with rfl | hq'
        · exact hq d hd
        · exact h4 q' hq' d hd
      · rintro ⟨pre, r, post, h1, h2, h3, h4⟩
        cases pre with
        | nil =>
          injection h1 with h1 _
          subst h1
          rw [hq c h2] at h3; cases h3
        | cons q' pre =>
          injection h1 with h1 h1'
          exact ⟨pre, r, post, h1', h2, h3, fun q hq => h4 q (.tail _ hq)⟩
    cases q with
    | nil => exact keep fun d hd => by cases hd
    | cons x xs =>
      unfold firstG
      cases hg : goodIn all x with
      | true =>
        rw [if_pos rfl]
        constructor
        · intro h
          cases h
          exact ⟨[], _, rs, rfl, rfl, hg, fun _ h => by cases h⟩
        · rintro ⟨pre, r, post, h1, h2, h3, h4⟩
          cases pre with
          | nil => injection h1 with h1 _; subst h1; exact h2
          | cons q' pre =>
            injection h1 with h1 _
            have := h4 q' (.head _) x (by rw [← h1]; rfl)
            rw [hg] at this; cases this
      | false =>
        rw [if_neg (by simp)]
        exact keep fun d hd => by cases hd; exact hg
end
end Mine
end
section
set_option maxRecDepth 100000
set_option autoImplicit false
namespace Mine
open PySem
noncomputable abbrev Nd := List Str
noncomputable def sb (q x : Nd) : Bool := decide (q.length < x.length) && (x.take q.length == q)
theorem sb_iff {q x : Nd} : sb q x = true ↔ q <+: x ∧ q.length < x.length := by
  unfold sb
  rw [Bool.and_eq_true, decide_eq_true_eq, beq_iff_eq, List.prefix_iff_eq_take]
  exact ⟨fun h => ⟨h.2.symm, h.1⟩, fun h => ⟨h.2, h.1.symm⟩⟩
theorem sb_irrefl (q : Nd) : sb q q = false := by unfold sb; simp
theorem sb_asymm {q x : Nd} (h : sb q x = true) : sb x q = false := by
  have := (sb_iff.mp h).2
  unfold sb
  rw [decide_eq_false (by first | assumption | exact Nat.le_trans (by assumption) (by decide) | exact Nat.le_trans (Nat.le_of_eq (by assumption)) (Nat.le_trans (by assumption) (by decide)) | omega)]; rfl
theorem sb_trans {a b c : Nd} (h : sb a b = true) (k : sb b c = true) : sb a c = true := by
  rw [sb_iff] at *
  exact ⟨h.1.trans k.1, Nat.lt_trans h.2 k.2⟩
theorem mem_downs {p y : Nd} : y ∈ downs p ↔ y ≠ [] ∧ y <+: p := by
  unfold downs
  rw [List.mem_map]
  constructor
  · rintro ⟨i, hi, rfl⟩
    rw [List.mem_range] at hi
    refine ⟨fun q => ?_, List.take_prefix _ _⟩
    have := congrArg List.length q
    rw [List.length_take] at this
    simp at this; omega
  · rintro ⟨h1, h2⟩
    have hl := h2.length_le
    have h0 : 0 < y.length := List.length_pos_iff.mpr h1
    refine ⟨p.length - y.length, List.mem_range.mpr (by first | assumption | exact Nat.le_trans (by assumption) (by decide) | exact Nat.le_trans (Nat.le_of_eq (by assumption)) (Nat.le_trans (by assumption) (by decide)) | omega), ?_⟩
    rw [show p.length - (p.length - y.length) = y.length by omega]
    exact (List.prefix_iff_eq_take.mp h2).symm
theorem downs_pairwise (p : Nd) : (downs p).Pairwise fun y x => sb x y = true := by
  unfold downs
  rw [List.pairwise_map]
  refine List.Pairwise.imp_of_mem ?_ (List.pairwise_lt_range (n := p.length))
  intro i j hi hj hij
  rw [List.mem_range] at hi hj
  rw [sb_iff]
  refine ⟨?_, by rw [List.length_take, List.length_take]; omega⟩
  rw [List.prefix_iff_eq_take, List.take_take, List.length_take]
  congr 1
  omega
theorem downs_nodup (p : Nd) : (downs p).Nodup := (downs_pairwise p).imp fun h e => by subst e; rw [sb_irrefl] at h; cases h
theorem tail_iff {l : List Nd} (h : l.Pairwise fun y x => sb x y = true) {x : Nd} : x ∈ l.tail ↔ x ∈ l ∧ ∃ y ∈ l, sb x y = true := by
  cases l with
  | nil => simp
  | cons a t =>
    rw [List.pairwise_cons] at h
    constructor
    · intro hx
      exact ⟨.tail _ hx, a, .head _, h.1 x hx⟩
    · rintro ⟨hx, y, hy, hs⟩
      rcases List.mem_cons.mp hx with rfl | hx
      · rcases List.mem_cons.mp hy with rfl | hy
        · rw [sb_irrefl] at hs; cases hs
        · have := h.1 y hy; rw [sb_asymm hs] at this; cases this
      · exact hx
theorem less_pairwise (T : List Nd) (p : Nd) : (less T (downs p)).Pairwise fun y x => sb x y = true := (downs_pairwise p).sublist List.filter_sublist
theorem mem_less {T : List Nd} {r : List Nd} {x : Nd} : x ∈ less T r ↔ x ∈ r ∧ x ∉ T := by
  unfold less; rw [List.mem_filter]; simp
noncomputable def free (paths : List Nd) (T : List Nd) (x : Nd) : Prop := ∀ p ∈ paths, ∀ y ∈ downs p, y ∉ T → sb x y = false
theorem good_iff {paths : List Nd} {T : List Nd} {c : Nd} (h0 : c ≠ []) (hT : c ∉ T) : goodIn ((paths.map downs).map (less T)) c = true ↔ free paths T c := by
  rw [goodIn_iff]
  unfold free
  constructor
  · intro h p hp y hy hyT
    cases hs : sb c y with
    | false => rfl
    | true =>
      exfalso
      have hm := h (less T (downs p)) (List.mem_map_of_mem (List.mem_map_of_mem hp))
      rw [tail_iff (less_pairwise T p)] at hm
      have hy' := mem_downs.mp hy
      refine hm ⟨mem_less.mpr ⟨mem_downs.mpr ⟨h0, (sb_iff.mp hs).1.trans hy'.2⟩, hT⟩, y, mem_less.mpr ⟨hy, hyT⟩, hs⟩
  · intro h t ht
    obtain ⟨r, hr, rfl⟩ := List.mem_map.mp ht
    obtain ⟨p, hp, rfl⟩ := List.mem_map.mp hr
    rw [tail_iff (less_pairwise T p)]
    rintro ⟨_, y, hy, hs⟩
    rw [mem_less] at hy
    rw [h p hp y hy.1 hy.2] at hs; cases hs
theorem head_of_free {paths : List Nd} {T : List Nd} {p c : Nd} (hp : p ∈ paths) (hc : c ∈ downs p) (hT : c ∉ T) (hf : free paths T c) : (less T (downs p)).head? = some c := by
  have hm : c ∈ less T (downs p) := mem_less.mpr ⟨hc, hT⟩
  have hpw := less_pairwise T p
  have hall : ∀ y ∈ less T (downs p), sb c y = false := fun y hy => hf p hp y (mem_less.mp hy).1 (mem_less.mp hy).2
  generalize less T (downs p) = l at hm hpw hall
  cases l with
  | nil => cases hm
  | cons a t =>
    rcases List.mem_cons.mp hm with rfl | hm
    · rfl
    · rw [List.pairwise_cons] at hpw
      have := hpw.1 c hm
      rw [hall a (.head _)] at this; cases this
end Mine
end
section
set_option maxRecDepth 100000
set_option autoImplicit false
namespace Mine
open PySem
noncomputable def isNode (paths : List Nd) (y : Nd) : Prop := ∃ p ∈ paths, y ∈ downs p
theorem free_iff {paths : List Nd} {T : List Nd} {x : Nd} : free paths T x ↔ ∀ y, isNode paths y → y ∉ T → sb x y = false :=
  ⟨fun h y ⟨p, hp, hy⟩ ht => h p hp y hy ht, fun h p hp y hy ht => h y ⟨p, hp, hy⟩ ht⟩
theorem not_free {paths : List Nd} {T : List Nd} {x : Nd} (h : ¬ free paths T x) : ∃ y, isNode paths y ∧ y ∉ T ∧ sb x y = true := by
  rw [free_iff] at h
  apply Classical.byContradiction
  intro q
  refine h fun y hy ht => ?_
  cases hs : sb x y with
  | false => rfl
  | true => exact absurd ⟨y, hy, ht, hs⟩ q
theorem long_bound (paths : List Nd) : ∃ M, ∀ y, isNode paths y → y.length ≤ M := by
  induction paths with
  | nil => exact ⟨0, fun y ⟨p, hp, _⟩ => by cases hp⟩
  | cons p ps ih =>
    obtain ⟨M, hM⟩ := ih
    refine ⟨max M p.length, fun y ⟨r, hr, hy⟩ => ?_⟩
    rcases List.mem_cons.mp hr with rfl | hr
    · have := (mem_downs.mp hy).2.length_le; omega
    · have := hM y ⟨r, hr, hy⟩; omega
theorem exists_free {paths : List Nd} {T : List Nd} {y : Nd} (hy : isNode paths y) (ht : y ∉ T) : ∃ z, isNode paths z ∧ z ∉ T ∧ (z = y ∨ sb y z = true) ∧ free paths T z := by
  obtain ⟨M, hM⟩ := long_bound paths
  generalize hk : M - y.length = k
  induction k using Nat.strongRecOn generalizing y with
  | _ k ih =>
    by_cases hf : free paths T y
    · exact ⟨y, hy, ht, .inl rfl, hf⟩
    · obtain ⟨z, hz, hzt, hs⟩ := not_free hf
      have h1 := hM y hy
      have h2 := hM z hz
      have h3 := (sb_iff.mp hs).2
      obtain ⟨u, hu, hut, hor, huf⟩ := ih (M - z.length) (by first | assumption | exact Nat.le_trans (by assumption) (by decide) | exact Nat.le_trans (Nat.le_of_eq (by assumption)) (Nat.le_trans (by assumption) (by decide)) | omega) hz hzt rfl
      refine ⟨u, hu, hut, .inr ?_, huf⟩
      rcases hor with rfl | hor
      · exact hs
      · exact sb_trans hs hor
theorem up_downs {p x h : Nd} (hx : x ∈ downs p) (h0 : h ≠ []) (hp : h <+: x) : h ∈ downs p := mem_downs.mpr ⟨h0, hp.trans (mem_downs.mp hx).2⟩
theorem sb_comparable {p a b : Nd} (ha : a ∈ downs p) (hb : b ∈ downs p) : a = b ∨ sb a b = true ∨ sb b a = true := by
  have ha' := (mem_downs.mp ha).2
  have hb' := (mem_downs.mp hb).2
  rcases Nat.lt_trichotomy a.length b.length with h | h | h
  · exact .inr (.inl (sb_iff.mpr ⟨List.prefix_of_prefix_length_le ha' hb' (Nat.le_of_lt h), h⟩))
  · left
    rw [List.prefix_iff_eq_take.mp ha', List.prefix_iff_eq_take.mp hb', h]
  · exact .inr (.inr (sb_iff.mpr ⟨List.prefix_of_prefix_length_le hb' ha' (Nat.le_of_lt h), h⟩))
structure Start (paths pre : List Nd) (T : List Nd) : Prop where
  closed : ∀ y ∈ T, ∀ x, isNode paths x → sb y x = true → x ∈ T
  src : ∀ y ∈ T, ∃ r ∈ pre, y ∈ downs r
  shut : ∀ r ∈ pre, ∀ h ∈ downs r, h ∉ T → ¬ free paths T h
structure Mid (paths pre : List Nd) (p : Nd) (T : List Nd) : Prop where
  closed : ∀ y ∈ T, ∀ x, isNode paths x → sb y x = true → x ∈ T
  src : ∀ y ∈ T, ∃ r ∈ pre ++ [p], y ∈ downs r
  gate : ∀ r ∈ pre, ∀ h ∈ downs r, h ∉ T → free paths T h → h ∈ downs p
theorem Start.mid {paths pre : List Nd} {p : Nd} {T : List Nd} (s : Start paths pre T) : Mid paths pre p T :=
  ⟨s.closed, fun y hy => let ⟨r, hr, h⟩ := s.src y hy; ⟨r, List.mem_append_left _ hr, h⟩, fun r hr h hh ht hf => absurd hf (s.shut r hr h hh ht)⟩
theorem Mid.start {paths pre : List Nd} {p : Nd} {T : List Nd} (s : Mid paths pre p T) (h : ∀ h ∈ downs p, h ∉ T → ¬ free paths T h) : Start paths (pre ++ [p]) T := by
  refine ⟨s.closed, s.src, fun r hr x hx ht hf => ?_⟩
  rcases List.mem_append.mp hr with hr | hr
  · exact h x (s.gate r hr x hx ht hf) ht hf
  · rw [List.mem_singleton.mp hr] at hx
    exact h x hx ht hf
theorem takes {paths pre post : List Nd} {p q : Nd} {T : List Nd} (hps : paths = pre ++ p :: post) (M : Mid paths pre p T) (hq : q ∈ downs p) (ht : q ∉ T) (hf : free paths T q) :
    firstG ((paths.map downs).map (less T)) ((paths.map downs).map (less T)) = some q := by
  have hp : p ∈ paths := by rw [hps]; simp
  have hhead := head_of_free hp hq ht hf
  have hgq : goodIn ((paths.map downs).map (less T)) q = true := (good_iff (mem_downs.mp hq).1 ht).mpr hf
  have hgen : ∀ r ∈ pre, ∀ d, (less T (downs r)).head? = some d → goodIn ((paths.map downs).map (less T)) d = true → d = q := by
    intro r hr d hd hg
    have hm : d ∈ less T (downs r) := List.mem_of_mem_head? hd
    rw [mem_less] at hm
    have hfd := (good_iff (mem_downs.mp hm.1).1 hm.2).mp hg
    have := M.gate r hr d hm.1 hm.2 hfd
    have h2 := head_of_free hp this hm.2 hfd
    rw [hhead] at h2
    exact (Option.some.inj h2).symm
  generalize hall : (paths.map downs).map (less T) = all at hgq hgen ⊢
  have hsplit : all = (pre.map downs).map (less T) ++ less T (downs p) :: (post.map downs).map (less T) := by rw [← hall, hps]; simp
  suffices h : ∀ pr : List Nd, (∀ r ∈ pr, r ∈ pre) → firstG all ((pr.map downs).map (less T) ++ less T (downs p) :: (post.map downs).map (less T)) = some q by
    have := h pre fun _ h => h
    rw [← hsplit] at this; exact this
  intro pr hpr
  induction pr with
  | nil =>
    rw [firstG_some]
    exact ⟨[], _, _, rfl, hhead, hgq, fun _ h => by cases h⟩
  | cons r rs ih =>
    have ih := ih fun x hx => hpr x (.tail _ hx)
    show firstG all (less T (downs r) :: _) = _
    cases hr : less T (downs r) with
    | nil => exact ih
    | cons d ds =>
      unfold firstG
      cases hg : goodIn all d with
      | true =>
        rw [if_pos rfl, hgen r (hpr r (.head _)) d (by rw [hr]; rfl) hg]
      | false => rw [if_neg (by simp)]; exact ih
end Mine
end
section
set_option maxRecDepth 100000
set_option autoImplicit false
namespace Mine
open PySem
theorem leftIs_iff {T : List Nd} {q x : Nd} : leftIs T q x = true ↔ sb q x = true ∧ x ∉ T := by
  unfold leftIs sb
  rw [Bool.and_eq_true, Bool.not_eq_true']
  constructor
  · exact fun ⟨a, b⟩ => ⟨a, fun h => by rw [List.contains_iff_mem.mpr h] at b; cases b⟩
  · exact fun ⟨a, b⟩ => ⟨a, by cases h : T.contains x with
      | false => rfl
      | true => exact absurd (List.contains_iff_mem.mp h) b⟩
theorem c3T_step {α : Type} [DecidableEq α] {n : Nat} {rows : List (List α)} {T : List α} {c : α} (h : firstG (rows.map (less T)) (rows.map (less T)) = some c) : c3T (n + 1) rows T = c3T n rows (T ++ [c]) := by
  rw [c3T, if_neg, h]
  intro q
  obtain ⟨r, hr, hc⟩ := firstG_mem h
  obtain ⟨r', hr', rfl⟩ := List.mem_map.mp hr
  rw [List.all_eq_true] at q
  have := q r' hr'
  rw [List.isEmpty_iff] at this
  rw [this] at hc; cases hc
theorem self_downs {x : Nd} (h : x ≠ []) : x ∈ downs x := mem_downs.mpr ⟨h, List.prefix_rfl⟩
theorem sb_ne {q x : Nd} (h : sb q x = true) : x ≠ [] := fun e => by
  have := (sb_iff.mp h).2
  rw [e] at this; simp at this
theorem sb_prefix {q x : Nd} (h : sb q x = true) : q <+: x := (sb_iff.mp h).1
theorem free_of_noLeft {paths pre post : List Nd} {p q : Nd} {T done qs : List Nd} (hps : paths = pre ++ p :: post) (M : Mid paths pre p T) (hd : downs p = done ++ q :: qs) (hdt : ∀ d ∈ done, d ∈ T)
    (hl : ∀ x ∈ paths, sb q x = true → x ∈ T) : free paths T q := by
  apply Classical.byContradiction
  intro hf
  obtain ⟨y, hy, hyt, hs⟩ := not_free hf
  obtain ⟨z, hz, hzt, hor, hzf⟩ := exists_free hy hyt
  have hsz : sb q z = true := by
    rcases hor with rfl | h
    · exact hs
    · exact sb_trans hs h
  obtain ⟨r, hr, hzr⟩ := hz
  have hzr' := mem_downs.mp hzr
  have hqr : sb q r = true := by
    rw [sb_iff] at hsz ⊢
    exact ⟨hsz.1.trans hzr'.2, Nat.lt_of_lt_of_le hsz.2 hzr'.2.length_le⟩
  have hrT := hl r hr hqr
  obtain ⟨r', hr', hrr'⟩ := M.src r hrT
  have hz' : z ∈ downs r' := up_downs hrr' hzr'.1 hzr'.2
  have hzp : z ∈ downs p := by
    rcases List.mem_append.mp hr' with h | h
    · exact M.gate r' h z hz' hzt hzf
    · rw [List.mem_singleton.mp h] at hz'; exact hz'
  have hpw := downs_pairwise p
  rw [hd] at hzp hpw
  rcases List.mem_append.mp hzp with h | h
  · exact hzt (hdt z h)
  · rcases List.mem_cons.mp h with rfl | h
    · rw [sb_irrefl] at hsz; cases hsz
    · have h2 := (List.pairwise_cons.mp (List.pairwise_append.mp hpw).2.1).1 z h
      rw [sb_asymm hsz] at h2; cases h2
theorem Mid.grow {paths pre : List Nd} {p q : Nd} {T : List Nd} (M : Mid paths pre p T) (hq : q ∈ downs p) (hf : free paths T q) : Mid paths pre p (T ++ [q]) := by
  refine ⟨fun y hy x hx hs => ?_, fun y hy => ?_, fun r hr h hh ht hfh => ?_⟩
  · rcases List.mem_append.mp hy with hy | hy
    · exact List.mem_append_left _ (M.closed y hy x hx hs)
    · rw [List.mem_singleton] at hy; subst hy
      refine List.mem_append_left _ (Classical.byContradiction fun hxt => ?_)
      rw [free_iff.mp hf x hx hxt] at hs; cases hs
  · rcases List.mem_append.mp hy with hy | hy
    · exact M.src y hy
    · rw [List.mem_singleton] at hy; subst hy
      exact ⟨p, by simp, hq⟩
  · have ht' : h ∉ T := fun k => ht (List.mem_append_left _ k)
    by_cases hf' : free paths T h
    · exact M.gate r hr h hh ht' hf'
    · obtain ⟨y, hy, hyt, hs⟩ := not_free hf'
      have hyq : y = q := by
        apply Classical.byContradiction
        intro hne
        rw [free_iff.mp hfh y hy (fun k => by
          rcases List.mem_append.mp k with k | k
          · exact hyt k
          · exact hne (List.mem_singleton.mp k))] at hs
        cases hs
      subst hyq
      exact up_downs hq (mem_downs.mp hh).1 (sb_prefix hs)
theorem climb_inner {paths pre post : List Nd} {p : Nd} {T0 : List Nd} (hps : paths = pre ++ p :: post) (S : Start paths pre T0) : ∀ (qs done new : List Nd), downs p = done ++ qs → (∀ d ∈ done, d ∈ T0 ++ new) → (∀ y ∈ new, y ∈ done ∧ y ∉ T0) → (T0 ++ new).Nodup → Mid paths pre p (T0 ++ new) →
    Start paths (pre ++ [p]) (climb1 paths (T0 ++ new) qs) ∧ (climb1 paths (T0 ++ new) qs).Nodup ∧ ∃ k, ∀ n, c3T (n + k) (paths.map downs) (T0 ++ new) = c3T n (paths.map downs) (climb1 paths (T0 ++ new) qs)
  | [], done, new, hd, hdt, _, hnd, M => by
    rw [climb1]
    refine ⟨M.start fun h hh ht => ?_, hnd, 0, fun n => rfl⟩
    rw [hd, List.append_nil] at hh
    exact absurd (hdt h hh) ht
  | q :: qs, done, new, hd, hdt, hnew, hnd, M => by
    have hp : p ∈ paths := by rw [hps]; simp
    have hpw := downs_pairwise p
    rw [hd] at hpw
    have hq : q ∈ downs p := by rw [hd]; simp
    obtain ⟨_, hpq, hpd⟩ := List.pairwise_append.mp hpw
    rw [List.pairwise_cons] at hpq
    rw [climb1]
    by_cases hT : q ∈ T0 ++ new
    · rw [if_pos (by rw [List.contains_iff_mem.mpr hT]; rfl)]
      refine ⟨?_, hnd, 0, fun n => rfl⟩
      have hq0 : q ∈ T0 := by
        rcases List.mem_append.mp hT with h | h
        · exact h
        · have h1 := hpd q (hnew q h).1 q (.head _)
          rw [sb_irrefl] at h1; cases h1
      have hn : new = [] := by
        cases new with
        | nil => rfl
        | cons y ys =>
          obtain ⟨hyd, hy0⟩ := hnew y (.head _)
          have hs := hpd y hyd q (.head _)
          exact absurd (S.closed q hq0 y ⟨p, hp, by rw [hd]; exact List.mem_append_left _ hyd⟩ hs) hy0
      subst hn
      obtain ⟨r', hr', hqr'⟩ := S.src q hq0
      refine M.start fun h hh ht => ?_
      rw [List.append_nil] at ht ⊢
      have hs : sb h q = true := by
        rw [hd] at hh
        rcases List.mem_append.mp hh with h1 | h1
        · have := hdt h h1; rw [List.append_nil] at this; exact absurd this ht
        · rcases List.mem_cons.mp h1 with rfl | h1
          · exact absurd hq0 ht
          · exact hpq.1 h h1
      exact S.shut r' hr' h (up_downs hqr' (mem_downs.mp hh).1 (sb_prefix hs)) ht
    · have hT' : (T0 ++ new).contains q = false := by
        cases h : (T0 ++ new).contains q with
        | false => rfl
        | true => exact absurd (List.contains_iff_mem.mp h) hT
      rw [hT', Bool.false_or]
      by_cases hl : ∃ x ∈ paths, leftIs (T0 ++ new) q x = true
      · obtain ⟨x, hx, hlx⟩ := hl
        rw [if_pos (by
          rw [Bool.not_eq_true']
          cases h : (paths.filter (leftIs (T0 ++ new) q)).isEmpty with
          | false => rfl
          | true =>
            rw [List.isEmpty_iff, List.filter_eq_nil_iff] at h
            exact absurd hlx (h x hx))]
        obtain ⟨hsx, hxt⟩ := leftIs_iff.mp hlx
        refine ⟨M.start fun h hh ht hf => ?_, hnd, 0, fun n => rfl⟩
        have hs : sb h x = true := by
          rw [hd] at hh
          rcases List.mem_append.mp hh with h1 | h1
          · exact absurd (hdt h h1) ht
          · rcases List.mem_cons.mp h1 with rfl | h1
            · exact hsx
            · exact sb_trans (hpq.1 h h1) hsx
        rw [free_iff.mp hf x ⟨x, hx, self_downs (sb_ne hsx)⟩ hxt] at hs; cases hs
      · rw [if_neg (by
          rw [Bool.not_eq_true', Bool.not_eq_false, List.isEmpty_iff, List.filter_eq_nil_iff]
          exact fun x hx h => hl ⟨x, hx, h⟩)]
        have hf : free paths (T0 ++ new) q := free_of_noLeft hps M hd hdt fun x hx hs => Classical.byContradiction fun h => hl ⟨x, hx, leftIs_iff.mpr ⟨hs, h⟩⟩
        have hstep := takes hps M hq hT hf
        have e : T0 ++ new ++ [q] = T0 ++ (new ++ [q]) := List.append_assoc _ _ _
        have ih := climb_inner hps S qs (done ++ [q]) (new ++ [q]) (by rw [hd]; simp) (fun d h => by
            rcases List.mem_append.mp h with h | h
            · rw [← e]; exact List.mem_append_left _ (hdt d h)
            · rw [← e]; exact List.mem_append_right _ h)
          (fun y h => by
            rcases List.mem_append.mp h with h | h
            · exact ⟨List.mem_append_left _ (hnew y h).1, (hnew y h).2⟩
            · rw [List.mem_singleton] at h; subst h
              exact ⟨by simp, fun k => hT (List.mem_append_left _ k)⟩)
          (by
            rw [← e, List.nodup_append]
            refine ⟨hnd, by simp, fun a ha b hb => ?_⟩
            rw [List.mem_singleton] at hb; subst hb
            exact fun k => hT (by rw [← k]; exact ha))
          (by rw [← e]; exact M.grow hq hf)
        rw [← e] at ih
        obtain ⟨h1, h2, k, h3⟩ := ih
        refine ⟨h1, h2, k + 1, fun n => ?_⟩
        rw [← Nat.add_assoc, c3T_step hstep]
        exact h3 n
theorem climb_all (paths : List Nd) : ∀ (post pre T : List Nd), paths = pre ++ post → Start paths pre T → T.Nodup →
    Start paths paths (post.foldl (fun told p => climb1 paths told (downs p)) T) ∧ (post.foldl (fun told p => climb1 paths told (downs p)) T).Nodup ∧ ∃ k, ∀ n, c3T (n + k) (paths.map downs) T = c3T n (paths.map downs) (post.foldl (fun told p => climb1 paths told (downs p)) T)
  | [], pre, T, h, S, hn => by
    rw [List.append_nil] at h; subst h
    exact ⟨S, hn, 0, fun n => rfl⟩
  | p :: post, pre, T, h, S, hn => by
    have h1 := climb_inner (T0 := T) h S (downs p) [] [] rfl (fun _ h => by cases h) (fun _ h => by cases h) (by rw [List.append_nil]; exact hn) (by rw [List.append_nil]; exact S.mid)
    rw [List.append_nil] at h1
    obtain ⟨S1, n1, k1, e1⟩ := h1
    obtain ⟨S2, n2, k2, e2⟩ := climb_all paths post (pre ++ [p]) _ (by rw [h]; simp) S1 n1
    refine ⟨S2, n2, k2 + k1, fun n => ?_⟩
    rw [← Nat.add_assoc, e1, e2]
    rfl
theorem climb_told (paths : List Nd) : Start paths paths (climbF paths) ∧ (climbF paths).Nodup ∧ ∃ k, ∀ n, c3T (n + k) (paths.map downs) [] = c3T n (paths.map downs) (climbF paths) :=
  climb_all paths paths [] [] rfl ⟨fun _ h => (by cases h), fun _ h => (by cases h), fun _ h => (by cases h)⟩ (by simp)
theorem climb_nodup (paths : List Nd) : (climbF paths).Nodup := (climb_told paths).2.1
theorem climb_mem {paths : List Nd} {y : Nd} : y ∈ climbF paths ↔ isNode paths y := by
  have S := (climb_told paths).1
  constructor
  · exact fun h => S.src y h
  · intro h
    apply Classical.byContradiction
    intro ht
    obtain ⟨z, ⟨r, hr, hz⟩, hzt, _, hf⟩ := exists_free h ht
    exact S.shut r hr z hz hzt hf
theorem climb_closed {paths : List Nd} {y x : Nd} (hy : isNode paths y) (hx : isNode paths x) (_ : sb y x = true) : x ∈ climbF paths := climb_mem.mpr hx
theorem c3T_climb (paths : List Nd) : ∃ k, ∀ n, c3T (n + 1 + k) (paths.map downs) [] = some (climbF paths) := by
  obtain ⟨_, _, k, h⟩ := climb_told paths
  refine ⟨k, fun n => ?_⟩
  rw [h, c3T, if_pos]
  rw [List.all_eq_true]
  intro r hr
  obtain ⟨p, hp, rfl⟩ := List.mem_map.mp hr
  rw [List.isEmpty_iff]
  unfold less
  rw [List.filter_eq_nil_iff]
  intro y hy
  have := climb_mem.mpr ⟨p, hp, hy⟩
  simpa using this
section
variable {α : Type} [DecidableEq α]
noncomputable def tot (rows : List (List α)) : Nat := rows.foldr (fun r n => r.length + n) 0
theorem tot_step_le (c : α) (rows : List (List α)) : tot (rows.map (stepG c)) ≤ tot rows := by
  induction rows with
  | nil => exact Nat.le_refl _
  | cons r rs ih =>
    show (stepG c r).length + tot (rs.map (stepG c)) ≤ r.length + tot rs
    have : (stepG c r).length ≤ r.length := by
      unfold stepG; split
      · rw [List.length_tail]; omega
      · exact Nat.le_refl _
    omega
theorem tot_step (all : List (List α)) : ∀ (rows : List (List α)) (c : α), firstG all rows = some c → tot (rows.map (stepG c)) < tot rows
  | [], _, h => by cases h
  | [] :: rs, c, h => by
    have := tot_step all rs c h
    show (stepG c []).length + tot (rs.map (stepG c)) < 0 + tot rs
    have : stepG c ([] : List α) = [] := by unfold stepG; split <;> rfl
    rw [this]; simp; omega
  | (x :: xs) :: rs, c, h => by
    show (stepG c (x :: xs)).length + tot (rs.map (stepG c)) < (x :: xs).length + tot rs
    unfold firstG at h
    split at h
    · have hc : x = c := Option.some.inj h
      subst hc
      have e : stepG x (x :: xs) = xs := by unfold stepG; simp
      have := tot_step_le x rs
      rw [e]; simp; omega
    · have := tot_step all rs c h
      have h2 : (stepG c (x :: xs)).length ≤ (x :: xs).length := by
        unfold stepG; split
        · simp
        · exact Nat.le_refl _
      omega
theorem c3G_fuel : ∀ (n m : Nat) (rows : List (List α)) (acc : List α), tot rows < n → tot rows < m → c3G n rows acc = c3G m rows acc
  | 0, _, _, _, h, _ => by omega
  | _ + 1, 0, _, _, _, h => by omega
  | n + 1, m + 1, rows, acc, h, h' => by
    rw [c3G, c3G]
    split
    · rfl
    · cases hf : firstG rows rows with
      | none => rfl
      | some c =>
        have := tot_step rows rows c hf
        exact c3G_fuel n m _ _ (by first | assumption | exact Nat.le_trans (by assumption) (by decide) | exact Nat.le_trans (Nat.le_of_eq (by assumption)) (Nat.le_trans (by assumption) (by decide)) | omega) (by first | assumption | exact Nat.le_trans (by assumption) (by decide) | exact Nat.le_trans (Nat.le_of_eq (by assumption)) (Nat.le_trans (by assumption) (by decide)) | omega)
end
theorem c3G_climb (paths : List Nd) {n : Nat} (h : tot (paths.map downs) < n) : c3G n (paths.map downs) [] = some (climbF paths) := by
  obtain ⟨k, hk⟩ := c3T_climb paths
  rw [c3G_fuel n (n + 1 + k) _ _ h (by first | assumption | exact Nat.le_trans (by assumption) (by decide) | exact Nat.le_trans (Nat.le_of_eq (by assumption)) (Nat.le_trans (by assumption) (by decide)) | omega), c3G_eq_T _ _ (fun r hr => by
    obtain ⟨p, _, rfl⟩ := List.mem_map.mp hr
    exact downs_nodup p), hk n]
end Mine
end
section
set_option maxRecDepth 100000
set_option autoImplicit false
namespace Mine
open PySem
noncomputable def on (y t : Nd) : Bool := t == y || sb y t
theorem on_iff {y t : Nd} : on y t = true ↔ t = y ∨ sb y t = true := by unfold on; simp
theorem on_prefix {y t : Nd} (h : on y t = true) : y <+: t := by
  rcases on_iff.mp h with rfl | h
  · exact List.prefix_rfl
  · exact sb_prefix h
theorem on_trans {a b c : Nd} (h : on a b = true) (k : on b c = true) : on a c = true := by
  rcases on_iff.mp h with rfl | h
  · exact k
  · rcases on_iff.mp k with rfl | k
    · exact on_iff.mpr (.inr h)
    · exact on_iff.mpr (.inr (sb_trans h k))
theorem on_of_prefix {y t : Nd} (h : y <+: t) : on y t = true := by
  rw [on_iff, sb_iff]
  rcases Nat.lt_or_ge y.length t.length with k | k
  · exact .inr ⟨h, k⟩
  · exact .inl (h.eq_of_length (Nat.le_antisymm h.length_le k)).symm
noncomputable def tipIs (paths : List Nd) (p : Nd) : Bool := (paths.filter fun x => !(x == p) && on p x).isEmpty
theorem tipIs_iff {paths : List Nd} {p : Nd} : tipIs paths p = true ↔ ∀ x ∈ paths, sb p x = false := by
  unfold tipIs
  rw [List.isEmpty_iff, List.filter_eq_nil_iff]
  constructor
  · intro h x hx
    cases hs : sb p x with
    | false => rfl
    | true =>
      exfalso
      refine h x hx ?_
      have : x ≠ p := fun e => by rw [e, sb_irrefl] at hs; cases hs
      rw [on_iff.mpr (.inr hs)]; simpa using this
  · intro h x hx q
    rw [Bool.and_eq_true, on_iff] at q
    rcases q.2 with e | e
    · have := q.1; rw [e] at this; simp at this
    · rw [h x hx] at e; cases e
theorem long_paths (paths : List Nd) : ∃ M, ∀ y ∈ paths, y.length ≤ M := by
  induction paths with
  | nil => exact ⟨0, fun y h => by cases h⟩
  | cons p ps ih =>
    obtain ⟨M, hM⟩ := ih
    refine ⟨max M p.length, fun y h => ?_⟩
    rcases List.mem_cons.mp h with rfl | h
    · omega
    · have := hM y h; omega
theorem tip_over {paths : List Nd} {r : Nd} (hr : r ∈ paths) : ∃ t ∈ paths, tipIs paths t = true ∧ on r t = true := by
  obtain ⟨M, hM⟩ := long_paths paths
  generalize hk : M - r.length = k
  induction k using Nat.strongRecOn generalizing r with
  | _ k ih =>
    by_cases hf : tipIs paths r = true
    · exact ⟨r, hr, hf, on_iff.mpr (.inl rfl)⟩
    · have : ∃ x ∈ paths, sb r x = true := by
        apply Classical.byContradiction
        intro q
        refine hf (tipIs_iff.mpr fun x hx => ?_)
        cases hs : sb r x with
        | false => rfl
        | true => exact absurd ⟨x, hx, hs⟩ q
      obtain ⟨x, hx, hs⟩ := this
      have h1 := hM r hr
      have h2 := hM x hx
      have h3 := (sb_iff.mp hs).2
      obtain ⟨t, ht, htt, hot⟩ := ih (M - x.length) (by first | assumption | exact Nat.le_trans (by assumption) (by decide) | exact Nat.le_trans (Nat.le_of_eq (by assumption)) (Nat.le_trans (by assumption) (by decide)) | omega) hx rfl
      exact ⟨t, ht, htt, on_trans (on_iff.mpr (.inr hs)) hot⟩
theorem tip_ne {paths : List Nd} {y t : Nd} (hy : y ≠ []) (h : on y t = true) : t ≠ [] := fun e => by
  have := on_prefix h
  rw [e, List.prefix_nil] at this; exact hy this
theorem told_iff {paths pre T : List Nd} (S : Start paths pre T) (hp : ∀ x ∈ pre, x ∈ paths) {y : Nd} (hy : isNode paths y) : y ∈ T ↔ ∀ t ∈ paths, tipIs paths t = true → on y t = true → t ∈ pre := by
  have hy0 : y ≠ [] := by obtain ⟨p, _, h⟩ := hy; exact (mem_downs.mp h).1
  constructor
  · intro hyT t ht htip hon
    have htT : t ∈ T := by
      rcases on_iff.mp hon with rfl | h
      · exact hyT
      · exact S.closed y hyT t ⟨t, ht, self_downs (sb_ne h)⟩ h
    obtain ⟨r, hr, htr⟩ := S.src t htT
    have hpx := (mem_downs.mp htr).2
    have hs := tipIs_iff.mp htip r (hp r hr)
    rcases on_iff.mp (on_of_prefix hpx) with e | e
    · rw [← e]; exact hr
    · rw [e] at hs; cases hs
  · intro h
    apply Classical.byContradiction
    intro ht
    obtain ⟨z, ⟨r, hr, hz⟩, hzt, hor, hf⟩ := exists_free hy ht
    obtain ⟨t, htp, htip, hon⟩ := tip_over hr
    have hz' := mem_downs.mp hz
    have hyz : on y z = true := on_iff.mpr hor
    have hzt2 : on z t = true := on_trans (on_of_prefix hz'.2) hon
    exact S.shut t (h t htp htip (on_trans hyz hzt2)) z (mem_downs.mpr ⟨hz'.1, on_prefix hzt2⟩) hzt hf
theorem climb1_new (paths : List Nd) : ∀ (qs T : List Nd), ∃ new, climb1 paths T qs = T ++ new ∧ new.Sublist qs
  | [], T => ⟨[], by rw [climb1, List.append_nil], .slnil⟩
  | q :: qs, T => by
    rw [climb1]
    split
    · exact ⟨[], (List.append_nil _).symm, List.nil_sublist _⟩
    · obtain ⟨new, h1, h2⟩ := climb1_new paths qs (T ++ [q])
      exact ⟨q :: new, by rw [h1]; simp, h2.cons_cons q⟩
noncomputable def placesF (paths : List Nd) (y : Nd) : List Nat := ((paths.filter (tipIs paths)).filter (on y)).map fun t => paths.idxOf t
noncomputable def topF (ns : List Nat) : Int := ns.foldl (fun (m : Int) (n : Nat) => max m (n : Int)) (-1)
theorem foldl_top (ns : List Nat) : ∀ (m k : Int), ns.foldl (fun (m : Int) (n : Nat) => max m (n : Int)) m ≤ k ↔ m ≤ k ∧ ∀ n ∈ ns, (n : Int) ≤ k := by
  induction ns with
  | nil => intro m k; simp
  | cons n ns ih =>
    intro m k
    rw [List.foldl_cons, ih]
    simp only [List.mem_cons, forall_eq_or_imp]
    constructor
    · rintro ⟨h1, h2⟩; exact ⟨by omega, by omega, h2⟩
    · rintro ⟨h1, h2, h3⟩; exact ⟨by omega, h3⟩
theorem topF_le {ns : List Nat} {k : Int} : topF ns ≤ k ↔ -1 ≤ k ∧ ∀ n ∈ ns, (n : Int) ≤ k := foldl_top ns (-1) k
theorem le_topF {ns : List Nat} {n : Nat} (h : n ∈ ns) : (n : Int) ≤ topF ns := (topF_le.mp (Int.le_refl _)).2 n h
noncomputable def keyF (paths : List Nd) (y : Nd) : Int × Int := (topF (placesF paths y), -((y.length : Int) - 1))
noncomputable def keyLt (a b : Int × Int) : Prop := a.1 < b.1 ∨ (a.1 = b.1 ∧ a.2 < b.2)
theorem mem_places {paths : List Nd} {y : Nd} {n : Nat} : n ∈ placesF paths y ↔ ∃ t ∈ paths, tipIs paths t = true ∧ on y t = true ∧ paths.idxOf t = n := by
  unfold placesF
  rw [List.mem_map]
  constructor
  · rintro ⟨t, ht, e⟩
    rw [List.mem_filter, List.mem_filter] at ht
    exact ⟨t, ht.1.1, ht.1.2, ht.2, e⟩
  · rintro ⟨t, h1, h2, h3, e⟩
    exact ⟨t, List.mem_filter.mpr ⟨List.mem_filter.mpr ⟨h1, h2⟩, h3⟩, e⟩
theorem idxOf_pre {pre post : List Nd} {t : Nd} (h : t ∈ pre) : (pre ++ post).idxOf t < pre.length := by
  rw [List.idxOf_append, if_pos h]
  exact List.idxOf_lt_length_iff.mpr h
theorem idxOf_here {pre post : List Nd} {t : Nd} (h : t ∉ pre) : (pre ++ t :: post).idxOf t = pre.length := by
  rw [List.idxOf_append, if_neg h, List.idxOf_cons_self]; simp
theorem climb_sorted_aux (paths : List Nd) : ∀ (post pre T : List Nd), paths = pre ++ post → Start paths pre T → T.Nodup → T.Pairwise (fun a b => keyLt (keyF paths a) (keyF paths b)) →
    (post.foldl (fun told p => climb1 paths told (downs p)) T).Pairwise fun a b => keyLt (keyF paths a) (keyF paths b)
  | [], pre, T, h, S, hn, hs => hs
  | p :: post, pre, T, h, S, hn, hs => by
    have h1 := climb_inner (T0 := T) h S (downs p) [] [] rfl (fun _ h => by cases h) (fun _ h => by cases h) (by rw [List.append_nil]; exact hn) (by rw [List.append_nil]; exact S.mid)
    rw [List.append_nil] at h1
    obtain ⟨S1, n1, _⟩ := h1
    refine climb_sorted_aux paths post (pre ++ [p]) _ (by rw [h]; simp) S1 n1 ?_
    obtain ⟨new, e, hsub⟩ := climb1_new paths (downs p) T
    show (climb1 paths T (downs p)).Pairwise _
    rw [e] at S1 n1 ⊢
    have hp : p ∈ paths := by rw [h]; simp
    have hpre : ∀ x ∈ pre, x ∈ paths := fun x hx => by rw [h]; simp [hx]
    have hpre1 : ∀ x ∈ pre ++ [p], x ∈ paths := fun x hx => by
      rcases List.mem_append.mp hx with hx | hx
      · exact hpre x hx
      · rw [List.mem_singleton.mp hx]; exact hp
    have hnode : ∀ y ∈ new, isNode paths y := fun y hy => ⟨p, hp, hsub.subset hy⟩
    have hT : ∀ a ∈ T, topF (placesF paths a) ≤ (pre.length : Int) - 1 := by
      intro a ha
      have han : isNode paths a := by obtain ⟨r, hr, hh⟩ := S.src a ha; exact ⟨r, hpre r hr, hh⟩
      rw [topF_le]
      refine ⟨by omega, fun n hn => ?_⟩
      obtain ⟨t, ht, htip, hon, rfl⟩ := mem_places.mp hn
      have := (told_iff S hpre han).mp ha t ht htip hon
      have := idxOf_pre (post := p :: post) this
      rw [← h] at this; omega
    have hnew : ∀ b ∈ new, topF (placesF paths b) = (pre.length : Int) := by
      intro b hb
      have hbn := hnode b hb
      have hbT : b ∉ T := fun k => (List.nodup_append.mp n1).2.2 b k b hb rfl
      have hall := (told_iff S1 hpre1 hbn).mp (List.mem_append_right _ hb)
      apply Int.le_antisymm
      · rw [topF_le]
        refine ⟨by omega, fun n hn => ?_⟩
        obtain ⟨t, ht, htip, hon, rfl⟩ := mem_places.mp hn
        have := idxOf_pre (post := post) (hall t ht htip hon)
        rw [List.append_assoc, List.singleton_append, ← h, List.length_append] at this
        simp at this; omega
      · rw [told_iff S hpre hbn] at hbT
        have : ∃ t ∈ paths, tipIs paths t = true ∧ on b t = true ∧ t ∉ pre := by
          apply Classical.byContradiction
          intro q
          exact hbT fun t ht h1 h2 => Classical.byContradiction fun k => q ⟨t, ht, h1, h2, k⟩
        obtain ⟨t, ht, htip, hon, htn⟩ := this
        have htp : t = p := by
          rcases List.mem_append.mp (hall t ht htip hon) with k | k
          · exact absurd k htn
          · exact List.mem_singleton.mp k
        subst htp
        have := le_topF (mem_places.mpr ⟨t, ht, htip, hon, rfl⟩)
        rw [h, idxOf_here htn, ← h] at this
        exact this
    rw [List.pairwise_append]
    refine ⟨hs, ?_, fun a ha b hb => .inl ?_⟩
    · refine List.Pairwise.imp_of_mem ?_ ((downs_pairwise p).sublist hsub)
      intro a b ha hb hab
      refine .inr ⟨?_, ?_⟩
      · show topF _ = topF _
        rw [hnew a ha, hnew b hb]
      · have := (sb_iff.mp hab).2
        show -((a.length : Int) - 1) < -((b.length : Int) - 1)
        omega
    · show topF _ < topF _
      rw [hnew b hb]
      have := hT a ha
      omega
theorem climb_sorted (paths : List Nd) : (climbF paths).Pairwise fun a b => keyLt (keyF paths a) (keyF paths b) :=
  climb_sorted_aux paths paths [] [] rfl ⟨fun _ h => (by cases h), fun _ h => (by cases h), fun _ h => (by cases h)⟩ (by simp) .nil
theorem addN_mem {acc : List Nd} {q x : Nd} : x ∈ addN acc q ↔ x ∈ acc ∨ x = q := by
  unfold addN
  split
  · rename_i h
    constructor
    · exact .inl
    · rintro (h1 | rfl)
      · exact h1
      · exact List.contains_iff_mem.mp h
  · rw [List.mem_append, List.mem_singleton]
theorem addN_nodup {acc : List Nd} {q : Nd} (h : acc.Nodup) : (addN acc q).Nodup := by
  unfold addN
  split
  · exact h
  · rename_i hc
    rw [List.nodup_append]
    refine ⟨h, by simp, fun a ha b hb => ?_⟩
    rw [List.mem_singleton] at hb; subst hb
    exact fun e => hc (List.contains_iff_mem.mpr (by rw [← e]; exact ha))
theorem addNs (qs : List Nd) : ∀ acc : List Nd, (∀ x, x ∈ qs.foldl addN acc ↔ x ∈ acc ∨ x ∈ qs) ∧ (acc.Nodup → (qs.foldl addN acc).Nodup) := by
  induction qs with
  | nil => intro acc; exact ⟨fun x => by simp, id⟩
  | cons q qs ih =>
    intro acc
    obtain ⟨h1, h2⟩ := ih (addN acc q)
    refine ⟨fun x => ?_, fun h => h2 (addN_nodup h)⟩
    rw [List.foldl_cons, h1, addN_mem, List.mem_cons, or_assoc]
theorem nodes_aux (ps : List Nd) : ∀ acc : List Nd, (∀ x, x ∈ ps.foldl (fun acc p => (downs p).foldl addN acc) acc ↔ x ∈ acc ∨ isNode ps x) ∧ (acc.Nodup → (ps.foldl (fun acc p => (downs p).foldl addN acc) acc).Nodup) := by
  induction ps with
  | nil => intro acc; exact ⟨fun x => by simp [isNode], id⟩
  | cons p ps ih =>
    intro acc
    obtain ⟨h1, h2⟩ := ih ((downs p).foldl addN acc)
    obtain ⟨h3, h4⟩ := addNs (downs p) acc
    refine ⟨fun x => ?_, fun h => h2 (h4 h)⟩
    rw [List.foldl_cons, h1, h3, or_assoc]
    have : isNode (p :: ps) x ↔ x ∈ downs p ∨ isNode ps x := by unfold isNode; simp
    rw [this]
theorem nodes_mem {paths : List Nd} {x : Nd} : x ∈ nodesF paths ↔ isNode paths x := by
  have := (nodes_aux paths []).1 x
  simpa [nodesF] using this
theorem nodes_nodup (paths : List Nd) : (nodesF paths).Nodup := (nodes_aux paths []).2 (by simp)
theorem keyLt_asymm {a b : Int × Int} (h : keyLt a b) : ¬ keyLt b a := by unfold keyLt at *; omega
theorem sorted_unique {α : Type} {R : α → α → Prop} (hR : ∀ a b, R a b → ¬ R b a) : ∀ {l k : List α}, l.Pairwise R → k.Pairwise R → (∀ x, x ∈ l ↔ x ∈ k) → l = k
  | [], [], _, _, _ => rfl
  | [], y :: ys, _, _, h => by have := (h y).mpr (.head _); cases this
  | x :: xs, [], _, _, h => by have := (h x).mp (.head _); cases this
  | x :: xs, y :: ys, hl, hk, h => by
    rw [List.pairwise_cons] at hl hk
    have hxy : x = y := by
      rcases List.mem_cons.mp ((h x).mp (.head _)) with e | e
      · exact e
      · rcases List.mem_cons.mp ((h y).mpr (.head _)) with e' | e'
        · exact e'.symm
        · exact absurd (hk.1 x e) (hR _ _ (hl.1 y e'))
    subst hxy
    congr 1
    refine sorted_unique hR hl.2 hk.2 fun z => ⟨fun hz => ?_, fun hz => ?_⟩
    · rcases List.mem_cons.mp ((h z).mp (.tail _ hz)) with e | e
      · subst e; exact absurd (hl.1 z hz) (fun q => hR _ _ q q)
      · exact e
    · rcases List.mem_cons.mp ((h z).mpr (.tail _ hz)) with e | e
      · subst e; exact absurd (hk.1 z hz) (fun q => hR _ _ q q)
      · exact e
end Mine
end
section
set_option maxRecDepth 100000
set_option autoImplicit false
namespace Mine
open PySem
section
variable {α : Type} [DecidableEq α]
theorem tail_of_pair {a b : α} {r : List α} (h : [a, b].Sublist r) : b ∈ r.tail := by
  cases r with
  | nil => cases h
  | cons x xs =>
    cases h with
    | cons _ h => exact h.subset (by simp)
    | cons_cons _ h => exact h.subset (by simp)
theorem pair_step {a b c : α} {r : List α} (h : [a, b].Sublist r) (hc : a ≠ c) : [a, b].Sublist (stepG c r) := by
  unfold stepG
  split
  · rename_i hh
    cases r with
    | nil => cases h
    | cons x xs =>
      have hx : x = c := by simpa using hh
      cases h with
      | cons _ h => exact h
      | cons_cons _ h => exact absurd hx hc
  · exact h
theorem c3G_none {a b : α} : ∀ (n : Nat) (rows : List (List α)) (acc : List α), (∃ r ∈ rows, [a, b].Sublist r) → (∃ r ∈ rows, [b, a].Sublist r) → c3G n rows acc = none
  | 0, _, _, _, _ => rfl
  | n + 1, rows, acc, ⟨r1, h1, s1⟩, ⟨r2, h2, s2⟩ => by
    rw [c3G, if_neg]
    · cases hf : firstG rows rows with
      | none => rfl
      | some c =>
        have hg := goodIn_iff.mp (firstG_good hf)
        have hb : b ≠ c := fun e => hg r1 h1 (by rw [← e]; exact tail_of_pair s1)
        have ha : a ≠ c := fun e => hg r2 h2 (by rw [← e]; exact tail_of_pair s2)
        exact c3G_none n _ _ ⟨_, List.mem_map_of_mem h1, pair_step s1 ha⟩ ⟨_, List.mem_map_of_mem h2, pair_step s2 hb⟩
    · intro q
      rw [List.all_eq_true] at q
      have := q r1 h1
      rw [List.isEmpty_iff] at this
      rw [this] at s1; cases s1
end
theorem sub_downs {p f l : Nd} (hl : l ∈ downs p) (hf : f ∈ downs p) (h : sb f l = true) : [l, f].Sublist (downs p) := by
  have hpw := downs_pairwise p
  generalize downs p = r at hl hf hpw
  induction r with
  | nil => cases hl
  | cons x xs ih =>
    rw [List.pairwise_cons] at hpw
    rcases List.mem_cons.mp hl with rfl | hl'
    · rcases List.mem_cons.mp hf with e | hf'
      · rw [e, sb_irrefl] at h; cases h
      · exact (List.singleton_sublist.mpr hf').cons_cons _
    · rcases List.mem_cons.mp hf with e | hf'
      · have := hpw.1 l hl'
        rw [← e, sb_asymm h] at this; cases this
      · exact (ih hl' hf' hpw.2).cons _
theorem c3G_barred {paths : List Nd} {f l : Nd} (hl : isNode paths l) (hf : isNode paths f) (h : on f l = true) (n : Nat) : c3G n (paths.map downs ++ [[f, l]]) [] = none := by
  have h2 : ∃ r ∈ paths.map downs ++ [[f, l]], [f, l].Sublist r := ⟨[f, l], by simp, List.Sublist.refl _⟩
  rcases on_iff.mp h with e | e
  · rw [e] at h2 ⊢
    exact c3G_none n _ _ h2 h2
  · obtain ⟨p, hp, hlp⟩ := hl
    refine c3G_none n _ _ h2 ⟨downs p, List.mem_append_left _ (List.mem_map_of_mem hp), sub_downs hlp (up_downs hlp ?_ (sb_prefix e)) e⟩
    obtain ⟨r, _, hr⟩ := hf
    exact (mem_downs.mp hr).1
noncomputable def mayT (paths : List Nd) (f l : Nd) (T : List Nd) (y : Nd) : Bool := !(T.contains y || (y == l && !T.contains f)) && ((nodesF paths).filter fun x => sb y x && !T.contains x).isEmpty
theorem mayT_iff {paths : List Nd} {f l : Nd} {T : List Nd} {y : Nd} : mayT paths f l T y = true ↔ y ∉ T ∧ ¬ (y = l ∧ f ∉ T) ∧ free paths T y := by
  unfold mayT
  rw [Bool.and_eq_true, List.isEmpty_iff, List.filter_eq_nil_iff, free_iff]
  constructor
  · rintro ⟨h1, h2⟩
    refine ⟨fun k => ?_, fun k => ?_, fun x hx ht => ?_⟩
    · rw [List.contains_iff_mem.mpr k] at h1; simp at h1
    · have := k.2; simp [k.1, this] at h1
    · cases hs : sb y x with
      | false => rfl
      | true => exact absurd (by rw [hs]; simpa using ht) (h2 x (nodes_mem.mpr hx))
  · rintro ⟨h1, h2, h3⟩
    refine ⟨?_, fun x hx q => ?_⟩
    · have h2' : ¬ (y = l) ∨ f ∈ T := by
        by_cases k : y = l
        · exact .inr (Classical.byContradiction fun q => h2 ⟨k, q⟩)
        · exact .inl k
      rcases h2' with k | k <;> simp [h1, k]
    · rw [Bool.and_eq_true] at q
      rw [h3 x (nodes_mem.mp hx) (by simpa using q.2)] at q
      cases q.1
section
variable {paths : List Nd} {f l : Nd} {T : List Nd}
theorem pair_tail (hfl : f ≠ l) {y : Nd} (hy : y ∉ T) : y ∈ (less T [f, l]).tail ↔ y = l ∧ f ∉ T := by
  unfold less
  by_cases h1 : f ∈ T <;> by_cases h2 : l ∈ T
  · simp [h1, h2]
  · simp [h1, h2]
  · simp [h1, h2]; exact fun e => hy (by rw [e]; exact h2)
  · simp [h1, h2]
theorem good2_iff (hfl : f ≠ l) {c : Nd} (h0 : c ≠ []) (hT : c ∉ T) : goodIn ((paths.map downs ++ [[f, l]]).map (less T)) c = true ↔ mayT paths f l T c = true := by
  rw [mayT_iff, ← good_iff h0 hT, goodIn_iff, goodIn_iff, List.map_append]
  constructor
  · intro h
    exact ⟨hT, fun k => h (less T [f, l]) (by simp) ((pair_tail hfl hT).mpr k), fun t ht => h t (List.mem_append_left _ ht)⟩
  · rintro ⟨_, h2, h3⟩ t ht
    rcases List.mem_append.mp ht with k | k
    · exact h3 t k
    · rw [List.map_singleton, List.mem_singleton] at k
      rw [k, pair_tail hfl hT]
      exact h2
noncomputable def rowGood {α : Type} [DecidableEq α] (all : List (List α)) (r : List α) : Option α := r.head?.filter (goodIn all)
theorem firstG_findSome {α : Type} [DecidableEq α] (all : List (List α)) : ∀ rs : List (List α), firstG all rs = rs.findSome? (rowGood all)
  | [] => rfl
  | [] :: rs => by rw [firstG, List.findSome?_cons, firstG_findSome all rs]; rfl
  | (x :: xs) :: rs => by
    rw [firstG, List.findSome?_cons, firstG_findSome all rs]
    unfold rowGood
    rw [List.head?_cons, Option.filter_some]
    split <;> rfl
theorem addN_find (P : Nd → Bool) (acc : List Nd) (q : Nd) : (addN acc q).find? P = (acc.find? P).or (if P q then some q else none) := by
  unfold addN
  split
  · rename_i h
    have hm := List.contains_iff_mem.mp h
    cases hf : acc.find? P with
    | some z => rfl
    | none =>
      have := List.find?_eq_none.mp hf q hm
      rw [if_neg this]; rfl
  · rw [List.find?_append]
    congr 1
    rw [List.find?_cons]
    split <;> rename_i h
    · rw [if_pos h]
    · rw [if_neg (by rw [h]; simp)]; rfl
theorem addNs_find (P : Nd → Bool) (qs : List Nd) : ∀ acc : List Nd, (qs.foldl addN acc).find? P = (acc.find? P).or (qs.find? P) := by
  induction qs with
  | nil => intro acc; simp
  | cons q qs ih =>
    intro acc
    rw [List.foldl_cons, ih, addN_find, Option.or_assoc]
    congr 1
    rw [List.find?_cons]
    cases P q <;> simp
theorem nodes_find_aux (P : Nd → Bool) (ps : List Nd) : ∀ acc : List Nd, (ps.foldl (fun acc p => (downs p).foldl addN acc) acc).find? P = (acc.find? P).or (ps.findSome? fun p => (downs p).find? P) := by
  induction ps with
  | nil => intro acc; simp
  | cons p ps ih =>
    intro acc
    rw [List.foldl_cons, ih, addNs_find, Option.or_assoc]
    congr 1
    rw [List.findSome?_cons]
    cases (downs p).find? P <;> rfl
theorem nodes_find (P : Nd → Bool) : (nodesF paths).find? P = paths.findSome? fun p => (downs p).find? P := by
  unfold nodesF
  rw [nodes_find_aux]; rfl
theorem findSome_congr {α β : Type} {F H : α → Option β} : ∀ {l : List α}, (∀ x ∈ l, F x = H x) → l.findSome? F = l.findSome? H
  | [], _ => rfl
  | x :: xs, h => by rw [List.findSome?_cons, List.findSome?_cons, h x (.head _), findSome_congr fun y hy => h y (.tail _ hy)]
theorem row_find (hfl : f ≠ l) {p : Nd} (hp : p ∈ paths) : rowGood ((paths.map downs ++ [[f, l]]).map (less T)) (less T (downs p)) = (downs p).find? (mayT paths f l T) := by
  unfold rowGood
  cases hf : (downs p).find? (mayT paths f l T) with
  | some q =>
    have hq := List.find?_some hf
    have hm := List.mem_of_find?_eq_some hf
    obtain ⟨h1, h2, h3⟩ := mayT_iff.mp hq
    rw [head_of_free hp hm h1 h3, Option.filter_some, if_pos ((good2_iff hfl (mem_downs.mp hm).1 h1).mpr hq)]
  | none =>
    cases hh : (less T (downs p)).head? with
    | none => rfl
    | some d =>
      have hm := mem_less.mp (List.mem_of_mem_head? hh)
      rw [Option.filter_some, if_neg]
      intro k
      exact List.find?_eq_none.mp hf d hm.1 ((good2_iff hfl (mem_downs.mp hm.1).1 hm.2).mp k)
theorem first_nodes (hfl : f ≠ l) (hf : isNode paths f) (hl : isNode paths l) :
    firstG ((paths.map downs ++ [[f, l]]).map (less T)) ((paths.map downs ++ [[f, l]]).map (less T)) = (nodesF paths).find? (mayT paths f l T) := by
  rw [firstG_findSome, nodes_find]
  generalize hall : (paths.map downs ++ [[f, l]]).map (less T) = all
  have h1 : all = (paths.map downs).map (less T) ++ [less T [f, l]] := by rw [← hall]; simp
  have h2 : all.findSome? (rowGood all) = ((paths.map downs).map (less T) ++ [less T [f, l]]).findSome? (rowGood all) := by rw [h1]
  rw [h2, List.findSome?_append, List.map_map, List.findSome?_map]
  have h3 : paths.findSome? (rowGood all ∘ (less T ∘ downs)) = paths.findSome? fun p => (downs p).find? (mayT paths f l T) := by
    refine findSome_congr fun p hp => ?_
    show rowGood all (less T (downs p)) = _
    rw [← hall]; exact row_find hfl hp
  rw [h3]
  cases hn : paths.findSome? fun p => (downs p).find? (mayT paths f l T) with
  | some q => rfl
  | none =>
    rw [Option.none_or, List.findSome?_cons]
    have : rowGood all (less T [f, l]) = none := by
      unfold rowGood
      cases hh : (less T [f, l]).head? with
      | none => rfl
      | some d =>
        have hm := mem_less.mp (List.mem_of_mem_head? hh)
        have hd : isNode paths d := by
          have := hm.1
          simp at this
          rcases this with rfl | rfl
          · exact hf
          · exact hl
        rw [Option.filter_some, if_neg]
        intro k
        obtain ⟨p, hp, hdp⟩ := hd
        rw [← hall] at k
        have k := (good2_iff hfl (mem_downs.mp hdp).1 hm.2).mp k
        have := List.findSome?_eq_none_iff.mp hn p hp
        exact List.find?_eq_none.mp this d hdp k
    rw [this]; rfl
theorem may_exists (hb : on f l = false) (hf : isNode paths f) {y : Nd} (hy : isNode paths y) (ht : y ∉ T) : ∃ q, (nodesF paths).find? (mayT paths f l T) = some q ∧ isNode paths q ∧ q ∉ T := by
  have hex : ∃ z, isNode paths z ∧ mayT paths f l T z = true := by
    obtain ⟨z, hz, hzt, _, hzf⟩ := exists_free hy ht
    by_cases k : z = l ∧ f ∉ T
    · obtain ⟨u, hu, hut, hor, huf⟩ := exists_free hf k.2
      refine ⟨u, hu, mayT_iff.mpr ⟨hut, fun q => ?_, huf⟩⟩
      rw [q.1] at hor
      rw [on_iff.mpr hor] at hb; cases hb
    · exact ⟨z, hz, mayT_iff.mpr ⟨hzt, k, hzf⟩⟩
  obtain ⟨z, hz, hm⟩ := hex
  cases hfd : (nodesF paths).find? (mayT paths f l T) with
  | none => exact absurd hm (List.find?_eq_none.mp hfd z (nodes_mem.mpr hz))
  | some q => exact ⟨q, rfl, nodes_mem.mp (List.mem_of_find?_eq_some hfd), (mayT_iff.mp (List.find?_some hfd)).1⟩
end
end Mine
end
section
set_option maxRecDepth 100000
set_option autoImplicit false
namespace Mine
open PySem
theorem less_lt {α : Type} [DecidableEq α] {T r : List α} {c : α} (h : c ∈ less T r) : (less (T ++ [c]) r).length < (less T r).length := by
  rw [less_append, List.length_filter_lt_length_iff_exists]
  exact ⟨c, h, by simp⟩
noncomputable def nth (N : List Nd) (k : Nat) : Nd := N.getD k []
theorem map_nth (N : List Nd) : (List.range N.length).map (nth N) = N := by
  refine List.ext_getElem (by simp) fun i h1 h2 => ?_
  simp [nth, h2]
theorem nth_inj {N : List Nd} (hn : N.Nodup) {i j : Nat} (hi : i < N.length) (hj : j < N.length) : nth N i = nth N j ↔ i = j := by
  constructor
  · intro h
    simp only [nth, List.getD_eq_getElem?_getD, List.getElem?_eq_getElem hi, List.getElem?_eq_getElem hj, Option.getD_some] at h
    exact (List.getElem_inj hn).mp h
  · rintro rfl; rfl
theorem nth_mem {N : List Nd} {i : Nat} (hi : i < N.length) : nth N i ∈ N := by
  simp only [nth, List.getD_eq_getElem?_getD, List.getElem?_eq_getElem hi, Option.getD_some]
  exact List.getElem_mem hi
theorem mem_map_nth {N : List Nd} (hn : N.Nodup) {ks : List Nat} (hk : ∀ k ∈ ks, k < N.length) {i : Nat} (hi : i < N.length) : nth N i ∈ ks.map (nth N) ↔ i ∈ ks := by
  rw [List.mem_map]
  constructor
  · rintro ⟨k, h1, h2⟩
    rw [← (nth_inj hn (hk k h1) hi).mp h2]; exact h1
  · exact fun h => ⟨i, h, rfl⟩
section
variable {paths : List Nd} {first last : Nat} {ks : List Nat}
theorem contains_nth {N : List Nd} (hn : N.Nodup) (hk : ∀ k ∈ ks, k < N.length) {i : Nat} (hi : i < N.length) : (ks.map (nth N)).contains (nth N i) = ks.contains i := by
  rw [Bool.eq_iff_iff, List.contains_iff_mem, List.contains_iff_mem, mem_map_nth hn hk hi]
theorem under_sb (N : List Nd) (q : Nd) (j : Nat) : under N q j = sb q (nth N j) := rfl
theorem needs_nth (N : List Nd) {k : Nat} (hk : k < N.length) : (needsF N).getD k [] = (List.range N.length).filter (under N (nth N k)) := by
  unfold needsF nth
  simp [hk]
theorem ready_may (hk : ∀ k ∈ ks, k < (nodesF paths).length) (hf : first < (nodesF paths).length) (hl : last < (nodesF paths).length) {k : Nat} (h : k < (nodesF paths).length) :
    ready (needsF (nodesF paths)) first last ks k = mayT paths (nth (nodesF paths) first) (nth (nodesF paths) last) (ks.map (nth (nodesF paths))) (nth (nodesF paths) k) := by
  have hn := nodes_nodup paths
  unfold ready mayT
  rw [needs_nth _ h]
  have e1 : (ks.map (nth (nodesF paths))).contains (nth (nodesF paths) k) = ks.contains k := contains_nth hn hk h
  have e2 : (ks.map (nth (nodesF paths))).contains (nth (nodesF paths) first) = ks.contains first := contains_nth hn hk hf
  have e3 : (nth (nodesF paths) k == nth (nodesF paths) last) = (k == last) := by
    rw [Bool.eq_iff_iff, beq_iff_eq, beq_iff_eq, nth_inj hn h hl]
  rw [e1, e2, e3]
  congr 1
  rw [Bool.eq_iff_iff, List.isEmpty_iff, List.isEmpty_iff, List.filter_eq_nil_iff, List.filter_eq_nil_iff]
  constructor
  · intro q x hx
    obtain ⟨j, hj, rfl⟩ := List.mem_map.mp (by rw [map_nth]; exact hx : x ∈ (List.range (nodesF paths).length).map (nth (nodesF paths)))
    rw [List.mem_range] at hj
    rw [contains_nth hn hk hj]
    intro c
    rw [Bool.and_eq_true] at c
    exact q j (List.mem_filter.mpr ⟨List.mem_range.mpr hj, c.1⟩) c.2
  · intro q j hj c
    obtain ⟨h1, h2⟩ := List.mem_filter.mp hj
    rw [List.mem_range] at h1
    have := q (nth (nodesF paths) j) (nth_mem h1)
    rw [contains_nth hn hk h1] at this
    refine this ?_
    rw [Bool.and_eq_true]
    exact ⟨h2, c⟩
theorem find_congr {α : Type} {p q : α → Bool} : ∀ {l : List α}, (∀ x ∈ l, p x = q x) → l.find? p = l.find? q
  | [], _ => rfl
  | x :: xs, h => by rw [List.find?_cons, List.find?_cons, h x (.head _), find_congr fun y hy => h y (.tail _ hy)]
theorem find_ready (hk : ∀ k ∈ ks, k < (nodesF paths).length) (hf : first < (nodesF paths).length) (hl : last < (nodesF paths).length) :
    (nodesF paths).find? (mayT paths (nth (nodesF paths) first) (nth (nodesF paths) last) (ks.map (nth (nodesF paths)))) = ((List.range (nodesF paths).length).find? (ready (needsF (nodesF paths)) first last ks)).map (nth (nodesF paths)) := by
  have e := map_nth (nodesF paths)
  have h1 : ∀ P : Nd → Bool, (nodesF paths).find? P = ((List.range (nodesF paths).length).map (nth (nodesF paths))).find? P := fun P => by rw [e]
  rw [h1, List.find?_map]
  congr 1
  refine find_congr fun k h => ?_
  rw [List.mem_range] at h
  exact (ready_may hk hf hl h).symm
theorem needs_length (N : List Nd) : (needsF N).length = N.length := by unfold needsF; simp
theorem c3T_turns (hf : first < (nodesF paths).length) (hl : last < (nodesF paths).length) (hb : on (nth (nodesF paths) first) (nth (nodesF paths) last) = false) :
    ∀ (ns : List (List Nat)) (ks : List Nat), (∀ k ∈ ks, k < (nodesF paths).length) → (less (ks.map (nth (nodesF paths))) (nodesF paths)).length ≤ ns.length → ∀ n, ns.length < n →
      c3T n (paths.map downs ++ [[nth (nodesF paths) first, nth (nodesF paths) last]]) (ks.map (nth (nodesF paths))) = some ((ns.foldl (fun told _ => turn1 (needsF (nodesF paths)) first last told) ks).map (nth (nodesF paths))) := by
  have hfl : nth (nodesF paths) first ≠ nth (nodesF paths) last := fun e => by
    rw [on_iff.mpr (.inl e.symm)] at hb; cases hb
  have hfn : isNode paths (nth (nodesF paths) first) := nodes_mem.mp (nth_mem hf)
  have hln : isNode paths (nth (nodesF paths) last) := nodes_mem.mp (nth_mem hl)
  have hdone : ∀ (ns : List (List Nat)) (ks : List Nat), (∀ k ∈ ks, k < (nodesF paths).length) → (∀ y, isNode paths y → y ∈ ks.map (nth (nodesF paths))) → ns.foldl (fun told _ => turn1 (needsF (nodesF paths)) first last told) ks = ks := by
    intro ns
    induction ns with
    | nil => intro ks _ _; rfl
    | cons n ns ih =>
      intro ks hk hall
      have : turn1 (needsF (nodesF paths)) first last ks = ks := by
        unfold turn1
        rw [needs_length]
        have h1 := find_ready hk hf hl
        have h2 : (nodesF paths).find? (mayT paths (nth (nodesF paths) first) (nth (nodesF paths) last) (ks.map (nth (nodesF paths)))) = none := by
          rw [List.find?_eq_none]
          intro y hy hm
          exact (mayT_iff.mp hm).1 (hall y (nodes_mem.mp hy))
        rw [h2] at h1
        rw [Option.map_eq_none_iff.mp h1.symm]
      rw [List.foldl_cons, this]
      exact ih ks hk hall
  intro ns
  induction ns with
  | nil =>
    intro ks hk hlen n hn
    cases n with
    | zero => exact absurd hn (by simp)
    | succ n =>
      rw [c3T, if_pos]
      · rfl
      rw [List.length_nil, Nat.le_zero, List.length_eq_zero_iff] at hlen
      have hall : ∀ y, isNode paths y → y ∈ ks.map (nth (nodesF paths)) := fun y hy => Classical.byContradiction fun q => by
        have : y ∈ less (ks.map (nth (nodesF paths))) (nodesF paths) := mem_less.mpr ⟨nodes_mem.mpr hy, q⟩
        rw [hlen] at this; cases this
      rw [List.all_eq_true]
      intro r hr
      rw [List.isEmpty_iff, List.eq_nil_iff_forall_not_mem]
      intro y hy
      rw [mem_less] at hy
      refine hy.2 (hall y ?_)
      rcases List.mem_append.mp hr with h | h
      · obtain ⟨p, hp, rfl⟩ := List.mem_map.mp h
        exact ⟨p, hp, hy.1⟩
      · rw [List.mem_singleton] at h
        have := hy.1
        rw [h] at this
        simp at this
        rcases this with e | e
        · rw [e]; exact hfn
        · rw [e]; exact hln
  | cons m ns ih =>
    intro ks hk hlen n hn
    cases n with
    | zero => exact absurd hn (by simp)
    | succ n =>
      by_cases hall : ∀ y, isNode paths y → y ∈ ks.map (nth (nodesF paths))
      · rw [hdone _ ks hk hall, c3T, if_pos]
        rw [List.all_eq_true]
        intro r hr
        rw [List.isEmpty_iff, List.eq_nil_iff_forall_not_mem]
        intro y hy
        rw [mem_less] at hy
        refine hy.2 (hall y ?_)
        rcases List.mem_append.mp hr with h | h
        · obtain ⟨p, hp, rfl⟩ := List.mem_map.mp h
          exact ⟨p, hp, hy.1⟩
        · rw [List.mem_singleton] at h
          have := hy.1
          rw [h] at this
          simp at this
          rcases this with e | e
          · rw [e]; exact hfn
          · rw [e]; exact hln
      · have : ∃ y, isNode paths y ∧ y ∉ ks.map (nth (nodesF paths)) := by
          apply Classical.byContradiction
          intro q
          exact hall fun y hy => Classical.byContradiction fun k => q ⟨y, hy, k⟩
        obtain ⟨y, hy, hyt⟩ := this
        obtain ⟨q, hq, hqn, hqt⟩ := may_exists (l := nth (nodesF paths) last) hb hfn hy hyt
        rw [c3T_step (by rw [first_nodes hfl hfn hln]; exact hq)]
        have hr := find_ready hk hf hl
        rw [hq] at hr
        obtain ⟨k, hkf, hkq⟩ := Option.map_eq_some_iff.mp hr.symm
        have hkl : k < (nodesF paths).length := by
          have := List.mem_of_find?_eq_some hkf
          rwa [List.mem_range] at this
        have ht : turn1 (needsF (nodesF paths)) first last ks = ks ++ [k] := by
          unfold turn1
          rw [needs_length, hkf]
        have e : ks.map (nth (nodesF paths)) ++ [q] = (ks ++ [k]).map (nth (nodesF paths)) := by rw [List.map_append, ← hkq]; rfl
        rw [e, List.foldl_cons, ht]
        refine ih (ks ++ [k]) (fun j hj => ?_) ?_ n (by simp at hn; omega)
        · rcases List.mem_append.mp hj with h | h
          · exact hk j h
          · rw [List.mem_singleton.mp h]; exact hkl
        · rw [← e]
          have hqm : q ∈ less (ks.map (nth (nodesF paths))) (nodesF paths) := mem_less.mpr ⟨nodes_mem.mpr hqn, hqt⟩
          have := less_lt hqm
          rw [List.length_cons] at hlen
          omega
theorem c3G_turns (hf : first < (nodesF paths).length) (hl : last < (nodesF paths).length) (hb : on (nth (nodesF paths) first) (nth (nodesF paths) last) = false) {n : Nat}
    (hn : tot (paths.map downs ++ [[nth (nodesF paths) first, nth (nodesF paths) last]]) < n) : c3G n (paths.map downs ++ [[nth (nodesF paths) first, nth (nodesF paths) last]]) [] = some ((inTurnF (needsF (nodesF paths)) first last).map (nth (nodesF paths))) := by
  have hfl : nth (nodesF paths) first ≠ nth (nodesF paths) last := fun e => by
    rw [on_iff.mpr (.inl e.symm)] at hb; cases hb
  rw [c3G_fuel n (n + 1 + (nodesF paths).length) _ _ hn (by first | assumption | exact Nat.le_trans (by assumption) (by decide) | exact Nat.le_trans (Nat.le_of_eq (by assumption)) (Nat.le_trans (by assumption) (by decide)) | omega), c3G_eq_T]
  · exact c3T_turns hf hl hb (needsF (nodesF paths)) [] (fun _ h => by cases h) (by rw [needs_length]; exact List.length_filter_le _ _) _ (by rw [needs_length]; omega)
  · intro r hr
    rcases List.mem_append.mp hr with h | h
    · obtain ⟨p, _, rfl⟩ := List.mem_map.mp h
      exact downs_nodup p
    · rw [List.mem_singleton.mp h]
      simpa using hfl
theorem barred_iff (hf : first < (nodesF paths).length) (hl : last < (nodesF paths).length) :
    on (nth (nodesF paths) first) (nth (nodesF paths) last) = (first == last || ((needsF (nodesF paths)).getD first []).contains last) := by
  rw [needs_nth _ hf, Bool.eq_iff_iff, on_iff, nth_inj (nodes_nodup paths) hl hf, Bool.or_eq_true, beq_iff_eq, List.contains_iff_mem, List.mem_filter, List.mem_range]
  exact ⟨fun h => h.elim (fun e => .inl e.symm) fun e => .inr ⟨hl, e⟩, fun h => h.elim (fun e => .inl e.symm) fun e => .inr e.2⟩
end
end Mine
end
section
set_option maxRecDepth 100000
set_option autoImplicit false
namespace Mine
open PySem PySem.Spec PySem.Calls PyProof.Rows PySem.W PySem.SeqAt
noncomputable def ansF (word mod : Str) : Bool := decide (mod = word) || Txt.startswith mod (word ++ ".")
noncomputable def Noted (prog : Program) (w : World) (word : Str) (ws : List Str) (o : Obj) : Prop :=
  ∃ kvs, o.IsDictOf (strKind prog w) kvs ∧ (∀ k ∈ kvs.map (·.1), k = ("<string>" : Str) ∨ k ∈ ws) ∧ ∀ k v, valueAt kvs k = some v → k = ("<string>" : Str) ∨ ∃ t, v = .int (if ansF word k then 1 else 0) t
inductive RdEx (w : World) (g : Fz) (ix : Addr) (word : Str) (ig : Addr) : Prop
  | mk (dx : _) (es : _) (k : _) (S : _) (o : _) (dl : _) (q0 : g ix = some (inst 98 dx)) (q1 : g dx = some (dictOf es k)) (q2 : getL "_mods" es = some (some (.ref S))) (q3 : g S = some o) (q4 : One w word o) (q5 : getL "_dirs" es = some (some (.ref dl))) (q6 : Lst g dl []) (q7 : getL "_ignore" es = some (some (.ref ig))) (q8 : getL "names" es = some none) (q9 : (ig == sysModules) = false) : RdEx w g ix word ig
structure Rd (w : World) (g : Fz) (ix : Addr) (word : Str) (ig : Addr) : Prop where
  ex : RdEx w g ix word ig
theorem Rd.le {w : World} {g g' : Fz} {ix ig : Addr} {word : Str} (x : Rd w g ix word ig) (k : Le g g') : Rd w g' ix word ig := by
  obtain ⟨⟨dx, es, n, S, o, dl, h1, h2, h3, h4, h5, h6, h7, h8, h9, h10⟩⟩ := x
  exact ⟨⟨dx, es, n, S, o, dl, k _ _ h1, k _ _ h2, h3, k _ _ h4, h5, h6, h7.le k, h8, h9, h10⟩⟩
structure Ok2 (A : Around) : Prop where
  hand : A.handled = none
  units : A.units + 200 < cLine
  depth : A.depth + 40 < recursionLimit
theorem Ok2.ok {A : Around} (h : Ok2 A) : Ok A := ⟨h.hand, by have := h.units; omega, by have := h.depth; omega⟩
section
variable {prog : Program} {w : World} {A : Around} {E : Value → Shared → Prop} {s0 s : Shared} {env : Env} {g : Fz} {L : Addr} {m mg mb : Str → Option Value} {μ : List (Addr × Obj)} {pos : Pos} {n : Str} {v : Value}
set_option maxHeartbeats 400000 in
theorem ignore_new (G : Gd w mg mb g) (x : Fm g L m μ s0 s) (hA : Ok2 A) {a : Addr} {word : Str} {t : Tok} {ws : List Str} (ha : Lst g a [.str word t]) {Q : Value → Shared → Prop}
    (h : ∀ g' s' ix ig oig, Le g g' → Fm g' L m ((ig, oig) :: μ) s0 s' → Rd w g' ix word ig → Noted prog w word ws oig → Q (.ref ix) s') : wpAny (model prog w) A (call (.ref 98) [.ref a]) Q E s := by
  refine wpAny_call ?_
  refine absP fun Gx hGx => ?_
  obtain ⟨hh, gg, d, tk, os⟩ := s
  refine hGx ?_
  refine make_core (makes_of (G.in x.st) rfl) (looks_findIn (G.in x.st) (r := some (.ref 88)) rfl) (fun self => bind_fn (G.in x.st) self rfl) (.inl rfl) ?_
  have x1 := x.newM (tk := tk) (push_keeps hh emptyDict) (size_none _) (Heap.get?_push_size _ rfl)
  have x2 := x1.newM (tk := tk) (push_keeps (hh.push emptyDict) (instObj 98 hh.objs.size)) (size_none _) (Heap.get?_push_size _ rfl)
  have hsz : (hh.push emptyDict).objs.size = hh.objs.size + 1 := Heap.size_push ..
  have hsys := G.newAddr x.st
  dsimp only at x2 hsys
  rw [hsz] at x2
  generalize hh.objs.size = dx at x2 ⊢
  refine absP fun Gx hGx => ?_
  obtain ⟨oL, nL, y⟩ := x2
  refine hGx ?_
  have hA' : Ok (A.under (.builtin "type.__call__" ⟨[.ref 98, .ref a], []⟩)) := ⟨hA.hand, by have := hA.units; show A.units + 1 + 100 < cLine; omega, by have := hA.depth; show A.depth + 1 + 20 < recursionLimit; omega⟩
  refine c_fnB (binds := [("self", .ref (dx + 1)), ("modules", .ref a), ("dirs", .none)]) G y rfl rfl hA' (.of_defaults rfl (y.frz _ _ (G.kin 83 _ rfl)) rfl rfl rfl) (by decide) (by intro x hx; simp only [List.mem_cons, List.not_mem_nil, or_false] at hx; rcases hx with rfl | rfl | rfl <;> rfl) (fun A' L1 s hh hu hd x => ?_)
  have hself : (fun y => ([("self", Value.ref (dx + 1)), ("modules", .ref a), ("dirs", .none)] : List (Str × Value)).reverse.lookup y) "self" = some (.ref (dx + 1)) := rfl
  have hmod : (fun y => ([("self", Value.ref (dx + 1)), ("modules", .ref a), ("dirs", .none)] : List (Str × Value)).reverse.lookup y) "modules" = some (.ref a) := rfl
  have hdir : (fun y => ([("self", Value.ref (dx + 1)), ("modules", .ref a), ("dirs", .none)] : List (Str × Value)).reverse.lookup y) "dirs" = some .none := rfl
  generalize (fun y => ([("self", Value.ref (dx + 1)), ("modules", .ref a), ("dirs", .none)] : List (Str × Value)).reverse.lookup y) = m1 at x hself hmod hdir
  have hL : (L, oL) ∈ (L, oL) :: (dx + 1, instObj 98 dx) :: (dx, emptyDict) :: μ := .head _
  refine wpAny_execs_cons (plainObj_wpAny_Assign_Attribute (wpAny_IfExp (PyProof.Rows.isTrue_not (wpAny_isTrue_value (r_name x hmod (m_truthy x (ha.isList x.st) (by rw [line24]; simp) fun s x => ?_))))))
  rw [if_neg (by simp)]
  refine wpAny_Call_NameR (r_bi G x rfl boot_set ?_)
  refine cw_type (sp_one (r_name x hmod (newset_one hh (ha.isList x.st) fun h' tk1 o1 hk ho1 hone => ?_)))
  have hle1 : Le g (put g s.heap.objs.size o1) := put_le (x.offNone (size_none _))
  have hS : put g s.heap.objs.size o1 s.heap.objs.size = some o1 := put_self _ _ _
  have x := x.newF (tk := tk1) hk (size_none _) ho1
  generalize s.heap.objs.size = S at hle1 hS x ⊢
  generalize put g S o1 = g1 at hle1 hS x ⊢
  have G1 := G.le hle1
  refine r_name x hself (m_newattr (es := []) (k := 0) G1 x (x.gets mem1) rep2 rfl rfl rfl rfl rfl rfl (by decide) fun s h1 t1 k1 x => ?_)
  refine wpAny_execs_cons (plainObj_wpAny_Assign_Attribute (wpAny_IfExp (PyProof.Rows.isTrue_not (wpAny_isTrue_value (r_name x hdir (wpAny_pure (a := false) ?_))))))
  rw [if_pos (by rfl)]
  refine r_nil x fun dl s x => ?_
  obtain ⟨g2, hle2, hdl, x⟩ := x.frz1
  have G2 := G1.le hle2
  refine r_name x hself (m_newattr (es := [⟨h1, .str "_mods" t1, .ref S⟩]) G2 x (x.gets mem1) rep2 rfl rfl rfl rfl rfl rfl (by simp) fun s h2 t2 k2 x => ?_)
  refine wpAny_execs_cons ?_
  refine plainObj_wpAny_Assign_Attribute (hs := ?hs) ?_
  case hs => rfl
  refine r_dict1 G2 x fun ig o0 s x hig => ?_
  refine r_str x fun s ts x _ => r_int x fun s ti x _ => ⟨_, ts, rfl, x, fun oig s hoig x => ?_⟩
  refine r_name x hself (m_newattr (es := [⟨h1, .str "_mods" t1, .ref S⟩, ⟨h2, .str "_dirs" t2, .ref dl⟩]) G2 x (x.gets mem2) rep3 rfl rfl rfl rfl rfl rfl (by simp) fun s h3 t3 k3 x => ?_)
  refine wpAny_execs_nil ⟨rfl, ?_⟩
  have y := x.st
  have y : St g2 ((dx, _) :: (dx + 1, instObj 98 dx) :: (L, oL) :: (ig, oig) :: μ) s0 s := y.perm ((List.reverse_perm [(ig, oig), (L, oL), (dx + 1, instObj 98 dx), (dx, _)]).symm.append_right μ)
  obtain ⟨g3, hle3, e3, y⟩ := y.frz1
  obtain ⟨g4, hle4, e4, y⟩ := y.frz1
  have hall := hle1.trans (hle2.trans (hle3.trans hle4))
  refine h g4 _ (dx + 1) ig oig hall ⟨oL, nL, y⟩ ⟨⟨dx, _, _, S, o1, dl, e4, hle4 _ _ e3, rfl, (hle2.trans (hle3.trans hle4)) _ _ hS, hone, rfl, ⟨0, (hle3.trans hle4) _ _ hdl⟩, rfl, rfl, hig⟩⟩ ?_
  refine ⟨_, hoig, ?_, ?_⟩
  · intro k hk
    simp only [List.map_cons, List.map_nil, List.mem_singleton] at hk
    exact .inl hk
  · intro k v hv
    left
    unfold valueAt at hv
    by_cases hk : k = ("<string>" : Str)
    · exact hk
    · exfalso
      simp [List.find?_cons, Ne.symm hk] at hv
end
end Mine
end
section
set_option maxRecDepth 100000
set_option autoImplicit false
namespace Mine
open PySem PySem.Spec PySem.Calls PyProof.Rows PySem.W PySem.SeqAt
theorem nodup_len {α : Type} [DecidableEq α] : ∀ {l m : List α}, l.Nodup → (∀ x ∈ l, x ∈ m) → l.length ≤ m.length
  | [], _, _, _ => Nat.zero_le _
  | a :: l, m, hn, hs => by
    rw [List.nodup_cons] at hn
    have ha := hs a (.head _)
    have ih := nodup_len (m := m.erase a) hn.2 fun x hx => (List.mem_erase_of_ne (fun q => hn.1 (by rw [← q]; exact hx))).mpr (hs x (.tail _ hx))
    rw [List.length_erase_of_mem ha] at ih
    have := List.length_pos_of_mem ha
    rw [List.length_cons]; omega
theorem Noted.len {prog : Program} {w : World} {ws : List Str} {kvs : List (Str × Value)} {o : Obj} (h : o.IsDictOf (strKind prog w) kvs) (hk : ∀ k ∈ kvs.map (·.1), k = ("<string>" : Str) ∨ k ∈ ws) : kvs.length ≤ ws.length + 1 := by
  refine absP fun Gx hGx => ?_
  obtain ⟨_, _, _, _, _, _, hn⟩ := h
  refine hGx ?_
  have := nodup_len (m := ("<string>" : Str) :: ws) hn fun x hx => (hk x hx).elim (fun e => by rw [e]; exact .head _) (.tail _)
  simpa using this
section
variable {prog : Program} {w : World} {A : Around} {E : Value → Shared → Prop} {s0 s : Shared} {env : Env} {g : Fz} {L : Addr} {m mg mb : Str → Option Value} {μ : List (Addr × Obj)} {pos : Pos} {n : Str} {v : Value}
theorem Rep.same {a : Addr} {o : Obj} {μ : List (Addr × Obj)} {f : Obj → List (Addr × Obj)} (r : Rep a o μ f) : f o = μ := by
  refine absP fun Gx hGx => ?_
  obtain ⟨p, q, e1, e2⟩ := r.split
  refine hGx ?_
  rw [e1, e2]
theorem r_attr {ix dx : Addr} {es : List DictEntry} {k : Nat} {nm attr : Str} {np : Pos} {Q : Value → Shared → Prop} (G : Gd w mg mb g) (x : Fm g env.locals m μ s0 s) (e1 : g ix = some (inst 98 dx)) (e2 : g dx = some (dictOf es k)) (hm : m nm = some (.ref ix)) (hl : getL attr es = some (some v)) (hv : handedIn v = true)
    (h : ∀ s', Fm g env.locals m μ s0 s' → Q v s') (hg : plainGet (K9 w) 98 attr = true := by rfl) (ha : findIn (K9 w) (.ref 98) attr = some none := by rfl) (hk : env.scope.kind = .function := by rfl) (hl1 : env.kindOf nm = some .local := by rfl) (hd : (nm == ("__debug__" : Str)) = false := by decide) :
    wpAny (model prog w) A (eval (.Attribute (.Name nm np) attr pos) env) Q E s :=
  Attribute_name (r_name x hm (m_getattr (es := es) (k := k) (attr := none) G x (x.get e1) (x.get e2) hg rfl ha rfl hl hv h) hk hl1 hd)
set_option maxHeartbeats 400000 in
theorem names_call (G : Gd w mg mb g) (x : St g μ s0 s) (hA : Ok A) {ix ig : Addr} {oig : Obj} {word mod : Str} {t u : Tok} {ws : List Str} {f : Obj → List (Addr × Obj)} (rd : Rd w g ix word ig) (r : Rep ig oig μ f) (hn : Noted prog w word ws oig) (hz : ws.length ≤ 1000)
    (hm : mod ∈ ws) (hs : ("<string>" : Str) ∉ ws) (hl : word.length ≤ 1000) {R : Result → Shared → Prop}
    (h : ∀ g' s' t oig', Le g g' → St g' (f oig') s0 s' → Noted prog w word ws oig' → R (.ok (.ret (.int (if ansF word mod then 1 else 0) t))) s') :
    codeAny (model prog w) A (.call (.ref 95) ⟨[.ref ix, .str "x.py" t, .str mod u], []⟩) R s := by
  refine c_fn (binds := [("self", .ref ix), ("filename", .str "x.py" t), ("modulename", .str mod u)]) G x rfl rfl hA rfl (by decide) (by intro x hx; simp only [List.mem_cons, List.not_mem_nil, or_false] at hx; rcases hx with rfl | rfl | rfl <;> rfl) (fun A' L s hh hu hd x => ?_)
  refine absP fun Gx hGx => ?_
  obtain ⟨dx, es, k, S, oS, dl, e1, e2, e3, e4, e5, e6, e7, e8, e9, e10⟩ := rd.ex
  refine hGx ?_
  refine absP fun Gx hGx => ?_
  obtain ⟨kvs, hkv, hks, hva⟩ := id hn
  refine hGx ?_
  have hkz : kvs.length ≤ 1001 := Nat.le_trans (Noted.len hkv hks) (by first | assumption | exact Nat.le_trans (by assumption) (by decide) | exact Nat.le_trans (Nat.le_of_eq (by assumption)) (Nat.le_trans (by assumption) (by decide)) | omega)
  have hms : mod ≠ ("<string>" : Str) := fun q => hs (by rw [← q]; exact hm)
  have n1 : (fun y => ([("self", Value.ref ix), ("filename", .str "x.py" t), ("modulename", .str mod u)] : List (Str × Value)).reverse.lookup y) "self" = some (.ref ix) := rfl
  have n2 : (fun y => ([("self", Value.ref ix), ("filename", .str "x.py" t), ("modulename", .str mod u)] : List (Str × Value)).reverse.lookup y) "filename" = some (.str "x.py" t) := rfl
  have n3 : (fun y => ([("self", Value.ref ix), ("filename", .str "x.py" t), ("modulename", .str mod u)] : List (Str × Value)).reverse.lookup y) "modulename" = some (.str mod u) := rfl
  generalize (fun y => ([("self", Value.ref ix), ("filename", .str "x.py" t), ("modulename", .str mod u)] : List (Str × Value)).reverse.lookup y) = m1 at x n1 n2 n3
  have noted' : ∀ (b : Bool) (tb : Tok) o', valueAt kvs mod = none → b = ansF word mod → o'.IsDictOf (strKind prog w) (stored kvs mod (.int (if b then 1 else 0) tb)) → Noted prog w word ws o' := by
    intro b tb o' hv hb ho'
    rw [stored_absent hv] at ho'
    refine ⟨_, ho', ?_, ?_⟩
    · intro k hk
      rw [List.map_append, List.mem_append] at hk
      rcases hk with hk | hk
      · exact hks k hk
      · rw [List.map_singleton, List.mem_singleton] at hk
        exact .inr (by rw [hk]; exact hm)
    · intro k v hkv
      unfold valueAt at hkv
      rw [List.find?_append] at hkv
      cases hf : kvs.find? (fun kv => decide (kv.1 = k)) with
      | some p =>
        rw [hf] at hkv
        refine hva k v ?_
        unfold valueAt
        rw [hf]
        simpa using hkv
      | none =>
        rw [hf] at hkv
        simp only [Option.none_or, List.find?_singleton] at hkv
        right
        split at hkv
        · rename_i q
          have q := of_decide_eq_true q
          subst q
          refine ⟨tb, ?_⟩
          have := Option.some.inj hkv
          rw [← this, hb]
        · cases hkv
  refine wpAny_execs_cons (wpAny_If (wpAny_isTrue_Compare1 (r_name x n3 (r_attr G x e1 e2 n1 e8 rfl fun s x => m_in x (x.gets r.mem) hkv e10 fun s x => wpAny_truthy_bool ?_))))
  cases hv : valueAt kvs mod with
  | some v0 =>
    rw [Option.isSome_some, if_pos rfl]
    obtain ⟨t0, rfl⟩ := (hva mod v0 hv).resolve_left hms
    refine wpAny_execs_cons (wpAny_Return_some (Subscript_ (r_attr G x e1 e2 n1 e8 rfl fun s x => r_name x n3 (m_item x (x.gets r.mem) hkv hv fun s x => ?_))))
    refine absP fun Gx hGx => ?_
    obtain ⟨oL, nL, y⟩ := x
    refine hGx ?_
    exact h g _ t0 oig (Le.refl _) (by rw [← (r.same)] at y; exact y.tl) hn
  | none =>
    rw [Option.isSome_none, if_neg (by simp)]
    refine wpAny_execs_nil ?_
    refine wpAny_execs_cons (wpAny_If (wpAny_isTrue_Compare1 (r_name x n3 (r_attr G x e1 e2 n1 e3 rfl fun s x => m_inset (prog := prog) x e4 e5 fun s x => wpAny_truthy_bool ?_))))
    cases hw : decide (mod = word) with
    | true =>
      rw [if_pos rfl]
      have hans : true = ansF word mod := by unfold ansF; rw [hw]; rfl
      refine wpAny_execs_cons ?_
      refine wpAny_Assign_Subscript (hs := ?hs1) ?_
      case hs1 => rfl
      refine r_int x fun s t1 x _ => r_attr G x e1 e2 n1 e8 rfl fun s x => r_name x n3 (m_setitem x r hkv (by first | exact Nat.le_trans (by assumption) (by decide) | exact Nat.le_trans (Nat.le_of_eq (by assumption)) (Nat.le_trans (by assumption) (by decide)) | (rw [line24]; omega)) fun o' s ho' x => ?_)
      refine wpAny_execs_cons (wpAny_Return_some (r_int x fun s t2 x _ => ?_))
      have := h g s t2 o' (Le.refl _) x.st (noted' true t1 o' hv hans ho')
      rw [← hans] at this
      exact this
    | false =>
      rw [if_neg (by simp)]
      refine wpAny_execs_nil ?_
      refine wpAny_execs_cons (r_for (s0 := s0) (r_attr G x e1 e2 n1 e3 rfl fun s x => src_one hh x e4 e5 fun it s kw S => ?_))
      refine ⟨_, _, _, _, _, _, S, fun i g' m' μ' => m' "self" = some (.ref ix) ∧ m' "filename" = some (.str "x.py" t) ∧ m' "modulename" = some (.str mod u) ∧ μ' = μ ∧ (0 < i → Txt.startswith mod (word ++ ".") = false), ⟨n1, n2, n3, rfl, fun q => absurd q (by decide)⟩, ?_, ?_⟩
      · rintro i v I g' m' μ' oI s hi rfl hle Qx1 hN1 hC1 hB1 hR1 hJp0
        refine absP fun Gx hGx => ?_
        obtain ⟨n1, n2, n3, rfl, _⟩ := hJp0
        refine hGx ?_
        rintro x
        have G' := G.le hle
        refine r_assign x fun s x => ?_
        have p1 : upd m' "mod" (.str word kw) "self" = some (.ref ix) := n1
        have p2 : upd m' "mod" (.str word kw) "filename" = some (.str "x.py" t) := n2
        have p3 : upd m' "mod" (.str word kw) "modulename" = some (.str mod u) := n3
        have p4 : upd m' "mod" (.str word kw) "mod" = some (.str word kw) := upd_eq _ _ _
        generalize upd m' "mod" (.str word kw) = m2 at x p1 p2 p3 p4
        refine wpAny_execs_cons (wpAny_If (wpAny_isTrue_value (Call_method1 rfl rfl rfl (r_name x p3 (SB.startswith (wpAny_BinOp (r_name x p4 (r_str x fun s t3 x _ => SB.add (fun t4 k4 => ?_) ?_))))))))
        · refine ⟨_, t4, rfl, ?_⟩
          have x := x.tok (tk := k4)
          refine wpAny_truthy_bool ?_
          cases hsw : Txt.startswith mod (word ++ ".") with
          | true =>
            rw [if_pos rfl]
            have hans : true = ansF word mod := by unfold ansF; rw [hw, hsw]; rfl
            refine wpAny_execs_cons ?_
            refine wpAny_Assign_Subscript (hs := ?hs2) ?_
            case hs2 => rfl
            refine r_int x fun s t1 x _ => r_attr G' x (hle _ _ e1) (hle _ _ e2) p1 e8 rfl fun s x => r_name x p3 (m_setitem x (.tail r) hkv (by first | exact Nat.le_trans (by assumption) (by decide) | exact Nat.le_trans (Nat.le_of_eq (by assumption)) (Nat.le_trans (by assumption) (by decide)) | (rw [line24]; omega)) fun o' s ho' x => ?_)
            refine wpAny_execs_cons (wpAny_Return_some (r_int x fun s t2 x _ => ?_))
            refine hR1 _ _ ?_
            have := h g' s t2 o' hle x.st.tl (noted' true t1 o' hv hans ho')
            rw [← hans] at this
            exact this
          | false =>
            rw [if_neg (by simp)]
            refine wpAny_execs_nil (wpAny_execs_nil (hN1 _ ?_))
            refine ⟨g', m2, _, Le.refl _, ⟨p1, p2, p3, rfl, fun _ => hsw⟩, x⟩
        · rw [line24]
          have : Str.length "." = 1 := by decide
          omega
      · rintro g' m' μ' s hle hJp0
        refine absP fun Gx hGx => ?_
        obtain ⟨n1, n2, n3, rfl, hsw⟩ := hJp0
        refine hGx ?_
        rintro x
        have G' := G.le hle
        have hsw := hsw (by decide)
        have hans : false = ansF word mod := by unfold ansF; rw [hw, hsw]; rfl
        refine wpAny_execs_nil ?_
        refine wpAny_execs_cons (wpAny_If (wpAny_isTrue_Compare1 (r_name x n2 (wpAny_Constant_none (is_none_ne (by intro q; cases q) (wpAny_truthy_bool ?_))))))
        rw [if_neg (by simp)]
        refine wpAny_execs_nil ?_
        refine wpAny_execs_cons (r_for (s0 := s0) (r_attr G' x (hle _ _ e1) (hle _ _ e2) n1 e6 rfl fun s x => src_list hh x (e7.le hle) fun it s S => ?_))
        refine ⟨_, _, _, _, _, _, S, fun i g2 m2 μ2 => m2 = m' ∧ μ2 = μ', ⟨rfl, rfl⟩, ?_, ?_⟩
        · intro i v I g2 m2 μ2 oI s hi
          exact absurd hi (Nat.not_lt_zero _)
        · rintro g2 m2 μ2 s hle2 ⟨rfl, rfl⟩ x
          refine wpAny_execs_nil ?_
          refine wpAny_execs_cons ?_
          refine wpAny_Assign_Subscript (hs := ?hs3) ?_
          case hs3 => rfl
          refine r_int x fun s t1 x _ => r_attr (G'.le hle2) x (hle2 _ _ (hle _ _ e1)) (hle2 _ _ (hle _ _ e2)) n1 e8 rfl fun s x => r_name x n3 (m_setitem x r hkv (by first | exact Nat.le_trans (by assumption) (by decide) | exact Nat.le_trans (Nat.le_of_eq (by assumption)) (Nat.le_trans (by assumption) (by decide)) | (rw [line24]; omega)) fun o' s ho' x => ?_)
          refine wpAny_execs_cons (wpAny_Return_some (r_int x fun s t2 x _ => ?_))
          have := h g2 s t2 o' (hle.trans hle2) x.st (noted' false t1 o' hv hans ho')
          rw [← hans] at this
          exact this
end
end Mine
end
section
set_option maxRecDepth 100000
set_option autoImplicit false
namespace Mine
open PySem
noncomputable def dotJ (p : Nd) : Str := Str.join "." p
noncomputable def abbs : List Str := ["a", "ab", "b"]
noncomputable def allN : List Nd := abbs.map (fun a => [a]) ++ abbs.flatMap (fun a => abbs.map fun b => [a, b]) ++ abbs.flatMap fun a => abbs.flatMap fun b => abbs.map fun c => [a, b, c]
theorem mem_allN {x : Nd} (h0 : x ≠ []) (h3 : x.length ≤ 3) (h : ∀ a ∈ x, a ∈ abbs) : x ∈ allN := by
  unfold allN
  match x, h0, h3, h with
  | [a], _, _, h =>
    refine List.mem_append_left _ (List.mem_append_left _ (List.mem_map_of_mem (h a (by simp))))
  | [a, b], _, _, h =>
    refine List.mem_append_left _ (List.mem_append_right _ (List.mem_flatMap.mpr ⟨a, h a (by simp), List.mem_map_of_mem (h b (by simp))⟩))
  | [a, b, c], _, _, h =>
    refine List.mem_append_right _ (List.mem_flatMap.mpr ⟨a, h a (by simp), List.mem_flatMap.mpr ⟨b, h b (by simp), List.mem_map_of_mem (h c (by simp))⟩⟩)
  | a :: b :: c :: d :: r, _, h3, _ => simp at h3
theorem ans_all : ∀ x ∈ allN, ∀ y ∈ allN, ansF (dotJ x) (dotJ y) = on x y := by decide +kernel
theorem inj_all : ∀ x ∈ allN, ∀ y ∈ allN, dotJ x = dotJ y → x = y := by decide +kernel
theorem dots_all : ∀ x ∈ allN, Txt.count (dotJ x) "." = (x.length : Int) - 1 := by decide +kernel
theorem len_all : ∀ x ∈ allN, (dotJ x).length ≤ 8 := by decide +kernel
end Mine
end
section
set_option maxRecDepth 100000
set_option autoImplicit false
namespace Mine
open PySem PySem.Spec PySem.Calls PyProof.Rows PySem.W PySem.SeqAt
noncomputable def abb (i : Int) : Str := if i = 0 then "a" else if i = 1 then "ab" else "b"
noncomputable def partsF (d : Int) : List Str := (List.range (1 + (d.fmod 3).toNat)).map fun i => abb ((d.fdiv (3 ^ (i + 1))).fmod 3)
section
variable {prog : Program} {w : World} {A : Around} {E : Value → Shared → Prop} {s0 s : Shared} {env : Env} {g : Fz} {L : Addr} {m mg mb : Str → Option Value} {μ : List (Addr × Obj)} {pos : Pos} {n : Str} {v : Value}
set_option maxHeartbeats 400000 in
theorem parts_call (G : Gd w mg mb g) (x : St g μ s0 s) (hA : Ok A) {d : Int} {t : Tok} {R : Result → Shared → Prop}
    (h : ∀ g' s' r, Le g g' → St g' μ s0 s' → Sl g' r (partsF d) → R (.ok (.ret (.ref r))) s') : codeAny (model prog w) A (.call (.ref 119) ⟨[.int d t], []⟩) R s := by
  refine c_fnC G x rfl rfl hA rfl (by intro n x hx; simp at hx; subst hx; exact .inr ⟨rfl, rfl⟩) (by decide) (fun A' L s cells hh hu hd hc x => ?_)
  refine absP fun Gx hGx => ?_
  obtain ⟨oc, rfl, ho⟩ := CellsAre.one hc
  refine hGx ?_
  have hoc : put g (L + 1) oc (L + 1) = some oc := put_self _ _ _
  have hle0 := x.freeze_le
  replace x := x.freeze
  have G := G.le hle0
  generalize hg1 : put g (L + 1) oc = g1 at x hoc hle0 G
  replace ho : oc.data = .cell (some (.int d t)) := ho
  refine wpAny_execs_cons (wpAny_Return_some ?_)
  refine r_comp (s0 := s0) rfl (by decide) rfl (by decide) ?_
  refine wpAny_Call_NameR (r_bi G x rfl boot_range ?_)
  refine cw_type (sp_cons (r_int x fun s u x _ => ?_))
  refine sp_one (wpAny_BinOp (r_int x fun s u x _ => wpAny_BinOp (r_cell x rfl (.inl hoc) ho (r_int x fun s u x _ => i_mod x (by decide) fun s u x => i_add x fun s u x => ?_))))
  refine m_range2 x fun s r q x hrg => ?_
  have hm : 0 ≤ d.fmod 3 ∧ d.fmod 3 < 3 := (fdiv_fmod_facts d 3).2.2.1 (by decide)
  refine src_range hh x hrg (small_up (by first | assumption | exact Nat.le_trans (by assumption) (by decide) | exact Nat.le_trans (Nat.le_of_eq (by assumption)) (Nat.le_trans (by assumption) (by decide)) | omega) (by first | assumption | exact Nat.le_trans (by assumption) (by decide) | exact Nat.le_trans (Nat.le_of_eq (by assumption)) (Nat.le_trans (by assumption) (by decide)) | omega) (by first | assumption | exact Nat.le_trans (by assumption) (by decide) | exact Nat.le_trans (Nat.le_of_eq (by assumption)) (Nat.le_trans (by assumption) (by decide)) | omega) (by first | assumption | exact Nat.le_trans (by assumption) (by decide) | exact Nat.le_trans (Nat.le_of_eq (by assumption)) (Nat.le_trans (by assumption) (by decide)) | omega)) (size_up (by first | assumption | exact Nat.le_trans (by assumption) (by decide) | exact Nat.le_trans (Nat.le_of_eq (by assumption)) (Nat.le_trans (by assumption) (by decide)) | omega)) fun it s S => ?_
  refine ⟨_, _, _, _, _, S, by first | exact Nat.le_trans (by assumption) (by decide) | exact Nat.le_trans (Nat.le_of_eq (by assumption)) (Nat.le_trans (by assumption) (by decide)) | (rw [line24]; omega), fun i ys g' μ' => μ' = μ ∧ Are ys ((partsF d).take i), ⟨rfl, rfl⟩, ?_, ?_⟩
  · rintro C D I i v ys g' μ' mC oI oL nD s hi ⟨tv, rfl⟩ hle Qx1 Qy1 hX1 hY1 ⟨rfl, hys⟩ hoL x
    refine r_assign x fun s x => ?_
    refine wpAny_tests_nil ?_
    rw [if_pos rfl]
    have hk : upd mC "k" (.int (1 + (i : Int) * 1) tv) "k" = some (.int (1 + (i : Int) * 1) tv) := upd_eq _ _ _
    generalize upd mC "k" (.int (1 + (i : Int) * 1) tv) = m1 at x hk
    have hi3 : i < 3 := by omega
    have hpw : (3 : Int) ^ (1 + (i : Int) * 1).toNat = 3 ^ (i + 1) := by congr 1; omega
    have hpn : (3 : Int) ^ (i + 1) ≠ 0 ∧ ((3 : Int) ^ (i + 1)).natAbs < 1073741824 := by
      have : i = 0 ∨ i = 1 ∨ i = 2 := by omega
      rcases this with rfl | rfl | rfl <;> decide
    refine Subscript_ (Tuple_ (sp_cons (r_str x fun s t1 x _ => sp_cons (r_str x fun s t2 x _ => sp_one (r_str x fun s t3 x _ => ?_)))))
    refine m_tuple x (by rw [line24]; exact (by decide : 3 ≤ 16777216)) fun g2 T s hle2 hT x => ?_
    refine wpAny_BinOp (wpAny_BinOp (r_cell x rfl (.inl (hle2 _ _ (hle _ _ hoc))) ho ?_))
    refine wpAny_BinOp (r_int x fun s u x _ => r_name x hk (i_pow x (by omega) (by have : Builtin.Int.intBits 3 = 2 := by rfl
                                                                                   rw [this]; omega) fun s u x => ?_))
    rw [hpw]
    refine i_div x hpn.1 hpn.2 fun s u x => r_int x fun s u x _ => i_mod x (by decide) fun s u x => ?_
    have hm3 : 0 ≤ (d.fdiv (3 ^ (i + 1))).fmod 3 ∧ (d.fdiv (3 ^ (i + 1))).fmod 3 < 3 := (fdiv_fmod_facts _ 3).2.2.1 (by decide)
    have hpi : (partsF d)[i]? = some (abb ((d.fdiv (3 ^ (i + 1))).fmod 3)) := by
      unfold partsF
      rw [List.getElem?_map, List.getElem?_range (by first | assumption | exact Nat.le_trans (by assumption) (by decide) | exact Nat.le_trans (Nat.le_of_eq (by assumption)) (Nat.le_trans (by assumption) (by decide)) | omega)]; rfl
    generalize hq : (d.fdiv (3 ^ (i + 1))).fmod 3 = q at hm3 hpi
    obtain ⟨j, hj, y, ty, hy, hya⟩ : ∃ j : Nat, q = j ∧ ∃ y ty, [Value.str "a" t1, .str "ab" t2, .str "b" t3][j]? = some (.str y ty) ∧ abb q = y := by
      have : q = 0 ∨ q = 1 ∨ q = 2 := by omega
      rcases this with rfl | rfl | rfl
      · exact ⟨0, rfl, _, _, rfl, rfl⟩
      · exact ⟨1, rfl, _, _, rfl, rfl⟩
      · exact ⟨2, rfl, _, _, rfl, rfl⟩
    refine item_tupleT (hT.isTup x.st) (by first | assumption | exact Nat.le_trans (by assumption) (by decide) | exact Nat.le_trans (Nat.le_of_eq (by assumption)) (Nat.le_trans (by assumption) (by decide)) | omega) (by first | assumption | exact Nat.le_trans (by assumption) (by decide) | exact Nat.le_trans (Nat.le_of_eq (by assumption)) (Nat.le_trans (by assumption) (by decide)) | omega) (j := j) (by
      have : q = 0 ∨ q = 1 ∨ q = 2 := by omega
      rcases this with h | h | h <;> (rw [h] at hj ⊢; have : j = _ := (Int.ofNat.inj hj).symm; subst this; rfl)) hy ?_
    refine hX1 _ _ ?_
    refine ⟨g2, m1, _, hle2, ⟨rfl, ?_⟩, x⟩
    rw [List.take_add_one, hpi, hya]
    exact hys.append (Are.one _ _)
  · rintro D ys g' μ' nD s hle ⟨rfl, hys⟩ x
    have hl : (partsF d).length = (2 + d.fmod 3 - 1).toNat := by unfold partsF; rw [List.length_map, List.length_range]; omega
    rw [← hl, List.take_length] at hys
    exact h _ _ D (hle0.trans (hle.trans x.freeze_le)) x.freeze.st ⟨ys, ⟨nD, put_self _ _ _⟩, hys⟩
end
end Mine
end
section
set_option maxRecDepth 100000
set_option autoImplicit false
namespace Mine
open PySem PySem.Spec PySem.Calls PyProof.Rows PySem.W PySem.SeqAt
noncomputable def LsX (g : Fz) (a : Addr) (vs : List Value) : Prop := ∃ o, g a = some o ∧ o.cls = .type "list" ∧ ∃ n, o.data = .seq vs.toArray n
theorem LsX.le {g g' : Fz} {a : Addr} {vs : List Value} (x : LsX g a vs) (k : Le g g') : LsX g' a vs := let ⟨o, e, r⟩ := x; ⟨o, k _ _ e, r⟩
theorem LsX.isList {g : Fz} {a : Addr} {vs : List Value} {μ : List (Addr × Obj)} {s0 s : Shared} (x : LsX g a vs) (y : St g μ s0 s) : s.heap.IsList a vs.toArray := let ⟨o, e, r⟩ := x; ⟨o, y.frz _ _ e, r⟩
section
variable {prog : Program} {w : World} {A : Around} {E : Value → Shared → Prop} {s0 s : Shared} {env : Env} {g : Fz} {L : Addr} {m mg mb : Str → Option Value} {μ : List (Addr × Obj)} {pos : Pos} {n : Str} {v : Value}
set_option maxHeartbeats 400000 in
theorem dealt_call (G : Gd w mg mb g) (x : St g μ s0 s) (hA : Ok A) {a b : Addr} {vs ws : List Value} (ha : LsX g a vs) (hv : Ints vs) (hvz : vs.length ≤ 1000) (hb : Lst g b ws) (hw : Ints ws) (hwz : ws.length ≤ 1000) {R : Result → Shared → Prop}
    (h : ∀ g' s' r ys, Le g g' → St g' μ s0 s' → Lst g' r ys → Ints ys → ys.length = ws.length → R (.ok (.ret (.ref r))) s') : codeAny (model prog w) A (.call (.ref 114) ⟨[.ref a, .ref b], []⟩) R s := by
  refine c_fnC (binds := [("script", .ref a), ("starts", .ref b)]) G x rfl rfl hA rfl (by intro n x hx; simp only [List.mem_cons, List.not_mem_nil, or_false] at hx; rcases hx with rfl | rfl <;> first | exact .inr ⟨rfl, rfl⟩ | exact .inl rfl) (by decide) (fun A' L s cells hh hu hd hc x => ?_)
  refine absP fun Gx hGx => ?_
  obtain ⟨o1, o2, o3, rfl, h1, h2, h3⟩ := CellsAre.three hc
  refine hGx ?_
  replace h2 : o2.data = .cell (some (.ref b)) := h2
  replace h3 : o3.data = .cell (some (.ref a)) := h3
  refine wpAny_execs_cons (wpAny_Assign_Name ?_)
  refine wpAny_Call_NameR (r_bi G x rfl boot_len ?_)
  refine cw_bi (sp_one (r_cell x rfl (.inr (.tail _ (.head _))) h2 (m_len x (hb.isList x.st) (by first | exact Nat.le_trans (by assumption) (by decide) | exact Nat.le_trans (Nat.le_of_eq (by assumption)) (Nat.le_trans (by assumption) (by decide)) | (rw [line24]; omega)) fun s t x => ?_)))
  refine r_storeC x rfl .head h1 fun s o1 h1 x => ?_
  obtain ⟨g1, c1, k1, x⟩ := x.frz1
  obtain ⟨g2, c2, k2, x⟩ := x.frz1
  obtain ⟨g3, c3, k3, x⟩ := x.frz1
  replace k1 := c3 _ _ (c2 _ _ k1)
  replace k2 := c3 _ _ k2
  have hle0 := c1.trans (c2.trans c3)
  clear c1 c2 c3
  replace G := G.le hle0
  replace ha := ha.le hle0
  replace hb := hb.le hle0
  refine wpAny_execs_cons (wpAny_Return_some ?_)
  refine r_comp (s0 := s0) rfl (by decide) rfl (by decide) ?_
  refine wpAny_Call_NameR (r_bi G x rfl boot_range ?_)
  refine cw_type (sp_one (r_cell x rfl (.inl k1) h1 (m_range1 x fun s r t q x hrg => ?_)))
  refine src_range hh x hrg (small_up (by first | assumption | exact Nat.le_trans (by assumption) (by decide) | exact Nat.le_trans (Nat.le_of_eq (by assumption)) (Nat.le_trans (by assumption) (by decide)) | omega) (by first | assumption | exact Nat.le_trans (by assumption) (by decide) | exact Nat.le_trans (Nat.le_of_eq (by assumption)) (Nat.le_trans (by assumption) (by decide)) | omega) (by first | assumption | exact Nat.le_trans (by assumption) (by decide) | exact Nat.le_trans (Nat.le_of_eq (by assumption)) (Nat.le_trans (by assumption) (by decide)) | omega) (by first | assumption | exact Nat.le_trans (by assumption) (by decide) | exact Nat.le_trans (Nat.le_of_eq (by assumption)) (Nat.le_trans (by assumption) (by decide)) | omega)) (size_up (by first | assumption | exact Nat.le_trans (by assumption) (by decide) | exact Nat.le_trans (Nat.le_of_eq (by assumption)) (Nat.le_trans (by assumption) (by decide)) | omega)) fun it s S => ?_
  refine ⟨_, _, _, _, _, S, by first | exact Nat.le_trans (by assumption) (by decide) | exact Nat.le_trans (Nat.le_of_eq (by assumption)) (Nat.le_trans (by assumption) (by decide)) | (rw [line24]; omega), fun i ys g' μ' => μ' = μ ∧ Ints ys ∧ ys.length = i, ⟨rfl, fun v hv => (by cases hv), rfl⟩, ?_, ?_⟩
  · rintro C D I i v ys0 g' μ' mC oI oL nD s hi ⟨tv, rfl⟩ hle Qx1 Qy1 hX1 hY1 hJp0
    refine absP fun Gx hGx => ?_
    obtain ⟨rfl, hys, hyl⟩ := hJp0
    refine hGx ?_
    rintro hoL x
    refine r_assign x fun s x => ?_
    refine wpAny_tests_nil ?_
    rw [if_pos rfl]
    have hk : upd mC "k" (.int (0 + (i : Int) * 1) tv) "k" = some (.int (0 + (i : Int) * 1) tv) := upd_eq _ _ _
    generalize upd mC "k" (.int (0 + (i : Int) * 1) tv) = m1 at x hk
    have hi' : i < ws.length := by omega
    refine absP fun Gx hGx => ?_
    obtain ⟨v1, t1, hv1⟩ := hw.get (List.getElem?_eq_getElem hi')
    refine hGx ?_
    refine wpAny_BinOp (Subscript_ (r_cell x rfl (.inl (hle _ _ k2)) h2 (r_name x hk ?_)))
    refine item_at (v := .int v1 t1) (j := i) ((hb.le hle).isList x.st) (by first | assumption | exact Nat.le_trans (by assumption) (by decide) | exact Nat.le_trans (Nat.le_of_eq (by assumption)) (Nat.le_trans (by assumption) (by decide)) | omega) (by first | assumption | exact Nat.le_trans (by assumption) (by decide) | exact Nat.le_trans (Nat.le_of_eq (by assumption)) (Nat.le_trans (by assumption) (by decide)) | omega) (by rw [← hv1]; exact List.getElem?_eq_getElem hi') ?_
    have G' := G.le hle
    refine wpAny_Call_NameR (r_bi G' x rfl boot_sum ?_)
    refine cw_bi (sp_one ?_)
    refine r_comp (s0 := s0) rfl (by decide) rfl (by decide) ?_
    refine r_slice3 (s0 := s0) (r_cell x rfl (.inl (hle _ _ k3)) h3 (wpAny_evalPart_some (r_name x hk (wpAny_evalPart_some (r_int x fun s u x _ => r_cell x rfl (.inl (hle _ _ k1)) h1 ?_)))))
    refine ⟨_, _, _, _, _, _, _, _, _, _, rfl, x, (ha.le hle).isList x.st, by first | exact Nat.le_trans (by assumption) (by decide) | exact Nat.le_trans (Nat.le_of_eq (by assumption)) (Nat.le_trans (by assumption) (by decide)) | (rw [line24]; omega), .int _ _, .int _ _, rfl, by omega, fun g4 b4 s zs hle4 hz4 hsub hzl x => ?_⟩
    refine src_list hh x hz4 fun it s S => ?_
    refine ⟨_, _, _, _, _, S, by first | exact Nat.le_trans (by assumption) (by decide) | exact Nat.le_trans (Nat.le_of_eq (by assumption)) (Nat.le_trans (by assumption) (by decide)) | (rw [line24]; omega), fun i ys g' μ2 => μ2 = (I, oI) :: (D, W.listOf ys0.toArray nD) :: (L, oL) :: μ' ∧ Ints ys, ⟨rfl, fun v hv => (by cases hv)⟩, ?_, ?_⟩
    · rintro C2 D2 I2 j v zs2 g5 μ5 mC2 oI2 oL2 nD2 s hj hvj hle5 Qx2 Qy2 hX2 hY2 ⟨rfl, hzs⟩ hoL2 x
      refine r_assign x fun s x => ?_
      refine wpAny_tests_nil ?_
      rw [if_pos rfl]
      refine absP fun Gx hGx => ?_
      obtain ⟨vi, vt, rfl⟩ := hv _ (hsub _ (List.mem_of_getElem? hvj))
      refine hGx ?_
      have hk2 : upd mC2 "x" (.int vi vt) "x" = some (.int vi vt) := upd_eq _ _ _
      generalize upd mC2 "x" (.int vi vt) = m2 at x hk2
      refine wpAny_BinOp (r_name x hk2 (wpAny_BinOp (r_int x fun s u x _ => r_int x fun s u x _ => i_pow x (by first | assumption | exact Nat.le_trans (by assumption) (by decide) | exact Nat.le_trans (Nat.le_of_eq (by assumption)) (Nat.le_trans (by assumption) (by decide)) | omega) (by decide) fun s u x => i_mod x (by decide) fun s u x => ?_)))
      refine hX2 _ _ ?_
      exact ⟨g5, m2, _, Le.refl _, ⟨rfl, hzs.app fun v hv => ⟨_, _, List.mem_singleton.mp hv⟩⟩, x⟩
    · rintro D2 ys2 g5 μ5 nD2 s hle5 ⟨rfl, hzs⟩ x
      obtain ⟨g6, hle6, e6, x⟩ := x.frz1
      refine m_sum hh x ⟨_, x.get e6, rfl, _, rfl⟩ hzs fun nn tt s x => i_add x fun s u x => ?_
      refine hX1 _ _ ?_
      exact ⟨g6, m1, _, hle4.trans (hle5.trans hle6), ⟨rfl, hys.app fun v hv => ⟨_, _, List.mem_singleton.mp hv⟩, by rw [List.length_append, hyl]; rfl⟩, x⟩
  · rintro D ys g' μ' nD s hle hJp0
    refine absP fun Gx hGx => ?_
    obtain ⟨rfl, hys, hyl⟩ := hJp0
    refine hGx ?_
    rintro x
    have hyl' : ys.length = ws.length := by omega
    exact h _ _ D _ (hle0.trans (hle.trans x.freeze_le)) x.freeze.st ⟨nD, put_self _ _ _⟩ hys hyl'
end
end Mine
end
section
set_option maxRecDepth 100000
set_option autoImplicit false
namespace Mine
open PySem
noncomputable def okPath (p : Nd) : Prop := p ≠ [] ∧ p.length ≤ 3 ∧ ∀ a ∈ p, a ∈ abbs
theorem parts_ok (d : Int) : okPath (partsF d) := by
  unfold partsF
  have h1 : 0 ≤ d.fmod 3 := Int.fmod_nonneg_of_pos _ (by decide)
  have h2 : d.fmod 3 < 3 := Int.fmod_lt_of_pos _ (by decide)
  refine ⟨fun e => ?_, by rw [List.length_map, List.length_range]; omega, fun a ha => ?_⟩
  · have := congrArg List.length e
    rw [List.length_map, List.length_range, List.length_nil] at this; omega
  · obtain ⟨i, _, rfl⟩ := List.mem_map.mp ha
    unfold abb abbs
    split
    · simp
    · split <;> simp
theorem node_all {paths : List Nd} (hp : ∀ p ∈ paths, okPath p) {y : Nd} (hy : isNode paths y) : y ∈ allN := by
  obtain ⟨p, hm, h⟩ := hy
  obtain ⟨_, h2, h3⟩ := hp p hm
  obtain ⟨h4, h5⟩ := mem_downs.mp h
  exact mem_allN h4 (Nat.le_trans h5.length_le h2) fun a ha => h3 a (h5.subset ha)
theorem path_all {p : Nd} (h : okPath p) : p ∈ allN := mem_allN h.1 h.2.1 h.2.2
theorem inj_allN : InjOn dotJ allN := fun x hx y hy e => inj_all x hx y hy e
theorem total_tot (rows : List (List Nd)) : total (rows.map (List.map dotJ)) = tot rows := by
  induction rows with
  | nil => rfl
  | cons r rs ih =>
    show ((r.map dotJ).length :: (rs.map (List.map dotJ)).map List.length).sum = r.length + tot rs
    rw [List.sum_cons, List.length_map]
    exact congrArg _ ih
section
variable {paths : List Nd} {n : Nat}
theorem rows_all (hp : ∀ p ∈ paths, okPath p) : ∀ r ∈ paths.map downs, ∀ x ∈ r, x ∈ allN := by
  intro r hr x hx
  obtain ⟨p, hm, rfl⟩ := List.mem_map.mp hr
  exact node_all hp ⟨p, hm, hx⟩
theorem law_merge (hp : ∀ p ∈ paths, okPath p) (hn : total ((paths.map downs).map (List.map dotJ)) < n) : c3F n ((paths.map downs).map (List.map dotJ)) [] = some ((climbF paths).map dotJ) := by
  rw [total_tot] at hn
  have := c3_map inj_allN n (paths.map downs) [] (rows_all hp)
  rw [show ([] : List Str) = ([] : List Nd).map dotJ from rfl, this, c3G_climb paths hn]; rfl
noncomputable def barS (paths : List Nd) (first last : Nat) : Bool := first == last || ((needsF (nodesF paths)).getD first []).contains last
noncomputable def wordsF (paths : List Nd) : List Str := (nodesF paths).map dotJ
theorem words_get {k : Nat} (hk : k < (nodesF paths).length) : (wordsF paths).getD k Str.empty = dotJ (nth (nodesF paths) k) := by
  unfold wordsF nth
  simp [hk]
theorem words_length : (wordsF paths).length = (nodesF paths).length := by unfold wordsF; simp
theorem law_pair (hp : ∀ p ∈ paths, okPath p) {first last : Nat} (hf : first < (nodesF paths).length) (hl : last < (nodesF paths).length)
    (hn : total ((paths.map downs).map (List.map dotJ) ++ [[(wordsF paths).getD first Str.empty, (wordsF paths).getD last Str.empty]]) < n) :
    c3F n ((paths.map downs).map (List.map dotJ) ++ [[(wordsF paths).getD first Str.empty, (wordsF paths).getD last Str.empty]]) [] =
      if barS paths first last then none else some ((inTurnF (needsF (nodesF paths)) first last).map fun k => (wordsF paths).getD k Str.empty) := by
  rw [words_get hf, words_get hl] at hn ⊢
  have e : (paths.map downs).map (List.map dotJ) ++ [[dotJ (nth (nodesF paths) first), dotJ (nth (nodesF paths) last)]] = (paths.map downs ++ [[nth (nodesF paths) first, nth (nodesF paths) last]]).map (List.map dotJ) := by simp
  rw [e] at hn ⊢
  rw [total_tot] at hn
  have hfn : isNode paths (nth (nodesF paths) first) := nodes_mem.mp (nth_mem hf)
  have hln : isNode paths (nth (nodesF paths) last) := nodes_mem.mp (nth_mem hl)
  have hall : ∀ r ∈ paths.map downs ++ [[nth (nodesF paths) first, nth (nodesF paths) last]], ∀ x ∈ r, x ∈ allN := by
    intro r hr x hx
    rcases List.mem_append.mp hr with h | h
    · exact rows_all hp r h x hx
    · rw [List.mem_singleton.mp h] at hx
      simp at hx
      rcases hx with rfl | rfl
      · exact node_all hp hfn
      · exact node_all hp hln
  have hm := c3_map inj_allN n (paths.map downs ++ [[nth (nodesF paths) first, nth (nodesF paths) last]]) [] hall
  rw [show ([] : List Str) = ([] : List Nd).map dotJ from rfl, hm]
  have hb := barred_iff hf hl
  cases hbar : barS paths first last with
  | true =>
    rw [if_pos rfl, c3G_barred hln hfn (by rw [hb]; exact hbar)]; rfl
  | false =>
    rw [if_neg (by simp), c3G_turns hf hl (by rw [hb]; exact hbar) hn, Option.map_some, List.map_map]
    congr 1
    refine List.map_congr_left fun k hk => ?_
    have hkl : k < (nodesF paths).length := by
      have hall : ∀ (ns : List (List Nat)) (ks : List Nat), (∀ k ∈ ks, k < (nodesF paths).length) → ∀ k ∈ ns.foldl (fun told _ => turn1 (needsF (nodesF paths)) first last told) ks, k < (nodesF paths).length := by
        intro ns
        induction ns with
        | nil => intro ks h; exact h
        | cons m ns ih =>
          intro ks h
          refine ih _ fun j hj => ?_
          change j ∈ turn1 (needsF (nodesF paths)) first last ks at hj
          unfold turn1 at hj
          cases hfd : (List.range (needsF (nodesF paths)).length).find? (ready (needsF (nodesF paths)) first last ks) with
          | none => rw [hfd] at hj; exact h j hj
          | some i =>
            rw [hfd] at hj
            rcases List.mem_append.mp hj with q | q
            · exact h j q
            · rw [List.mem_singleton.mp q]
              have := List.mem_of_find?_eq_some hfd
              rwa [List.mem_range, needs_length] at this
      exact hall _ [] (fun _ h => by cases h) k hk
    rw [words_get hkl]; rfl
theorem law_reader (hp : ∀ p ∈ paths, okPath p) {first last : Nat} (hf : first < (nodesF paths).length) (hl : last < (nodesF paths).length) :
    ansF ((wordsF paths).getD first Str.empty) ((wordsF paths).getD last Str.empty) = barS paths first last := by
  rw [words_get hf, words_get hl, ans_all _ (node_all hp (nodes_mem.mp (nth_mem hf))) _ (node_all hp (nodes_mem.mp (nth_mem hl)))]
  exact barred_iff hf hl
noncomputable def namesF (paths : List Nd) : List Str := paths.map dotJ
noncomputable def tipsF (paths : List Nd) : List Str := (namesF paths).filter fun x => ((namesF paths).filter fun y => !(y == x) && ansF x y).isEmpty
noncomputable def keyS (paths : List Nd) (word : Str) : Int × Int := (topF (((tipsF paths).filter (ansF word)).map fun t => (namesF paths).idxOf t), -Txt.count word ".")
theorem idxOf_map : ∀ {l : List Nd}, (∀ p ∈ l, p ∈ allN) → ∀ {t : Nd}, t ∈ allN → (l.map dotJ).idxOf (dotJ t) = l.idxOf t
  | [], _, _, _ => rfl
  | p :: ps, h, t, ht => by
    rw [List.map_cons, List.idxOf_cons, List.idxOf_cons, idxOf_map (fun q hq => h q (.tail _ hq)) ht]
    have : (dotJ p == dotJ t) = (p == t) := by
      rw [Bool.eq_iff_iff, beq_iff_eq, beq_iff_eq]
      exact ⟨fun e => inj_all p (h p (.head _)) t ht e, fun e => by rw [e]⟩
    rw [this]
theorem tips_map (hp : ∀ p ∈ paths, okPath p) : tipsF paths = (paths.filter (tipIs paths)).map dotJ := by
  unfold tipsF namesF
  rw [List.filter_map]
  congr 1
  refine List.filter_congr fun p hm => ?_
  show (List.filter _ (paths.map dotJ)).isEmpty = tipIs paths p
  unfold tipIs
  rw [List.filter_map, List.isEmpty_map]
  congr 1
  refine List.filter_congr fun x hx => ?_
  show (!(dotJ x == dotJ p) && ansF (dotJ p) (dotJ x)) = _
  rw [ans_all p (path_all (hp p hm)) x (path_all (hp x hx))]
  congr 2
  rw [Bool.eq_iff_iff, beq_iff_eq, beq_iff_eq]
  exact ⟨fun e => inj_all x (path_all (hp x hx)) p (path_all (hp p hm)) e, fun e => by rw [e]⟩
theorem key_word (hp : ∀ p ∈ paths, okPath p) {y : Nd} (hy : isNode paths y) : keyS paths (dotJ y) = keyF paths y := by
  unfold keyS keyF placesF
  rw [dots_all y (node_all hp hy), tips_map hp, List.filter_map, List.map_map]
  congr 2
  have e : (paths.filter (tipIs paths)).filter (ansF (dotJ y) ∘ dotJ) = (paths.filter (tipIs paths)).filter (on y) := by
    refine List.filter_congr fun t ht => ?_
    exact ans_all y (node_all hp hy) t (path_all (hp t (List.mem_filter.mp ht).1))
  rw [e]
  refine List.map_congr_left fun t ht => ?_
  have htp := (List.mem_filter.mp (List.mem_filter.mp ht).1).1
  exact idxOf_map (fun p hm => path_all (hp p hm)) (path_all (hp t htp))
theorem told_sorted (hp : ∀ p ∈ paths, okPath p) : ((climbF paths).map dotJ).Pairwise fun a b => keyLt (keyS paths a) (keyS paths b) := by
  rw [List.pairwise_map]
  refine List.Pairwise.imp_of_mem ?_ (climb_sorted paths)
  intro a b ha hb h
  rw [key_word hp (climb_mem.mp ha), key_word hp (climb_mem.mp hb)]
  exact h
theorem told_mem {x : Str} : x ∈ wordsF paths ↔ x ∈ (climbF paths).map dotJ := by
  unfold wordsF
  rw [List.mem_map, List.mem_map]
  exact ⟨fun ⟨y, h, e⟩ => ⟨y, climb_mem.mpr (nodes_mem.mp h), e⟩, fun ⟨y, h, e⟩ => ⟨y, nodes_mem.mpr (climb_mem.mp h), e⟩⟩
theorem words_nodup (hp : ∀ p ∈ paths, okPath p) : (wordsF paths).Nodup := by
  unfold wordsF
  unfold List.Nodup
  rw [List.pairwise_map]
  refine List.Pairwise.imp_of_mem ?_ (nodes_nodup paths)
  intro a b ha hb hab e
  exact hab (inj_all a (node_all hp (nodes_mem.mp ha)) b (node_all hp (nodes_mem.mp hb)) e)
theorem law_sorted (hp : ∀ p ∈ paths, okPath p) {r : List Str} (hr : r.Perm (wordsF paths)) (hs : r.Pairwise fun a b => ¬ keyLt (keyS paths b) (keyS paths a)) : r = (climbF paths).map dotJ := by
  have hnd : r.Nodup := hr.nodup_iff.mpr (words_nodup hp)
  have hm : ∀ x, x ∈ r ↔ x ∈ (climbF paths).map dotJ := fun x => hr.mem_iff.trans told_mem
  have htri : ∀ a ∈ (climbF paths).map dotJ, ∀ b ∈ (climbF paths).map dotJ, a = b ∨ keyLt (keyS paths a) (keyS paths b) ∨ keyLt (keyS paths b) (keyS paths a) := by
    intro a ha b hb
    have hpw := told_sorted hp
    generalize (climbF paths).map dotJ = l at ha hb hpw
    induction l with
    | nil => cases ha
    | cons x xs ih =>
      rw [List.pairwise_cons] at hpw
      rcases List.mem_cons.mp ha with rfl | ha'
      · rcases List.mem_cons.mp hb with rfl | hb'
        · exact .inl rfl
        · exact .inr (.inl (hpw.1 b hb'))
      · rcases List.mem_cons.mp hb with rfl | hb'
        · exact .inr (.inr (hpw.1 a ha'))
        · exact ih ha' hb' hpw.2
  refine sorted_unique (R := fun a b => keyLt (keyS paths a) (keyS paths b)) (fun a b h => keyLt_asymm h) ?_ (told_sorted hp) hm
  refine List.Pairwise.imp_of_mem ?_ (hnd.and hs)
  intro a b ha hb h
  rcases htri a ((hm a).mp ha) b ((hm b).mp hb) with e | e | e
  · exact absurd e h.1
  · exact e
  · exact absurd e h.2
end
end Mine
end
section
set_option maxRecDepth 100000
set_option autoImplicit false
namespace Mine
open PySem PySem.Spec PySem.Calls PyProof.Rows PySem.W PySem.SeqAt
theorem updF_last {a : Addr} {o : Obj} : ∀ {pre : List (Addr × Obj)}, (∀ p ∈ pre, p.1 ≠ a) → UpdF a o (pre ++ [(a, o)]) (fun o' => pre ++ [(a, o')])
  | [], _ => .head (fun _ h => nomatch h)
  | p :: pre, h => .tail (h p (.head _)) (updF_last fun q hq => h q (.tail _ hq))
theorem Fm.pre {g : Fz} {L : Addr} {m : Str → Option Value} {μ : List (Addr × Obj)} {s0 s : Shared} (x : Fm g L m μ s0 s) :
    ∃ pre, Fr {} L s.heap m ∧ News {} L s.heap pre ∧ ∀ h' tk (new : List (Addr × Obj)), (∀ p ∈ new, ∀ q ∈ pre, q.1 < p.1) → (new.map (·.1)).Nodup → Fr {} L h' m → News {} L h' (new ++ pre) → Fm g L m (new ++ μ) s0 { s with heap := h', toks := tk } := by
  refine ⟨(List.range s.heap.objs.size).filterMap fun b => if b = L then none else (s.heap.get? b).map (b, ·), ⟨x.ns, fun b o e => absurd (e.symm.trans (empty_get b)) (by intro q; cases q), Nat.zero_le _⟩, ?_, ?_⟩
  · intro p hp
    refine absP fun Gx hGx => ?_
    obtain ⟨b, _, hb⟩ := List.mem_filterMap.mp hp
    refine hGx ?_
    split at hb
    · cases hb
    · rename_i hn
      refine absP fun Gx hGx => ?_
      obtain ⟨ob, hob, rfl⟩ := Option.map_eq_some_iff.mp hb
      refine hGx ?_
      exact ⟨hob, hn, rfl⟩
  · intro h' tk new hnew hnd F N
    have hin : ∀ b ob, b ≠ L → s.heap.get? b = some ob → (b, ob) ∈ (List.range s.heap.objs.size).filterMap fun b => if b = L then none else (s.heap.get? b).map (b, ·) := fun b ob h2 e => by
      refine List.mem_filterMap.mpr ⟨b, List.mem_range.mpr (Heap.lt_size e), ?_⟩
      rw [if_neg h2, e]; rfl
    have keep : ∀ b ob, b ≠ L → s.heap.get? b = some ob → h'.get? b = some ob := fun b ob h2 e => (N (b, ob) (List.mem_append_right _ (hin b ob h2 e))).1
    have fresh : ∀ p ∈ new, s.heap.get? p.1 = none := fun p hp => by
      cases q : s.heap.get? p.1 with
      | none => rfl
      | some o =>
        have := hnew p hp _ (hin p.1 o (N p (List.mem_append_left _ hp)).2.1 q)
        exact absurd this (Nat.lt_irrefl _)
    refine absP fun Gx hGx => ?_
    obtain ⟨oL', eL', nL'⟩ := nsO_of F.ns
    refine hGx ?_
    refine absP fun Gx hGx => ?_
    obtain ⟨oL, nL, y⟩ := x
    refine hGx ?_
    have gL := y.off (L, oL) (.head _)
    have nd := y.nd
    rw [List.map_cons, List.nodup_cons] at nd
    have hL : ∀ p ∈ μ, p.1 ≠ L := fun p hp q => nd.1 (List.mem_map.mpr ⟨p, hp, q⟩)
    refine ⟨oL', nL', ?_⟩
    refine ⟨by obtain ⟨h, t, rfl⟩ := y.same; exact ⟨h', tk, rfl⟩, fun b ob e => keep b ob (fun q => by rw [q, gL] at e; cases e) (y.frz b ob e), fun p hp => ?_, fun p hp => ?_, ?_⟩
    · rcases List.mem_cons.mp hp with rfl | hp
      · exact eL'
      · rcases List.mem_append.mp hp with hp | hp
        · exact (N p (List.mem_append_left _ hp)).1
        · exact keep _ _ (hL p hp) (y.mu p (.tail _ hp))
    · rcases List.mem_cons.mp hp with rfl | hp
      · exact gL
      · rcases List.mem_append.mp hp with hp | hp
        · exact y.offNone (fresh p hp)
        · exact y.off p (.tail _ hp)
    · rw [List.map_cons, List.nodup_cons, List.map_append, List.nodup_append]
      refine ⟨fun hm => ?_, hnd, nd.2, fun a ha b hb e => ?_⟩
      · rcases List.mem_append.mp hm with hm | hm
        · refine absP fun Gx hGx => ?_
          obtain ⟨p, hp, q⟩ := List.mem_map.mp hm
          refine hGx ?_
          exact (N p (List.mem_append_left _ hp)).2.1 q
        · exact nd.1 hm
      · refine absP fun Gx hGx => ?_
        obtain ⟨p, hp, rfl⟩ := List.mem_map.mp ha
        refine hGx ?_
        refine absP fun Gx hGx => ?_
        obtain ⟨q, hq, rfl⟩ := List.mem_map.mp hb
        refine hGx ?_
        have h1 := fresh p hp
        rw [e, y.mu q (.tail _ hq)] at h1; cases h1
theorem cmp2_lt (a b : Int × Int) : cmp2 a.1 a.2 b.1 b.2 < 0 ↔ keyLt a b := by
  unfold cmp2 keyLt
  constructor
  · intro h
    split at h
    · split at h
      · omega
      · split at h
        · exact .inr ⟨by omega, by omega⟩
        · omega
    · split at h
      · omega
      · exact .inl (by first | assumption | exact Nat.le_trans (by assumption) (by decide) | exact Nat.le_trans (Nat.le_of_eq (by assumption)) (Nat.le_trans (by assumption) (by decide)) | omega)
  · intro h
    rcases h with h | ⟨h1, h2⟩
    · rw [if_neg (by first | assumption | exact Nat.le_trans (by assumption) (by decide) | exact Nat.le_trans (Nat.le_of_eq (by assumption)) (Nat.le_trans (by assumption) (by decide)) | omega), if_neg (by first | assumption | exact Nat.le_trans (by assumption) (by decide) | exact Nat.le_trans (Nat.le_of_eq (by assumption)) (Nat.le_trans (by assumption) (by decide)) | omega)]; decide
    · rw [if_pos h1, if_neg (by first | assumption | exact Nat.le_trans (by assumption) (by decide) | exact Nat.le_trans (Nat.le_of_eq (by assumption)) (Nat.le_trans (by assumption) (by decide)) | omega), if_pos h2]; decide
noncomputable def KOk (g : Fz) (C : Addr) (ks : List Value) (ws : List Str) : Prop := ks.length = ws.length ∧ ∀ i, i < ws.length → ∃ ix dx t, ks.getD i .none = .ref ix ∧ g ix = some (kInst C dx (.str (ws.getD i "") t)) ∧ g dx = some (dictOf [] 0)
theorem KOk.nil {g : Fz} {C : Addr} : KOk g C [] [] := ⟨rfl, fun i h => nomatch h⟩
theorem KOk.snoc {g g' : Fz} {C ix dx : Addr} {ks : List Value} {ws : List Str} {wd : Str} {t : Tok} (x : KOk g C ks ws) (k : Le g g') (e1 : g' ix = some (kInst C dx (.str wd t))) (e2 : g' dx = some (dictOf [] 0)) : KOk g' C (ks ++ [.ref ix]) (ws ++ [wd]) := by
  refine ⟨by simp [x.1], fun i hi => ?_⟩
  by_cases q : i < ws.length
  · refine absP fun Gx hGx => ?_
    obtain ⟨ix', dx', t', h1, h2, h3⟩ := x.2 i q
    refine hGx ?_
    refine ⟨ix', dx', t', ?_, ?_, k _ _ h3⟩
    · rw [← h1]; simp [List.getD, List.getElem?_append_left (show i < ks.length by rw [x.1]; exact q)]
    · have e : (ws ++ [wd]).getD i "" = ws.getD i "" := by simp [List.getD, List.getElem?_append_left q]
      rw [e]; exact k _ _ h2
  · have hi' : i = ws.length := by simp at hi; omega
    subst hi'
    refine ⟨ix, dx, t, ?_, ?_, e2⟩
    · rw [← x.1]; simp [List.getD]
    · rw [e1]; simp [List.getD]
end Mine
end
section
set_option maxRecDepth 100000
set_option autoImplicit false
namespace Mine
open PySem PySem.Spec PySem.Calls PyProof.Rows PySem.W PySem.SeqAt
section
variable {prog : Program} {w : World} {A : Around} {E : Value → Shared → Prop} {s0 s : Shared} {g g0 : Fz} {L : Addr} {m mg mb : Str → Option Value} {μ : List (Addr × Obj)} {C fa kS S : Addr} {e1 : Nat}
theorem keys_made (hh : A.handled = none) (hd : A.depth ≤ 970) (hu : A.units ≤ 9700) {Fin : List Value → Nat → Shared → Prop} : ∀ (r : List Value) (rw_ : List Str) (ks : List Value) (done : List Str) (e : Nat) (g : Fz) (s : Shared), Gd w mg mb g → KFacts g C fa → Are r rw_ → KOk g C ks done →
    Fm g L m ((kS, seqObj "list" ks.toArray e) :: (S, seqObj "list" #[] e1) :: μ) s0 s → Le g0 g →
    (∀ g ks e s, KOk g C ks (done ++ rw_) → Le g0 g → Fm g L m ((kS, seqObj "list" ks.toArray e) :: (S, seqObj "list" #[] e1) :: μ) s0 s → Fin ks e s) → KatKeys prog w A {} L m kS (.ref C) Fin r ks e s
  | [], [], ks, done, e, g, s, G, kf, ha, hk, x, hle, h => h g ks e s (by rw [List.append_nil]; exact hk) hle x
  | [], _ :: _, ks, done, e, g, s, G, kf, ha, hk, x, hle, h => by cases ha
  | _ :: _, [], ks, done, e, g, s, G, kf, ha, hk, x, hle, h => by cases ha
  | v :: r, wd :: rw_, ks, done, e, g, s, G, kf, ha, hk, x, hle, h => by
    have ha2 : Are r rw_ := (List.cons.inj ha).2
    obtain ⟨t, rfl⟩ := toS_eq (List.cons.inj ha).1
    have hcl : cLine = 9900 := rfl
    have hrl : recursionLimit = 1000 := rfl
    refine absP fun Gx hGx => ?_
    obtain ⟨N, p, ini, lt, oC, oN, op, k, eC, eN, ep, hI, hL⟩ := id kf
    refine hGx ?_
    refine absP fun Gx hGx => ?_
    obtain ⟨oL, nL, y⟩ := x
    refine hGx ?_
    refine KatKeys.cons (wpAny_call (k_make G y ⟨hh, by omega, by omega⟩ k eC eN ep hI fun g' s' ix dx hle' y' k1 k2 => ?_))
    have x' : Fm g' L m ((kS, seqObj "list" ks.toArray e) :: (S, seqObj "list" #[] e1) :: μ) s0 s' := ⟨oL, nL, y'⟩
    refine absP fun Gx hGx => ?_
    obtain ⟨pre, F, N', hp, back⟩ := x'.news .head
    refine hGx ?_
    refine ⟨pre ++ [(kS, seqObj "list" ks.toArray e)], _, F, N', updF_last hp, fun h' c F2 N2 => ?_⟩
    have x2 := back h' _ s'.toks F2 N2
    exact keys_made hh hd hu r rw_ (ks ++ [.ref ix]) (done ++ [wd]) c g' _ (G.le hle') (kf.le hle') ha2 (hk.snoc hle' k1 k2) x2 (hle.trans hle') fun g ks e s hk' => h g ks e s (by rw [List.append_assoc] at hk'; exact hk')
theorem getD_map {α β : Type} {f : α → β} {l : List α} {i : Nat} {a : α} {b : β} (h : i < l.length) : (l.map f).getD i b = f (l.getD i a) := by
  simp [List.getD, h]
theorem range_map {l : List Str} : (List.range l.length).map (fun i => l.getD i "") = l := by
  apply List.ext_getElem
  · simp
  · intro i h1 h2
    simp [List.getD, h2]
theorem keyLt_tr {a b c : Int × Int} (h : keyLt a b) (k : keyLt b c) : keyLt a c := by unfold keyLt at *; omega
theorem keyLt_irr {a : Int × Int} : ¬ keyLt a a := by unfold keyLt; omega
theorem m_sorted {ws : List Str} {lw ck D : Addr} {oc oD : Obj} {kvs : List (Str × Value)} {key : Str → Int × Int} {Q : Value → Shared → Prop} (G : Gd w mg mb g) (x : Fm g L m μ s0 s) (hh : A.handled = none) (hd : A.depth ≤ 960) (hu : A.units ≤ 9600) (hlw : Sl g lw ws) (h2 : 2 ≤ ws.length) (h64 : ws.length < 64) (kf : KFacts g C fa)
    (il : IsLam g fa ck) (ec : g ck = some oc) (hc : oc.data = .cell (some (.ref D))) (eD : g D = some oD) (hD : oD.IsDictOf (strKind prog w) kvs)
    (hkv : ∀ y ∈ ws, ∃ ta u1 u2, valueAt kvs y = some (.ref ta) ∧ Tp g ta [.int (key y).1 u1, .int (key y).2 u2]) (nd : ws.Nodup) (tot : ∀ a ∈ ws, ∀ b ∈ ws, a = b ∨ keyLt (key a) (key b) ∨ keyLt (key b) (key a))
    (h : ∀ g' s' S k vs out, Le g g' → Are vs out → out.Perm ws → out.Pairwise (fun a b => ¬ keyLt (key b) (key a)) → Fm g' L m ((S, listOf vs.toArray k) :: μ) s0 s' → Q (.ref S) s') :
    wpAny (model prog w) A (call (.builtin "sorted") [.ref lw] [("key", .ref C)]) Q E s := by
  refine absP fun Gx hGx => ?_
  obtain ⟨vs, hl, ha⟩ := hlw
  refine hGx ?_
  have hlen := ha.length
  have hi1 : A.in1.in1.units = A.units + 2 := rfl
  refine absP fun Gx hGx => ?_
  obtain ⟨pre, F, N, build⟩ := x.pre
  refine hGx ?_
  refine kat_sortedK (b := false) F N (hl.isList x.st) (by first | assumption | exact Nat.le_trans (by assumption) (by decide) | exact Nat.le_trans (Nat.le_of_eq (by assumption)) (Nat.le_trans (by assumption) (by decide)) | omega) (by first | assumption | exact Nat.le_trans (by assumption) (by decide) | exact Nat.le_trans (Nat.le_of_eq (by assumption)) (Nat.le_trans (by assumption) (by decide)) | omega) (ksk_s1 _ _) (fun _ => ksk_l1 _ _) (fun _ => ksk_t1 _ _) fun S kS e1 h' F' N' hlt hbel => ?_
  have x1 := build h' s.toks [(kS, seqObj "list" #[] 0), (S, seqObj "list" #[] e1)] (fun p hp q hq => by
    rcases List.mem_cons.mp hp with rfl | hp
    · exact Nat.lt_trans (hbel q hq) hlt
    · rw [List.mem_singleton.mp hp]; exact hbel q hq) (by simp; exact Nat.ne_of_gt hlt) F' N'
  refine keys_made (prog := prog) (A := A.in1.in1) (g0 := g) (μ := μ) hh (show A.depth ≤ 970 by omega) (by first | assumption | exact Nat.le_trans (by assumption) (by decide) | exact Nat.le_trans (Nat.le_of_eq (by assumption)) (Nat.le_trans (by assumption) (by decide)) | omega) vs ws [] [] 0 g _ G kf ha .nil x1 (Le.refl g) fun g1 ks e s1 hk hle x2 => ?_
  rw [List.nil_append] at hk
  have G1 := G.le hle
  have kf1 := kf.le hle
  refine absP fun Gx hGx => ?_
  obtain ⟨N0, p, ini, lt, oC, oN, op, k, eC, eN, ep, hI, hL⟩ := id kf1
  refine hGx ?_
  have hT : ∀ v ∈ ks, Looks (model prog w) s1.heap (typeOf v) (.ref C) := fun v hv => by
    refine absP fun Gx hGx => ?_
    obtain ⟨i, hi, rfl⟩ := List.getElem_of_mem hv
    refine hGx ?_
    obtain ⟨ix, dx, t, h1, h3, h4⟩ := hk.2 i (by rw [← hk.1]; exact hi)
    have e3 : ks[i] = .ref ix := by rw [← h1]; simp [List.getD, hi]
    rw [e3]
    exact looks_typeIn (Hf_in s1.heap) (by unfold typeIn; simp only [Hf_lookup, x2.get h3, Option.map_some])
  refine kas_kind (by rw [hk.1]; exact h2) hT rfl (by simp) ?_
  have hn : vs.length = ws.length := hlen
  rw [hn]
  have hrev : katRev false ks = ks := rfl
  have hrev2 : katRev false vs = vs := rfl
  rw [hrev, hrev2]
  have lk : ∀ i, i < ws.length → ws.getD i "" ∈ ws := fun i hi => by
    have : ws.getD i "" = ws[i] := by simp [List.getD, hi]
    rw [this]; exact List.getElem_mem hi
  have inj : ∀ i j, i < ws.length → j < ws.length → i ≠ j → ws.getD i "" ≠ ws.getD j "" := fun i j hi hj hij q => by
    have e1 : ws.getD i "" = ws[i] := by simp [List.getD, hi]
    have e2 : ws.getD j "" = ws[j] := by simp [List.getD, hj]
    rw [e1, e2] at q
    exact hij ((List.getElem_inj nd).mp q)
  refine sort_wp (n := ws.length) (lt := fun i j => decide (cmp2 (key (ws.getD i "")).1 (key (ws.getD i "")).2 (key (ws.getD j "")).1 (key (ws.getD j "")).2 < 0)) (I := fun s => ∃ g', Le g1 g' ∧ Fm g' L m ((kS, seqObj "list" ks.toArray e) :: (S, seqObj "list" #[] e1) :: μ) s0 s) ⟨fun a b c h1 h2 => ?_, fun a b h1 h2 h3 => ?_⟩ ?_ (by first | assumption | exact Nat.le_trans (by assumption) (by decide) | exact Nat.le_trans (Nat.le_of_eq (by assumption)) (Nat.le_trans (by assumption) (by decide)) | omega) ⟨g1, Le.refl _, x2⟩ ?_
  · simp only [decide_eq_true_eq, cmp2_lt] at h1 h2 ⊢; exact keyLt_tr h1 h2
  · simp only [decide_eq_true_eq, cmp2_lt]
    exact (tot _ (lk a h1) _ (lk b h2)).resolve_left (inj a b h1 h2 h3)
  · intro i j C' s' hi hj hI' hC
    refine absP fun Gx hGx => ?_
    obtain ⟨g2, hle2, x3⟩ := hI'
    refine hGx ?_
    refine absP fun Gx hGx => ?_
    obtain ⟨ix, dx, t, h1, h3, h4⟩ := hk.2 i hi
    refine hGx ?_
    refine absP fun Gx hGx => ?_
    obtain ⟨jx, dy, t', k1, k3, k4⟩ := hk.2 j hj
    refine hGx ?_
    refine absP fun Gx hGx => ?_
    obtain ⟨ta, u1, u2, v1, T1⟩ := hkv _ (lk i hi)
    refine hGx ?_
    refine absP fun Gx hGx => ?_
    obtain ⟨tb, u3, u4, v2, T2⟩ := hkv _ (lk j hj)
    refine hGx ?_
    have hle3 := hle.trans hle2
    refine absP fun Gx hGx => ?_
    obtain ⟨oL, nL, y⟩ := x3
    refine hGx ?_
    unfold kas_ask
    rw [h1, k1]
    refine key_lt (G.le hle3) y hh (show A.depth ≤ 970 by omega) (by first | assumption | exact Nat.le_trans (by assumption) (by decide) | exact Nat.le_trans (Nat.le_of_eq (by assumption)) (Nat.le_trans (by assumption) (by decide)) | omega) k (hle2 _ _ eC) (hle2 _ _ eN) (hle2 _ _ ep) (hL.le hle2) (hle2 _ _ h3) (hle2 _ _ h4) (hle2 _ _ k3) (hle2 _ _ k4) (il.le hle3) (hle3 _ _ ec) hc (hle3 _ _ eD) hD v1 v2 (T1.le hle3) (T2.le hle3) fun g3 s3 hle4 y3 => ?_
    have := hC s3 ⟨g3, hle2.trans hle4, oL, nL, y3⟩
    exact this
  · intro p' s' hI' hDom hUp
    refine absP fun Gx hGx => ?_
    obtain ⟨g2, hle2, x3⟩ := hI'
    refine hGx ?_
    have hle3 := hle.trans hle2
    refine absP fun Gx hGx => ?_
    obtain ⟨pre1, F1, N1, hp1, back1⟩ := x3.news .head
    refine hGx ?_
    refine ⟨pre1 ++ [(kS, seqObj "list" ks.toArray e)], _, F1, N1, updF_last hp1, fun h2' c F2 N2 => ?_⟩
    have x4 := back1 h2' _ s'.toks F2 N2
    refine absP fun Gx hGx => ?_
    obtain ⟨pre2, F3, N3, hp2, back2⟩ := x4.news (.tail .head)
    refine hGx ?_
    refine ⟨pre2 ++ [(S, seqObj "list" #[] e1)], _, F3, N3, updF_last hp2, fun h3' c' F4 N4 => ?_⟩
    have x5 := (back2 h3' _ s'.toks F4 N4).tl
    refine h g2 _ S c' (p'.toList.map fun i => vs.getD i .none) (p'.toList.map fun i => ws.getD i "") hle3 ?_ ?_ ?_ x5
    · unfold Are
      rw [List.map_map, List.map_map]
      apply List.map_congr_left
      intro i hi
      have hin : i < ws.length := List.mem_range.mp (hDom.2.mem_iff.mp hi)
      have e1 : ws[i]? = some (ws.getD i "") := by simp [List.getD, hin]
      obtain ⟨t, ht⟩ := ha.at e1
      show toS (vs.getD i .none) = some (ws.getD i "")
      rw [List.getD, ht]; rfl
    · have := hDom.2.map (fun i => ws.getD i "")
      rw [range_map] at this
      exact this
    · rw [List.pairwise_map, List.pairwise_iff_getElem]
      intro i j hi hj hij
      have hs : p'.toList.length = ws.length := by rw [Array.length_toList]; exact hDom.1
      have := hUp i j hij (by rw [← hs]; exact hj)
      simp only [decide_eq_true_eq, cmp2_lt] at this
      have ei : p'.getD i 0 = p'.toList[i] := by
        have : i < p'.size := by simpa using hi
        simp [Array.getD, this]
      have ej : p'.getD j 0 = p'.toList[j] := by
        have : j < p'.size := by simpa using hj
        simp [Array.getD, this]
      rw [ei, ej] at this
      exact fun q => keyLt_irr (keyLt_tr this q)
end
end Mine
end
section
set_option maxRecDepth 100000
set_option autoImplicit false
namespace Mine
open PySem PySem.Spec PySem.Calls PyProof.Rows PySem.W PySem.SeqAt
theorem addN_len {acc : List (List Str)} {x : List Str} : (addN acc x).length ≤ acc.length + 1 := by
  unfold addN
  split <;> simp
theorem foldN_len : ∀ (xs : List (List Str)) (acc : List (List Str)), (xs.foldl addN acc).length ≤ acc.length + xs.length
  | [], acc => by simp
  | x :: xs, acc => by
    have h1 := foldN_len xs (addN acc x)
    have h2 := addN_len (acc := acc) (x := x)
    rw [List.foldl_cons, List.length_cons]
    omega
theorem nodes_len {P : List (List Str)} (hp : ∀ p ∈ P, okPath p) : (nodesF P).length ≤ 3 * P.length := by
  unfold nodesF
  have gen : ∀ (P : List (List Str)) (acc : List (List Str)), (∀ p ∈ P, okPath p) → (P.foldl (fun acc p => (downs p).foldl addN acc) acc).length ≤ acc.length + 3 * P.length := by
    intro P
    induction P with
    | nil => intro acc _; simp
    | cons p P ih =>
      intro acc hp
      have h1 := ih ((downs p).foldl addN acc) fun q hq => hp q (.tail _ hq)
      have h2 := foldN_len (downs p) acc
      have h3 : (downs p).length = p.length := by simp [downs]
      have h4 := (hp p (.head _)).2.1
      rw [List.foldl_cons, List.length_cons]
      omega
  have := gen P [] hp
  simpa using this
theorem all_len : ∀ x ∈ allN, x.length ≤ 3 := by decide +kernel
theorem all_str : ∀ x ∈ allN, ∀ y ∈ x, y.length ≤ 8 := by decide +kernel
theorem ok_str {p : List Str} (h : okPath p) : ∀ y ∈ p, y.length ≤ 8 := all_str p (mem_allN h.1 h.2.1 h.2.2)
theorem strs_of : ∀ {vs : List Value} {xs : List Str}, Are vs xs → ∃ l : List (Str × Tok), vs = strValues l ∧ l.map (·.1) = xs
  | [], [], _ => ⟨[], rfl, rfl⟩
  | [], _ :: _, h => by cases h
  | _ :: _, [], h => by cases h
  | v :: vs, x :: xs, h => by
    obtain ⟨t, rfl⟩ := toS_eq (List.cons.inj h).1
    refine absP fun Gx hGx => ?_
    obtain ⟨l, h1, h2⟩ := strs_of (List.cons.inj h).2
    refine hGx ?_
    exact ⟨(x, t) :: l, by rw [h1]; rfl, by rw [List.map_cons, h2]⟩
theorem join_ok {xs : List Str} (h : ∀ y ∈ xs, y.length ≤ 8) (hl : xs.length ≤ 100) : JoinOk "." xs = true := by
  unfold JoinOk
  rw [StrLaws.joinFits h (by have : ("." : Str).length = 1 := rfl; rw [this]; omega)]
  rfl
theorem join_eq {xs : List Str} : Txt.join "." xs = dotJ xs := StrLaws.glued_eq_join _ _
section
variable {prog : Program} {w : World} {A : Around} {E : Value → Shared → Prop} {s0 s : Shared} {env : Env} {pos : Pos}
inductive JoinAsk (Q : Value → Shared → Prop) (v : Value) (s1 : Shared) : Prop
  | mk (D : Addr) (vs : List Value) (xs : List Str) (e : v = .ref D) (hl : s1.heap.IsList D vs.toArray) (ha : Are vs xs) (h1 : ∀ y ∈ xs, y.length ≤ 8) (h2 : xs.length ≤ 100) (h : ∀ t tk, Q (.str (dotJ xs) t) { s1 with toks := tk }) : JoinAsk Q v s1
theorem r_join {e : Expr} {ap p1 : Pos} {k1 : Nat} {Q : Value → Shared → Prop} (h : wpAny (model prog w) A (eval e env) (JoinAsk Q) E { s with toks := s.toks + 1 })
    (hs : starEach [e] env = [(false, eval e env)] := by rfl) (hline : (ap.endLine == pos.line) = true := by rfl) :
    wpAny (model prog w) A (eval (.Call (.Attribute (.Constant (.str ".") k1 p1) "join" ap) [e] [] pos) env) Q E s := by
  refine Call_method1 rfl hs hline (wpAny_Constant_str (SB.join (wpAny_mono h (fun v s1 h1 => ?_) fun _ _ q => q)))
  refine absP fun Gx hGx => ?_
  obtain ⟨D, vs, xs, rfl, hl, ha, h1, h2, h3⟩ := h1
  refine hGx ?_
  refine absP fun Gx hGx => ?_
  obtain ⟨l, rfl, rfl⟩ := strs_of ha
  refine hGx ?_
  exact ⟨D, l, rfl, hl, _, rfl, join_ok h1 h2, fun t tk => by rw [join_eq]; exact h3 t tk⟩
end
end Mine
end
section
set_option maxRecDepth 100000
set_option autoImplicit false
namespace Mine
open PySem PySem.Spec PySem.Calls PyProof.Rows PySem.W PySem.SeqAt
inductive Nc1 (s0 : Shared) (C I D L : Addr) (oI oD oL : Obj) (g' : Fz) (Jn : Fz → List (Addr × Obj) → Prop) (s : Shared) : Prop
  | mk (g2 : Fz) (m2 : Str → Option Value) (μ2 : List (Addr × Obj)) (oc2 : Obj) (vc2 : Option Value) (le : Le g' g2) (j : Jn g2 μ2) (hc : oc2.data = .cell vc2) (x : Fm g2 C m2 ((I, oI) :: (D, oD) :: (L, oL) :: (C + 1, oc2) :: μ2) s0 s) : Nc1 s0 C I D L oI oD oL g' Jn s
inductive CInv1 (n : Nat) (g : Fz) (J : Nat → List Value → Fz → List (Addr × Obj) → Prop) (s0 : Shared) (C I D L : Addr) (oL : Obj) (Stt : Nat → Heap → Prop) (k : Nat) (s' : Shared) : Prop
  | mk (i : Nat) (ys : List Value) (g' : Fz) (μ' : List (Addr × Obj)) (mC : Str → Option Value) (oI' : Obj) (nD : Nat) (oc : Obj) (vc : Option Value) (hi : i ≤ n) (hys : ys.length ≤ i) (e : k = n + 1 - i) (le : Le g g') (j : J i ys g' μ') (hc : oc.data = .cell vc) (x : Fm g' C mC ((I, oI') :: (D, listOf ys.toArray nD) :: (L, oL) :: (C + 1, oc) :: μ') s0 s') (st : Stt i s'.heap) : CInv1 n g J s0 C I D L oL Stt k s'
section
variable {prog : Program} {w : World} {A : Around} {E : Value → Shared → Prop} {s0 s : Shared} {env : Env} {g : Fz} {L : Addr} {m : Str → Option Value} {μ : List (Addr × Obj)} {pos : Pos} {n : Str} {v : Value}
theorem new_env1 {xc : Str} {scope : Scope} {globals : Addr} {cl : List (Str × Addr)} {qual : Str} {M : Model} {Q : Env → Shared → Prop} (hpc : ∀ h, pushCells h scope.names = h.push { cls := .type "cell", data := .cell none }) (hcf : ∀ n acc, cellsFrom n scope.names acc = (xc, n) :: acc)
    (h : Q { scope, locals := s.heap.objs.size, globals, cells := (xc, s.heap.objs.size + 1) :: cl, qual, func := none, code := env.code, frame := env.frame, builtins := env.builtins }
      { s with heap := (s.heap.push { cls := .type "dict", data := .dict #[] }).push { cls := .type "cell", data := .cell none } }) : wpAny M A (newFunctionEnv scope globals cl [] qual none .none (some env)) Q E s := by
  simp only [newFunctionEnv, Option.isSome_some, if_true]
  refine wpAny_bind (wpAny_alloc ?_)
  refine wpAny_bind (wpAny_layCells _ (fun name kind cells => by cases hkc : kind == NameKind.cell <;> simp [hkc]) _ _ _ _ ?_)
  rw [hcf, hpc]
  rw [show ({ s with heap := s.heap.push { cls := .type "dict", data := .dict #[] } } : Shared).heap.objs.size = s.heap.objs.size + 1 from Heap.size_push ..]
  refine wpAny_bind ?_
  rw [List.forIn_nil]
  refine wpAny_pure (wpAny_pure h)
theorem comp_walk1 {xc : Str} {target elt iter : Expr} {ifs : List Expr} {scope : Scope} {cl : List (Str × Addr)} {it : Value} {n : Nat} {P : Nat → Value → Prop} {RR : Value → Addr → Result → Shared → Prop}
    (S : Src prog w A g L m μ s0 s it n P) (hn : n ≤ sizeLine) (hpc : ∀ h, pushCells h scope.names = h.push { cls := .type "cell", data := .cell none }) (hcf : ∀ n acc, cellsFrom n scope.names acc = (xc, n) :: acc) (hkind : scope.kind = .function)
    (J : Nat → List Value → Fz → List (Addr × Obj) → Prop) (h0 : J 0 [] g μ)
    (turn : ∀ C D I i v ys g' μ' mC oI oL nD oc vc s', i < n → P i v → Le g g' → ∀ (Qx : Value → Shared → Prop) (Qy : Shared → Prop), (∀ y s4, Nc1 s0 C I D L oI (listOf ys.toArray nD) oL g' (J (i + 1) (ys ++ [y])) s4 → Qx y s4) → (∀ s4, Nc1 s0 C I D L oI (listOf ys.toArray nD) oL g' (J (i + 1) ys) s4 → Qy s4) → J i ys g' μ' → NsO oL m → oc.data = .cell vc → Fm g' C mC ((I, oI) :: (D, listOf ys.toArray nD) :: (L, oL) :: (C + 1, oc) :: μ') s0 s' →
      wpAny (model prog w) A (assign target (compEnvC scope ((xc, C + 1) :: cl) C env) v) (fun _ s2 =>
        wpAny (model prog w) A (forIn ifs true fun c r => if r = true then do let ok ← isTrue c (compEnvC scope ((xc, C + 1) :: cl) C env) (eval c (compEnvC scope ((xc, C + 1) :: cl) C env)); pure (ForInStep.yield ok) else pure (ForInStep.yield r)) (fun ok s3 =>
          if ok = true then wpAny (model prog w) A (eval elt (compEnvC scope ((xc, C + 1) :: cl) C env)) Qx NoE s3
          else Qy s3) NoE s2) NoE s')
    (done : ∀ C D ys g' μ' mC oL nD oc s', Le g g' → J n ys g' μ' → NsO oL m → Fm g' C mC ((D, listOf ys.toArray nD) :: (L, oL) :: (C + 1, oc) :: μ') s0 s' → RR (.ref D) C (.ok .next) s')
    (ht : ∀ (I : Addr) v, letOwnedTupleGo target (.ref I) v = pure () := by intro _ _; rfl) :
    wpAny (model prog w) A (newList []) (fun acc s₃ => wpAny (model prog w) A (newFunctionEnv scope env.globals cl [] env.qual none .none (some env)) (fun cenv s₄ =>
      codeAny (model prog w) A (.compStart (.ListComp elt [⟨target, iter, ifs, 0⟩] scope pos) 0 it acc { cenv with scope := relabel scope env }) (RR acc cenv.locals) s₄) E s₃) E s := by
  refine absP fun Gx hGx => ?_
  obtain ⟨I, oI, fp, Stt, rfl, W, hI, hfp, hst, oL, hoL, x⟩ := S
  refine hGx ?_
  refine wpAny_newObj_type (new_env1 hpc hcf ?_)
  dsimp only
  have x1 := x.newM (tk := s.toks) (push_keeps s.heap { cls := .type "list", dict := none, data := .seq ([] : List Value).toArray }) (size_none _) (Heap.get?_push_size _ rfl)
  generalize hH2 : s.heap.push { cls := .type "list", dict := none, data := .seq ([] : List Value).toArray } = H2 at x1 ⊢
  have x2 := x1.newM (tk := s.toks) (push_keeps H2 { cls := .type "dict", data := .dict #[] }) (size_none _) (Heap.get?_push_size _ rfl)
  have x2b := x2.newM (tk := s.toks) (push_keeps (H2.push { cls := .type "dict", data := .dict #[] }) { cls := .type "cell", data := .cell none }) (size_none _) (Heap.get?_push_size _ rfl)
  rw [show (H2.push { cls := .type "dict", data := .dict #[] }).objs.size = H2.objs.size + 1 from Heap.size_push ..] at x2b
  have keep2 : ∀ b o, H2.get? b = some o → ((H2.push { cls := .type "dict", data := .dict #[] }).push { cls := .type "cell", data := .cell none }).get? b = some o := fun b o e => push_keeps _ _ _ _ (push_keeps _ _ _ _ e)
  generalize (H2.push { cls := .type "dict", data := .dict #[] }).push { cls := .type "cell", data := .cell none } = h₁ at x2b keep2 ⊢
  have nC : NsO { cls := .type "dict", data := .dict #[] } (fun y => List.lookup y ([] : List (Str × Value)).reverse) := ⟨#[], 0, rfl, fun e he => by simp at he, fun y => rfl⟩
  have x3 : Fm g H2.objs.size (fun y => List.lookup y ([] : List (Str × Value)).reverse) ((I, oI) :: (s.heap.objs.size, listOf ([] : List Value).toArray 0) :: (L, oL) :: (H2.objs.size + 1, { cls := .type "cell", data := .cell none }) :: μ) s0 { s with heap := h₁ } := by
    refine ⟨_, nC, x2b.perm ?_⟩
    refine (List.Perm.swap _ _ _).trans (List.Perm.cons _ ?_)
    refine (List.Perm.swap _ _ _).trans ?_
    refine ((((List.Perm.swap _ _ _).trans ((List.Perm.swap _ _ _).cons _)).cons _).trans ?_)
    refine (((List.Perm.swap _ _ _).cons _).trans (List.Perm.swap _ _ _)).symm.symm.trans ?_
    exact List.Perm.refl _
  have hst3 : Stt 0 h₁ := W.frame _ _ _ hst fun b _ o e => keep2 b o (by rw [← hH2]; exact Heap.get?_push_of_some _ e)
  have loop : ∀ s₃ : Shared, s₃ = { s with heap := h₁ } →
      codeAny (model prog w) A (.compLoop (.ListComp elt [⟨target, iter, ifs, 0⟩] scope pos) 0 (.ref I) (.ref s.heap.objs.size) (compEnvC scope ((xc, H2.objs.size + 1) :: cl) H2.objs.size env))
        (RR (.ref s.heap.objs.size) H2.objs.size) s₃ := by
    rintro s₃ rfl
    refine codeAny_compLoop_tests (CInv1 n g J s0 H2.objs.size I s.heap.objs.size L oL Stt) ?_ (n + 1)
      ⟨0, [], g, μ, _, oI, 0, _, _, Nat.zero_le _, Nat.le_refl _, rfl, Le.refl g, h0, rfl, x3, hst3⟩ (ht _)
    rintro k s' hJp0
    refine absP fun Gx hGx => ?_
    obtain ⟨i, ys, g', μ', mC, oI', nD, oc, vc, hi, hys, rfl, hle, hJ, hoc, x', hst'⟩ := hJp0
    refine hGx ?_
    by_cases hlt : i < n
    · refine W.item i s' _ _ hlt hst' fun v h' tk hP hst2 hk => ?_
      obtain ⟨o2, ho2⟩ := hI _ _ hst2
      have x4 : Fm g' H2.objs.size mC ((I, o2) :: (s.heap.objs.size, listOf ys.toArray nD) :: (L, oL) :: (H2.objs.size + 1, oc) :: μ') s0 { s' with heap := h', toks := tk } := x'.rep .head (fun b ob hb e => hk b ob (by simpa using hb) e) ho2
      have stt : ∀ {g2 m2 μ2 s3} {o9 : Obj}, Le g' g2 → Fm g2 H2.objs.size m2 ((I, o2) :: (s.heap.objs.size, o9) :: (L, oL) :: μ2) s0 s3 → Stt (i + 1) s3.heap := by
        intro g2 m2 μ2 s3 o9 l2 x5
        refine W.frame _ _ _ hst2 fun b hb o e => ?_
        by_cases hbI : b = I
        · subst hbI
          have e' : h'.get? b = some o := e
          rw [ho2] at e'; cases e'
          exact x5.gets (.head _)
        · obtain ⟨ob, eb⟩ := hfp b hb hbI
          have t' : h'.get? b = some ob := x4.get (hle _ _ eb)
          have e' : h'.get? b = some o := e
          rw [e'] at t'; cases t'
          exact x5.get (l2 _ _ (hle _ _ eb))
      refine noE (wpAny_mono (turn _ _ _ i v ys g' μ' mC o2 oL nD oc vc _ hlt hP hle (fun y s4 => Nc1 s0 H2.objs.size I s.heap.objs.size L o2 (listOf ys.toArray nD) oL g' (J (i + 1) (ys ++ [y])) s4) (fun s4 => Nc1 s0 H2.objs.size I s.heap.objs.size L o2 (listOf ys.toArray nD) oL g' (J (i + 1) ys) s4) (fun _ _ q => q) (fun _ q => q) hJ hoL hoc x4) (fun _ s2 h2 => noE (wpAny_mono h2 (fun ok s3 h3 => ?_) fun _ _ q => q)) fun _ _ q => q)
      cases ok with
      | false =>
        simp only [Bool.false_eq_true, if_false] at h3 ⊢
        refine absP fun Gx hGx => ?_
        obtain ⟨g2, m2, μ2, oc2, vc2, l2, j2, hoc2, x5⟩ := h3
        refine hGx ?_
        exact ⟨n + 1 - (i + 1), by omega, i + 1, ys, g2, μ2, m2, o2, nD, oc2, vc2, hlt, by omega, rfl, hle.trans l2, j2, hoc2, x5, stt l2 x5⟩
      | true =>
        simp only [if_true] at h3 ⊢
        refine noE (wpAny_mono h3 (fun y s4 h4 => ?_) fun _ _ q => q)
        refine absP fun Gx hGx => ?_
        obtain ⟨g2, m2, μ2, oc2, vc2, l2, j2, hoc2, x5⟩ := h4
        refine hGx ?_
        refine wpAny_list_append_plain (items := ys.toArray) ⟨nD, x5.gets (.tail _ (.head _))⟩ (fun h5 hp5 hs5 => ?_) (by rw [List.size_toArray]; omega)
        obtain ⟨n5, e5⟩ := hp5
        have x6 : Fm g2 H2.objs.size m2 ((I, o2) :: (s.heap.objs.size, listOf (ys ++ [y]).toArray n5) :: (L, oL) :: (H2.objs.size + 1, oc2) :: μ2) s0 { s4 with heap := h5 } :=
          x5.rep (tk := s4.toks) (.tail .head) (same_keeps hs5) (by simpa using e5)
        exact ⟨n + 1 - (i + 1), by omega, i + 1, ys ++ [y], g2, μ2, m2, o2, n5, oc2, vc2, hlt, by rw [List.length_append, List.length_singleton]; omega, rfl, hle.trans l2, j2, hoc2, x6, stt l2 x6⟩
    · have hin : i = n := by omega
      subst hin
      refine W.done s' _ _ hst' fun h' tk hk => ?_
      exact done _ _ ys g' μ' mC oL nD oc _ hle hJ hoL (x'.drop1 fun b ob hb e => hk b ob (by simpa using hb) e)
  exact codeAny_compStart_list (loop _ rfl) (W.self 0 _ _ _ hst3 (loop _ rfl))
inductive CompAsk1 (prog : Program) (w : World) (A : Around) (s0 : Shared) (env : Env) (xc : Str) (target elt : Expr) (ifs : List Expr) (scope : Scope) (cl : List (Str × Addr)) (Q : Value → Shared → Prop) (it : Value) (s₂ : Shared) : Prop
  | mk (n : Nat) (P : Nat → Value → Prop) (g : Fz) (m : Str → Option Value) (μ : List (Addr × Obj)) (S : Src prog w A g env.locals m μ s0 s₂ it n P) (hn : n ≤ sizeLine) (J : Nat → List Value → Fz → List (Addr × Obj) → Prop) (h0 : J 0 [] g μ)
    (turn : ∀ C D I i v ys g' μ' mC oI oL nD oc vc s', i < n → P i v → Le g g' → ∀ (Qx : Value → Shared → Prop) (Qy : Shared → Prop), (∀ y s4, Nc1 s0 C I D env.locals oI (listOf ys.toArray nD) oL g' (J (i + 1) (ys ++ [y])) s4 → Qx y s4) → (∀ s4, Nc1 s0 C I D env.locals oI (listOf ys.toArray nD) oL g' (J (i + 1) ys) s4 → Qy s4) → J i ys g' μ' → NsO oL m → oc.data = .cell vc → Fm g' C mC ((I, oI) :: (D, listOf ys.toArray nD) :: (env.locals, oL) :: (C + 1, oc) :: μ') s0 s' →
      wpAny (model prog w) A (assign target (compEnvC scope ((xc, C + 1) :: cl) C env) v) (fun _ s2 =>
        wpAny (model prog w) A (forIn ifs true fun c r => if r = true then do let ok ← isTrue c (compEnvC scope ((xc, C + 1) :: cl) C env) (eval c (compEnvC scope ((xc, C + 1) :: cl) C env)); pure (ForInStep.yield ok) else pure (ForInStep.yield r)) (fun ok s3 =>
          if ok = true then wpAny (model prog w) A (eval elt (compEnvC scope ((xc, C + 1) :: cl) C env)) Qx NoE s3
          else Qy s3) NoE s2) NoE s')
    (done : ∀ D ys g' μ' nD s', Le g g' → J n ys g' μ' → Fm g' env.locals m ((D, listOf ys.toArray nD) :: μ') s0 s' → Q (.ref D) s') : CompAsk1 prog w A s0 env xc target elt ifs scope cl Q it s₂
inductive CompSetAsk1 (prog : Program) (w : World) (A : Around) (s0 : Shared) (env : Env) (xc : Str) (target elt : Expr) (ifs : List Expr) (scope : Scope) (cl : List (Str × Addr)) (y : Str) (Q : Flow → Shared → Prop) (it : Value) (s₂ : Shared) : Prop
  | mk (n : Nat) (P : Nat → Value → Prop) (g : Fz) (m : Str → Option Value) (μ : List (Addr × Obj)) (S : Src prog w A g env.locals m μ s0 s₂ it n P) (hn : n ≤ sizeLine) (J : Nat → List Value → Fz → List (Addr × Obj) → Prop) (h0 : J 0 [] g μ)
    (turn : ∀ C D I i v ys g' μ' mC oI oL nD oc vc s', i < n → P i v → Le g g' → ∀ (Qx : Value → Shared → Prop) (Qy : Shared → Prop), (∀ y s4, Nc1 s0 C I D env.locals oI (listOf ys.toArray nD) oL g' (J (i + 1) (ys ++ [y])) s4 → Qx y s4) → (∀ s4, Nc1 s0 C I D env.locals oI (listOf ys.toArray nD) oL g' (J (i + 1) ys) s4 → Qy s4) → J i ys g' μ' → NsO oL m → oc.data = .cell vc → Fm g' C mC ((I, oI) :: (D, listOf ys.toArray nD) :: (env.locals, oL) :: (C + 1, oc) :: μ') s0 s' →
      wpAny (model prog w) A (assign target (compEnvC scope ((xc, C + 1) :: cl) C env) v) (fun _ s2 =>
        wpAny (model prog w) A (forIn ifs true fun c r => if r = true then do let ok ← isTrue c (compEnvC scope ((xc, C + 1) :: cl) C env) (eval c (compEnvC scope ((xc, C + 1) :: cl) C env)); pure (ForInStep.yield ok) else pure (ForInStep.yield r)) (fun ok s3 =>
          if ok = true then wpAny (model prog w) A (eval elt (compEnvC scope ((xc, C + 1) :: cl) C env)) Qx NoE s3
          else Qy s3) NoE s2) NoE s')
    (done : ∀ D ys g' μ' nD s', Le g g' → J n ys g' μ' → Fm g' env.locals (upd m y (.ref D)) ((D, listOf ys.toArray nD) :: μ') s0 s' → Q .next s') : CompSetAsk1 prog w A s0 env xc target elt ifs scope cl y Q it s₂
theorem r_comp1 {xc : Str} {Q : Value → Shared → Prop} {target elt iter : Expr} {ifs : List Expr} {scope : Scope} {cl : List (Str × Addr)}
    (hclos : closureFor scope env = pure cl) (hpc : ∀ h, pushCells h scope.names = h.push { cls := .type "cell", data := .cell none }) (hcf : ∀ n acc, cellsFrom n scope.names acc = (xc, n) :: acc) (hkind : scope.kind = .function) (hnames : ∀ y ∈ scope.names, y.2 = .local → scope.names.lookup y.1 = some .local)
    (h : wpAny (model prog w) A (eval iter env) (fun xv s₁ => wpAny (model prog w) A (pyIter xv) (CompAsk1 prog w A s0 env xc target elt ifs scope cl Q) NoE s₁) NoE s)
    (hs : ∀ x, foldedSetIterable iter env x = pure x := by intro _; rfl) (ht : ∀ (I : Addr) v, letOwnedTupleGo target (.ref I) v = pure () := by intro _ _; rfl) :
    wpAny (model prog w) A (eval (.ListComp elt [⟨target, iter, ifs, 0⟩] scope pos) env) Q E s := by
  rw [eval_ListComp]
  refine noE (wpAny_comprehension_free (use := none) rfl hs hclos hkind hnames (wpAny_mono h (fun xv s₁ h₁ => wpAny_mono h₁ (fun it s₂ h₂ => ?_) fun _ _ e => e) fun _ _ e => e))
  refine absP fun Gx hGx => ?_
  obtain ⟨n, P, g, m, μ, S, hn, J, h0, turn, done⟩ := h₂
  refine hGx ?_
  refine comp_walk1 (RR := fun acc C => compPost (model prog w) A NoE none Q acc C) S hn hpc hcf hkind J h0 turn ?_ ht
  intro C D ys g' μ' mC oL nD oc s' hle hJ hoL x
  refine ⟨mC, x.ns, fun h' hs' => done D ys g' μ' nD _ hle hJ ?_⟩
  refine absP fun Gx hGx => ?_
  obtain ⟨oC, nC, x⟩ := x
  refine hGx ?_
  exact ⟨oL, hoL, (x.dropH (tk := s'.toks) (same_keeps hs')).swap.sub (.cons_cons _ (.cons_cons _ (List.sublist_cons_self _ _)))⟩
end
end Mine
end
section
set_option maxRecDepth 100000
set_option autoImplicit false
namespace Mine
open PySem PySem.Spec PySem.Calls PyProof.Rows PySem.W PySem.SeqAt
noncomputable def lawT : {p : Str × Scope × List Stmt // ∀ w : World, ∃ oc od name params dV kV doc pm an cdv ct osl, (K9 w).lookup 146 = some ⟨oc, od, .func (fnOf name p.1 params p.2.2 p.2.1 dV kV doc pm an cdv ct), osl⟩} :=
  ⟨(_, _, _), fun w => ⟨_, _, _, _, _, _, _, _, _, _, _, _, rfl⟩⟩
noncomputable def lawQ : Str := lawT.1.1
noncomputable def lawSc : Scope := lawT.1.2.1
noncomputable def lawB : List Stmt := lawT.1.2.2
noncomputable def lawB4 : List Stmt := lawB.drop 4
noncomputable def lawB6 : List Stmt := lawB.drop 6
noncomputable def lawB7 : List Stmt := lawB.drop 7
noncomputable def lawB8 : List Stmt := lawB.drop 8
noncomputable def lawB9 : List Stmt := lawB.drop 9
noncomputable def lawB10 : List Stmt := lawB.drop 10
noncomputable def lawB11 : List Stmt := lawB.drop 11
noncomputable def lawB12 : List Stmt := lawB.drop 12
noncomputable def lawB13 : List Stmt := lawB.drop 13
noncomputable def lawB14 : List Stmt := lawB.drop 14
noncomputable def lawB15 : List Stmt := lawB.drop 15
noncomputable def lawB16 : List Stmt := lawB.drop 16
noncomputable abbrev lawE (L : Addr) : Env := envOfC lawQ lawSc L 146 (.ref 145)
end Mine
end
section
set_option maxRecDepth 100000
set_option autoImplicit false
namespace Mine
open PySem PySem.Spec PySem.Calls PyProof.Rows PySem.W PySem.SeqAt
section
variable {oK oR oW oWs oN : Obj} {prog : Program} {w : World} {M : Model} {A : Around} {E : Value → Shared → Prop} {s0 s : Shared} {env : Env} {g : Fz} {L : Addr} {m mg mb : Str → Option Value} {μ : List (Addr × Obj)} {pos : Pos} {n : Str} {v : Value}
theorem Fm.frzAt {a : Addr} {o : Obj} {l1 l2 : List (Addr × Obj)} (x : Fm g L m (l1 ++ (a, o) :: l2) s0 s) : FrzF g L m (l1 ++ l2) s0 s a o := (x.perm List.perm_middle).frz1
theorem ok_len {p : List Str} (h : okPath p) : p.length ≤ 100 := by have := h.2.1; omega
set_option maxHeartbeats 4000000 in
theorem st_names (x : Fm g L m ((L + 1 + 1 + 1 + 1 + 1, oK) :: (L + 1 + 1 + 1 + 1, oR) :: (L + 1 + 1 + 1, oW) :: (L + 1 + 1, oWs) :: (L + 1, oN) :: μ) s0 s) (hh : A.handled = none) {dP dN : Addr} {P nodes : List (List Str)} (mp : m "paths" = some (.ref dP)) (mn : m "nodes" = some (.ref dN))
    (hp : Ll g dP P) (hn : Ll g dN nodes) (okp : ∀ p ∈ P, okPath p) (okn : ∀ p ∈ nodes, okPath p) (hpz : P.length ≤ 1000) (hnz : nodes.length ≤ 1000) (hWs : oWs.data = .cell none) (hN : oN.data = .cell none) {Q : Flow → Shared → Prop}
    (next : ∀ g' s' lN lW oN oWs, Le g g' → Sl g' lN (P.map dotJ) → Sl g' lW (nodes.map dotJ) → g' (L + 1) = some oN → oN.data = .cell (some (.ref lN)) → g' (L + 1 + 1) = some oWs → oWs.data = .cell (some (.ref lW)) →
      Fm g' L m ((L + 1 + 1 + 1 + 1 + 1, oK) :: (L + 1 + 1 + 1 + 1, oR) :: (L + 1 + 1 + 1, oW) :: μ) s0 s' → wpAny (model prog w) A (execs lawB6 (lawE L)) Q NoE s') :
    wpAny (model prog w) A (execs lawB4 (lawE L)) Q NoE s := by
  refine wpAny_execs_cons (wpAny_Assign_Name (r_comp (s0 := s0) rfl (by decide) rfl (by decide) ?_))
  refine r_name x mp ?_
  refine absP fun Gx hGx => ?_
  obtain ⟨vs, hl, hrows⟩ := hp
  refine hGx ?_
  have hlen := hrows.length
  refine src_list hh x hl fun it s S => ?_
  refine ⟨_, _, _, _, _, S, by first | exact Nat.le_trans (by assumption) (by decide) | exact Nat.le_trans (Nat.le_of_eq (by assumption)) (Nat.le_trans (by assumption) (by decide)) | (rw [line24]; omega), fun i ws g' μ' => μ' = (L + 1 + 1 + 1 + 1 + 1, oK) :: (L + 1 + 1 + 1 + 1, oR) :: (L + 1 + 1 + 1, oW) :: (L + 1 + 1, oWs) :: (L + 1, oN) :: μ ∧ Are ws ((P.take i).map dotJ), ⟨rfl, rfl⟩, ?_, ?_⟩
  · rintro C D I i v ws g' μ' mC oI oL nD s hi hv hle4 Qx1 Qy1 hX1 hY1 ⟨rfl, hws⟩ hoL x
    refine r_assign x fun s x => ?_
    refine wpAny_tests_nil ?_
    rw [if_pos rfl]
    refine absP fun Gx hGx => ?_
    obtain ⟨p, hpi, ap, rfl, vp, hlp, harp⟩ := hrows.get hv
    refine hGx ?_
    have hpm : p ∈ P := List.mem_of_getElem? hpi
    refine r_join (r_name x.tok (upd_eq _ _ _) ?_)
    refine ⟨ap, vp, p, rfl, (hlp.le hle4).isList x.tok.st, harp, ok_str (okp p hpm), ok_len (okp p hpm), fun t tk => ?_⟩
    refine hX1 _ _ ?_
    refine ⟨g', _, _, Le.refl _, ⟨rfl, ?_⟩, x.tok.tok⟩
    rw [List.map_take, List.take_add_one, List.getElem?_map, hpi, ← List.map_take]
    exact hws.append (.one _ _)
  · rintro D ws g4 μ' nD s hle4 ⟨rfl, hws⟩ x
    rw [hlen, List.take_length] at hws
    have l5 := x.freeze_le
    have hsl : Sl (put g4 D (listOf ws.toArray nD)) D (P.map dotJ) := ⟨ws, ⟨nD, put_self _ _ _⟩, hws⟩
    replace x := x.freeze
    generalize put g4 D (listOf ws.toArray nD) = g5 at x l5 hsl
    have l5 := hle4.trans l5
    refine r_storeC x rfl rep4 hN fun s oN' hN' x => ?_
    refine wpAny_execs_cons (wpAny_Assign_Name (r_comp (s0 := s0) rfl (by decide) rfl (by decide) ?_))
    refine r_name x mn ?_
    refine absP fun Gx hGx => ?_
    obtain ⟨vn, hl2, hrows2⟩ := hn.le l5
    refine hGx ?_
    have hlen2 := hrows2.length
    refine src_list hh x hl2 fun it s S => ?_
    refine ⟨_, _, _, _, _, S, by first | exact Nat.le_trans (by assumption) (by decide) | exact Nat.le_trans (Nat.le_of_eq (by assumption)) (Nat.le_trans (by assumption) (by decide)) | (rw [line24]; omega), fun i ws g' μ' => μ' = (L + 1 + 1 + 1 + 1 + 1, oK) :: (L + 1 + 1 + 1 + 1, oR) :: (L + 1 + 1 + 1, oW) :: (L + 1 + 1, oWs) :: (L + 1, oN') :: μ ∧ Are ws ((nodes.take i).map dotJ), ⟨rfl, rfl⟩, ?_, ?_⟩
    · rintro C D2 I i v ws2 g' μ' mC oI oL nD2 s hi hv hle6 Qx2 Qy2 hX2 hY2 ⟨rfl, hws2⟩ hoL x
      refine r_assign x fun s x => ?_
      refine wpAny_tests_nil ?_
      rw [if_pos rfl]
      refine absP fun Gx hGx => ?_
      obtain ⟨p, hpi, ap, rfl, vp, hlp, harp⟩ := hrows2.get hv
      refine hGx ?_
      have hpm : p ∈ nodes := List.mem_of_getElem? hpi
      refine r_join (r_name x.tok (upd_eq _ _ _) ?_)
      refine ⟨ap, vp, p, rfl, (hlp.le hle6).isList x.tok.st, harp, ok_str (okn p hpm), ok_len (okn p hpm), fun t tk => ?_⟩
      refine hX2 _ _ ?_
      refine ⟨g', _, _, Le.refl _, ⟨rfl, ?_⟩, x.tok.tok⟩
      rw [List.map_take, List.take_add_one, List.getElem?_map, hpi, ← List.map_take]
      exact hws2.append (.one _ _)
    · rintro D2 ws2 g6 μ' nD2 s hle6 ⟨rfl, hws⟩ x
      rw [hlen2, List.take_length] at hws
      have l7 := x.freeze_le
      have hsl2 : Sl (put g6 D2 (listOf ws2.toArray nD2)) D2 (nodes.map dotJ) := ⟨ws2, ⟨nD2, put_self _ _ _⟩, hws⟩
      replace x := x.freeze
      generalize put g6 D2 (listOf ws2.toArray nD2) = g7 at x l7 hsl2
      have l7 := hle6.trans l7
      refine r_storeC x rfl rep3 hWs fun s oWs' hWs' x => ?_
      refine absP fun Gx hGx => ?_
      obtain ⟨g8, l8, e8, x⟩ := Fm.frzAt (l1 := [(L + 1 + 1 + 1 + 1 + 1, oK), (L + 1 + 1 + 1 + 1, oR), (L + 1 + 1 + 1, oW), (L + 1 + 1, oWs')]) x
      refine hGx ?_
      refine absP fun Gx hGx => ?_
      obtain ⟨g9, l9, e9, x⟩ := Fm.frzAt (l1 := [(L + 1 + 1 + 1 + 1 + 1, oK), (L + 1 + 1 + 1 + 1, oR), (L + 1 + 1 + 1, oW)]) x
      refine hGx ?_
      exact next g9 _ _ _ oN' oWs' (((l5.trans l7).trans l8).trans l9) (((hsl.le l7).le l8).le l9) ((hsl2.le l8).le l9) (l9 _ _ e8) hN' e9 hWs' x
end
end Mine
end
section
set_option maxRecDepth 100000
set_option autoImplicit false
namespace Mine
open PySem PySem.Spec PySem.Calls PyProof.Rows PySem.W PySem.SeqAt
section
variable {oK oR oW oWs oN : Obj} {prog : Program} {w : World} {M : Model} {A : Around} {E : Value → Shared → Prop} {s0 s : Shared} {env : Env} {g : Fz} {L : Addr} {m mg mb : Str → Option Value} {μ : List (Addr × Obj)} {pos : Pos} {n : Str} {v : Value}
theorem r_compSet1 {xc : Str} {Q : Flow → Shared → Prop} {target elt iter : Expr} {ifs : List Expr} {scope : Scope} {cl : List (Str × Addr)} {y : Str} {py spos : Pos}
    (hsw : swapsWith (.ListComp elt [⟨target, iter, ifs, 0⟩] scope pos) (some (.Name y py)) spos.line env = pure true)
    (hclos : closureFor scope env = pure cl) (hpc : ∀ h, pushCells h scope.names = h.push { cls := .type "cell", data := .cell none }) (hcf : ∀ n acc, cellsFrom n scope.names acc = (xc, n) :: acc) (hkind : scope.kind = .function) (hnames : ∀ y ∈ scope.names, y.2 = .local → scope.names.lookup y.1 = some .local)
    (hk : env.scope.kind = .function) (hy : env.kindOf y = some .local)
    (h : wpAny (model prog w) A (eval iter env) (fun xv s₁ => wpAny (model prog w) A (pyIter xv) (CompSetAsk1 prog w A s0 env xc target elt ifs scope cl y Q) NoE s₁) NoE s)
    (hs : ∀ x, foldedSetIterable iter env x = pure x := by intro _; rfl) (ht : ∀ (I : Addr) v, letOwnedTupleGo target (.ref I) v = pure () := by intro _ _; rfl) :
    wpAny (model prog w) A (exec (.Assign [.Name y py] (.ListComp elt [⟨target, iter, ifs, 0⟩] scope pos) spos) env) Q E s := by
  rw [exec_Assign_Name_used _ _ _ _ hsw]
  refine noE (wpAny_bind (wpAny_standAt (wpAny_bind ?_)))
  show wpAny _ A (do let _ ← comprehension (.ListComp elt [⟨target, iter, ifs, 0⟩] scope pos) scope env _ (newList []) false (eval iter env) (some (assign (.Name y py) env))) _ _ s
  refine wpAny_bind (wpAny_mono (wpAny_comprehension_free (use := some (assign (.Name y py) env)) (Q := fun _ s' => Q .next s') rfl hs hclos hkind hnames
    (wpAny_mono h (fun xv s₁ h₁ => wpAny_mono h₁ (fun it s₂ h₂ => ?_) fun _ _ e => e) fun _ _ e => e)) (fun _ s' hq => wpAny_pure (wpAny_pure hq)) fun _ _ e => e)
  refine absP fun Gx hGx => ?_
  obtain ⟨n, P, g, m, μ, S, hn, J, h0, turn, done⟩ := h₂
  refine hGx ?_
  refine comp_walk1 (RR := fun acc C => compPost (model prog w) A NoE (some (assign (.Name y py) env)) (fun _ s' => Q .next s') acc C) S hn hpc hcf hkind J h0 turn ?_ ht
  intro C D ys g' μ' mC oL nD oc s' hle hJ hoL x
  show wpAny _ A (assign (.Name y py) env (.ref D)) _ _ _
  refine absP fun Gx hGx => ?_
  obtain ⟨oC, nC, x⟩ := x
  refine hGx ?_
  have xL : Fm g' env.locals m ((C, oC) :: (D, listOf ys.toArray nD) :: (C + 1, oc) :: μ') s0 s' := ⟨oL, hoL, x.perm ((List.Perm.cons _ (List.Perm.swap _ _ _)).trans (List.Perm.swap _ _ _))⟩
  refine r_assign xL (fun s'' xL' => ?_) hk hy
  refine ⟨mC, nC.ns (xL'.gets (.head _)), fun h' hs' => done D ys g' μ' nD _ hle hJ ?_⟩
  have y1 := xL'.drop1 (tk := s''.toks) (same_keeps hs')
  refine absP fun Gx hGx => ?_
  obtain ⟨oL3, hoL3, y1⟩ := y1
  refine hGx ?_
  exact ⟨oL3, hoL3, y1.sub (.cons_cons _ (.cons_cons _ (List.sublist_cons_self _ _)))⟩
theorem ok_take {p : List Str} (h : okPath p) (k : Nat) : (∀ y ∈ p.take k, y.length ≤ 8) ∧ (p.take k).length ≤ 100 := by
  refine ⟨fun y hy => ok_str h y (List.mem_of_mem_take hy), ?_⟩
  have := ok_len h
  rw [List.length_take]; omega
set_option maxHeartbeats 4000000 in
theorem st_rows (G : Gd w mg mb g) (x : Fm g L m μ s0 s) (hh : A.handled = none) {dP : Addr} {P : List (List Str)} (mp : m "paths" = some (.ref dP))
    (hp : Ll g dP P) (okp : ∀ p ∈ P, okPath p) (hpz : P.length ≤ 1000) {Q : Flow → Shared → Prop}
    (next : ∀ g' s' D, Le g g' → Ll g' D ((P.map downs).map (List.map dotJ)) → Fm g' L (upd m "rows" (.ref D)) μ s0 s' → wpAny (model prog w) A (execs lawB7 (lawE L)) Q NoE s') :
    wpAny (model prog w) A (execs lawB6 (lawE L)) Q NoE s := by
  refine wpAny_execs_cons (r_compSet1 (s0 := s0) (xc := "path") (hsw := ?hs2) rfl (fun h => rfl) (fun n acc => rfl) rfl (by decide) rfl rfl ?_)
  case hs2 => rfl
  refine r_name x mp ?_
  refine absP fun Gx hGx => ?_
  obtain ⟨vs, hl, hrows⟩ := hp
  refine hGx ?_
  have hlen := hrows.length
  refine src_list hh x hl fun it s S => ?_
  refine ⟨_, _, _, _, _, S, by first | exact Nat.le_trans (by assumption) (by decide) | exact Nat.le_trans (Nat.le_of_eq (by assumption)) (Nat.le_trans (by assumption) (by decide)) | (rw [line24]; omega), fun i ws g' μ' => μ' = μ ∧ Rows (IsRow g') ws (((P.take i).map downs).map (List.map dotJ)), ⟨rfl, .nil⟩, ?_, ?_⟩
  · rintro C D I i v ws g' μ' mC oI oL nD oc vc s hi hv hle4 Qx1 Qy1 hX1 hY1 ⟨rfl, hws⟩ hoL hoc x
    refine absP fun Gx hGx => ?_
    obtain ⟨p, hpi, ap, rfl, vp, hlp, harp⟩ := hrows.get hv
    refine hGx ?_
    have hpm : p ∈ P := List.mem_of_getElem? hpi
    have hpl := ok_len (okp p hpm)
    have hvl : vp.length ≤ 100 := by rw [harp.length]; exact hpl
    have G' := G.le hle4
    refine r_assignC x rfl rep3 hoc fun s oc2 hoc2 x => ?_
    refine wpAny_tests_nil ?_
    rw [if_pos rfl]
    refine r_comp (s0 := s0) rfl (by decide) rfl (by decide) ?_
    refine wpAny_Call_NameR (r_bi G' x rfl boot_range ?_)
    refine cw_type (sp_cons (wpAny_Call_NameR (r_bi G' x rfl boot_len ?_)))
    refine cw_bi (sp_one (r_cell x rfl (.inr mem3) hoc2 (m_len x ((hlp.le hle4).isList x.st) (by first | exact Nat.le_trans (by assumption) (by decide) | exact Nat.le_trans (Nat.le_of_eq (by assumption)) (Nat.le_trans (by assumption) (by decide)) | (rw [line24]; omega)) fun s t x => ?_)))
    refine sp_cons (r_int x fun s u x _ => ?_)
    refine sp_one (wpAny_UnaryOp (r_int x fun s q x _ => PySem.P.neg_int ?_))
    refine m_range3 (x.tok) (by decide) (PyProof.noPylong_small (by decide)) fun s r x hrg => ?_
    have hsz : Builtin.Range.rangeSize (vp.length : Int) 0 (-1) = (vp.length : Int) := size_down
    refine src_range hh x hrg (small_down (by first | assumption | exact Nat.le_trans (by assumption) (by decide) | exact Nat.le_trans (Nat.le_of_eq (by assumption)) (Nat.le_trans (by assumption) (by decide)) | omega) (by first | assumption | exact Nat.le_trans (by assumption) (by decide) | exact Nat.le_trans (Nat.le_of_eq (by assumption)) (Nat.le_trans (by assumption) (by decide)) | omega)) hsz fun it s S => ?_
    refine ⟨_, _, _, _, _, S, by first | exact Nat.le_trans (by assumption) (by decide) | exact Nat.le_trans (Nat.le_of_eq (by assumption)) (Nat.le_trans (by assumption) (by decide)) | (rw [line24]; omega), fun j ys g2 μ2 => μ2 = (I, oI) :: (D, listOf ws.toArray nD) :: ((lawE L).locals, oL) :: (C + 1, oc2) :: μ' ∧ Are ys (((downs p).take j).map dotJ), ⟨rfl, rfl⟩, ?_, ?_⟩
    · rintro C2 D2 I2 j v ys g2 μ2 mC2 oI2 oL2 nD2 s hj ⟨tj, rfl⟩ hle2 Qx2 Qy2 hX2 hY2 ⟨rfl, hys⟩ hoL2 x
      have hjn : j < p.length := by rw [← harp.length]; exact hj
      have e : (vp.length : Int) + j * (-1) = ((vp.length - j : Nat) : Int) := by omega
      rw [e]
      have hcut : ∀ yv : List Value, slicePick yv.toArray none (some ((vp.length - j : Nat) : Int)) none = (yv.take (vp.length - j)).toArray := fun yv => slicePick_upto' _ _
      have hd : (downs p)[j]? = some (p.take (p.length - j)) := by unfold downs; rw [List.getElem?_map, List.getElem?_range hjn]; rfl
      refine r_assign x fun s x => ?_
      refine wpAny_tests_nil ?_
      rw [if_pos rfl]
      have hk := ok_take (okp p hpm) (p.length - j)
      refine r_join (r_slice (s0 := s0) (r_cell x.tok rfl (.inr mem6) hoc2 (wpAny_evalPart_none (wpAny_evalPart_some (r_name x.tok (upd_eq _ _ _) ?_)))))
      refine ⟨_, _, _, _, _, _, _, _, _, rfl, x.tok, ((hlp.le hle4).le hle2).isList x.tok.st, by first | exact Nat.le_trans (by assumption) (by decide) | exact Nat.le_trans (Nat.le_of_eq (by assumption)) (Nat.le_trans (by assumption) (by decide)) | (rw [line24]; omega), .none, .int _ _, hcut vp, fun g3 c3 s hle3 hc3 x => ?_⟩
      refine ⟨c3, _, p.take (p.length - j), rfl, hc3.isList x.st, by rw [harp.length]; exact harp.take _, hk.1, hk.2, fun t tk => ?_⟩
      refine hX2 _ _ ?_
      refine ⟨g3, _, _, hle3, ⟨rfl, ?_⟩, x.tok⟩
      rw [List.map_take, List.take_add_one, List.getElem?_map, hd, ← List.map_take]
      exact hys.append (.one _ _)
    · rintro D2 ys g2 μ2 nD2 s hle2 ⟨rfl, hys⟩ x
      obtain ⟨g3, l3, e3, x⟩ := x.frz1
      rw [harp.length, ← downs_length p, List.take_length] at hys
      refine hX1 _ _ ?_
      refine ⟨g3, _, _, oc2, _, hle2.trans l3, ⟨rfl, ?_⟩, hoc2, x⟩
      rw [List.map_take, List.map_take, List.take_add_one, List.getElem?_map, List.getElem?_map, hpi, ← List.map_take, ← List.map_take]
      exact (hws.mono (IsRow.le (hle2.trans l3))).append (.cons ⟨_, rfl, ys, ⟨_, e3⟩, hys⟩ .nil)
  · rintro D ws g4 μ' nD s hle4 ⟨rfl, hws⟩ x
    rw [hlen, List.take_length] at hws
    obtain ⟨g5, l5, e5, x⟩ := x.frz1
    exact next g5 _ D (hle4.trans l5) ⟨ws, ⟨_, e5⟩, hws.mono (IsRow.le l5)⟩ x
end
end Mine
end
section
set_option maxRecDepth 100000
set_option autoImplicit false
namespace Mine
open PySem PySem.Spec PySem.Calls PyProof.Rows PySem.W PySem.SeqAt
section
variable {ρ : List (Addr × Obj)} {cs : List Addr} {ct ct' : Addr → List Str} {c : Addr}
theorem Mr.snoc (h : Mr ρ cs ct) (hn : c ∉ cs) {vs : List Value} {k : Nat} {xs : List Str} (ha : Are vs xs) : Mr (ρ ++ [(c, listOf vs.toArray k)]) (cs ++ [c]) (fun b => if b = c then xs else ct b) := by
  induction h with
  | nil => exact .cons (by simpa using ha) .nil
  | @cons d vs' k' ρ cs ct a _ ih =>
    rw [List.mem_cons, not_or] at hn
    have e : (if d = c then xs else ct d) = ct d := if_neg fun q => hn.1 q.symm
    exact .cons (by rw [e]; exact a) (ih hn.2)
end
section
variable {oK oR oW oWs oN : Obj} {prog : Program} {w : World} {M : Model} {A : Around} {E : Value → Shared → Prop} {s0 s : Shared} {env : Env} {g : Fz} {L : Addr} {m mg mb : Str → Option Value} {μ : List (Addr × Obj)} {pos : Pos} {n : Str} {v : Value}
theorem m_list {l : Addr} {vs : List Value} {Q : Value → Shared → Prop} (x : Fm g L m μ s0 s) (hl : s.heap.IsList l vs.toArray) (hz : vs.length ≤ sizeLine) (h : ∀ s' C k, Fm g L m ((C, listOf vs.toArray k) :: μ) s0 s' → Q (.ref C) s') : wpAny (model prog w) A (call (.type "list") [.ref l]) Q E s := by
  refine absP fun Gx hGx => ?_
  obtain ⟨o, ho, hc, n, hd⟩ := hl
  refine hGx ?_
  refine call_list_seq (hsz := by rw [List.size_toArray]; exact hz) l (.inl rfl) ho hc hd fun h' c' hk hD => h _ _ c' (x.newM (tk := s.toks) hk (size_none _) hD)
set_option maxHeartbeats 4000000 in
theorem r_copies {p1 p2 p3 p4 p5 p6 : Pos} (G : Gd w mg mb g) (x : Fm g L m μ s0 s) (hh : A.handled = none) {dR : Addr} {R : List (List Str)} (mr : m "rows" = some (.ref dR)) (hr : Ll g dR R) (hz : R.length ≤ 100) (hz2 : ∀ r ∈ R, r.length ≤ 100) {Q : Value → Shared → Prop}
    (h : ∀ s' D ρ cs ct nD, Mr ρ cs ct → cs.map ct = R → Fm g L m ((D, listOf (cs.map Value.ref).toArray nD) :: (ρ ++ μ)) s0 s' → Q (.ref D) s') :
    wpAny (model prog w) A (eval (.ListComp (.Call (.Name "list" p1) [.Name "row" p2] [] p3) [⟨.Name "row" p4, .Name "rows" p5, [], 0⟩] { kind := .function, names := [(".0", .local), ("row", .local), ("list", .globalImplicit)], isGenerator := false, isCoroutine := false } p6) (lawE L)) Q E s := by
  refine r_comp (s0 := s0) rfl (by decide) rfl (by decide) ?_
  refine r_name x mr ?_
  refine absP fun Gx hGx => ?_
  obtain ⟨vs, hl, hrows⟩ := hr
  refine hGx ?_
  have hlen := hrows.length
  refine src_list hh x hl fun it s S => ?_
  refine ⟨_, _, _, _, _, S, by first | exact Nat.le_trans (by assumption) (by decide) | exact Nat.le_trans (Nat.le_of_eq (by assumption)) (Nat.le_trans (by assumption) (by decide)) | (rw [line24]; omega), fun i ws g' μ' => g' = g ∧ ∃ ρ cs ct, μ' = ρ ++ μ ∧ Mr ρ cs ct ∧ ws = cs.map Value.ref ∧ cs.map ct = R.take i, ⟨rfl, [], [], fun _ => [], rfl, .nil, rfl, rfl⟩, ?_, ?_⟩
  · rintro C D I i v ws g' μ' mC oI oL nD s hi hv hle4 Qx1 Qy1 hX1 hY1 hJp0
    refine absP fun Gx hGx => ?_
    obtain ⟨rfl, ρ, cs, ct, rfl, hM, rfl, hct⟩ := hJp0
    refine hGx ?_
    rintro hoL x
    refine absP fun Gx hGx => ?_
    obtain ⟨p, hpi, ap, rfl, vp, hlp, harp⟩ := hrows.get hv
    refine hGx ?_
    have hpm : p ∈ R := List.mem_of_getElem? hpi
    have hpl := hz2 p hpm
    have hvl : vp.length ≤ 100 := by rw [harp.length]; exact hpl
    refine r_assign x fun s x => ?_
    refine wpAny_tests_nil ?_
    rw [if_pos rfl]
    refine wpAny_Call_NameR (r_bi G x rfl boot_list ?_)
    refine cw_type (sp_one (r_name x (upd_eq _ _ _) ?_))
    refine m_list x (hlp.isList x.st) (by first | exact Nat.le_trans (by assumption) (by decide) | exact Nat.le_trans (Nat.le_of_eq (by assumption)) (Nat.le_trans (by assumption) (by decide)) | (rw [line24]; omega)) fun s c k x => ?_
    have hnd := x.st.nd
    have hc : c ∉ cs := by
      rw [← hM.keys]
      intro hc
      rw [List.map_cons, List.nodup_cons] at hnd
      refine hnd.1 ?_
      simp only [List.map_cons, List.map_append, List.mem_cons, List.mem_append]
      exact .inr (.inr (.inr (.inl hc)))
    refine hX1 _ _ ?_
    refine ⟨_, _, _, Le.refl _, ⟨rfl, ρ ++ [(c, listOf vp.toArray k)], cs ++ [c], _, rfl, hM.snoc hc harp, by simp, ?_⟩, x.perm ?_⟩
    · rw [List.map_append, List.map_singleton, if_pos rfl, List.take_add_one, hpi, ← hct]
      congr 1
      refine List.map_congr_left fun b hb => if_neg fun q => ?_
      subst q; exact hc hb
    · rw [List.append_assoc, List.singleton_append]
      exact (List.perm_middle (l₁ := _ :: _ :: _ :: ρ)).symm
  · rintro D ws g4 μ' nD s hle4 hJp0
    refine absP fun Gx hGx => ?_
    obtain ⟨rfl, ρ, cs, ct, rfl, hM, rfl, hct⟩ := hJp0
    refine hGx ?_
    rintro x
    rw [hlen, List.take_length] at hct
    exact h _ _ ρ cs ct nD hM hct x
end
end Mine
end
section
set_option maxRecDepth 100000
set_option autoImplicit false
namespace Mine
open PySem PySem.Spec PySem.Calls PyProof.Rows PySem.W PySem.SeqAt
section
variable {prog : Program} {w : World} {M : Model} {A : Around} {E : Value → Shared → Prop} {s0 s : Shared} {env : Env} {g : Fz} {L : Addr} {m mg mb : Str → Option Value} {μ : List (Addr × Obj)} {pos : Pos} {n : Str} {v : Value}
theorem pick_take {ys : List Value} (h : 5 ≤ ys.length) : slicePick ys.toArray none (some 5) none = (ys.take 5).toArray := by
  show slicePick ys.toArray none (some ((5 : Nat) : Int)) none = _
  rw [slicePick_upto']
theorem c_fnL {R : Result → Shared → Prop} {f : Addr} {oc : Value} {od : Option Addr} {osl : Array (Option Value)} {name qual : Str} {params : Arguments} {body : List Stmt} {scope : Scope} {dV kV doc pm cdv ct : Value} {an : Option Addr} {args : List Value} {binds : List (Str × Value)}
    (G : Gd w mg mb g) (x : St g μ s0 s)
    (ho : (K9 w).lookup f = some ⟨oc, od, .func (fnOf name qual params body scope dV kV doc pm an cdv ct), osl⟩) (hcd : codeIn (K9 w) cdv qual = true) (hA : Ok A)
    (hbind : bindArgs (fnOf name qual params body scope dV kV doc pm an cdv ct) ⟨args, []⟩ = pure binds)
    (hkind : ∀ n, ∀ x ∈ binds, scope.names.lookup x.1 = some .local ∨ (scope.names.lookup x.1 = some .cell ∧ ((cellsFrom n scope.names []).lookup x.1).isSome = true)) (hnd : ((cellsFrom 0 scope.names []).map (·.1)).Nodup)
    (h : ∀ L s' cells, CellsAre (bindC (envOfC qual scope L f cdv).kindOf binds fun _ => none) (cellsFrom (L + 1) scope.names []) cells →
      Fm g L (bindL (envOfC qual scope L f cdv).kindOf binds fun _ => none) (cells ++ μ) s0 s' →
      wpAny (model prog w) (A.deeper (envOfC qual scope L f cdv)) (execs body (envOfC qual scope L f cdv)) (fun fl s'' => R (.ok (.ret (match fl with | .ret v => v | _ => .none))) s'') NoE s')
    (hco : scope.isCoroutine = false := by rfl) (hgen : scope.isGenerator = false := by rfl) (hk : scope.kind = .function := by rfl) : codeAny (model prog w) A (.call (.ref f) ⟨args, []⟩) R s := by
  refine codeAny_call_cells (fd := fnOf name qual params body scope dV kV doc pm an cdv ct) (binds := binds) (by have := hA.depth; omega) (x.frz _ _ (G.kin _ _ ho)) rfl (G.nolimit x) (codeRec_of (G.in x) hcd) rfl hbind rfl (hkind _) (fun s₁ X => ?_) hco hgen hk
  have X : InCallC s s.heap.objs.size (bindL (envOfC qual scope s.heap.objs.size f cdv).kindOf binds fun _ => none) (cellsFrom (s.heap.objs.size + 1) scope.names []) (bindC (envOfC qual scope s.heap.objs.size f cdv).kindOf binds fun _ => none) s₁ := X
  refine absP fun Gx hGx => ?_
  obtain ⟨h₁, tk, e1, keep⟩ := X.done
  refine hGx ?_
  refine absP fun Gx hGx => ?_
  obtain ⟨cells, NC, Y⟩ := Cl.news (h₀ := s.heap) (Nat.le_refl _) fun n c hm => ⟨X.cell n c (lookup_of_mem_nodup (cellsFrom_names scope.names 0 (s.heap.objs.size + 1) [] [] rfl ▸ hnd) hm), X.above n c hm⟩
  refine hGx ?_
  have hcn : (cells.map (·.1)) = (cellsFrom (s.heap.objs.size + 1) scope.names []).map (·.2) := by
    clear NC X
    generalize cellsFrom (s.heap.objs.size + 1) scope.names [] = cs at Y
    induction Y with
    | nil => rfl
    | cons _ _ ih => simp [ih]
  refine absP fun Gx hGx => ?_
  obtain ⟨oL, eL, nL⟩ := nsO_of X.toInCall.ns
  refine hGx ?_
  have key : ∀ c ∈ cells.map (·.1), s.heap.objs.size < c := by
    intro c hc
    rw [hcn] at hc
    refine absP fun Gx hGx => ?_
    obtain ⟨⟨n, c'⟩, hm, rfl⟩ := List.mem_map.mp hc
    refine hGx ?_
    exact X.above n c' hm
  subst e1
  have fresh : ∀ c, s.heap.objs.size ≤ c → s.heap.get? c = none := fun c hc => Heap.get?_none_of_le hc
  refine noE (h s.heap.objs.size _ cells Y ⟨oL, nL, ?_⟩)
  refine ⟨by obtain ⟨h0, t0, rfl⟩ := x.same; exact ⟨h₁, tk, rfl⟩, fun b ob e => keep b ob (x.frz b ob e), ?_, ?_, ?_⟩
  · intro p hp
    rcases List.mem_cons.mp hp with rfl | hp
    · exact eL
    · rcases List.mem_append.mp hp with hp | hp
      · exact (NC p hp).1
      · exact keep _ _ (x.mu p hp)
  · intro p hp
    rcases List.mem_cons.mp hp with rfl | hp
    · exact x.offNone (size_none _)
    · rcases List.mem_append.mp hp with hp | hp
      · exact x.offNone (fresh _ (Nat.le_of_lt (key _ (List.mem_map_of_mem hp))))
      · exact x.off p hp
  · rw [List.map_cons, List.map_append, List.nodup_cons, List.nodup_append]
    have low : ∀ p ∈ μ, p.1 < s.heap.objs.size := fun p hp => Heap.lt_size (x.mu p hp)
    refine ⟨fun hm => ?_, ?_, x.nd, fun a ha b hb => ?_⟩
    · rcases List.mem_append.mp hm with hm | hm
      · exact Nat.lt_irrefl _ (key _ hm)
      · refine absP fun Gx hGx => ?_
        obtain ⟨p, hp, q⟩ := List.mem_map.mp hm
        refine hGx ?_
        have q' : p.1 = s.heap.objs.size := q
        exact Nat.lt_irrefl _ (q' ▸ low p hp)
    · rw [hcn]
      have := X.apart
      exact List.pairwise_map.mpr this
    · refine absP fun Gx hGx => ?_
      obtain ⟨p, hp, rfl⟩ := List.mem_map.mp hb
      refine hGx ?_
      exact Nat.ne_of_gt (Nat.lt_trans (low p hp) (key a ha))
theorem m_lst {vs : List Value} {Q : Value → Shared → Prop} (x : Fm g L m μ s0 s) (hz : vs.length ≤ sizeLine) (h : ∀ g' D s', Le g g' → Lst g' D vs → Fm g' L m μ s0 s' → Q (.ref D) s') : wpAny (model prog w) A (newList vs) Q E s :=
  wpAny_newList (h _ _ _ (put_le (x.offNone (size_none _))) ⟨0, put_self _ _ _⟩ (x.newF (tk := s.toks) (push_keeps _ _) (size_none _) (Heap.get?_push_size _ rfl))) hz
inductive DefAsk (prog : Program) (w : World) (mg mb : Str → Option Value) (A : Around) (s0 : Shared) (f : Addr) (Q E : Value → Shared → Prop) (vs : List Value) (s₁ : Shared) : Prop
  | mk (g' : Fz) (G : Gd w mg mb g') (y : ∃ L' m' μ', Fm g' L' m' μ' s0 s₁) (h : codeAny (model prog w) A (.call (.ref f) ⟨vs, []⟩) (fun r s' => match r with | .ok (.ret v) => Q v s' | .ok _ => False | .error e => E e s') s₁) : DefAsk prog w mg mb A s0 f Q E vs s₁
theorem r_def {f : Addr} {o : Obj} {fd : FuncData} {nm : Str} {p1 : Pos} {e : Expr} {rest : List Expr} {Q : Value → Shared → Prop} (G : Gd w mg mb g) (x : Fm g L m μ s0 s) (hL : env.locals = L) (en : nsIn (K9 w) mainGlobals nm = some (some (.ref f))) (eo : (K9 w).lookup f = some o) (hdat : o.data = .func fd)
    (h : wpAny (model prog w) A (spliced (backTo pos (starEach (e :: rest) env))) (DefAsk prog w mg mb A s0 f Q E) E s)
    (hk : env.scope.kind = .function := by rfl) (hg : env.globals = mainGlobals := by rfl) (hx : env.kindOf nm = some .globalImplicit := by rfl) (hd : (nm == ("__debug__" : Str)) = false := by decide) (hn : notStar e = true := by rfl) :
    wpAny (model prog w) A (eval (.Call (.Name nm p1) (e :: rest) [] pos) env) Q E s := by
  refine wpAny_Call_NameR (r_glob G x en ?_ hk hg hx hd)
  refine cw_def hdat (wpAny_mono h (fun vs s1 h1 => ?_) fun _ _ q => q) hn
  refine absP fun Gx hGx => ?_
  obtain ⟨g', G', ⟨L', m', μ', x'⟩, hc⟩ := h1
  refine hGx ?_
  exact ⟨x'.get (G'.kin _ _ eo), wpAny_call hc⟩
end
end Mine
end
section
set_option maxRecDepth 100000
set_option autoImplicit false
namespace Mine
open PySem PySem.Spec PySem.Calls PyProof.Rows PySem.W PySem.SeqAt
section
variable {oK oR oW oWs oN : Obj} {prog : Program} {w : World} {M : Model} {A : Around} {E : Value → Shared → Prop} {s0 s : Shared} {env : Env} {g : Fz} {L : Addr} {m mg mb : Str → Option Value} {μ : List (Addr × Obj)} {pos : Pos} {n : Str} {v : Value}
theorem noFields {oL : Obj} {m : Str → Option Value} (h : NsO oL m) : ∀ vs, oL.data ≠ .fields vs := by
  refine absP fun Gx hGx => ?_
  obtain ⟨es, ep, hd, _⟩ := h
  refine hGx ?_
  intro vs e; rw [hd] at e; cases e
set_option maxHeartbeats 4000000 in
theorem st_told (G : Gd w mg mb g) (x : Fm g L m μ s0 s) (hA : Ok A) {env0 : Env} (hfr : A.frames = some [env0]) (hf0 : env0.frame = some L) (hk0 : env0.scope.kind = .function) {dR dP : Addr} {R P : List (List Str)} {T : List Str} (mr : m "rows" = some (.ref dR)) (hr : Ll g dR R) (mp : m "paths" = some (.ref dP)) (hp : Ll g dP P)
    (okp : ∀ p ∈ P, okPath p) (hpz : P.length ≤ 100) (hz : R.length ≤ 100) (hz2 : ∀ r ∈ R, r.length ≤ 100) (htot : total R < 1000) (hc3 : c3F 1000 R [] = some T) (hT : T = (climbF P).map dotJ) (okc : ∀ p ∈ climbF P, okPath p) (hcz : (climbF P).length ≤ 1000) {Q : Flow → Shared → Prop}
    (next : ∀ g' s' D, Le g g' → Sl g' D T → Fm g' L (upd m "told" (.ref D)) μ s0 s' → wpAny (model prog w) A (execs lawB9 (lawE L)) Q NoE s') :
    wpAny (model prog w) A (execs lawB7 (lawE L)) Q NoE s := by
  have hh := hA.hand
  refine wpAny_execs_cons (wpAny_Assign_Name ?_)
  refine r_def G x rfl (by rfl) (by rfl) (by rfl) (sp_one (r_copies G x hh mr hr hz hz2 fun s D ρ cs ct nD hM hct x => ?_))
  obtain ⟨g1, l1, e1, x⟩ := x.frz1
  refine ⟨g1, G.le l1, ⟨_, _, _, x⟩, ?_⟩
  refine absP fun Gx hGx => ?_
  obtain ⟨oL, nL, y⟩ := x
  refine hGx ?_
  have hcl : cs.length ≤ 100 := by rw [← List.length_map (f := ct), hct]; exact hz
  refine c3_call (n := 1000) (μ := μ) (ρ := ρ) (G.le l1) hA hfr hf0 hk0 (noFields nL) (y.perm (List.perm_middle (l₁ := ρ)).symm) hM ⟨_, e1⟩ hcl (fun c hc => hz2 _ (hct ▸ List.mem_map_of_mem hc)) (by rw [hct]; exact htot) (by first | assumption | exact Nat.le_trans (by assumption) (by decide) | exact Nat.le_trans (Nat.le_of_eq (by assumption)) (Nat.le_trans (by assumption) (by decide)) | omega) ?_ ?_
  · intro g2 s D2 told l2 y htold e2
    rw [hct, hc3] at e2
    cases e2
    have x : Fm g2 L m μ s0 s := ⟨oL, nL, y⟩
    refine r_store x rfl rfl fun s x => ?_
    have mt : upd m "told" (.ref D2) "told" = some (.ref D2) := upd_eq _ _ _
    have mp2 : upd m "told" (.ref D2) "paths" = some (.ref dP) := mp
    have hx : ∀ g' s', Le g2 g' → Fm g' L (upd m "told" (.ref D2)) μ s0 s' → wpAny (model prog w) A (execs lawB9 (lawE L)) Q NoE s' := fun g' s' l x => next g' s' D2 ((l1.trans l2).trans l) (htold.le l) x
    generalize upd m "told" (.ref D2) = m1 at x mt mp2 hx
    refine wpAny_execs_cons (wpAny_If (wpAny_isTrue_Compare1 ?_))
    refine r_name x mt ?_
    refine r_comp (s0 := s0) rfl (by decide) rfl (by decide) ?_
    have G2 := G.le (l1.trans l2)
    refine r_def G2 x rfl (by rfl) (by rfl) (by rfl) (sp_one (r_name x mp2 ?_))
    refine ⟨g2, G2, ⟨_, _, _, x⟩, ?_⟩
    refine absP fun Gx hGx => ?_
    obtain ⟨oL2, nL2, y⟩ := x
    refine hGx ?_
    refine climbed_call G2 y hA (hp.le (l1.trans l2)) hpz (fun p hp => ok_len (okp p hp)) fun g3 s D3 l3 y hcl3 => ?_
    have x : Fm g3 L m1 μ s0 s := ⟨oL2, nL2, y⟩
    refine absP fun Gx hGx => ?_
    obtain ⟨vs, hl, hrows⟩ := hcl3
    refine hGx ?_
    have hlen := hrows.length
    refine src_list hh x hl fun it s S => ?_
    refine ⟨_, _, _, _, _, S, by first | exact Nat.le_trans (by assumption) (by decide) | exact Nat.le_trans (Nat.le_of_eq (by assumption)) (Nat.le_trans (by assumption) (by decide)) | (rw [line24]; omega), fun i ws g' μ' => μ' = μ ∧ Are ws (((climbF P).take i).map dotJ), ⟨rfl, rfl⟩, ?_, ?_⟩
    · rintro C D I i v ws g' μ' mC oI oL nD s hi hv hle4 Qx1 Qy1 hX1 hY1 ⟨rfl, hws⟩ hoL x
      refine r_assign x fun s x => ?_
      refine wpAny_tests_nil ?_
      rw [if_pos rfl]
      refine absP fun Gx hGx => ?_
      obtain ⟨p, hpi, ap, rfl, vp, hlp, harp⟩ := hrows.get hv
      refine hGx ?_
      have hpm : p ∈ climbF P := List.mem_of_getElem? hpi
      refine r_join (r_name x.tok (upd_eq _ _ _) ?_)
      refine ⟨ap, vp, p, rfl, (hlp.le hle4).isList x.tok.st, harp, ok_str (okc p hpm), ok_len (okc p hpm), fun t tk => ?_⟩
      refine hX1 _ _ ?_
      refine ⟨g', _, _, Le.refl _, ⟨rfl, ?_⟩, x.tok.tok⟩
      rw [List.map_take, List.take_add_one, List.getElem?_map, hpi, ← List.map_take]
      exact hws.append (.one _ _)
    · rintro D ws g4 μ' nD s hle4 ⟨rfl, hws⟩ x
      rw [hlen, List.take_length] at hws
      obtain ⟨g5, l5, e5, x⟩ := x.frz1
      refine PySem.EqBoolInt.of_rcne (ne_strs (xs := T) (ys := T) (by have := hA.units; omega) ((htold.le (l3.trans (hle4.trans l5))).here x.st) (Sl.here ⟨ws, ⟨_, e5⟩, by rw [hT]; exact hws⟩ x.st)) (wpAny_truthy_bool ?_)
      rw [show (!(T == T)) = false by simp]
      rw [if_neg (by simp)]
      refine wpAny_execs_nil ?_
      exact hx _ _ (l3.trans (hle4.trans l5)) x
  · intro g2 s e t base sl l2 y e2
    rw [hct, hc3] at e2
    cases e2
end
end Mine
end
section
set_option maxRecDepth 100000
set_option autoImplicit false
namespace Mine
open PySem PySem.Spec PySem.Calls PyProof.Rows PySem.W PySem.SeqAt
inductive NxD (s0 : Shared) (C I D L : Addr) (oI oD oL : Obj) (g' : Fz) (kv : Value) (Jn : Str → Fz → List (Addr × Obj) → Prop) (s : Shared) : Prop
  | mk (k : Str) (t : Tok) (g2 : Fz) (m2 : Str → Option Value) (μ2 : List (Addr × Obj)) (e : kv = .str k t) (le : Le g' g2) (j : Jn k g2 μ2) (x : Fm g2 C m2 ((I, oI) :: (D, oD) :: (L, oL) :: μ2) s0 s) : NxD s0 C I D L oI oD oL g' kv Jn s
inductive DInv (n : Nat) (prog : Program) (w : World) (g : Fz) (J : Nat → List (Str × Value) → Fz → List (Addr × Obj) → Prop) (s0 : Shared) (C I D L : Addr) (oL : Obj) (Stt : Nat → Heap → Prop) (k : Nat) (s' : Shared) : Prop
  | mk (i : Nat) (kvs : List (Str × Value)) (g' : Fz) (μ' : List (Addr × Obj)) (mC : Str → Option Value) (oI' oD : Obj) (hi : i ≤ n) (hys : kvs.length ≤ i) (e : k = n + 1 - i) (le : Le g g') (j : J i kvs g' μ') (hD : oD.IsDictOf (strKind prog w) kvs) (x : Fm g' C mC ((I, oI') :: (D, oD) :: (L, oL) :: μ') s0 s') (st : Stt i s'.heap) : DInv n prog w g J s0 C I D L oL Stt k s'
section
variable {oK oR oW oWs oN : Obj} {prog : Program} {w : World} {M : Model} {A : Around} {E : Value → Shared → Prop} {s0 s : Shared} {env : Env} {g : Fz} {L : Addr} {m mg mb : Str → Option Value} {μ : List (Addr × Obj)} {pos : Pos} {n : Str} {v : Value}
theorem dcomp_walk {kx vx target iter : Expr} {ifs : List Expr} {scope : Scope} {cl : List (Str × Addr)} {it : Value} {n : Nat} {P : Nat → Value → Prop} {RR : Value → Addr → Result → Shared → Prop}
    (S : Src prog w A g L m μ s0 s it n P) (hn : n ≤ sizeLine) (hcell : ∀ y ∈ scope.names, y.2 ≠ .cell) (hkind : scope.kind = .function)
    (J : Nat → List (Str × Value) → Fz → List (Addr × Obj) → Prop) (h0 : J 0 [] g μ)
    (turn : ∀ C D I i v kvs g' μ' mC oI oL oD s', i < n → P i v → Le g g' → ∀ (Qx : Value → Value → Shared → Prop) (Qy : Shared → Prop), (∀ kv y s4, NxD s0 C I D L oI oD oL g' kv (fun k => J (i + 1) (stored kvs k y)) s4 → Qx kv y s4) → (∀ s4, Nc s0 C I D L oI oD oL g' (J (i + 1) kvs) s4 → Qy s4) → J i kvs g' μ' → NsO oL m → oD.IsDictOf (strKind prog w) kvs → Fm g' C mC ((I, oI) :: (D, oD) :: (L, oL) :: μ') s0 s' →
      wpAny (model prog w) A (assign target (compEnvC scope cl C env) v) (fun _ s2 =>
        wpAny (model prog w) A (forIn ifs true fun c r => if r = true then do let ok ← isTrue c (compEnvC scope cl C env) (eval c (compEnvC scope cl C env)); pure (ForInStep.yield ok) else pure (ForInStep.yield r)) (fun ok s3 =>
          if ok = true then wpAny (model prog w) A (eval kx (compEnvC scope cl C env)) (fun kv s3 => wpAny (model prog w) A (eval vx (compEnvC scope cl C env)) (Qx kv) NoE s3) NoE s3
          else Qy s3) NoE s2) NoE s')
    (done : ∀ C D kvs g' μ' mC oL oD s', Le g g' → J n kvs g' μ' → NsO oL m → oD.IsDictOf (strKind prog w) kvs → Fm g' C mC ((D, oD) :: (L, oL) :: μ') s0 s' → RR (.ref D) C (.ok .next) s')
    (ht : ∀ (I : Addr) v, letOwnedTupleGo target (.ref I) v = pure () := by intro _ _; rfl) :
    wpAny (model prog w) A newDict (fun acc s₃ => wpAny (model prog w) A (newFunctionEnv scope env.globals cl [] env.qual none .none (some env)) (fun cenv s₄ =>
      codeAny (model prog w) A (.compStart (.DictComp kx vx [⟨target, iter, ifs, 0⟩] scope pos) 0 it acc { cenv with scope := relabel scope env }) (RR acc cenv.locals) s₄) E s₃) E s := by
  refine absP fun Gx hGx => ?_
  obtain ⟨I, oI, fp, Stt, rfl, W, hI, hfp, hst, oL, hoL, x⟩ := S
  refine hGx ?_
  refine wpAny_newObj_type (wpAny_newFunctionEnv hcell (by intro y hy; simp at hy) (fun h₁ hns₁ hsb₁ => ?_) hkind)
  dsimp only at hns₁ hsb₁ ⊢
  refine absP fun Gx hGx => ?_
  obtain ⟨o0, ho0, hd0⟩ := Heap.dictOf_iff.mp (Heap.DictOf.new (knd := strKind prog w) s.heap)
  refine hGx ?_
  have e0 : o0 = { cls := .type "dict", data := .dict #[] } := Option.some.inj (ho0.symm.trans (Heap.get?_push_size _ rfl))
  subst e0
  have x1 := x.newM (tk := s.toks) (push_keeps s.heap { cls := .type "dict", data := .dict #[] }) (size_none _) (Heap.get?_push_size _ rfl)
  generalize hH2 : s.heap.push { cls := .type "dict", dict := none, data := .dict #[] } = H2 at hns₁ hsb₁ x1 ⊢
  refine absP fun Gx hGx => ?_
  obtain ⟨oC, eC, nC⟩ := nsO_of hns₁
  refine hGx ?_
  have keep2 : ∀ b o, H2.get? b = some o → h₁.get? b = some o := fun b o e => hsb₁.extBut b o (Nat.ne_of_lt (Heap.lt_size e)) (Heap.get?_push_of_some _ e)
  have x2 := St.newM (tk := s.toks + ([] : List (Str × Value)).length) (h' := h₁) (a := H2.objs.size) (o := oC) x1 keep2 (size_none _) eC
  have x3 : Fm g H2.objs.size (fun y => List.lookup y ([] : List (Str × Value)).reverse) ((I, oI) :: (s.heap.objs.size, _) :: (L, oL) :: μ) s0 { s with heap := h₁, toks := s.toks + ([] : List (Str × Value)).length } :=
    ⟨oC, nC, x2.perm (List.Perm.cons _ (((List.Perm.swap _ _ _).cons _).trans (List.Perm.swap _ _ _)))⟩
  have hst3 : Stt 0 h₁ := W.frame _ _ _ hst fun b _ o e => keep2 b o (by rw [← hH2]; exact Heap.get?_push_of_some _ e)
  have loop : ∀ s₃ : Shared, s₃ = { s with heap := h₁, toks := s.toks + ([] : List (Str × Value)).length } →
      codeAny (model prog w) A (.compLoop (.DictComp kx vx [⟨target, iter, ifs, 0⟩] scope pos) 0 (.ref I) (.ref s.heap.objs.size) (compEnvC scope cl H2.objs.size env))
        (RR (.ref s.heap.objs.size) H2.objs.size) s₃ := by
    rintro s₃ rfl
    refine codeAny_compLoop_testsD (DInv n prog w g J s0 H2.objs.size I s.heap.objs.size L oL Stt) ?_ (n + 1)
      ⟨0, [], g, μ, _, oI, _, Nat.zero_le _, Nat.le_refl _, rfl, Le.refl g, h0, hd0, x3, hst3⟩ (ht _)
    rintro k s' hJp0
    refine absP fun Gx hGx => ?_
    obtain ⟨i, kvs, g', μ', mC, oI', oD, hi, hys, rfl, hle, hJ, hoD, x', hst'⟩ := hJp0
    refine hGx ?_
    by_cases hlt : i < n
    · refine W.item i s' _ _ hlt hst' fun v h' tk hP hst2 hk => ?_
      obtain ⟨o2, ho2⟩ := hI _ _ hst2
      have x4 : Fm g' H2.objs.size mC ((I, o2) :: (s.heap.objs.size, oD) :: (L, oL) :: μ') s0 { s' with heap := h', toks := tk } := x'.rep .head (fun b ob hb e => hk b ob (by simpa using hb) e) ho2
      have stt : ∀ {g2 m2 μ2 s3} {o9 : Obj}, Le g' g2 → Fm g2 H2.objs.size m2 ((I, o2) :: (s.heap.objs.size, o9) :: (L, oL) :: μ2) s0 s3 → Stt (i + 1) s3.heap := by
        intro g2 m2 μ2 s3 o9 l2 x5
        refine W.frame _ _ _ hst2 fun b hb o e => ?_
        by_cases hbI : b = I
        · subst hbI
          have e' : h'.get? b = some o := e
          rw [ho2] at e'; cases e'
          exact x5.gets (.head _)
        · obtain ⟨ob, eb⟩ := hfp b hb hbI
          have t' : h'.get? b = some ob := x4.get (hle _ _ eb)
          have e' : h'.get? b = some o := e
          rw [e'] at t'; cases t'
          exact x5.get (l2 _ _ (hle _ _ eb))
      refine noE (wpAny_mono (turn _ _ _ i v kvs g' μ' mC o2 oL oD _ hlt hP hle (fun kv y s4 => NxD s0 H2.objs.size I s.heap.objs.size L o2 oD oL g' kv (fun k => J (i + 1) (stored kvs k y)) s4) (fun s4 => Nc s0 H2.objs.size I s.heap.objs.size L o2 oD oL g' (J (i + 1) kvs) s4) (fun _ _ _ q => q) (fun _ q => q) hJ hoL hoD x4) (fun _ s2 h2 => noE (wpAny_mono h2 (fun ok s3 h3 => ?_) fun _ _ q => q)) fun _ _ q => q)
      cases ok with
      | false =>
        simp only [Bool.false_eq_true, if_false] at h3 ⊢
        refine absP fun Gx hGx => ?_
        obtain ⟨g2, m2, μ2, l2, j2, x5⟩ := h3
        refine hGx ?_
        exact ⟨n + 1 - (i + 1), by omega, i + 1, kvs, g2, μ2, m2, o2, oD, hlt, by omega, rfl, hle.trans l2, j2, hoD, x5, stt l2 x5⟩
      | true =>
        simp only [if_true] at h3 ⊢
        refine noE (wpAny_mono h3 (fun kv s4 h4 => noE (wpAny_mono h4 (fun y s4 h4 => ?_) fun _ _ q => q)) fun _ _ q => q)
        refine absP fun Gx hGx => ?_
        obtain ⟨k, t, g2, m2, μ2, rfl, l2, j2, x5⟩ := h4
        refine hGx ?_
        refine wpAny_dictSet_pairs (hsz := by omega) (strKind_is _ _ _ _) (Heap.dictOf_iff.mpr ⟨oD, x5.gets (.tail _ (.head _)), hoD⟩) fun h5 hd5 hs5 => ?_
        refine absP fun Gx hGx => ?_
        obtain ⟨o5, e5, d5⟩ := Heap.dictOf_iff.mp hd5
        refine hGx ?_
        have x6 : Fm g2 H2.objs.size m2 ((I, o2) :: (s.heap.objs.size, o5) :: (L, oL) :: μ2) s0 { s4 with heap := h5, toks := s4.toks + 1 } :=
          x5.rep (tk := s4.toks + 1) (.tail .head) (same_keeps hs5) e5
        have hsl := stored_length_le kvs k y
        exact ⟨n + 1 - (i + 1), by omega, i + 1, stored kvs k y, g2, μ2, m2, o2, o5, hlt, by omega, rfl, hle.trans l2, j2, d5, x6, stt l2 x6⟩
    · have hin : i = n := by omega
      subst hin
      refine W.done s' _ _ hst' fun h' tk hk => ?_
      exact done _ _ kvs g' μ' mC oL oD _ hle hJ hoL hoD (x'.drop1 fun b ob hb e => hk b ob (by simpa using hb) e)
  exact codeAny_compStart_dict (loop _ rfl) (W.self 0 _ _ _ hst3 (loop _ rfl))
inductive DCompAsk (prog : Program) (w : World) (A : Around) (s0 : Shared) (env : Env) (target kx vx : Expr) (ifs : List Expr) (scope : Scope) (cl : List (Str × Addr)) (Q : Value → Shared → Prop) (it : Value) (s₂ : Shared) : Prop
  | mk (n : Nat) (P : Nat → Value → Prop) (g : Fz) (m : Str → Option Value) (μ : List (Addr × Obj)) (S : Src prog w A g env.locals m μ s0 s₂ it n P) (hn : n ≤ sizeLine) (J : Nat → List (Str × Value) → Fz → List (Addr × Obj) → Prop) (h0 : J 0 [] g μ)
    (turn : ∀ C D I i v kvs g' μ' mC oI oL oD s', i < n → P i v → Le g g' → ∀ (Qx : Value → Value → Shared → Prop) (Qy : Shared → Prop), (∀ kv y s4, NxD s0 C I D env.locals oI oD oL g' kv (fun k => J (i + 1) (stored kvs k y)) s4 → Qx kv y s4) → (∀ s4, Nc s0 C I D env.locals oI oD oL g' (J (i + 1) kvs) s4 → Qy s4) → J i kvs g' μ' → NsO oL m → oD.IsDictOf (strKind prog w) kvs → Fm g' C mC ((I, oI) :: (D, oD) :: (env.locals, oL) :: μ') s0 s' →
      wpAny (model prog w) A (assign target (compEnvC scope cl C env) v) (fun _ s2 =>
        wpAny (model prog w) A (forIn ifs true fun c r => if r = true then do let ok ← isTrue c (compEnvC scope cl C env) (eval c (compEnvC scope cl C env)); pure (ForInStep.yield ok) else pure (ForInStep.yield r)) (fun ok s3 =>
          if ok = true then wpAny (model prog w) A (eval kx (compEnvC scope cl C env)) (fun kv s3 => wpAny (model prog w) A (eval vx (compEnvC scope cl C env)) (Qx kv) NoE s3) NoE s3
          else Qy s3) NoE s2) NoE s')
    (done : ∀ D kvs g' μ' oD s', Le g g' → J n kvs g' μ' → oD.IsDictOf (strKind prog w) kvs → Fm g' env.locals m ((D, oD) :: μ') s0 s' → Q (.ref D) s') : DCompAsk prog w A s0 env target kx vx ifs scope cl Q it s₂
theorem r_dcomp {Q : Value → Shared → Prop} {kx vx target iter : Expr} {ifs : List Expr} {scope : Scope} {cl : List (Str × Addr)}
    (hclos : closureFor scope env = pure cl) (hcell : ∀ y ∈ scope.names, y.2 ≠ .cell) (hkind : scope.kind = .function) (hnames : ∀ y ∈ scope.names, y.2 = .local → scope.names.lookup y.1 = some .local)
    (h : wpAny (model prog w) A (eval iter env) (fun xv s₁ => wpAny (model prog w) A (pyIter xv) (DCompAsk prog w A s0 env target kx vx ifs scope cl Q) NoE s₁) NoE s)
    (hs : ∀ x, foldedSetIterable iter env x = pure x := by intro _; rfl) (ht : ∀ (I : Addr) v, letOwnedTupleGo target (.ref I) v = pure () := by intro _ _; rfl) :
    wpAny (model prog w) A (eval (.DictComp kx vx [⟨target, iter, ifs, 0⟩] scope pos) env) Q E s := by
  rw [arm_eval_DictComp]
  refine noE (wpAny_comprehension_free (use := none) rfl hs hclos hkind hnames (wpAny_mono h (fun xv s₁ h₁ => wpAny_mono h₁ (fun it s₂ h₂ => ?_) fun _ _ e => e) fun _ _ e => e))
  refine absP fun Gx hGx => ?_
  obtain ⟨n, P, g, m, μ, S, hn, J, h0, turn, done⟩ := h₂
  refine hGx ?_
  refine dcomp_walk (RR := fun acc C => compPost (model prog w) A NoE none Q acc C) S hn hcell hkind J h0 turn ?_ ht
  intro C D kvs g' μ' mC oL oD s' hle hJ hoL hoD x
  refine ⟨mC, x.ns, fun h' hs' => done D kvs g' μ' oD _ hle hJ hoD ?_⟩
  refine absP fun Gx hGx => ?_
  obtain ⟨oC, nC, x⟩ := x
  refine hGx ?_
  exact ⟨oL, hoL, (x.dropH (tk := s'.toks) (same_keeps hs')).swap⟩
end
end Mine
end
section
set_option maxRecDepth 100000
set_option autoImplicit false
namespace Mine
open PySem PySem.Spec PySem.Calls PyProof.Rows PySem.W PySem.SeqAt
inductive Rds (prog : Program) (w : World) (g : Fz) (all : List Str) : List Str → List (Str × Value) → List (Addr × Obj) → Prop
  | nil : Rds prog w g all [] [] []
  | cons {word : Str} {ix ig : Addr} {oig : Obj} {ws : List Str} {kvs : List (Str × Value)} {ρ : List (Addr × Obj)} : Rd w g ix word ig → Noted prog w word all oig → Rds prog w g all ws kvs ρ → Rds prog w g all (word :: ws) ((word, .ref ix) :: kvs) ((ig, oig) :: ρ)
section
variable {prog : Program} {w : World} {g g' : Fz} {all ws : List Str} {kvs : List (Str × Value)} {ρ : List (Addr × Obj)} {word : Str} {ix ig : Addr} {oig : Obj}
theorem Rds.le (h : Rds prog w g all ws kvs ρ) (k : Le g g') : Rds prog w g' all ws kvs ρ := by
  induction h with
  | nil => exact .nil
  | cons a b _ ih => exact .cons (a.le k) b ih
theorem Rds.keys (h : Rds prog w g all ws kvs ρ) : kvs.map (·.1) = ws := by
  induction h with
  | nil => rfl
  | cons _ _ _ ih => rw [List.map_cons, ih]
theorem Rds.snoc (h : Rds prog w g all ws kvs ρ) (a : Rd w g ix word ig) (b : Noted prog w word all oig) : Rds prog w g all (ws ++ [word]) (kvs ++ [(word, .ref ix)]) (ρ ++ [(ig, oig)]) := by
  induction h with
  | nil => exact .cons a b .nil
  | cons a' b' _ ih => exact .cons a' b' ih
theorem Rds.upd (h : Rds prog w g all ws kvs ρ) (hw : word ∈ ws) : ∃ ix ig oig f, valueAt kvs word = some (.ref ix) ∧ Rd w g ix word ig ∧ Noted prog w word all oig ∧ Rep ig oig ρ f ∧ ∀ o', Noted prog w word all o' → Rds prog w g all ws kvs (f o') := by
  induction h with
  | nil => cases hw
  | @cons wd ix ig oig ws kvs ρ a b r ih =>
    by_cases e : wd = word
    · subst e
      exact ⟨ix, ig, oig, _, by simp [valueAt], a, b, .head, fun o' h' => .cons a h' r⟩
    · have hw' : word ∈ ws := by
        rcases List.mem_cons.mp hw with h | h
        · exact absurd h.symm e
        · exact h
      refine absP fun Gx hGx => ?_
      obtain ⟨ix', ig', oig', f, h1, h2, h3, h4, h5⟩ := ih hw'
      refine hGx ?_
      refine ⟨ix', ig', oig', _, ?_, h2, h3, .tail h4, fun o' h' => .cons a b (h5 o' h')⟩
      rw [← h1]
      simp [valueAt, e]
end
section
variable {oK oR oW oWs oN : Obj} {prog : Program} {w : World} {M : Model} {A : Around} {E : Value → Shared → Prop} {s0 s : Shared} {env : Env} {g : Fz} {L : Addr} {m mg mb : Str → Option Value} {μ : List (Addr × Obj)} {pos : Pos} {n : Str} {v : Value}
theorem not_take {l : List Str} (nd : l.Nodup) {i : Nat} {x : Str} (h : l[i]? = some x) : x ∉ l.take i := by
  intro hm
  rw [← List.take_append_drop i l, List.nodup_append] at nd
  exact nd.2.2 x hm x (List.mem_of_getElem? (i := 0) (by rw [List.getElem?_drop]; exact h)) rfl
set_option maxHeartbeats 4000000 in
theorem st_readers (G : Gd w mg mb g) (x : Fm g L m ((L + 1 + 1 + 1 + 1 + 1, oK) :: (L + 1 + 1 + 1 + 1, oR) :: (L + 1 + 1 + 1, oW) :: μ) s0 s) (hA : Ok2 A) {lW : Addr} {words : List Str} (hw : Sl g lW words) (ew : g (L + 1 + 1) = some oWs) (hWs : oWs.data = .cell (some (.ref lW)))
    (nd : words.Nodup) (hz : words.length ≤ 100) (hR : oR.data = .cell none) {Q : Flow → Shared → Prop}
    (next : ∀ g' s' ρ D oR oD kvs, Le g g' → g' (L + 1 + 1 + 1 + 1) = some oR → oR.data = .cell (some (.ref D)) → g' D = some oD → oD.IsDictOf (strKind prog w) kvs → Rds prog w g' words words kvs ρ →
      Fm g' L m ((L + 1 + 1 + 1 + 1 + 1, oK) :: (L + 1 + 1 + 1, oW) :: (ρ ++ μ)) s0 s' → wpAny (model prog w) A (execs lawB10 (lawE L)) Q NoE s') :
    wpAny (model prog w) A (execs lawB9 (lawE L)) Q NoE s := by
  have hh := hA.hand
  refine wpAny_execs_cons (wpAny_Assign_Name (r_dcomp (s0 := s0) rfl (by decide) rfl (by decide) ?_))
  refine r_cell x rfl (.inl ew) hWs ?_
  refine absP fun Gx hGx => ?_
  obtain ⟨vs, hl, ha⟩ := hw
  refine hGx ?_
  have hlen := ha.length
  refine src_list hh x hl fun it s S => ?_
  refine ⟨_, _, _, _, _, S, by first | exact Nat.le_trans (by assumption) (by decide) | exact Nat.le_trans (Nat.le_of_eq (by assumption)) (Nat.le_trans (by assumption) (by decide)) | (rw [line24]; omega), fun i kvs g' μ' => ∃ ρ, μ' = ρ ++ (L + 1 + 1 + 1 + 1 + 1, oK) :: (L + 1 + 1 + 1 + 1, oR) :: (L + 1 + 1 + 1, oW) :: μ ∧ Rds prog w g' words (words.take i) kvs ρ, ⟨[], rfl, .nil⟩, ?_, ?_⟩
  · rintro C D I i v kvs g' μ' mC oI oL oD s hi hv hle4 Qx1 Qy1 hX1 hY1 hJp0
    refine absP fun Gx hGx => ?_
    obtain ⟨ρ, rfl, hrd⟩ := hJp0
    refine hGx ?_
    rintro hoL hoD x
    obtain ⟨word, hwi⟩ : ∃ word, words[i]? = some word := ⟨_, List.getElem?_eq_getElem (by rw [← hlen]; exact hi)⟩
    obtain ⟨t, hvt⟩ := ha.at hwi
    rw [hv] at hvt
    cases hvt
    refine r_assign x fun s x => ?_
    refine wpAny_tests_nil ?_
    rw [if_pos rfl]
    refine r_name x (upd_eq _ _ _) ?_
    have G' := G.le hle4
    refine wpAny_Call_NameR (r_glob G' x rfl ?_)
    refine callWith_K (G'.in x.st) (by rfl) ?_
    refine sp_one (List_ (sp_one (r_name x (upd_eq _ _ _) (m_lst x (by rw [line24]; exact (by decide : 1 ≤ 16777216)) fun g2 a s l2 hla x => ?_))))
    refine ⟨(G'.le l2).in x.st, ?_⟩
    refine ignore_new (ws := words) (G'.le l2) x hA hla fun g3 s ix ig oig l3 x hrd2 hnt => ?_
    refine hX1 _ _ _ ?_
    refine ⟨word, t, g3, _, _, rfl, l2.trans l3, ⟨ρ ++ [(ig, oig)], rfl, ?_⟩, x.perm ?_⟩
    · have hnm : word ∉ kvs.map (·.1) := by
        rw [hrd.keys]
        exact not_take nd hwi
      rw [stored_absent (valueAt_none_of_not_mem hnm), List.take_add_one, hwi]
      exact (hrd.le (l2.trans l3)).snoc hrd2 hnt
    · rw [List.append_assoc, List.singleton_append]
      exact (List.perm_middle (l₁ := _ :: _ :: _ :: ρ)).symm
  · rintro D kvs g4 μ' oD s hle4 hJp0
    refine absP fun Gx hGx => ?_
    obtain ⟨ρ, rfl, hrd⟩ := hJp0
    refine hGx ?_
    rintro hoD x
    rw [hlen, List.take_length] at hrd
    obtain ⟨g5, l5, e5, x⟩ := x.frz1
    refine r_storeC x rfl (.app rep1) hR fun s oR' hR' x => ?_
    have x := Fm.perm (ν := (L + 1 + 1 + 1 + 1, oR') :: (L + 1 + 1 + 1 + 1 + 1, oK) :: (L + 1 + 1 + 1, oW) :: (ρ ++ μ)) x (by
      refine List.perm_middle.trans ((List.perm_middle.cons _).trans ?_)
      refine (List.Perm.cons _ (List.Perm.cons _ List.perm_middle)).trans (List.Perm.swap _ _ _))
    obtain ⟨g6, l6, e6, x⟩ := x.frz1
    exact next g6 s ρ D oR' oD kvs (hle4.trans (l5.trans l6)) e6 hR' (l6 _ _ e5) hoD (hrd.le (l5.trans l6)) x
end
end Mine
end
section
set_option maxRecDepth 100000
set_option autoImplicit false
namespace Mine
open PySem PySem.Spec PySem.Calls PyProof.Rows PySem.W PySem.SeqAt
section
variable {oK oR oW oWs oN : Obj} {prog : Program} {w : World} {M : Model} {A : Around} {E : Value → Shared → Prop} {s0 s : Shared} {env : Env} {g : Fz} {L : Addr} {m mg mb : Str → Option Value} {μ : List (Addr × Obj)} {pos : Pos} {n : Str} {v : Value}
inductive AskArg (prog : Program) (w : World) (s0 : Shared) (L : Addr) (m : Str → Option Value) (μ : List (Addr × Obj)) (g : Fz) (f : Obj → List (Addr × Obj)) (word : Str) (all : List Str) (Q : Value → Shared → Prop) (xv : Value) (s3 : Shared) : Prop
  | mk (mod : Str) (u : Tok) (e : xv = .str mod u) (hm : mod ∈ all) (x : Fm g L m μ s0 s3) (h : ∀ g' s' t oig', Le g g' → Fm g' L m (f oig') s0 s' → Noted prog w word all oig' → Q (.int (if ansF word mod then 1 else 0) t) s') : AskArg prog w s0 L m μ g f word all Q xv s3
inductive AskObj (prog : Program) (w : World) (A : Around) (E : Value → Shared → Prop) (s0 : Shared) (env : Env) (e : Expr) (L : Addr) (m : Str → Option Value) (μ : List (Addr × Obj)) (g : Fz) (f : Obj → List (Addr × Obj)) (ix : Addr) (word : Str) (all : List Str) (Q : Value → Shared → Prop) (ov : Value) (s1 : Shared) : Prop
  | mk (eo : ov = .ref ix) (x : Fm g L m μ s0 s1) (h : ∀ s2, Fm g L m μ s0 s2 → wpAny (model prog w) A (eval e env) (AskArg prog w s0 L m μ g f word all Q) E s2) : AskObj prog w A E s0 env e L m μ g f ix word all Q ov s1
theorem r_ask {o e : Expr} {apos p1 : Pos} {ix ig : Addr} {oig : Obj} {word : Str} {all : List Str} {f : Obj → List (Addr × Obj)} {pl : Sem Bool} {Q : Value → Shared → Prop} (G : Gd w mg mb g) (hA : Ok A) (_ : Fm g L m μ s0 s) (rd : Rd w g ix word ig) (r : Rep ig oig μ f) (hn : Noted prog w word all oig) (hz : all.length ≤ 1000)
    (hs : ("<string>" : Str) ∉ all) (hl : word.length ≤ 1000)
    (h : wpAny (model prog w) A (eval o env) (AskObj prog w A E s0 env e L m μ g f ix word all Q) E s)
    (he : eval (.Call (.Attribute o "names" apos) [.Constant (.str "x.py") 0 p1, e] [] pos) env = (do
      let ov ← eval o env
      standAt apos.atName
      let (f, first) ← holding [ov] (getMethod ov "names" pl)
      callWith pos f first (backTo pos (starEach [.Constant (.str "x.py") 0 p1, e] env)) (backToKw pos (keywordEach [] env))) := by rfl) (hst : notStar e = true := by rfl) (hpl : ((backTo pos (starEach [e] env)).any fun x => x.1) = false := by rfl) :
    wpAny (model prog w) A (eval (.Call (.Attribute o "names" apos) [.Constant (.str "x.py") 0 p1, e] [] pos) env) Q E s := by
  refine methodCall_KW (wpAny_mono h (fun ov s1 h1 => ?_) fun _ _ q => q) he
  refine absP fun Gx hGx => ?_
  obtain ⟨rfl, x, h1⟩ := h1
  refine hGx ?_
  refine absP fun Gx hGx => ?_
  obtain ⟨dx, es, k, S, o, dl, e1, e2, e3, e4, e5, e6, e7, e8, e9, e10⟩ := rd.ex
  refine hGx ?_
  refine m_method G x (x.get e1) (x.get e2) (by rfl) (by rfl) (by rfl) e9 ?_
  refine callWith_K (hplain := hpl) (first := [.ref ix]) (G.in x.st) (by rfl) (sp_cons (r_str x fun s t x _ => sp_one (wpAny_mono (h1 _ x) (fun xv s3 h3 => ?_) fun _ _ q => q) hst))
  refine absP fun Gx hGx => ?_
  obtain ⟨mod, u, rfl, hm, x, h3⟩ := h3
  refine hGx ?_
  refine ⟨G.in x.st, wpAny_call ?_⟩
  refine absP fun Gx hGx => ?_
  obtain ⟨oL, nL, y⟩ := x
  refine hGx ?_
  refine names_call G y hA rd (.tail r) hn hz hm hs hl fun g' s' t oig' l y hn' => ?_
  exact h3 g' s' t oig' l ⟨oL, nL, y⟩ hn'
end
end Mine
end
section
set_option maxRecDepth 100000
set_option autoImplicit false
namespace Mine
open PySem PySem.Spec PySem.Calls PyProof.Rows PySem.W PySem.SeqAt
theorem flt_succ {α : Type} (p : α → Bool) {xs : List α} {i : Nat} {x : α} (h : xs[i]? = some x) : (xs.take (i + 1)).filter p = (xs.take i).filter p ++ if p x then [x] else [] := by
  rw [List.take_add_one, h, List.filter_append]
  congr 1
  cases hb : p x <;> simp [hb]
theorem isEmpty_of {vs : List Value} {xs : List Str} (h : Are vs xs) : vs.isEmpty = xs.isEmpty := by
  have := h.length
  cases vs <;> cases xs <;> simp_all
section
variable {oK oR oW oWs oN : Obj} {prog : Program} {w : World} {M : Model} {A : Around} {E : Value → Shared → Prop} {s0 s : Shared} {env : Env} {g : Fz} {L : Addr} {m mg mb : Str → Option Value} {μ κ : List (Addr × Obj)} {pos : Pos} {n : Str} {v : Value}
set_option maxHeartbeats 4000000 in
theorem st_tips (G : Gd w mg mb g) {ρ : List (Addr × Obj)} (x : Fm g L m (κ ++ (ρ ++ μ)) s0 s) (hA : Ok A) {lN D : Addr} {names words : List Str} {oD : Obj} {kvs : List (Str × Value)} (hn : Sl g lN names) (en : g (L + 1) = some oN) (hN : oN.data = .cell (some (.ref lN)))
    (eR : g (L + 1 + 1 + 1 + 1) = some oR) (hR : oR.data = .cell (some (.ref D))) (eD : g D = some oD) (hD : oD.IsDictOf (strKind prog w) kvs) (hrd : Rds prog w g words words kvs ρ) (hsub : ∀ y ∈ names, y ∈ words) (hz : names.length ≤ 100) (hwz : words.length ≤ 1000) (hwl : ∀ y ∈ words, y.length ≤ 8) (hns : ("<string>" : Str) ∉ words) {Q : Flow → Shared → Prop}
    (next : ∀ g' s' ρ' D', Le g g' → Sl g' D' (names.filter fun x => (names.filter fun y => !(y == x) && ansF x y).isEmpty) → Rds prog w g' words words kvs ρ' → Fm g' L (upd m "tips" (.ref D')) (κ ++ (ρ' ++ μ)) s0 s' → wpAny (model prog w) A (execs lawB11 (lawE L)) Q NoE s') :
    wpAny (model prog w) A (execs lawB10 (lawE L)) Q NoE s := by
  have hh := hA.hand
  refine wpAny_execs_cons (r_compSet1 (s0 := s0) (xc := "name") (hsw := ?hs2) rfl (fun h => rfl) (fun n acc => rfl) rfl (by decide) rfl rfl ?_)
  case hs2 => rfl
  refine r_cell x rfl (.inl en) hN ?_
  refine absP fun Gx hGx => ?_
  obtain ⟨vs, hl, ha⟩ := hn
  refine hGx ?_
  have hlen := ha.length
  refine src_list hh x hl fun it s S => ?_
  generalize hp : (fun x => (names.filter fun y => !(y == x) && ansF x y).isEmpty) = p at next
  refine ⟨_, _, _, _, _, S, by first | exact Nat.le_trans (by assumption) (by decide) | exact Nat.le_trans (Nat.le_of_eq (by assumption)) (Nat.le_trans (by assumption) (by decide)) | (rw [line24]; omega), fun i ys g' μ' => ∃ ρ', μ' = κ ++ (ρ' ++ μ) ∧ Rds prog w g' words words kvs ρ' ∧ Are ys ((names.take i).filter p), ⟨ρ, rfl, hrd, rfl⟩, ?_, ?_⟩
  · rintro C Dl I i v ys g' μ' mC oI oL nD oc vc s hi hv hle4 Qx1 Qy1 hX1 hY1 hJp0
    refine absP fun Gx hGx => ?_
    obtain ⟨ρ', rfl, hrd', hys⟩ := hJp0
    refine hGx ?_
    rintro hoL hoc x
    obtain ⟨nm, hni⟩ : ∃ nm, names[i]? = some nm := ⟨_, List.getElem?_eq_getElem (by rw [← hlen]; exact hi)⟩
    obtain ⟨t, hvt⟩ := ha.at hni
    rw [hv] at hvt
    cases hvt
    have hnw : nm ∈ words := hsub _ (List.mem_of_getElem? hni)
    have hstep := flt_succ p hni
    have G' := G.le hle4
    refine r_assignC x rfl rep3 hoc fun s oc2 hoc2 x => ?_
    refine wpAny_tests_one (wpAny_isTrue_Compare1 ?_)
    refine r_comp (s0 := s0) rfl (by decide) rfl (by decide) ?_
    refine r_cell x rfl (.inl (hle4 _ _ en)) hN ?_
    refine src_list hh x (hl.le hle4) fun it s S => ?_
    refine ⟨_, _, _, _, _, S, by first | exact Nat.le_trans (by assumption) (by decide) | exact Nat.le_trans (Nat.le_of_eq (by assumption)) (Nat.le_trans (by assumption) (by decide)) | (rw [line24]; omega), fun j ys2 g2 μ2 => ∃ ρ2, μ2 = (I, oI) :: (Dl, listOf ys.toArray nD) :: ((lawE L).locals, oL) :: (C + 1, oc2) :: (κ ++ (ρ2 ++ μ)) ∧ Rds prog w g2 words words kvs ρ2 ∧ Are ys2 ((names.take j).filter fun y => !(y == nm) && ansF nm y), ⟨ρ', rfl, hrd', rfl⟩, ?_, ?_⟩
    · rintro C2 D2 I2 j v2 ys2 g2 μ2 mC2 oI2 oL2 nD2 s hj hv2 hle5 Qx2 Qy2 hX2 hY2 hJp0
      refine absP fun Gx hGx => ?_
      obtain ⟨ρ2, rfl, hrd2, hys2⟩ := hJp0
      refine hGx ?_
      rintro hoL2 x
      obtain ⟨y, hyi⟩ : ∃ y, names[j]? = some y := ⟨_, List.getElem?_eq_getElem (by rw [← hlen]; exact hj)⟩
      obtain ⟨t2, hvt2⟩ := ha.at hyi
      rw [hv2] at hvt2
      cases hvt2
      have hyw : y ∈ words := hsub _ (List.mem_of_getElem? hyi)
      have hstep2 := flt_succ (fun y => !(y == nm) && ansF nm y) hyi
      have l45 := hle4.trans hle5
      have G2 := G.le l45
      refine r_assign x fun s x => ?_
      have hk : upd mC2 "x" (.str y t2) "x" = some (.str y t2) := upd_eq _ _ _
      generalize upd mC2 "x" (.str y t2) = m1 at x hk
      refine wpAny_tests_one (isTrue_and (wpAny_isTrue_Compare1 ?_))
      refine r_name x hk (r_cell x rfl (.inr mem6) hoc2 ?_)
      refine PySem.EqBoolInt.of_rcne (RcNeAt.str_str _ _ _ _) (wpAny_truthy_bool ?_)
      cases hb : (y == nm) with
      | true =>
        rw [Bool.not_true, if_neg (by simp)]
        try dsimp only
        rw [if_neg (by simp)]
        refine hY2 _ ?_
        refine ⟨g2, m1, _, Le.refl _, ⟨ρ2, rfl, hrd2, ?_⟩, x⟩
        rw [hstep2, hb]
        simpa using hys2
      | false =>
        rw [Bool.not_false, if_pos rfl]
        refine absP fun Gx hGx => ?_
        obtain ⟨ix, ig, oig, f, hva, hr1, hr2, hr3, hr4⟩ := hrd2.upd hnw
        refine hGx ?_
        refine isTrue_and (wpAny_isTrue_value (r_ask (word := nm) G2 hA x hr1 (.tail (.tail (.tail (.tail (.tail (.tail (.tail (.app (.left hr3))))))))) hr2 hwz hns (by have := hwl _ hnw; omega) ?_))
        refine Subscript_ (r_cell x rfl (.inl (l45 _ _ eR)) hR (r_cell x rfl (.inr mem6) hoc2 ?_))
        refine m_item x (x.get (l45 _ _ eD)) hD hva fun s x => ?_
        refine ⟨rfl, x, fun s x => r_name x hk ?_⟩
        refine ⟨y, t2, rfl, hyw, x, fun g3 s t3 oig3 hle6 x hn3 => ?_⟩
        refine truthy_int ?_
        cases hans : ansF nm y with
        | false =>
          simp only [Bool.false_eq_true, if_false]
          rw [show ((0 : Int) != 0) = false from rfl, if_neg (by simp)]
          refine hY2 _ ?_
          refine ⟨g3, m1, _, hle6, ⟨f oig3, rfl, (hr4 _ hn3).le hle6, ?_⟩, x⟩
          rw [hstep2, hb, hans]
          simpa using hys2
        | true =>
          simp only [if_true]
          rw [show ((1 : Int) != 0) = true from rfl, if_pos rfl]
          refine isTrue_and_nil ?_
          rw [if_pos rfl]
          refine r_name x hk ?_
          refine hX2 _ _ ?_
          refine ⟨g3, m1, _, hle6, ⟨f oig3, rfl, (hr4 _ hn3).le hle6, ?_⟩, x⟩
          rw [hstep2, hb, hans]
          exact hys2.append (.one _ _)
    · rintro D2 ys2 g2 μ2 nD2 s hle5 hJp0
      refine absP fun Gx hGx => ?_
      obtain ⟨ρ2, rfl, hrd2, hys2⟩ := hJp0
      refine hGx ?_
      rintro x
      rw [hlen, List.take_length] at hys2
      obtain ⟨g3, l3, e3, x⟩ := x.frz1
      refine r_nil x fun D3 s x => ?_
      refine eq_nil (by have := hA.units; omega) ⟨_, x.get e3, rfl, _, rfl⟩ (isListM x.st mem0) (wpAny_truthy_bool ?_)
      rw [isEmpty_of hys2]
      have hpe : p nm = (names.filter fun y => !(y == nm) && ansF nm y).isEmpty := by rw [← hp]
      obtain ⟨g4, l4, e4, x⟩ := x.frz1
      have lt := hle5.trans (l3.trans l4)
      cases hq : (names.filter fun y => !(y == nm) && ansF nm y).isEmpty with
      | true =>
        rw [if_pos rfl]
        refine r_cell x rfl (.inr mem3) hoc2 ?_
        refine hX1 _ _ ?_
        refine ⟨g4, _, _, oc2, _, lt, ⟨ρ2, rfl, hrd2.le (l3.trans l4), ?_⟩, hoc2, x⟩
        rw [hstep, hpe, hq]
        exact hys.append (.one _ _)
      | false =>
        rw [if_neg (by simp)]
        refine hY1 _ ?_
        refine ⟨g4, _, _, oc2, _, lt, ⟨ρ2, rfl, hrd2.le (l3.trans l4), ?_⟩, hoc2, x⟩
        rw [hstep, hpe, hq]
        simpa using hys
  · rintro Dl ys g4 μ' nD s hle4 hJp0
    refine absP fun Gx hGx => ?_
    obtain ⟨ρ', rfl, hrd', hys⟩ := hJp0
    refine hGx ?_
    rintro x
    rw [hlen, List.take_length] at hys
    obtain ⟨g5, l5, e5, x⟩ := x.frz1
    exact next g5 _ ρ' Dl (hle4.trans l5) ⟨ys, ⟨_, e5⟩, hys⟩ (hrd'.le l5) x
end
end Mine
end
section
set_option maxRecDepth 100000
set_option autoImplicit false
namespace Mine
open PySem PySem.Spec PySem.Calls PyProof.Rows PySem.W PySem.SeqAt
theorem Al.ints {vs : List Value} {ns : List Nat} (h : Al IsN vs ns) : IntsAre vs (ns.map fun (n : Nat) => (n : Int)) := by
  induction h with
  | nil => exact .nil
  | cons a _ ih => obtain ⟨t, rfl⟩ := a; exact .cons _ t ih
theorem topF_max {ns : List Nat} {M : Int} (h1 : M ∈ ((-1 : Int) :: ns.map fun (n : Nat) => (n : Int))) (h2 : ∀ a ∈ ((-1 : Int) :: ns.map fun (n : Nat) => (n : Int)), a ≤ M) : M = topF ns := by
  have hle : topF ns ≤ M := topF_le.mpr ⟨h2 _ (.head _), fun n hn => h2 _ (.tail _ (List.mem_map.mpr ⟨n, hn, rfl⟩))⟩
  have hge : M ≤ topF ns := by
    rcases List.mem_cons.mp h1 with rfl | h
    · exact (topF_le.mp (Int.le_refl _)).1
    · refine absP fun Gx hGx => ?_
      obtain ⟨n, hn, rfl⟩ := List.mem_map.mp h
      refine hGx ?_
      exact le_topF hn
  omega
section
variable {prog : Program} {w : World} {M : Model} {A : Around} {E : Value → Shared → Prop} {s0 s : Shared} {env : Env} {g : Fz} {L : Addr} {m mg mb : Str → Option Value} {μ κ : List (Addr × Obj)} {pos : Pos} {n : Str} {v : Value}
theorem m_index {l : Addr} {vs : List Value} {xs : List Str} {k : Str} {t : Tok} {Q : Value → Shared → Prop} (x : Fm g L m μ s0 s) (hl : s.heap.IsList l vs.toArray) (ha : Are vs xs) (hz : vs.length ≤ sizeLine) (hk : k ∈ xs) (h : ∀ s' u, Fm g L m μ s0 s' → Q (.int (xs.idxOf k : Nat) u) s') :
    wpAny (model prog w) A (call (.builtin "list.index") [.ref l, .str k t]) Q E s := by
  refine absP fun Gx hGx => ?_
  obtain ⟨⟨cls, dd, data, sl⟩, ho, hc, n, hd⟩ := id hl
  refine hGx ?_
  simp only at hc hd
  subst hc hd
  have hlen := ha.length
  rw [line24] at hz
  have hj : xs.idxOf k < xs.length := List.idxOf_lt_length_iff.mpr hk
  have hat : ∀ j (h : j < vs.length), ∃ u, vs[j] = .str (xs[j]'(by first | assumption | exact Nat.le_trans (by assumption) (by decide) | exact Nat.le_trans (Nat.le_of_eq (by assumption)) (Nat.le_trans (by assumption) (by decide)) | omega)) u := by
    intro j h
    obtain ⟨u, hu⟩ := ha.at (List.getElem?_eq_getElem (l := xs) (i := j) (by first | assumption | exact Nat.le_trans (by assumption) (by decide) | exact Nat.le_trans (Nat.le_of_eq (by assumption)) (Nat.le_trans (by assumption) (by decide)) | omega))
    rw [List.getElem?_eq_getElem h] at hu
    exact ⟨u, Option.some.inj hu⟩
  refine call_meets PySem.F.slot_list_index ⟨_, ho, rfl⟩ PySem.F.entry_list_index (PySem.F.args_list_index_2 _ _)
    (list_indexAt l vs.toArray n dd sl (.str k t) (strIs k) (xs.idxOf k) (by simpa [hlen] using hj) (by first | assumption | exact Nat.le_trans (by assumption) (by decide) | exact Nat.le_trans (Nat.le_of_eq (by assumption)) (Nat.le_trans (by assumption) (by decide)) | omega) ?_ ?_) ⟨ho, fun y hy => ?_, h _ _ (x.tok (tk := s.toks + 1))⟩
  · show strIs k vs[xs.idxOf k] = true
    obtain ⟨u, hu⟩ := hat (xs.idxOf k) (by first | assumption | exact Nat.le_trans (by assumption) (by decide) | exact Nat.le_trans (Nat.le_of_eq (by assumption)) (Nat.le_trans (by assumption) (by decide)) | omega)
    rw [hu, List.getElem_idxOf hj]
    simp [strIs]
  · intro j hjs hlt
    have hj2 : j < vs.length := by simpa using hjs
    show strIs k vs[j] = false
    obtain ⟨u, hu⟩ := hat j hj2
    rw [hu]
    have hne := List.not_of_lt_findIdx (p := (· == k)) (xs := xs) hlt
    simpa [strIs] using hne
  · refine absP fun Gx hGx => ?_
    obtain ⟨j, u, _, rfl⟩ := ha.mem (by simpa using hy)
    refine hGx ?_
    exact EqAt.str_str _ _ _ _
theorem m_max {l : Addr} {vs : List Value} {ns : List Int} {Q : Value → Shared → Prop} (x : Fm g L m μ s0 s) (hh : A.handled = none) (hl : s.heap.IsList l vs.toArray) (hi : IntsAre vs ns) (hne : 0 < ns.length)
    (h : ∀ s' M t, Fm g L m μ s0 s' → M ∈ ns → (∀ a ∈ ns, a ≤ M) → Q (.int M t) s') : wpAny (model prog w) A (call (.builtin "max") [.ref l]) Q E s := by
  obtain ⟨xs, e⟩ := hi.allInts.items
  have hns : ns = xs.toList.map (·.1) := by rw [← hi.numsOf, ← nums_intItems, ← e]
  have hsz : 0 < xs.size := by
    have h3 := hne; rw [hns, List.length_map, Array.length_toList] at h3; exact h3
  rw [e] at hl
  refine max_intList hh hl hsz fun v h' tk hv hk => ?_
  obtain ⟨t, rfl⟩ := intItems_at hv
  obtain ⟨h1, h2⟩ := argBest_gt (numAt xs) (xs.size - 1)
  refine h _ _ t (x.keep (tk := tk) hk) ?_ fun a ha => ?_
  · rw [hns, numAt_eq]; exact getD_mem (by rw [List.length_map, Array.length_toList]; omega)
  · rw [hns] at ha
    refine absP fun Gx hGx => ?_
    obtain ⟨j, hj, rfl⟩ := mem_getD ha
    refine hGx ?_
    rw [List.length_map, Array.length_toList] at hj
    rw [← numAt_eq]; exact h2 j (by first | assumption | exact Nat.le_trans (by assumption) (by decide) | exact Nat.le_trans (Nat.le_of_eq (by assumption)) (Nat.le_trans (by assumption) (by decide)) | omega)
theorem m_addL {l b : Addr} {vs ws : List Value} {Q : Value → Shared → Prop} (x : Fm g L m μ s0 s) (hl : s.heap.IsList l vs.toArray) (hb : s.heap.IsList b ws.toArray) (hsz : vs.length + ws.length ≤ sizeLine)
    (h : ∀ s' D, Fm g L m ((D, listOf (vs ++ ws).toArray 0) :: μ) s0 s' → Q (.ref D) s') : wpAny (model prog w) A (binaryOp .Add (.ref l) (.ref b)) Q E s := by
  refine absP fun Gx hGx => ?_
  obtain ⟨⟨cls, dd, data, sl⟩, ho, hc, n, hd⟩ := id hl
  refine hGx ?_
  refine absP fun Gx hGx => ?_
  obtain ⟨⟨cls2, dd2, data2, sl2⟩, ho2, hc2, n2, hd2⟩ := id hb
  refine hGx ?_
  simp only at hc hd hc2 hd2
  subst hc hd hc2 hd2
  have e : vs.toArray ++ ws.toArray = (vs ++ ws).toArray := by simp
  refine concat_meets ⟨_, ho, rfl⟩ ⟨_, ho2, rfl⟩ noFill_list_add seq_list_add PySem.F.slot_list_add PySem.F.entry_list_add (PySem.F.args_list_add_2 _ _) (list_addW l b vs.toArray ws.toArray n n2 dd dd2 sl sl2 (by simpa using hsz)) ⟨ho, ho2, ?_⟩
  rw [e]
  exact h _ _ (x.newM (tk := s.toks) (push_keeps _ _) (size_none _) (Heap.get?_push_size _ rfl))
theorem m_update {d b : Addr} {o ob : Obj} {kvs more : List (Str × Value)} {f : Obj → List (Addr × Obj)} {Q : Value → Shared → Prop} (x : Fm g L m μ s0 s) (r : Rep d o μ f) (ho : o.IsDictOf (strKind prog w) kvs) (eb : s.heap.get? b = some ob) (hb : ob.IsDictOf (strKind prog w) more) (hne : d ≠ b) (hbs : (b == sysModules) = false)
    (hz : kvs.length + more.length ≤ sizeLine) (h : ∀ o' s', o'.IsDictOf (strKind prog w) (merged kvs more) → Fm g L m (f o') s0 s' → Q .none s') : wpAny (model prog w) A (call (.builtin "dict.update") [.ref d, .ref b]) Q E s := by
  have hD : s.heap.DictOf (strKind prog w) d kvs := Heap.dictOf_iff.mpr ⟨o, x.gets r.mem, ho⟩
  refine call_meetsIn PySem.F.slot_dict_update hD.typeIs PySem.F.entry_dict_update (PySem.F.args_dict_update_2 _ _) (meets_dict_update (strKind prog w) d b hne hbs)
    ⟨kvs, more, hD, Heap.dictOf_iff.mpr ⟨ob, eb, hb⟩, hz, fun h' hmm _ hs => ?_⟩
  refine absP fun Gx hGx => ?_
  obtain ⟨o', ho', hd'⟩ := Heap.dictOf_iff.mp hmm
  refine hGx ?_
  exact h o' _ hd' (x.rep (tk := s.toks) r (same_keeps hs) ho')
theorem r_meth1 {o e : Expr} {name : Str} {id T : String} {apos : Pos} {Q : Value → Shared → Prop} {pl : Sem Bool} (slot : Slot T name id) (hty : typeOf (.builtin id) = pure (.type "method_descriptor")) (hpl0 : PlainAttrs T)
    (h : wpAny (model prog w) A (eval o env) (fun ov s1 => s1.TypeIs ov T ∧ (∀ a, ov = .ref a → s1.heap.NoDictAt (.ref a)) ∧ wpAny (model prog w) A (eval e env) (fun xv s3 => wpAny (model prog w) A (call (.builtin id) [ov, xv]) Q E s3) E s1) E s)
    (he : eval (.Call (.Attribute o name apos) [e] [] pos) env = (do
      let ov ← eval o env
      standAt apos.atName
      let (f, first) ← holding [ov] (getMethod ov name pl)
      callWith pos f first (backTo pos (starEach [e] env)) (backToKw pos (keywordEach [] env))) := by rfl) (hst : notStar e = true := by rfl) (he2 : starEach [e] env = (false, eval e env) :: starEach [] env := by rfl) (hpl : (backTo pos (starEach [] env)).any (·.1) = false := by rfl) :
    wpAny (model prog w) A (eval (.Call (.Attribute o name apos) [e] [] pos) env) Q E s := by
  refine methodCall_KW (wpAny_mono h (fun ov s1 h1 => ?_) fun _ _ q => q) he
  refine absP fun Gx hGx => ?_
  obtain ⟨hT, hd, h1⟩ := h1
  refine hGx ?_
  refine getMethod_builtin hT hpl0 slot hty hd ?_
  refine callWith_method1 (sp_one (wpAny_mono h1 (fun xv s3 h3 => h3) fun _ _ q => q) hst) he2 hpl
end
end Mine
end
section
set_option maxRecDepth 100000
set_option autoImplicit false
namespace Mine
open PySem PySem.Spec PySem.Calls PyProof.Rows PySem.W PySem.SeqAt
section
variable {oK oR oW oWs oN : Obj} {prog : Program} {w : World} {M : Model} {A : Around} {E : Value → Shared → Prop} {s0 s : Shared} {env : Env} {g : Fz} {L : Addr} {m mg mb : Str → Option Value} {μ κ : List (Addr × Obj)} {pos : Pos} {n : Str} {v : Value}
theorem r_dictT {kx vx : Expr} {Q : Value → Shared → Prop} (G : Gd w mg mb g) (x : Fm g L m μ s0 s)
    (h : ∀ D o0 s1, Fm g L m ((D, o0) :: μ) s0 s1 → (D == sysModules) = false → wpAny (model prog w) A (eval kx env) (fun kv s2 => wpAny (model prog w) A (eval vx env) (fun vv s3 => ∃ k t g2 m2 μ2, kv = .str k t ∧ Fm g2 L m2 ((D, o0) :: μ2) s0 s3 ∧
      ∀ o' s', o'.IsDictOf (strKind prog w) [(k, vv)] → Fm g2 L m2 ((D, o') :: μ2) s0 s' → Q (.ref D) s') NoE s2) NoE s1) : wpAny (model prog w) A (eval (.Dict [some kx] [vx] pos) env) Q E s := by
  refine noE (wpAny_Dict_walk (knd := strKind prog w) rfl rfl (by simp) (by simp) ?_)
  have x1 := x.newM (tk := s.toks) (push_keeps s.heap { cls := .type "dict", data := .dict #[] }) (size_none _) (Heap.get?_push_size _ rfl)
  refine absP fun Gx hGx => ?_
  obtain ⟨o0, ho0, hd0⟩ := Heap.dictOf_iff.mp (Heap.DictOf.new (knd := strKind prog w) s.heap)
  refine hGx ?_
  have e0 : o0 = { cls := .type "dict", data := .dict #[] } := Option.some.inj (ho0.symm.trans (Heap.get?_push_size _ rfl))
  refine pairTrees_cons_walk (wpAny_mono (h _ _ _ x1 (G.newAddr x.st)) (fun kv s2 h2 => wpAny_mono h2 (fun vv s3 h3 => ?_) fun _ _ q => q) fun _ _ q => q)
  refine absP fun Gx hGx => ?_
  obtain ⟨k, t, g2, m2, μ2, rfl, x3, h⟩ := h3
  refine hGx ?_
  refine pairTrees_nil_walk ⟨[(k, vv)], ?_, Heap.dictOf_iff.mpr ⟨o0, by rw [e0]; exact x3.gets (.head _), hd0⟩, fun h' hd hs => ?_⟩
  · exact ⟨strKind_is _ _ _ _, rfl, trivial⟩
  · refine absP fun Gx hGx => ?_
    obtain ⟨o', e', d'⟩ := Heap.dictOf_iff.mp hd
    refine hGx ?_
    exact h o' _ (by simpa [merged, stored] using d') (x3.rep .head (same_keeps hs) e')
theorem r_dict0 {Q : Value → Shared → Prop} (G : Gd w mg mb g) (x : Fm g L m μ s0 s) (h : ∀ D o s', o.IsDictOf (strKind prog w) [] → Fm g L m ((D, o) :: μ) s0 s' → Q (.ref D) s') : wpAny (model prog w) A (eval (.Dict [] [] pos) env) Q E s := by
  have x1 := x.newM (tk := s.toks) (push_keeps s.heap { cls := .type "dict", data := .dict #[] }) (size_none _) (Heap.get?_push_size _ rfl)
  refine absP fun Gx hGx => ?_
  obtain ⟨o0, ho0, hd0⟩ := Heap.dictOf_iff.mp (Heap.DictOf.new (knd := strKind prog w) s.heap)
  refine hGx ?_
  have e0 : o0 = { cls := .type "dict", data := .dict #[] } := Option.some.inj (ho0.symm.trans (Heap.get?_push_size _ rfl))
  subst e0
  exact wpAny_Dict_empty (h _ _ _ hd0 x1)
noncomputable def KeysOk (g : Fz) (key : Str → Int × Int) (ws : List Str) (kk : List (Str × Value)) : Prop := kk.map (·.1) = ws ∧ ∀ y ∈ ws, ∃ ta u1 u2, valueAt kk y = some (.ref ta) ∧ Tp g ta [.int (key y).1 u1, .int (key y).2 u2]
theorem KeysOk.le {g g' : Fz} {key : Str → Int × Int} {ws : List Str} {kk : List (Str × Value)} (h : KeysOk g key ws kk) (k : Le g g') : KeysOk g' key ws kk :=
  ⟨h.1, fun y hy => let ⟨ta, u1, u2, a, b⟩ := h.2 y hy; ⟨ta, u1, u2, a, b.le k⟩⟩
theorem KeysOk.snoc {key : Str → Int × Int} {ws : List Str} {kk : List (Str × Value)} (h : KeysOk g key ws kk) {y : Str} (hy : y ∉ ws) {ta : Addr} {u1 u2 : Tok} (ht : Tp g ta [.int (key y).1 u1, .int (key y).2 u2]) : KeysOk g key (ws ++ [y]) (stored kk y (.ref ta)) := by
  have hnm : y ∉ kk.map (·.1) := by rw [h.1]; exact hy
  have hnone := valueAt_none_of_not_mem hnm
  refine ⟨by rw [stored_absent hnone, List.map_append, h.1]; rfl, fun z hz => ?_⟩
  rw [stored_absent hnone]
  rcases List.mem_append.mp hz with hz | hz
  · refine absP fun Gx hGx => ?_
    obtain ⟨tb, v1, v2, a, b⟩ := h.2 z hz
    refine hGx ?_
    refine ⟨tb, v1, v2, ?_, b⟩
    unfold valueAt at a ⊢
    rw [List.find?_append]
    cases hf : List.find? (fun kv => decide (kv.1 = z)) kk with
    | none => rw [hf] at a; cases a
    | some p => rw [hf] at a; exact a
  · rw [List.mem_singleton.mp hz]
    refine ⟨ta, u1, u2, ?_, ht⟩
    unfold valueAt at hnone ⊢
    rw [List.find?_append]
    cases hf : List.find? (fun kv => decide (kv.1 = y)) kk with
    | none => simp
    | some p => rw [hf] at hnone; cases hnone
end
end Mine
end
section
set_option maxRecDepth 100000
set_option autoImplicit false
namespace Mine
open PySem PySem.Spec PySem.Calls PyProof.Rows PySem.W PySem.SeqAt
section
variable {oK oR oW oWs oN : Obj} {prog : Program} {w : World} {M : Model} {A : Around} {E : Value → Shared → Prop} {s0 s : Shared} {env : Env} {g : Fz} {L : Addr} {m mg mb : Str → Option Value} {μ κ : List (Addr × Obj)} {pos : Pos} {n : Str} {v : Value}
theorem noDictL {h : Heap} {l : Addr} {vs : List Value} {k : Nat} (e : h.get? l = some (listOf vs.toArray k)) : h.NoDictAt (.ref l) := ⟨_, e, rfl⟩
theorem noDictD {h : Heap} {d : Addr} {o : Obj} {kvs : List (Str × Value)} (e : h.get? d = some o) (ho : o.IsDictOf (strKind prog w) kvs) : h.NoDictAt (.ref d) := (Heap.dictOf_iff.mpr ⟨o, e, ho⟩).mapOf.noDict d rfl
set_option maxHeartbeats 8000000 in
theorem st_keys (G : Gd w mg mb g) {ρ : List (Addr × Obj)} (x : Fm g L m ((L + 1 + 1 + 1 + 1 + 1, oK) :: (L + 1 + 1 + 1, oW) :: (ρ ++ μ)) s0 s) (hA : Ok A) {lN lW lT D : Addr} {names words tips : List Str} {oD : Obj} {kvs : List (Str × Value)} (hn : Sl g lN names) (en : g (L + 1) = some oN) (hN : oN.data = .cell (some (.ref lN)))
    (hw : Sl g lW words) (ew : g (L + 1 + 1) = some oWs) (hWs : oWs.data = .cell (some (.ref lW))) (mt : m "tips" = some (.ref lT)) (ht : Sl g lT tips)
    (eR : g (L + 1 + 1 + 1 + 1) = some oR) (hR : oR.data = .cell (some (.ref D))) (eD : g D = some oD) (hD : oD.IsDictOf (strKind prog w) kvs) (hrd : Rds prog w g words words kvs ρ) (hsub : ∀ y ∈ names, y ∈ words) (hsub2 : ∀ y ∈ tips, y ∈ names) (hz : names.length ≤ 100) (htz : tips.length ≤ 100) (hwz : words.length ≤ 100) (nd : words.Nodup) (hwl : ∀ y ∈ words, y.length ≤ 8) (hns : ("<string>" : Str) ∉ words)
    (hK : oK.data = .cell none) (hW : oW.data = .cell none) {Q : Flow → Shared → Prop}
    (next : ∀ g' s' m' ρ' Dk oK oDk kk, Le g g' → (∀ y : Str, y ≠ "places" → m' y = m y) → g' (L + 1 + 1 + 1 + 1 + 1) = some oK → oK.data = .cell (some (.ref Dk)) → g' Dk = some oDk → oDk.IsDictOf (strKind prog w) kk →
      KeysOk g' (fun y => (topF ((tips.filter (ansF y)).map fun t => names.idxOf t), -Txt.count y ".")) words kk → Rds prog w g' words words kvs ρ' → Fm g' L m' (ρ' ++ μ) s0 s' → wpAny (model prog w) A (execs lawB13 (lawE L)) Q NoE s') :
    wpAny (model prog w) A (execs lawB11 (lawE L)) Q NoE s := by
  have hh := hA.hand
  generalize hkey : (fun y => (topF ((tips.filter (ansF y)).map fun t => names.idxOf t), -Txt.count y ".")) = key at next
  refine wpAny_execs_cons (wpAny_Assign_Name (r_dict0 G x fun Dk oDk s hDk x => ?_))
  refine r_storeC x rfl rep1 hK fun s oK' hK' x => ?_
  refine absP fun Gx hGx => ?_
  obtain ⟨g1, l1, eK, x⟩ := Fm.frzAt (l1 := [(Dk, oDk)]) x
  refine hGx ?_
  have x : Fm g1 L m ((Dk, oDk) :: (L + 1 + 1 + 1, oW) :: (ρ ++ μ)) s0 s := x
  refine absP fun Gx hGx => ?_
  obtain ⟨vs, hl, ha⟩ := hw.le l1
  refine hGx ?_
  have hlen := ha.length
  refine absP fun Gx hGx => ?_
  obtain ⟨vn, hln, han⟩ := hn.le l1
  refine hGx ?_
  refine absP fun Gx hGx => ?_
  obtain ⟨vt, hlt, hat⟩ := ht.le l1
  refine hGx ?_
  have hlent := hat.length
  have hlenn := han.length
  refine wpAny_execs_cons (r_for (s0 := s0) (r_cell x rfl (.inl (l1 _ _ ew)) hWs (src_list hh x hl fun it s S => ?_)))
  refine ⟨_, _, _, _, _, _, S, fun i g' m' μ' => (∀ y : Str, y ≠ "places" → m' y = m y) ∧ ∃ ρ' oDk oW vW kk, μ' = (Dk, oDk) :: (L + 1 + 1 + 1, oW) :: (ρ' ++ μ) ∧ oW.data = .cell vW ∧ Rds prog w g' words words kvs ρ' ∧ oDk.IsDictOf (strKind prog w) kk ∧ KeysOk g' key (words.take i) kk,
    ⟨fun _ _ => rfl, ρ, oDk, oW, _, [], rfl, hW, hrd.le l1, hDk, rfl, fun _ h => (by cases h)⟩, ?_, ?_⟩
  · rintro i v I g' m' μ' oI s hi hv hle Qx1 hN1 hC1 hB1 hR1 hJp0
    refine absP fun Gx hGx => ?_
    obtain ⟨hm, ρ', oDk, oW, vW, kk, rfl, hoW, hrd', hDk, hkk⟩ := hJp0
    refine hGx ?_
    rintro x
    obtain ⟨word, hwi⟩ : ∃ word, words[i]? = some word := ⟨_, List.getElem?_eq_getElem (by rw [← hlen]; exact hi)⟩
    obtain ⟨t, hvt⟩ := ha.at hwi
    rw [hv] at hvt
    cases hvt
    have hww : word ∈ words := List.mem_of_getElem? hwi
    refine r_assignC x rfl rep2 hoW fun s oW2 hoW2 x => ?_
    have l2 := l1.trans hle
    have G' := G.le l2
    have mt' : m' "tips" = some (.ref lT) := (hm _ (by decide)).trans mt
    refine wpAny_execs_cons (r_compSet (s0 := s0) ?hs2 rfl (by decide) rfl (by decide) rfl rfl ?_)
    case hs2 => rfl
    refine r_name x mt' ?_
    refine src_list hh x (hlt.le hle) fun it s S => ?_
    refine ⟨_, _, _, _, _, S, by first | exact Nat.le_trans (by assumption) (by decide) | exact Nat.le_trans (Nat.le_of_eq (by assumption)) (Nat.le_trans (by assumption) (by decide)) | (rw [line24]; omega), fun j ys g2 μ2 => ∃ ρ2, μ2 = (I, oI) :: (Dk, oDk) :: (L + 1 + 1 + 1, oW2) :: (ρ2 ++ μ) ∧ Rds prog w g2 words words kvs ρ2 ∧ Al IsN ys (((tips.take j).filter (ansF word)).map fun t => names.idxOf t), ⟨ρ', rfl, hrd', .nil⟩, ?_, ?_⟩
    · rintro C2 D2 I2 j v2 ys2 g2 μ2 mC2 oI2 oL2 nD2 s hj hv2 hle5 Qx2 Qy2 hX2 hY2 hJp0
      refine absP fun Gx hGx => ?_
      obtain ⟨ρ2, rfl, hrd2, hys2⟩ := hJp0
      refine hGx ?_
      rintro hoL2 x
      obtain ⟨y, hyi⟩ : ∃ y, tips[j]? = some y := ⟨_, List.getElem?_eq_getElem (by rw [← hlent]; exact hj)⟩
      obtain ⟨t2, hvt2⟩ := hat.at hyi
      rw [hv2] at hvt2
      cases hvt2
      have hyn : y ∈ names := hsub2 _ (List.mem_of_getElem? hyi)
      have hyw : y ∈ words := hsub _ hyn
      have hstep2 := flt_succ (ansF word) hyi
      have l45 := l2.trans hle5
      have G2 := G.le l45
      refine r_assign x fun s x => ?_
      have hk : upd mC2 "tip" (.str y t2) "tip" = some (.str y t2) := upd_eq _ _ _
      generalize upd mC2 "tip" (.str y t2) = m1 at x hk
      refine absP fun Gx hGx => ?_
      obtain ⟨ix, ig, oig, f, hva, hr1, hr2, hr3, hr4⟩ := hrd2.upd hww
      refine hGx ?_
      refine wpAny_tests_one (wpAny_isTrue_value (r_ask (word := word) G2 hA x hr1 (.tail (.tail (.tail (.tail (.tail (.tail (.left hr3))))))) hr2 (by first | assumption | exact Nat.le_trans (by assumption) (by decide) | exact Nat.le_trans (Nat.le_of_eq (by assumption)) (Nat.le_trans (by assumption) (by decide)) | omega) hns (by have := hwl _ hww; omega) ?_))
      refine Subscript_ (r_cell x rfl (.inl (l45 _ _ eR)) hR (r_cell x rfl (.inr mem5) hoW2 ?_))
      refine m_item x (x.get (l45 _ _ eD)) hD hva fun s x => ?_
      refine ⟨rfl, x, fun s x => r_name x hk ?_⟩
      refine ⟨y, t2, rfl, hyw, x, fun g3 s t3 oig3 hle6 x hn3 => ?_⟩
      refine truthy_int ?_
      cases hans : ansF word y with
      | false =>
        simp only [Bool.false_eq_true, if_false]
        rw [show ((0 : Int) != 0) = false from rfl, if_neg (by simp)]
        refine hY2 _ ?_
        refine ⟨g3, m1, _, hle6, ⟨f oig3, rfl, (hr4 _ hn3).le hle6, ?_⟩, x⟩
        rw [hstep2, hans]
        simpa using hys2
      | true =>
        simp only [if_true]
        rw [show ((1 : Int) != 0) = true from rfl, if_pos rfl]
        have lg := hle.trans (hle5.trans hle6)
        obtain ⟨knl, enl⟩ := id (hln.le lg)
        refine r_meth1 PySem.F.slot_list_index PySem.F.type_list_index PySem.F.plainAttrs_list (r_cell x rfl (.inl (lg _ _ (l1 _ _ en))) hN ⟨((hln.le lg).isList x.st).typeIs, fun a e => ?_, r_name x hk ?_⟩)
        · cases e; exact noDictL (x.get enl)
        · refine m_index x ((hln.le lg).isList x.st) han (by first | exact Nat.le_trans (by assumption) (by decide) | exact Nat.le_trans (Nat.le_of_eq (by assumption)) (Nat.le_trans (by assumption) (by decide)) | (rw [line24]; omega)) hyn fun s u x => ?_
          refine hX2 _ _ ?_
          refine ⟨g3, m1, _, hle6, ⟨f oig3, rfl, (hr4 _ hn3).le hle6, ?_⟩, x⟩
          rw [hstep2, hans, if_pos rfl, List.map_append]
          exact hys2.append (.one ⟨u, rfl⟩)
    · rintro D2 ys2 g2 μ2 nD2 s hle5 hJp0
      refine absP fun Gx hGx => ?_
      obtain ⟨ρ2, rfl, hrd2, hys2⟩ := hJp0
      refine hGx ?_
      rintro x
      rw [hlent, List.take_length] at hys2
      obtain ⟨g3, l3, e3, x⟩ := x.frz1
      have mp : upd m' "places" (.ref D2) "places" = some (.ref D2) := upd_eq _ _ _
      have hm2 : ∀ y : Str, y ≠ "places" → upd m' "places" (.ref D2) y = m y := fun y hy => (if_neg hy).trans (hm y hy)
      generalize upd m' "places" (.ref D2) = m3 at x mp hm2
      have l23 := hle5.trans l3
      have G3 := G'.le l23
      have lg := hle.trans l23
      refine wpAny_execs_cons (wpAny_Expr_any (r_meth1 PySem.F.slot_dict_update PySem.F.type_dict_update PySem.F.plainAttrs_dict (r_cell x rfl (.inl (lg _ _ eK)) hK' ⟨(Heap.dictOf_iff.mpr ⟨oDk, x.gets mem1, hDk⟩ : Heap.DictOf (strKind prog w) _ _ _).typeIs, fun a e => ?_, ?_⟩)))
      · cases e; exact noDictD (x.gets mem1) hDk
      refine r_dictT G3 x fun Du o0 s x hsys => ?_
      refine r_cell x rfl (.inr mem3) hoW2 ?_
      refine Tuple_ (sp_cons (wpAny_Call_NameR (r_bi G3 x rfl boot_max ?_)))
      refine cw_bi (sp_one (wpAny_BinOp (List_ (sp_one (wpAny_UnaryOp (r_int x fun s u1 x _ => PySem.P.neg_int (m_lst x.tok (by rw [line24]; exact (by decide : 1 ≤ 16777216)) fun g4 a s l4 hla x => ?_)))))))
      refine r_name x mp ?_
      have hlp : (((tips.filter (ansF word)).map fun t => names.idxOf t)).length ≤ 100 := by rw [List.length_map]; exact Nat.le_trans (List.length_filter_le _ _) htz
      have hys2l := hys2.length
      have hp2 : Lst g4 D2 ys2 := ⟨_, l4 _ _ e3⟩
      refine m_addL x (hla.isList x.st) (hp2.isList x.st) (by rw [line24, List.length_singleton]; omega) fun s D5 x => ?_
      refine m_max x hh (isListM x.st mem0) (IntsAre.cons (-1) _ hys2.ints) (by simp) fun s M t5 x hM1 hM2 => ?_
      have hMt := topF_max hM1 hM2
      obtain ⟨g5, l5, e5, x⟩ := x.frz1
      refine sp_one (wpAny_UnaryOp (Call_method1 rfl rfl rfl (r_cell x rfl (.inr mem3) hoW2 (SB.count (r_str x fun s t6 x _ => ?_)))))
      refine ⟨_, _, rfl, PySem.P.neg_int ?_⟩
      refine m_tuple x.tok.tok (by rw [line24]; exact (by decide : 2 ≤ 16777216)) fun g6 ta s l6 htp x => ?_
      refine ⟨word, t, g6, m3, _, rfl, x, fun o' s hdo x => ?_⟩
      have hkl : kk.length ≤ 100 := by
        have := congrArg List.length hkk.1
        rw [List.length_map, List.length_take] at this
        omega
      have hne : Dk ≠ Du := by
        have nd := x.st.nd
        simp only [List.map_cons, List.nodup_cons, List.mem_cons, not_or] at nd
        exact fun q => nd.1.2.1 q.symm
      refine m_update x (.tail (.tail .head)) hDk (x.gets (.head _)) hdo hne hsys (by rw [line24, List.length_singleton]; omega) fun oDk2 s hDk2 x => ?_
      refine wpAny_execs_nil ?_
      obtain ⟨g7, l7, e7, x⟩ := x.frz1
      have lf : Le g' g7 := l23.trans (l4.trans (l5.trans (l6.trans l7)))
      refine hN1 _ ?_
      refine ⟨g7, m3, _, lf, ⟨hm2, ρ2, oDk2, oW2, _, _, rfl, hoW2, hrd2.le (l3.trans (l4.trans (l5.trans (l6.trans l7)))), hDk2, ?_⟩, x⟩
      rw [show merged kk [(word, Value.ref ta)] = stored kk word (.ref ta) from rfl, List.take_add_one, hwi]
      have htp2 := htp.le l7
      rw [hMt] at htp2
      subst hkey
      exact (hkk.le lf).snoc (not_take nd hwi) htp2
  · rintro g' m' μ' s hle hJp0
    refine absP fun Gx hGx => ?_
    obtain ⟨hm, ρ', oDk, oW, vW, kk, rfl, hoW, hrd', hDk, hkk⟩ := hJp0
    refine hGx ?_
    rintro x
    rw [hlen, List.take_length] at hkk
    refine wpAny_execs_nil ?_
    obtain ⟨g2, l2, e2, x⟩ := x.frz1
    obtain ⟨g3, l3, e3, x⟩ := x.frz1
    have l23 := l2.trans l3
    refine next g3 s m' ρ' Dk oK' oDk kk (l1.trans (hle.trans l23)) hm ((hle.trans l23) _ _ eK) hK' (l3 _ _ e2) hDk (hkk.le l23) (hrd'.le l23) x
end
end Mine
end
section
set_option maxRecDepth 100000
set_option autoImplicit false
namespace Mine
open PySem PySem.Spec PySem.Calls PyProof.Rows PySem.W PySem.SeqAt
section
variable {oK oR oW oWs oN : Obj} {prog : Program} {w : World} {M : Model} {A : Around} {E : Value → Shared → Prop} {s0 s : Shared} {env : Env} {g : Fz} {L : Addr} {m mg mb : Str → Option Value} {μ κ : List (Addr × Obj)} {pos : Pos} {n : Str} {v : Value}
theorem code145 (G : Gd w mg mb g) : CodeF g 145 143 := ⟨_, _, _, _, _, _, _, _, _, G.kin 145 _ rfl, rfl, rfl, rfl, rfl, rfl, rfl, rfl, rfl, by decide⟩
set_option maxHeartbeats 8000000 in
theorem st_rank (G : Gd w mg mb g) {ρ : List (Addr × Obj)} (x : Fm g L m (ρ ++ (23, tabObj #[]) :: (143, tabObj #[]) :: μ) s0 s) (hA : Ok A) {Q : Flow → Shared → Prop}
    (next : ∀ g' s' C fa T1 T2, Le g g' → KFacts g' C fa → IsLam g' fa (L + 1 + 1 + 1 + 1 + 1) → Fm g' L (upd m "rank" (.ref C)) (ρ ++ (23, tabObj T1) :: (143, tabObj T2) :: μ) s0 s' → wpAny (model prog w) A (execs lawB14 (lawE L)) Q NoE s') :
    wpAny (model prog w) A (execs lawB13 (lawE L)) Q NoE s := by
  have hh := hA.hand
  refine wpAny_execs_cons (wpAny_Assign_Name ?_)
  refine absP fun Gx hGx => ?_
  obtain ⟨oL, nL, y⟩ := id x
  refine hGx ?_
  refine r_def G x rfl (by rfl) (by rfl) (by rfl) (sp_one (m_lam (ps := #[]) G y rfl rfl rfl (code145 G) (.tail (.app (.tail .head))) trivial rfl rfl ?_))
  intro g' s c' ctv fa l hC hfa y
  have x : Fm g' L m (ρ ++ (23, tabObj #[]) :: (143, tabObj (#[] ++ #[rawInt _, rawInt _, .ref c'])) :: μ) s0 s := ⟨oL, nL, y⟩
  refine ⟨g', G.le l, ⟨_, _, _, x⟩, ?_⟩
  have hlam : IsLam g' fa (L + 1 + 1 + 1 + 1 + 1) := ⟨_, _, _, _, _, _, _, _, _, _, _, _, _, _, hfa, hC, fun a b => rfl, by decide, rfl, rfl, rfl, rfl, rfl, rfl, rfl⟩
  refine ctk (G.le l) (y.perm (List.perm_middle (l₁ := (L, oL) :: ρ))) hA fun g2 s C T l2 kf y2 => ?_
  have x : Fm g2 L m (ρ ++ (23, tabObj T) :: (143, tabObj (#[] ++ #[rawInt _, rawInt _, .ref c'])) :: μ) s0 s := ⟨oL, nL, y2.perm (List.perm_middle (l₁ := (L, oL) :: ρ)).symm⟩
  refine r_store x rfl rfl fun s x => ?_
  exact next g2 s C fa T _ (l.trans l2) kf (hlam.le l2) x
end
end Mine
end
section
set_option maxRecDepth 100000
set_option autoImplicit false
namespace Mine
open PySem PySem.Spec PySem.Calls PyProof.Rows PySem.W PySem.SeqAt
section
variable {prog : Program} {w : World} {M : Model} {A : Around} {E : Value → Shared → Prop} {s0 s : Shared} {g g0 : Fz} {L : Addr} {m mg mb : Str → Option Value} {μ : List (Addr × Obj)} {C fa kS S : Addr} {e1 : Nat}
theorem u_list {a : Addr} {vs : List Value} {n : Nat} {fu : Array Value → Array Value} {f : Obj → List (Addr × Obj)} {Q : Unit → Shared → Prop} (x : Fm g L m μ s0 s) (r : Rep a (listOf vs.toArray n) μ f) (hz : vs.length ≤ 64) (hz2 : (fu vs.toArray).size ≤ 64)
    (h : ∀ s' k, Fm g L m (f (listOf (fu vs.toArray) k)) s0 s' → Q () s') : wpAny M A (Builtin.List.listUpdate (.ref a) fu) Q E s := by
  refine listUpdate_at (x.gets r.mem) rfl (h _ _ (x.rep (tk := s.toks) r (same_keeps (Heap.SameBut.update s.heap a (Obj.mapSeq fu))) (get?_update_seq (x.gets r.mem) fu))) (by rw [List.size_toArray, sizeLine_eq]; omega) (by rw [sizeLine_eq]; omega)
theorem m_sorted1 {lw : Addr} {v : Value} {Q : Value → Shared → Prop} (G : Gd w mg mb g) (x : Fm g L m μ s0 s) (hh : A.handled = none) (hd : A.depth ≤ 960) (hu : A.units ≤ 9600) (hlw : Lst g lw [v]) (kf : KFacts g C fa)
    (h : ∀ g' s' S k, Le g g' → Fm g' L m ((S, listOf ([v] : List Value).toArray k) :: μ) s0 s' → Q (.ref S) s') :
    wpAny (model prog w) A (call (.builtin "sorted") [.ref lw] [("key", .ref C)]) Q E s := by
  have hcl : cLine = 9900 := rfl
  have hrl : recursionLimit = 1000 := rfl
  refine call_function_entry_kw kind_sorted plain_sorted entry_sorted (ksk_s1 _ _) ?_
  unfold Builtin.«sorted»
  refine wpAny_bind (m := checkCount "sorted" 1 1 _) (wpAny_pure ?_)
  refine wpAny_bind (collect_list (vs := [v]) (hlw.isList x.st) ?_ (by rw [sizeLine_eq]; exact (by decide : 1 ≤ 16777216)))
  have kp : ∀ b o, s.heap.get? b = some o → ((s.heap.push (seqObj "list" #[] 0)).update s.heap.objs.size (Obj.mapSeq (· ++ ([v] : List Value).toArray))).get? b = some o := fun b o q => by
    have hlt : b < s.heap.objs.size := Heap.lt_size q
    rw [Heap.get?_update_ne _ _ _ _ (Nat.ne_of_lt hlt), Heap.get?_push_ne _ _ _ (Nat.ne_of_lt hlt)]
    exact q
  have x1 := x.keep (tk := s.toks) kp
  generalize (s.heap.push (seqObj "list" #[] 0)).update s.heap.objs.size (Obj.mapSeq (· ++ ([v] : List Value).toArray)) = H1 at x1
  refine wpAny_bind (wpAny_newList ?_ (by rw [sizeLine_eq]; exact (by decide : 1 ≤ 16777216)))
  have x2 := x1.newM (tk := s.toks) (push_keeps H1 { cls := .type "list", dict := none, data := .seq ([v] : List Value).toArray }) (size_none _) (Heap.get?_push_size _ rfl)
  generalize H1.push { cls := .type "list", dict := none, data := .seq ([v] : List Value).toArray } = H2 at x2
  generalize hS : H1.objs.size = S at x2
  have hoL := x2.gets (.head _)
  show wpAny _ _ _ _ _ { s with heap := H2 }
  show wpAny _ _ (holding _ _ >>= _) _ _ _
  dsimp only at hS ⊢
  refine wpAny_bind (wpAny_holding (wpAny_call_entry_kw slot_list_sort ⟨_, hoL, rfl⟩ entry_list_sort ?body (ksk_l1 _ _)))
  case body =>
    have ht' := ksk_t1 C S
    show wpAny (model prog w) A.in1.in1 (Builtin.«list.sort» ⟨[.ref S], [(Str.ofString "key", .ref C)]⟩) _ _ _
    rw [ht']
    unfold ksk_tree
    refine wpAny_bind (listItems_at hoL rfl ?_)
    refine wpAny_bind (u_list x2 .head (by simp) (by simp) fun s kq x => ?_)
    refine wpAny_bind (seqEpoch_at (x.gets (.head _)) rfl ?_)
    refine wpAny_bind (wpAny_newTuple ?_ (by show 1 ≤ _; rw [sizeLine_eq]; decide))
    have x := x.keep (tk := s.toks) (push_keeps s.heap { cls := .type "tuple", dict := none, data := .seq ([v] : List Value).toArray })
    refine wpAny_bind (wpAny_newList ?_ (Nat.zero_le _))
    have x := x.newM (tk := s.toks) (push_keeps _ { cls := .type "list", dict := none, data := .seq ([] : List Value).toArray }) (size_none _) (Heap.get?_push_size _ rfl)
    refine wpAny_holding ?_
    dsimp only at x ⊢
    generalize hkS : (s.heap.push { cls := .type "tuple", dict := none, data := .seq ([v] : List Value).toArray }).objs.size = kS at x ⊢
    generalize (s.heap.push { cls := .type "tuple", dict := none, data := .seq ([v] : List Value).toArray }).push { cls := .type "list", dict := none, data := .seq ([] : List Value).toArray } = H3 at x ⊢
    unfold ksk_rest
    refine wpAny_bind (wpAny_rule ?_)
    rw [List.forIn_toArray, List.forIn_cons]
    refine absP fun Gx hGx => ?_
    obtain ⟨N, p, ini, lt, oC, oN, op, k, eC, eN, ep, hI, hL⟩ := id kf
    refine hGx ?_
    refine absP fun Gx hGx => ?_
    obtain ⟨oL, nL, y⟩ := x
    refine hGx ?_
    refine wpAny_bind (wpAny_bind (wpAny_bind (wpAny_attempt (wpAny_call (k_make (prog := prog) (A := A.in1.in1) G y ⟨(show A.in1.in1.handled = none from hh), by have h1 : A.in1.in1.units = A.units + 2 := rfl; omega, by have h1 : A.in1.in1.depth = A.depth := rfl; omega⟩ k eC eN ep hI fun g' s' ix dx hle' y' k1 k2 => ?_)))))
    have x : Fm g' L m _ s0 s' := ⟨oL, nL, y'⟩
    dsimp only
    refine wpAny_bind (u_list (vs := []) x .head (by simp) (by simp) fun s k3 x => ?_)
    refine wpAny_pure ?_
    dsimp only
    rw [List.forIn_nil]
    refine wpAny_pure ?_
    refine wpAny_bind (listItems_at (x.gets (.head _)) rfl ?_)
    unfold ksk_end
    dsimp only
    rw [if_neg (by decide), if_pos (by simp), if_pos (by simp)]
    refine wpAny_bind (wpAny_pure ?_)
    refine wpAny_bind (wpAny_pure ?_)
    dsimp only
    unfold ksk_tail
    dsimp only
    have hout : (Array.map (fun x : Value × Value => x.2) (arrOf (SortSt.mk' general' (if false = true then ((#[].push (Value.ref ix)).zip ([v] : List Value).toArray).reverse else (#[].push (Value.ref ix)).zip ([v] : List Value).toArray) #[] 7 none))) = ([v] : List Value).toArray := by
      show Array.map (fun x : Value × Value => x.2) ((#[].push (Value.ref ix)).zip ([v] : List Value).toArray) = _
      simp
    refine wpAny_bind (u_list (vs := [.ref ix]) x .head (by simp) (by simp) fun s k4 x => ?_)
    refine wpAny_bind (wpAny_letGo ?_)
    refine wpAny_bind (seqEpoch_at (x.gets mem1) rfl ?_)
    refine wpAny_bind (u_list (vs := []) x (.tail .head) (by simp) (by rw [if_neg (by decide), hout]; exact (by decide : 1 ≤ 64)) fun s k5 x => ?_)
    rw [bne_self_eq_false, if_neg (by decide)]
    refine wpAny_pure ⟨_, rfl, wpAny_pure ⟨_, rfl, ?_⟩⟩
    refine h g' s S k5 hle' ?_
    have x := x.tl
    rw [if_neg (by decide), hout] at x
    exact x
end
end Mine
end
section
set_option maxRecDepth 100000
set_option autoImplicit false
namespace Mine
open PySem PySem.Spec PySem.Calls PyProof.Rows PySem.W PySem.SeqAt
section
variable {oK oR oW oWs oN : Obj} {prog : Program} {w : World} {M : Model} {A : Around} {E : Value → Shared → Prop} {s0 s : Shared} {env : Env} {g : Fz} {L : Addr} {m mg mb : Str → Option Value} {μ κ : List (Addr × Obj)} {pos : Pos} {n : Str} {v : Value}
theorem m_sortedA {fa C : Addr} {ws T : List Str} {lw ck D : Addr} {oc oD : Obj} {kvs : List (Str × Value)} {key : Str → Int × Int} {Q : Value → Shared → Prop} (G : Gd w mg mb g) (x : Fm g L m μ s0 s) (hh : A.handled = none) (hd : A.depth ≤ 960) (hu : A.units ≤ 9600) (hlw : Sl g lw ws) (h1 : 1 ≤ ws.length) (h64 : ws.length < 64) (kf : KFacts g C fa)
    (il : IsLam g fa ck) (ec : g ck = some oc) (hc : oc.data = .cell (some (.ref D))) (eD : g D = some oD) (hD : oD.IsDictOf (strKind prog w) kvs)
    (hkv : ∀ y ∈ ws, ∃ ta u1 u2, valueAt kvs y = some (.ref ta) ∧ Tp g ta [.int (key y).1 u1, .int (key y).2 u2]) (nd : ws.Nodup) (tot : ∀ a ∈ ws, ∀ b ∈ ws, a = b ∨ keyLt (key a) (key b) ∨ keyLt (key b) (key a))
    (hT : ∀ out : List Str, out.Perm ws → out.Pairwise (fun a b => ¬ keyLt (key b) (key a)) → out = T)
    (h : ∀ g' s' S, Le g g' → Sl g' S T → Fm g' L m μ s0 s' → Q (.ref S) s') :
    wpAny (model prog w) A (call (.builtin "sorted") [.ref lw] [("key", .ref C)]) Q E s := by
  by_cases h2 : 2 ≤ ws.length
  · refine m_sorted G x hh hd hu hlw h2 h64 kf il ec hc eD hD hkv nd tot fun g' s' S k vs out l ha hp hs x => ?_
    obtain ⟨g2, l2, e2, x⟩ := x.frz1
    rw [hT out hp hs] at ha
    exact h g2 s' S (l.trans l2) ⟨vs, ⟨_, e2⟩, ha⟩ x
  · refine absP fun Gx hGx => ?_
    obtain ⟨vs, hl, ha⟩ := hlw
    refine hGx ?_
    obtain ⟨wd, rfl⟩ : ∃ wd, ws = [wd] := by
      cases ws with
      | nil => simp at h1
      | cons a r =>
        cases r with
        | nil => exact ⟨a, rfl⟩
        | cons b r => simp at h2
    obtain ⟨v, rfl⟩ : ∃ v, vs = [v] := by
      have := ha.length
      cases vs with
      | nil => simp at this
      | cons a r =>
        cases r with
        | nil => exact ⟨a, rfl⟩
        | cons b r => simp at this
    refine m_sorted1 G x hh hd hu hl kf fun g' s' S k l x => ?_
    obtain ⟨g2, l2, e2, x⟩ := x.frz1
    have e : [wd] = T := hT [wd] (List.Perm.refl _) (List.pairwise_singleton _ _)
    exact h g2 s' S (l.trans l2) ⟨[v], ⟨_, e2⟩, by rw [← e]; exact ha⟩ x
set_option maxHeartbeats 8000000 in
theorem st_sorted (G : Gd w mg mb g) (x : Fm g L m μ s0 s) (hA : Ok A) (hd : A.depth ≤ 960) (hu : A.units ≤ 9600) {lW Dk C fa lT : Addr} {words T : List Str} {oDk : Obj} {kk : List (Str × Value)} {key : Str → Int × Int}
    (hw : Sl g lW words) (ew : g (L + 1 + 1) = some oWs) (hWs : oWs.data = .cell (some (.ref lW))) (eK : g (L + 1 + 1 + 1 + 1 + 1) = some oK) (hK : oK.data = .cell (some (.ref Dk))) (eDk : g Dk = some oDk) (hDk : oDk.IsDictOf (strKind prog w) kk) (hkk : KeysOk g key words kk)
    (kf : KFacts g C fa) (il : IsLam g fa (L + 1 + 1 + 1 + 1 + 1)) (mr : m "rank" = some (.ref C)) (mt : m "told" = some (.ref lT)) (hlT : Sl g lT T) (h1 : 1 ≤ words.length) (h64 : words.length < 64) (nd : words.Nodup)
    (tot : ∀ a ∈ words, ∀ b ∈ words, a = b ∨ keyLt (key a) (key b) ∨ keyLt (key b) (key a)) (hT : ∀ out : List Str, out.Perm words → out.Pairwise (fun a b => ¬ keyLt (key b) (key a)) → out = T) {Q : Flow → Shared → Prop}
    (next : ∀ g' s', Le g g' → Fm g' L m μ s0 s' → wpAny (model prog w) A (execs lawB15 (lawE L)) Q NoE s') :
    wpAny (model prog w) A (execs lawB14 (lawE L)) Q NoE s := by
  have hh := hA.hand
  refine wpAny_execs_cons (wpAny_If (wpAny_isTrue_Compare1 ?_))
  refine wpAny_Call_Name_kw (r_bi G x rfl boot_sorted ?_)
  refine callWith_kw (sp_one (r_cell x rfl (.inl ew) hWs ?_))
  refine wpAny_mono (Q := fun ks s1 => ks = [.ref C] ∧ s1 = s) ?_ (fun ks s1 h => ?_) fun _ _ q => q
  · exact kws_cons (r_name x mr (kws_nil ⟨rfl, rfl⟩))
  · obtain ⟨rfl, rfl⟩ := h
    refine m_sortedA G x hh hd hu hw h1 h64 kf il eK hK eDk hDk hkk.2 nd tot hT fun g' s S l hS x => ?_
    refine r_name x mt ?_
    refine PySem.EqBoolInt.of_rcne (ne_strs (xs := T) (ys := T) (by have := hA.units; omega) (hS.here x.st) ((hlT.le l).here x.st)) (wpAny_truthy_bool ?_)
    rw [show (!(T == T)) = false by simp, if_neg (by simp)]
    exact wpAny_execs_nil (next g' s l x)
end
end Mine
end
section
set_option maxRecDepth 100000
set_option autoImplicit false
namespace Mine
open PySem PySem.Spec PySem.Calls PyProof.Rows PySem.W PySem.SeqAt
section
variable {oK oR oW oWs oN : Obj} {prog : Program} {w : World} {M : Model} {A : Around} {E : Value → Shared → Prop} {s0 s : Shared} {env : Env} {g : Fz} {L : Addr} {m mg mb : Str → Option Value} {μ κ : List (Addr × Obj)} {pos : Pos} {n : Str} {v : Value}
inductive ForAskT (prog : Program) (w : World) (A : Around) (s0 : Shared) (env : Env) (elts : List Expr) (k : Nat) (tp : Pos) (body orelse : List Stmt) (Q : Flow → Shared → Prop) (xv : Value) (s₁ : Shared) : Prop
  | mk (l : Addr) (vs : List Value) (g : Fz) (L : Addr) (m : Str → Option Value) (μ : List (Addr × Obj)) (e : xv = .ref l) (x : Fm g L m μ s0 s₁) (hl : Lst g l vs) (hr : ∀ v ∈ vs, ∃ a, v = .ref a) (J : Nat → Fz → (Str → Option Value) → List (Addr × Obj) → Prop) (h0 : J 0 g m μ)
    (turn : ∀ i v I g' m' μ' oI s', vs[i]? = some v → Le g g' → ∀ Qx : Flow → Shared → Prop, (∀ s3, Nx s0 L I oI g' (J (i + 1)) s3 → Qx .next s3) → (∀ s3, Nx s0 L I oI g' (J (i + 1)) s3 → Qx .cont s3) → (∀ s3, Q .next s3 → Qx .brk s3) → (∀ v s3, Q (.ret v) s3 → Qx (.ret v) s3) → J i g' m' μ' → Fm g' L m' ((I, oI) :: μ') s0 s' →
        wpAny (model prog w) A (assign (.Tuple elts k tp) env v) (fun _ s2 => wpAny (model prog w) A (execs body env) Qx NoE s2) NoE s')
    (done : ∀ g' m' μ' s', Le g g' → J vs.length g' m' μ' → Fm g' L m' μ' s0 s' → wpAny (model prog w) A (execs orelse env) Q NoE s') : ForAskT prog w A s0 env elts k tp body orelse Q xv s₁
theorem r_forT {Q : Flow → Shared → Prop} {elts : List Expr} {k : Nat} {tp : Pos} {iter : Expr} {body orelse : List Stmt} (hh : A.handled = none)
    (h : wpAny (model prog w) A (eval iter env) (ForAskT prog w A s0 env elts k tp body orelse Q) NoE s)
    (hs : ∀ x, foldedSetIterable iter env x = pure x := by intro _; rfl) :
    wpAny (model prog w) A (exec (.For (.Tuple elts k tp) iter body orelse pos) env) Q E s := by
  refine noE (wpAny_For (wpAny_mono h (fun xv s₁ h₁ => ?_) fun _ _ q => q) hs)
  refine absP fun Gx hGx => ?_
  obtain ⟨l, vs, g, L, m, μ, rfl, x, hl, hrefs, J, h0, turn, done⟩ := h₁
  refine hGx ?_
  refine wpAny_pyIter_list (hl.isList x.st) ?_
  obtain ⟨nl, el⟩ := id hl
  have hne : l ≠ s₁.heap.objs.size := fun q => by
    have := x.get el
    rw [q, size_none] at this; cases this
  have W := Walks.list (prog := prog) (w := w) hh s₁.heap.objs.size l hne vs.toArray
  have x1 := x.newM (tk := s₁.toks) (push_keeps s₁.heap { cls := .type "list_iterator", data := .fields #[.ref l, .int 0 0] }) (size_none _) (Heap.get?_push_size _ rfl)
  have hst : (s₁.heap.push { cls := .type "list_iterator", data := .fields #[.ref l, .int 0 0] }).IsListIter s₁.heap.objs.size l 0 ∧ (s₁.heap.push { cls := .type "list_iterator", data := .fields #[.ref l, .int 0 0] }).IsList l vs.toArray := ⟨⟨_, Heap.get?_push_size _ rfl, rfl, rfl⟩, (hl.isList x.st).push _⟩
  generalize s₁.heap.objs.size = I at W x1 hst hne
  refine codeAny_forLoop_any (fun k s' => ∃ i g' m' μ' oI', i ≤ vs.length ∧ k = vs.length + 1 - i ∧ Le g g' ∧ J i g' m' μ' ∧ Fm g' L m' ((I, oI') :: μ') s0 s' ∧ s'.heap.IsListIter I l i ∧ s'.heap.IsList l vs.toArray) ?_ (vs.length + 1)
    ⟨0, g, m, μ, _, Nat.zero_le _, rfl, Le.refl g, h0, x1, hst⟩
  rintro k s' hJp0
  refine absP fun Gx hGx => ?_
  obtain ⟨i, g', m', μ', oI', hi, rfl, hle, hJ, x', hst'⟩ := hJp0
  refine hGx ?_
  by_cases hlt : i < vs.length
  · refine W.item i s' _ _ (by simpa using hlt) hst' fun v h' tk hP hst2 hk => ?_
    have hP' : vs[i]? = some v := by simpa using hP
    refine absP fun Gx hGx => ?_
    obtain ⟨⟨o2, ho2, r2⟩, hst3⟩ := id hst2
    refine hGx ?_
    obtain ⟨a, rfl⟩ := hrefs v (List.mem_of_getElem? hP')
    have x2 : Fm g' L m' ((I, o2) :: μ') s0 { s' with heap := h', toks := tk } := x'.rep .head (fun b ob hb e => hk b ob (by simpa using hb) e) ho2
    refine wpAny_letOwnedTupleGo_listiter (s := { s' with heap := h', toks := tk }) hst2.1 ?_
    refine noE (wpAny_mono (turn i _ I g' m' μ' o2 _ hP' hle (fun f s3 => match f with
        | .next | .cont => Nx s0 L I o2 g' (J (i + 1)) s3
        | .brk => Q .next s3
        | .ret v => Q (.ret v) s3) (fun _ q => q) (fun _ q => q) (fun _ q => q) (fun _ _ q => q) hJ x2) (fun _ s2 h2 => wpAny_mono h2 (fun f s3 h3 => ?_) fun _ _ q => q.elim) fun _ _ q => q.elim)
    have fin : Nx s0 L I o2 g' (J (i + 1)) s3 → ∃ m_1, m_1 < vs.length + 1 - i ∧ ∃ i g' m' μ' oI', i ≤ vs.length ∧ m_1 = vs.length + 1 - i ∧ Le g g' ∧ J i g' m' μ' ∧ Fm g' L m' ((I, oI') :: μ') s0 s3 ∧ s3.heap.IsListIter I l i ∧ s3.heap.IsList l vs.toArray := by
      rintro hJp0
      refine absP fun Gx hGx => ?_
      obtain ⟨g2, m2, μ2, l2, j2, x3⟩ := hJp0
      refine hGx ?_
      exact ⟨vs.length + 1 - (i + 1), by omega, i + 1, g2, m2, μ2, o2, hlt, rfl, hle.trans l2, j2, x3, ⟨o2, x3.gets (.head _), r2⟩, (hl.le (hle.trans l2)).isList x3.st⟩
    cases f with
    | next => exact fin h3
    | cont => exact fin h3
    | brk => exact h3
    | ret v => exact h3
  · have hin : i = vs.length := by omega
    subst hin
    refine W.done s' _ _ (by simpa using hst') fun h' tk hk => ?_
    exact noE (done g' m' μ' _ hle hJ (x'.drop1 fun b ob hb e => hk b ob (by simpa using hb) e))
theorem r_assign2 {n1 n2 : Str} {p1 p2 tp : Pos} {k : Nat} {ta : Addr} {v1 v2 : Value} {Q : Unit → Shared → Prop} (hh : A.handled = none) (x : Fm g env.locals m μ s0 s) (ht : Tp g ta [v1, v2]) (h : ∀ s', Fm g env.locals (upd (upd m n1 v1) n2 v2) μ s0 s' → Q () s')
    (hk : env.scope.kind = .function := by rfl) (hl1 : env.kindOf n1 = some .local := by rfl) (hl2 : env.kindOf n2 = some .local := by rfl) : wpAny (model prog w) A (assign (.Tuple [.Name n1 p1, .Name n2 p2] k tp) env (.ref ta)) Q E s := by
  refine assign_Tuple_tuple (items := ([v1, v2] : List Value).toArray) hh (ht.isTup x.st) rfl rfl fun h' he => ?_
  have x1 := x.keep (tk := s.toks) (h' := h') fun b o e => he b o (Nat.ne_of_lt (Heap.lt_size e)) e
  refine assignInOrder_cons (r_assign x1 (fun s x => assignInOrder_cons (r_assign x (fun s x => assignInOrder_nil (h _ x)) hk hl2)) hk hl1)
end
end Mine
end
section
set_option maxRecDepth 100000
set_option autoImplicit false
namespace Mine
open PySem PySem.Spec PySem.Calls PyProof.Rows PySem.W PySem.SeqAt
section
variable {prog : Program} {w : World} {M : Model} {A : Around} {E : Value → Shared → Prop} {s0 s : Shared} {env : Env} {g : Fz} {L : Addr} {m mg mb : Str → Option Value} {μ κ : List (Addr × Obj)} {pos : Pos} {n : Str} {v : Value}
theorem m_catch {oL : Obj} {e : Addr} {a0 : Value} {base : Heap} {p hp : Pos} {b₀ : Stmt} {suite : List Stmt} {Q : Flow → Shared → Prop} (G : Gd w mg mb g) (hfr : A.frames = some [env]) (hf0 : env.frame = some L) (nL : NsO oL m) (y : St g ((L, oL) :: μ) s0 s) (hfl : Heap.FlyingW base [env] e (.type "RuntimeError") a0 s.heap)
    (hg : ∀ b o, g b = some o → base.get? b = some o) (hm : ∀ p ∈ μ, base.get? p.1 = some p.2)
    (h : ∀ s', Fm g L m μ s0 s' → wpAny (model prog w) (A.mark (some (.ref e))) (execs (b₀ :: suite) env) Q NoE s')
    (hk : env.scope.kind = .function := by rfl) (hgl : env.globals = mainGlobals := by rfl) (hbu : env.builtins = builtinsNs := by rfl) (hx : env.kindOf "RuntimeError" = some .globalImplicit := by rfl) :
    wpAny (model prog w) A (noteFrame (.ref e) env) (fun _ s₂ => wpAny (model prog w) A (setFlight (.ref e) none) (fun _ s₃ => wpAny (model prog w) A (handleBy (.ref e) env [.ExceptHandler (some (.Name "RuntimeError" p)) none (b₀ :: suite) hp]) Q E s₃) E s₂) E s := by
  have hoL := noFields_of_ns nL
  refine wpAny_looks_onW hfr hf0 hfl fun h1 hH hup => ?_
  obtain ⟨sl, y1⟩ := y.flown hH.1 hup hg hm hoL
  refine wpAny_landsW hH fun h2 hF2 hup2 => ?_
  obtain ⟨sl2, y2⟩ := y1.flown hF2.1 hup2 hg hm hoL
  have x2 : Fm g L m μ s0 { s with heap := h2 } := ⟨_, (nL.slots sl).slots sl2, y2⟩
  refine absP fun Gx hGx => ?_
  obtain ⟨ob, hob, hobc⟩ := hF2.there
  refine hGx ?_
  refine wpAny_handleBy_builtin (X := "RuntimeError") (T := "RuntimeError") (b := true) (isSubtype_of_subB (by decide +kernel)) (isSubtype_of_subB (by decide +kernel)) (isSubtype_of_subB (by decide +kernel)) (r_bi G x2 rfl PyProof.Rows.Boot.«RuntimeError» ⟨rfl, ⟨ob, hob, hobc⟩, ?_⟩ (hk := hk) (hg := hgl) (hb := hbu) (hx := hx))
  rw [if_pos rfl]
  refine lands_againW hF2 fun h3 hF3 hup3 => ?_
  obtain ⟨sl3, y3⟩ := y2.flown hF3.1 hup3 hg hm hoL
  exact noE (h _ ⟨_, ((nL.slots sl).slots sl2).slots sl3, y3⟩)
end
end Mine
end
section
set_option maxRecDepth 100000
set_option autoImplicit false
namespace Mine
open PySem PySem.Spec PySem.Calls PyProof.Rows PySem.W PySem.SeqAt
noncomputable def forBody : List Stmt → List Stmt
  | .For _ _ b _ _ :: _ => b
  | _ => []
noncomputable def outB : List Stmt := forBody lawB15
noncomputable def inB : List Stmt := forBody (outB.drop 2)
noncomputable def inB1 : List Stmt := inB.drop 1
noncomputable def inB2 : List Stmt := inB.drop 2
noncomputable def inB5 : List Stmt := inB.drop 5
noncomputable def inB6 : List Stmt := inB.drop 6
end Mine
end
section
set_option maxRecDepth 100000
set_option autoImplicit false
namespace Mine
open PySem PySem.Spec PySem.Calls PyProof.Rows PySem.W PySem.SeqAt
section
variable {oK oR oW oWs oN : Obj} {prog : Program} {w : World} {M : Model} {A : Around} {E : Value → Shared → Prop} {s0 s : Shared} {env : Env} {g : Fz} {L : Addr} {m mg mb : Str → Option Value} {μ κ : List (Addr × Obj)} {pos : Pos} {n : Str} {v : Value}
theorem m_lstM {vs : List Value} {Q : Value → Shared → Prop} (x : Fm g L m μ s0 s) (hz : vs.length ≤ sizeLine) (h : ∀ D s', Fm g L m ((D, listOf vs.toArray 0) :: μ) s0 s' → Q (.ref D) s') : wpAny (model prog w) A (newList vs) Q E s :=
  wpAny_newList (h _ _ (x.newM (tk := s.toks) (push_keeps _ _) (size_none _) (Heap.get?_push_size _ rfl))) hz
set_option maxHeartbeats 8000000 in
theorem st_try (G : Gd w mg mb g) (x : Fm g L m μ s0 s) (hA : Ok A) (hfr : A.frames = some [lawE L]) {dR lW lG : Addr} {R : List (List Str)} {words T : List Str} {k1 k2 : Nat} {t1 t2 : Tok} {w1 w2 : Str} {bar : Bool}
    (mr : m "rows" = some (.ref dR)) (hr : Ll g dR R) (hz : R.length ≤ 99) (hz2 : ∀ r ∈ R, r.length ≤ 100) (mf : m "first" = some (.int (k1 : Nat) t1)) (ml : m "last" = some (.int (k2 : Nat) t2)) (mrf : m "refused" = some (.bool false)) (mgo : m "got" = some (.ref lG)) (hG : Sl g lG [])
    (hw : Sl g lW words) (ew : g (L + 1 + 1) = some oWs) (hWs : oWs.data = .cell (some (.ref lW))) (hwz : words.length ≤ 1000) (e1 : words[k1]? = some w1) (e2 : words[k2]? = some w2) (htot : total (R ++ [[w1, w2]]) < 1000) (hc3 : c3F 1000 (R ++ [[w1, w2]]) [] = if bar then none else some T) {Q : Flow → Shared → Prop}
    (next : ∀ g' m' s' lG', Le g g' → (∀ y : Str, y ≠ "got" → y ≠ "refused" → m' y = m y) → m' "refused" = some (.bool bar) → m' "got" = some (.ref lG') → Sl g' lG' (if bar then [] else T) → Fm g' L m' μ s0 s' → wpAny (model prog w) A (execs inB6 (lawE L)) Q NoE s') :
    wpAny (model prog w) A (execs inB5 (lawE L)) Q NoE s := by
  have hh := hA.hand
  refine absP fun Gx hGx => ?_
  obtain ⟨vw, hlw, haw⟩ := hw
  refine hGx ?_
  obtain ⟨u1, hv1⟩ := haw.at e1
  obtain ⟨u2, hv2⟩ := haw.at e2
  have hk1 : k1 < 1000 := by have := (List.getElem?_eq_some_iff.mp e1).1; omega
  have hk2 : k2 < 1000 := by have := (List.getElem?_eq_some_iff.mp e2).1; omega
  refine wpAny_execs_cons (wpAny_Try_except ?_)
  refine wpAny_execs_cons (wpAny_Assign_Name ?_)
  refine r_def G x rfl (by rfl) (by rfl) (by rfl) (sp_one (wpAny_BinOp (r_copies G x hh mr hr (by first | assumption | exact Nat.le_trans (by assumption) (by decide) | exact Nat.le_trans (Nat.le_of_eq (by assumption)) (Nat.le_trans (by assumption) (by decide)) | omega) hz2 fun s D ρ cs ct nD hM hct x => ?_)))
  refine List_ (sp_one (List_ (sp_cons (Subscript_ (r_cell x rfl (.inl ew) hWs (r_name x mf (item_at (hlw.isList x.st) rfl (by first | assumption | exact Nat.le_trans (by assumption) (by decide) | exact Nat.le_trans (Nat.le_of_eq (by assumption)) (Nat.le_trans (by assumption) (by decide)) | omega) hv1 ?_)))))))
  refine sp_one (Subscript_ (r_cell x rfl (.inl ew) hWs (r_name x ml (item_at (hlw.isList x.st) rfl (by first | assumption | exact Nat.le_trans (by assumption) (by decide) | exact Nat.le_trans (Nat.le_of_eq (by assumption)) (Nat.le_trans (by assumption) (by decide)) | omega) hv2 ?_))))
  refine m_lstM x (by rw [line24]; exact (by decide : 2 ≤ 16777216)) fun C s x => ?_
  refine m_lst x (by rw [line24]; exact (by decide : 1 ≤ 16777216)) fun g1 B s l1 hB x => ?_
  have hcl : cs.length = R.length := by rw [← hct, List.length_map]
  refine m_addL x (isListM x.st mem1) (hB.isList x.st) (by rw [line24, List.length_map, List.length_singleton]; omega) fun s D5 x => ?_
  obtain ⟨g2, l2, e5, x⟩ := x.frz1
  have hCn : C ∉ cs := by
    have nd := x.st.nd
    rw [List.map_cons, List.map_cons, List.map_append, hM.keys] at nd
    intro hc
    have h1 := (List.nodup_cons.mp nd).1
    exact h1 (.tail _ (List.mem_append_left _ hc))
  have x := Fm.perm (ν := (D, listOf (cs.map Value.ref).toArray nD) :: ((ρ ++ [(C, listOf ([Value.str w1 u1, Value.str w2 u2] : List Value).toArray 0)]) ++ μ)) x (by
    refine (List.Perm.swap _ _ _).trans (List.Perm.cons _ ?_)
    rw [List.append_assoc, List.singleton_append]
    exact List.perm_middle.symm)
  obtain ⟨g3, l3, e6, x⟩ := x.frz1
  have hM2 := hM.snoc hCn (k := 0) (vs := [Value.str w1 u1, Value.str w2 u2]) (xs := [w1, w2]) rfl
  have hct2 : (cs ++ [C]).map (fun b => if b = C then [w1, w2] else ct b) = R ++ [[w1, w2]] := by
    rw [List.map_append, ← hct]
    congr 1
    · refine List.map_congr_left fun b hb => if_neg ?_
      rintro rfl; exact hCn hb
    · simp
  have l13 := l1.trans (l2.trans l3)
  have G3 := G.le l13
  refine ⟨g3, G3, ⟨_, _, _, x⟩, ?_⟩
  have hlst : Lst g3 D5 ((cs ++ [C]).map Value.ref) := ⟨_, by rw [List.map_append]; exact l3 _ _ e5⟩
  refine absP fun Gx hGx => ?_
  obtain ⟨oL, nL, y⟩ := x
  refine hGx ?_
  have hz3 : ∀ c ∈ cs ++ [C], (if c = C then [w1, w2] else ct c).length ≤ 100 := by
    intro c hc
    split
    · exact (by decide : 2 ≤ 100)
    · rename_i hne
      rcases List.mem_append.mp hc with hc | hc
      · exact hz2 _ (hct ▸ List.mem_map_of_mem hc)
      · rw [List.mem_singleton] at hc; exact absurd hc hne
  refine c3_call (n := 1000) (μ := μ) G3 hA hfr rfl rfl (noFields nL) (y.perm (List.perm_middle (l₁ := ρ ++ [_])).symm) hM2 hlst (by rw [List.length_append, List.length_singleton]; omega) hz3 (by rw [hct2]; exact htot) (by first | assumption | exact Nat.le_trans (by assumption) (by decide) | exact Nat.le_trans (Nat.le_of_eq (by assumption)) (Nat.le_trans (by assumption) (by decide)) | omega) ?_ ?_
  · intro g4 s D2 told l4 y htold e2
    rw [hct2, hc3] at e2
    have x : Fm g4 L m μ s0 s := ⟨oL, nL, y⟩
    cases bar with
    | true => cases e2
    | false =>
      rw [if_neg (by simp)] at e2
      cases e2
      refine r_store x rfl rfl fun s x => ?_
      refine wpAny_execs_nil (wpAny_execs_nil ?_)
      refine next g4 (upd m "got" (.ref D2)) s D2 (l13.trans l4) (fun y hy _ => ?_) mrf (upd_eq _ _ _) htold x
      exact if_neg hy
  · intro g4 s e t base sl l4 y e2 hfl hg hm
    rw [hct2, hc3] at e2
    cases bar with
    | false => cases e2
    | true =>
      refine m_catch (G3.le l4) hfr rfl (nL.slots sl) y hfl hg hm fun s x => ?_
      refine wpAny_execs_cons (wpAny_Assign_Name (wpAny_Constant_bool (r_store x rfl rfl fun s x => ?_)))
      refine wpAny_execs_nil ?_
      refine next g4 (upd m "refused" (.bool true)) s lG (l13.trans l4) (fun y _ hy => if_neg hy) (upd_eq _ _ _) mgo (hG.le (l13.trans l4)) x
end
end Mine
end
section
set_option maxRecDepth 100000
set_option autoImplicit false
namespace Mine
open PySem PySem.Spec PySem.Calls PyProof.Rows PySem.W PySem.SeqAt
section
variable {oK oR oW oWs oN : Obj} {prog : Program} {w : World} {M : Model} {A : Around} {E : Value → Shared → Prop} {s0 s : Shared} {env : Env} {g : Fz} {L : Addr} {m mg mb : Str → Option Value} {μ κ : List (Addr × Obj)} {pos : Pos} {n : Str} {v : Value}
set_option maxHeartbeats 4000000 in
theorem st_bar (x : Fm g L m μ s0 s) {dN : Addr} {needs : List (List Nat)} {k1 k2 : Nat} {t1 t2 : Tok} {row : List Nat} (mn : m "needs" = some (.ref dN)) (hn : Nll g dN needs) (mf : m "first" = some (.int (k1 : Nat) t1)) (ml : m "last" = some (.int (k2 : Nat) t2))
    (er : needs[k1]? = some row) (hz : needs.length ≤ 100) {Q : Flow → Shared → Prop}
    (next : ∀ s', Fm g L (upd m "barred" (.bool (k1 == k2 || row.contains k2))) μ s0 s' → wpAny (model prog w) A (execs inB1 (lawE L)) Q NoE s') :
    wpAny (model prog w) A (execs inB (lawE L)) Q NoE s := by
  refine absP fun Gx hGx => ?_
  obtain ⟨vn, hln, han⟩ := hn
  refine hGx ?_
  refine absP fun Gx hGx => ?_
  obtain ⟨vr, hvr, ar, rfl, vrs, hlr, har⟩ := han.at er
  refine hGx ?_
  have hk1 : k1 < 100 := by have := (List.getElem?_eq_some_iff.mp er).1; omega
  refine wpAny_execs_cons (wpAny_Assign_Name (BoolOp_or (wpAny_Compare1 (r_name x mf (r_name x ml (PySem.P.eq_int (wpAny_truthy_bool ?_)))))))
  have e : ((k1 : Int) == (k2 : Int)) = (k1 == k2) := by
    rw [Bool.eq_iff_iff, beq_iff_eq, beq_iff_eq]; omega
  rw [e]
  cases hb : k1 == k2 with
  | true =>
    rw [if_pos rfl]
    rw [hb] at next
    exact r_store x rfl rfl fun s x => next s x
  | false =>
    rw [if_neg (by simp)]
    rw [hb] at next
    refine BoolOp_one (wpAny_Compare1 (r_name x ml (Subscript_ (r_name x mn (r_name x mf (item_at (hln.isList x.st) rfl (by first | assumption | exact Nat.le_trans (by assumption) (by decide) | exact Nat.le_trans (Nat.le_of_eq (by assumption)) (Nat.le_trans (by assumption) (by decide)) | omega) hvr ?_))))))
    refine in_nums (hlr.isList x.st) har ?_
    exact r_store x rfl rfl fun s x => next s x
set_option maxHeartbeats 4000000 in
theorem st_asked (G : Gd w mg mb g) (hA : Ok A) {ρ : List (Addr × Obj)} (x : Fm g L m (κ ++ (ρ ++ μ)) s0 s) {lW D : Addr} {oD : Obj} {kvs : List (Str × Value)} {words : List Str} {k1 k2 : Nat} {t1 t2 : Tok} {w1 w2 : Str} {bar : Bool}
    (hrd : Rds prog w g words words kvs ρ) (eR : g (L + 1 + 1 + 1 + 1) = some oR) (hR : oR.data = .cell (some (.ref D))) (eD : g D = some oD) (hD : oD.IsDictOf (strKind prog w) kvs)
    (mf : m "first" = some (.int (k1 : Nat) t1)) (ml : m "last" = some (.int (k2 : Nat) t2)) (mb' : m "barred" = some (.bool bar))
    (hw : Sl g lW words) (ew : g (L + 1 + 1) = some oWs) (hWs : oWs.data = .cell (some (.ref lW))) (hwz : words.length ≤ 100) (hwl : ∀ y ∈ words, y.length ≤ 100) (hns : ("<string>" : Str) ∉ words) (e1 : words[k1]? = some w1) (e2 : words[k2]? = some w2) (hans : ansF w1 w2 = bar) {Q : Flow → Shared → Prop}
    (next : ∀ g' ρ' s', Le g g' → Rds prog w g' words words kvs ρ' → Fm g' L m (κ ++ (ρ' ++ μ)) s0 s' → wpAny (model prog w) A (execs inB2 (lawE L)) Q NoE s') :
    wpAny (model prog w) A (execs inB1 (lawE L)) Q NoE s := by
  have hh := hA.hand
  refine absP fun Gx hGx => ?_
  obtain ⟨vw, hlw, haw⟩ := hw
  refine hGx ?_
  obtain ⟨u1, hv1⟩ := haw.at e1
  obtain ⟨u2, hv2⟩ := haw.at e2
  have hk1 : k1 < 1000 := by have := (List.getElem?_eq_some_iff.mp e1).1; omega
  have hk2 : k2 < 1000 := by have := (List.getElem?_eq_some_iff.mp e2).1; omega
  have hm1 : w1 ∈ words := List.mem_of_getElem? e1
  have hm2 : w2 ∈ words := List.mem_of_getElem? e2
  refine absP fun Gx hGx => ?_
  obtain ⟨ix, ig, oig, f, hva, hr1, hr2, hr3, hr4⟩ := hrd.upd hm1
  refine hGx ?_
  refine wpAny_execs_cons (wpAny_If (wpAny_isTrue_Compare1 (r_ask (word := w1) G hA x hr1 (.app (.left hr3)) hr2 (by first | assumption | exact Nat.le_trans (by assumption) (by decide) | exact Nat.le_trans (Nat.le_of_eq (by assumption)) (Nat.le_trans (by assumption) (by decide)) | omega) hns (by have := hwl _ hm1; omega) ?_)))
  refine Subscript_ (r_cell x rfl (.inl eR) hR (Subscript_ (r_cell x rfl (.inl ew) hWs (r_name x mf (item_at (hlw.isList x.st) rfl (by first | assumption | exact Nat.le_trans (by assumption) (by decide) | exact Nat.le_trans (Nat.le_of_eq (by assumption)) (Nat.le_trans (by assumption) (by decide)) | omega) hv1 ?_)))))
  refine m_item x (x.get eD) hD hva fun s x => ?_
  refine ⟨rfl, x, fun s x => Subscript_ (r_cell x rfl (.inl ew) hWs (r_name x ml (item_at (hlw.isList x.st) rfl (by first | assumption | exact Nat.le_trans (by assumption) (by decide) | exact Nat.le_trans (Nat.le_of_eq (by assumption)) (Nat.le_trans (by assumption) (by decide)) | omega) hv2 ?_)))⟩
  refine ⟨w2, u2, rfl, hm2, x, fun g3 s t3 oig3 hle6 x hn3 => ?_⟩
  refine IfExp_ (wpAny_isTrue_value (r_name x mb' (wpAny_truthy_bool ?_)))
  rw [hans]
  have fin : ∀ s, Fm g3 L m (κ ++ (f oig3 ++ μ)) s0 s → wpAny (model prog w) A (execs inB2 (lawE L)) Q NoE s := fun s x => next g3 _ s hle6 ((hr4 _ hn3).le hle6) x
  cases bar with
  | true =>
    refine r_int x fun s u x _ => PySem.P.ne_int (wpAny_truthy_bool ?_)
    exact wpAny_execs_nil (fin _ x)
  | false =>
    refine r_int x fun s u x _ => PySem.P.ne_int (wpAny_truthy_bool ?_)
    exact wpAny_execs_nil (fin _ x)
set_option maxHeartbeats 4000000 in
theorem st_due (G : Gd w mg mb g) (hA : Ok A) (x : Fm g L m μ s0 s) {dN lW : Addr} {needs : List (List Nat)} {words : List Str} {k1 k2 : Nat} {t1 t2 : Tok} {bar : Bool} (mn : m "needs" = some (.ref dN)) (hn : Nll g dN needs) (mf : m "first" = some (.int (k1 : Nat) t1)) (ml : m "last" = some (.int (k2 : Nat) t2)) (mb' : m "barred" = some (.bool bar))
    (hz : needs.length ≤ 100) (hz2 : ∀ p ∈ needs, p.length ≤ 100) (hw : Sl g lW words) (ew : g (L + 1 + 1) = some oWs) (hWs : oWs.data = .cell (some (.ref lW))) (hwz : words.length ≤ 100) (hbd : ∀ k ∈ inTurnF needs k1 k2, k < words.length) {Q : Flow → Shared → Prop}
    (next : ∀ g' s' lD lG, Le g g' → Sl g' lD (if bar then [] else (inTurnF needs k1 k2).map fun k => words.getD k Str.empty) → Sl g' lG [] → Fm g' L (upd (upd (upd m "due" (.ref lD)) "refused" (.bool false)) "got" (.ref lG)) μ s0 s' → wpAny (model prog w) A (execs inB5 (lawE L)) Q NoE s') :
    wpAny (model prog w) A (execs inB2 (lawE L)) Q NoE s := by
  have hh := hA.hand
  refine wpAny_execs_cons (wpAny_Assign_Name ?_)
  refine wpAny_mono (Q := fun v s' => ∃ g' lD, v = .ref lD ∧ Le g g' ∧ Sl g' lD (if bar then [] else (inTurnF needs k1 k2).map fun k => words.getD k Str.empty) ∧ Fm g' L m μ s0 s') ?_ (fun v s' h => ?_) fun _ _ q => q
  · refine IfExp_ (wpAny_isTrue_value (r_name x mb' (wpAny_truthy_bool ?_)))
    cases bar with
    | true =>
      refine r_nil x fun D s x => ?_
      obtain ⟨g1, l1, e1, x⟩ := x.frz1
      exact ⟨g1, D, rfl, l1, ⟨[], ⟨_, e1⟩, rfl⟩, x⟩
    | false =>
      refine r_comp (s0 := s0) rfl (by decide) rfl (by decide) ?_
      refine r_def G x rfl (by rfl) (by rfl) (by rfl) (sp_cons (r_name x mn (sp_cons (r_name x mf (sp_one (r_name x ml ?_))))))
      refine ⟨g, G, ⟨_, _, _, x⟩, ?_⟩
      refine absP fun Gx hGx => ?_
      obtain ⟨oL2, nL2, y⟩ := x
      refine hGx ?_
      refine in_turn_call G y hA hn hz hz2 fun g3 s D3 l3 y hnum => ?_
      have x : Fm g3 L m μ s0 s := ⟨oL2, nL2, y⟩
      refine absP fun Gx hGx => ?_
      obtain ⟨vs, hl, hnums⟩ := hnum
      refine hGx ?_
      have hlen := hnums.length
      have hlt : (inTurnF needs k1 k2).length ≤ 100 := by
        have h1 := turns_length needs needs k1 k2 []
        exact Nat.le_trans (Nat.le_trans h1 (by simp)) hz
      refine absP fun Gx hGx => ?_
      obtain ⟨vw, hlw, haw⟩ := hw
      refine hGx ?_
      refine src_list hh x hl fun it s S => ?_
      refine ⟨_, _, _, _, _, S, by first | exact Nat.le_trans (by assumption) (by decide) | exact Nat.le_trans (Nat.le_of_eq (by assumption)) (Nat.le_trans (by assumption) (by decide)) | (rw [line24]; omega), fun i ws g' μ' => μ' = μ ∧ Are ws (((inTurnF needs k1 k2).take i).map fun k => words.getD k Str.empty), ⟨rfl, rfl⟩, ?_, ?_⟩
      · rintro C D I i v ws g' μ' mC oI oL nD s hi hv hle4 Qx1 Qy1 hX1 hY1 ⟨rfl, hws⟩ hoL x
        refine r_assign x fun s x => ?_
        refine wpAny_tests_nil ?_
        rw [if_pos rfl]
        refine absP fun Gx hGx => ?_
        obtain ⟨k, hki, u, rfl⟩ := hnums.get hv
        refine hGx ?_
        have hkl : k < words.length := hbd k (List.mem_of_getElem? hki)
        have ek : words[k]? = some (words.getD k Str.empty) := by rw [List.getD_eq_getElem?_getD, List.getElem?_eq_getElem hkl]; rfl
        obtain ⟨u3, hv3⟩ := haw.at ek
        have l34 := l3.trans hle4
        refine Subscript_ (r_cell x rfl (.inl (l34 _ _ ew)) hWs (r_name x (upd_eq _ _ _) (item_at ((hlw.le l34).isList x.st) rfl (by first | assumption | exact Nat.le_trans (by assumption) (by decide) | exact Nat.le_trans (Nat.le_of_eq (by assumption)) (Nat.le_trans (by assumption) (by decide)) | omega) hv3 ?_)))
        refine hX1 _ _ ?_
        refine ⟨g', _, _, Le.refl _, ⟨rfl, ?_⟩, x⟩
        rw [List.map_take, List.take_add_one, List.getElem?_map, hki, ← List.map_take]
        exact hws.append (.one _ _)
      · rintro D ws g4 μ' nD s hle4 ⟨rfl, hws⟩ x
        rw [hlen, List.take_length] at hws
        obtain ⟨g5, l5, e5, x⟩ := x.frz1
        exact ⟨g5, D, rfl, l3.trans (hle4.trans l5), ⟨ws, ⟨_, e5⟩, hws⟩, x⟩
  · refine absP fun Gx hGx => ?_
    obtain ⟨g1, lD, rfl, l1, hD, x⟩ := h
    refine hGx ?_
    refine r_store x rfl rfl fun s x => ?_
    refine wpAny_execs_cons (wpAny_Assign_Name (wpAny_Constant_bool (r_store x rfl rfl fun s x => ?_)))
    refine wpAny_execs_cons (wpAny_Assign_Name (r_nil x fun D s x => ?_))
    refine r_store x rfl rfl fun s x => ?_
    obtain ⟨g2, l2, e2, x⟩ := x.frz1
    exact next g2 s lD D (l1.trans l2) (hD.le l2) ⟨[], ⟨_, e2⟩, rfl⟩ x
set_option maxHeartbeats 4000000 in
theorem st_last (hA : Ok A) (x : Fm g L m μ s0 s) {lD lG : Addr} {bar : Bool} {S : List Str} (mr : m "refused" = some (.bool bar)) (mb' : m "barred" = some (.bool bar)) (mG : m "got" = some (.ref lG)) (mD : m "due" = some (.ref lD)) (hD : Sl g lD S) (hG : Sl g lG S) {Q : Flow → Shared → Prop}
    (next : ∀ s', Fm g L m μ s0 s' → Q .next s') :
    wpAny (model prog w) A (execs inB6 (lawE L)) Q NoE s := by
  have hh := hA.hand
  refine wpAny_execs_cons (wpAny_If (isTrue_or (wpAny_isTrue_Compare1 (r_name x mr (r_name x mb' (PySem.EqBoolInt.of_rcne (RcNeAt.bool_bool _ _) (wpAny_truthy_bool ?_)))))))
  rw [show (!(bar == bar)) = false by simp, if_neg (by simp)]
  refine isTrue_or (wpAny_isTrue_Compare1 (r_name x mG (r_name x mD ?_)))
  refine PySem.EqBoolInt.of_rcne (ne_strs (xs := S) (ys := S) (by have := hA.units; omega) (hG.here x.st) (hD.here x.st)) (wpAny_truthy_bool ?_)
  rw [show (!(S == S)) = false by simp, if_neg (by simp)]
  refine isTrue_or_nil ?_
  rw [if_neg (by simp)]
  exact wpAny_execs_nil (wpAny_execs_nil (next _ x))
end
end Mine
end
section
set_option maxRecDepth 100000
set_option autoImplicit false
namespace Mine
open PySem PySem.Spec PySem.Calls PyProof.Rows PySem.W PySem.SeqAt
noncomputable def barOf (needs : List (List Nat)) (k1 k2 : Nat) : Bool := k1 == k2 || (needs.getD k1 []).contains k2
structure LawD (words : List Str) (needs : List (List Nat)) (R : List (List Str)) (nl : Nat) : Prop where
  pos : 1 ≤ nl
  nlz : nl ≤ 99
  hlw : words.length = nl
  hln : needs.length = nl
  hz2 : ∀ p ∈ needs, p.length ≤ 100
  ans : ∀ k1 k2, k1 < nl → k2 < nl → ansF (words.getD k1 Str.empty) (words.getD k2 Str.empty) = barOf needs k1 k2
  mrg : ∀ k1 k2, k1 < nl → k2 < nl → c3F 1000 (R ++ [[words.getD k1 Str.empty, words.getD k2 Str.empty]]) [] = if barOf needs k1 k2 then none else some ((inTurnF needs k1 k2).map fun k => words.getD k Str.empty)
  bd : ∀ k1 k2, k1 < nl → k2 < nl → ∀ k ∈ inTurnF needs k1 k2, k < words.length
  tot : total R < 900
  rz : R.length ≤ 99
  rz2 : ∀ r ∈ R, r.length ≤ 100
  wz : ∀ y ∈ words, y.length ≤ 100
  ns : ("<string>" : Str) ∉ words
structure LawH (prog : Program) (w : World) (g : Fz) (L : Addr) (words : List Str) (kvs : List (Str × Value)) (lW D : Addr) (oWs oR oD : Obj) : Prop where
  hw : Sl g lW words
  ew : g (L + 1 + 1) = some oWs
  hWs : oWs.data = .cell (some (.ref lW))
  eR : g (L + 1 + 1 + 1 + 1) = some oR
  hR : oR.data = .cell (some (.ref D))
  eD : g D = some oD
  hD : oD.IsDictOf (strKind prog w) kvs
theorem LawH.le {prog : Program} {w : World} {g g' : Fz} {L : Addr} {words : List Str} {kvs : List (Str × Value)} {lW D : Addr} {oWs oR oD : Obj} (h : LawH prog w g L words kvs lW D oWs oR oD) (k : Le g g') : LawH prog w g' L words kvs lW D oWs oR oD :=
  ⟨h.hw.le k, k _ _ h.ew, h.hWs, k _ _ h.eR, h.hR, k _ _ h.eD, h.hD⟩
theorem total_app (R : List (List Str)) (a b : Str) : total (R ++ [[a, b]]) = total R + 2 := by
  unfold total; simp
theorem getD_some {α : Type} {l : List α} {k : Nat} {d : α} (h : k < l.length) : l[k]? = some (l.getD k d) := by
  rw [List.getD_eq_getElem?_getD, List.getElem?_eq_getElem h]; rfl
section
variable {oK oR oW oWs oN : Obj} {prog : Program} {w : World} {M : Model} {A : Around} {E : Value → Shared → Prop} {s0 s : Shared} {env : Env} {g : Fz} {L : Addr} {m mg mb : Str → Option Value} {μ κ : List (Addr × Obj)} {pos : Pos} {n : Str} {v : Value}
set_option maxHeartbeats 4000000 in
theorem st_pair (G : Gd w mg mb g) (hA : Ok A) (hfr : A.frames = some [lawE L]) {ρ : List (Addr × Obj)} {lW D dN dR : Addr} {oD : Obj} {kvs : List (Str × Value)} {words : List Str} {needs : List (List Nat)} {R : List (List Str)} {nl k1 k2 : Nat} {t1 t2 : Tok}
    (LD : LawD words needs R nl) (LH : LawH prog w g L words kvs lW D oWs oR oD) (x : Fm g L m (κ ++ (ρ ++ μ)) s0 s) (hrd : Rds prog w g words words kvs ρ) (mn : m "needs" = some (.ref dN)) (hn : Nll g dN needs) (mr : m "rows" = some (.ref dR)) (hr : Ll g dR R)
    (mf : m "first" = some (.int (k1 : Nat) t1)) (ml : m "last" = some (.int (k2 : Nat) t2)) (h1 : k1 < nl) (h2 : k2 < nl) {Q : Flow → Shared → Prop}
    (next : ∀ g' m' ρ' s', Le g g' → (∀ y : Str, y ≠ "barred" → y ≠ "due" → y ≠ "refused" → y ≠ "got" → m' y = m y) → Rds prog w g' words words kvs ρ' → Fm g' L m' (κ ++ (ρ' ++ μ)) s0 s' → Q .next s') :
    wpAny (model prog w) A (execs inB (lawE L)) Q NoE s := by
  have hlw := LD.hlw
  have hln := LD.hln
  have hnz := LD.nlz
  have e1 : words[k1]? = some (words.getD k1 Str.empty) := getD_some (by first | assumption | exact Nat.le_trans (by assumption) (by decide) | exact Nat.le_trans (Nat.le_of_eq (by assumption)) (Nat.le_trans (by assumption) (by decide)) | omega)
  have e2 : words[k2]? = some (words.getD k2 Str.empty) := getD_some (by first | assumption | exact Nat.le_trans (by assumption) (by decide) | exact Nat.le_trans (Nat.le_of_eq (by assumption)) (Nat.le_trans (by assumption) (by decide)) | omega)
  have ha := LD.ans k1 k2 h1 h2
  have hm := LD.mrg k1 k2 h1 h2
  refine st_bar x mn hn mf ml (getD_some (d := []) (by first | assumption | exact Nat.le_trans (by assumption) (by decide) | exact Nat.le_trans (Nat.le_of_eq (by assumption)) (Nat.le_trans (by assumption) (by decide)) | omega)) (by first | assumption | exact Nat.le_trans (by assumption) (by decide) | exact Nat.le_trans (Nat.le_of_eq (by assumption)) (Nat.le_trans (by assumption) (by decide)) | omega) fun s x => ?_
  change Fm g L (upd m "barred" (.bool (barOf needs k1 k2))) _ s0 s at x
  have mb' : upd m "barred" (.bool (barOf needs k1 k2)) "barred" = some (.bool (barOf needs k1 k2)) := upd_eq _ _ _
  have mn2 : upd m "barred" (.bool (barOf needs k1 k2)) "needs" = some (.ref dN) := mn
  have mr2 : upd m "barred" (.bool (barOf needs k1 k2)) "rows" = some (.ref dR) := mr
  have mf2 : upd m "barred" (.bool (barOf needs k1 k2)) "first" = some (.int (k1 : Nat) t1) := mf
  have ml2 : upd m "barred" (.bool (barOf needs k1 k2)) "last" = some (.int (k2 : Nat) t2) := ml
  have hk2 : ∀ y : Str, y ≠ "barred" → upd m "barred" (.bool (barOf needs k1 k2)) y = m y := fun y hy => if_neg hy
  generalize upd m "barred" (.bool (barOf needs k1 k2)) = m1 at x mb' mn2 mr2 mf2 ml2 hk2
  generalize barOf needs k1 k2 = bar at mb' ha hm
  refine st_asked G hA x hrd LH.eR LH.hR LH.eD LH.hD mf2 ml2 mb' LH.hw LH.ew LH.hWs (by first | assumption | exact Nat.le_trans (by assumption) (by decide) | exact Nat.le_trans (Nat.le_of_eq (by assumption)) (Nat.le_trans (by assumption) (by decide)) | omega) LD.wz LD.ns e1 e2 ha fun g2 ρ2 s l2 hrd2 x => ?_
  refine st_due (G.le l2) hA x mn2 (hn.le l2) mf2 ml2 mb' (by first | assumption | exact Nat.le_trans (by assumption) (by decide) | exact Nat.le_trans (Nat.le_of_eq (by assumption)) (Nat.le_trans (by assumption) (by decide)) | omega) LD.hz2 (LH.hw.le l2) (l2 _ _ LH.ew) LH.hWs (by first | assumption | exact Nat.le_trans (by assumption) (by decide) | exact Nat.le_trans (Nat.le_of_eq (by assumption)) (Nat.le_trans (by assumption) (by decide)) | omega) (LD.bd k1 k2 h1 h2) fun g3 s lD lG l3 hD hG x => ?_
  have l23 := l2.trans l3
  have LH3 := LH.le l23
  refine st_try (G.le l23) x hA hfr (m := upd (upd (upd m1 "due" (.ref lD)) "refused" (.bool false)) "got" (.ref lG)) mr2 (hr.le l23) LD.rz LD.rz2 mf2 ml2 (by rfl) (upd_eq _ _ _) hG LH3.hw LH3.ew LH3.hWs (by first | assumption | exact Nat.le_trans (by assumption) (by decide) | exact Nat.le_trans (Nat.le_of_eq (by assumption)) (Nat.le_trans (by assumption) (by decide)) | omega) e1 e2 (by rw [total_app]; have := LD.tot; omega) hm fun g4 m4 s lG' l4 hm4 hr4 hg4 hG4 x => ?_
  have mD4 : m4 "due" = some (.ref lD) := (hm4 _ (by decide) (by decide)).trans rfl
  have mb4 : m4 "barred" = some (.bool bar) := (hm4 _ (by decide) (by decide)).trans mb'
  refine st_last hA x hr4 mb4 hg4 mD4 (hD.le l4) hG4 fun s x => ?_
  refine next g4 m4 ρ2 s (l23.trans l4) (fun y y1 y2 y3 y4 => ?_) (hrd2.le (l3.trans l4)) x
  rw [hm4 y y4 y3]
  show upd (upd (upd m1 "due" (.ref lD)) "refused" (.bool false)) "got" (.ref lG) y = m y
  rw [← hk2 y y1]
  exact (if_neg y4).trans ((if_neg y3).trans (if_neg y2))
end
end Mine
end
section
set_option maxRecDepth 100000
set_option autoImplicit false
namespace Mine
open PySem PySem.Spec PySem.Calls PyProof.Rows PySem.W PySem.SeqAt
theorem pick_drop {ys : List Value} : slicePick ys.toArray (some 5) none none = (ys.drop 5).toArray := by
  show slicePick ys.toArray (some ((5 : Nat) : Int)) none none = _
  rw [slicePick_from']
structure Kp (m m' : Str → Option Value) : Prop where
  k1 : m' "nodes" = m "nodes"
  k2 : m' "needs" = m "needs"
  k3 : m' "rows" = m "rows"
theorem Kp.refl (m : Str → Option Value) : Kp m m := ⟨rfl, rfl, rfl⟩
theorem Kp.trans {m m1 m2 : Str → Option Value} (a : Kp m m1) (b : Kp m1 m2) : Kp m m2 := ⟨b.k1.trans a.k1, b.k2.trans a.k2, b.k3.trans a.k3⟩
theorem Kp.put {m m1 : Str → Option Value} (a : Kp m m1) {y : Str} {v : Value} (h1 : ("nodes" : Str) ≠ y) (h2 : ("needs" : Str) ≠ y) (h3 : ("rows" : Str) ≠ y) : Kp m (upd m1 y v) :=
  ⟨(if_neg h1).trans a.k1, (if_neg h2).trans a.k2, (if_neg h3).trans a.k3⟩
theorem fmod_nat (z : Int) {n : Nat} (h : 1 ≤ n) : ∃ k : Nat, k < n ∧ z.fmod (n : Int) = (k : Int) := by
  have h0 : (0 : Int) < n := by omega
  have h1 := Int.fmod_nonneg_of_pos z h0
  have h2 := Int.fmod_lt_of_pos z h0
  exact ⟨(z.fmod n).toNat, by omega, by omega⟩
section
variable {oK oR oW oWs oN : Obj} {prog : Program} {w : World} {M : Model} {A : Around} {E : Value → Shared → Prop} {s0 s : Shared} {env : Env} {g : Fz} {L : Addr} {m mg mb : Str → Option Value} {μ κ : List (Addr × Obj)} {pos : Pos} {n : Str} {v : Value}
set_option maxHeartbeats 8000000 in
theorem st_rest (G : Gd w mg mb g) (hA : Ok A) (hfr : A.frames = some [lawE L]) {ρ : List (Addr × Obj)} {lW D dN dR dD dO : Addr} {oD : Obj} {kvs : List (Str × Value)} {words : List Str} {needs : List (List Nat)} {R nodes : List (List Str)} {ys : List Value}
    (LD : LawD words needs R nodes.length) (LH : LawH prog w g L words kvs lW D oWs oR oD) (x : Fm g L m (ρ ++ μ) s0 s) (hrd : Rds prog w g words words kvs ρ) (mn : m "needs" = some (.ref dN)) (hn : Nll g dN needs) (mr : m "rows" = some (.ref dR)) (hr : Ll g dR R)
    (md : m "drawn" = some (.ref dD)) (hd : Lst g dD ys) (hyi : Ints ys) (hyz : ys.length ≤ 100) (mo : m "nodes" = some (.ref dO)) (ho : Ll g dO nodes) {Q : Flow → Shared → Prop}
    (hQ : ∀ g' m' ρ' s', Le g g' → Fm g' L m' (ρ' ++ μ) s0 s' → Q (.ret (.bool true)) s') :
    wpAny (model prog w) A (execs lawB15 (lawE L)) Q NoE s := by
  have hh := hA.hand
  have hpos := LD.pos
  have hnz := LD.nlz
  refine wpAny_execs_cons (r_for (s0 := s0) (r_slice (s0 := s0) (r_name x md (wpAny_evalPart_some (r_int x fun s u x _ => wpAny_evalPart_none ?_)))))
  refine ⟨_, _, _, _, _, _, _, _, ys.drop 5, rfl, x, hd.isList x.st, by first | exact Nat.le_trans (by assumption) (by decide) | exact Nat.le_trans (Nat.le_of_eq (by assumption)) (Nat.le_trans (by assumption) (by decide)) | (rw [line24]; omega), .int _ _, .none, pick_drop, fun g1 dd s l1 hdd x => ?_⟩
  have hdz : (ys.drop 5).length ≤ 100 := by rw [List.length_drop]; omega
  refine src_list hh x hdd fun it s S => ?_
  refine ⟨_, _, _, _, _, _, S, fun i g' m' μ' => Kp m m' ∧ ∃ ρ', μ' = ρ' ++ μ ∧ Rds prog w g' words words kvs ρ', ⟨.refl m, ρ, rfl, hrd.le l1⟩, ?_, ?_⟩
  · rintro i v I g' m' μ' oI s hi hv hle Qx1 hN1 hC1 hB1 hR1 hJp0
    refine absP fun Gx hGx => ?_
    obtain ⟨hk, ρ', rfl, hrd'⟩ := hJp0
    refine hGx ?_
    rintro x
    obtain ⟨z, u, rfl⟩ : ∃ z u, v = .int z u := hyi v (List.mem_of_mem_drop (List.mem_of_getElem? hv))
    refine r_assign x fun s x => ?_
    have l2 := l1.trans hle
    have G' := G.le l2
    have hk1 : Kp m (upd m' "number" (.int z u)) := hk.put (by decide) (by decide) (by decide)
    have hz1 : upd m' "number" (.int z u) "number" = some (.int z u) := upd_eq _ _ _
    generalize upd m' "number" (.int z u) = m1 at x hk1 hz1
    have mo1 : m1 "nodes" = some (.ref dO) := hk1.k1.trans mo
    refine absP fun Gx hGx => ?_
    obtain ⟨vo, hlo, hro⟩ := ho.le l2
    refine hGx ?_
    have hlen := hro.length
    have hb : ((vo.length : Nat) : Int) ≠ 0 := by omega
    refine absP fun Gx hGx => ?_
    obtain ⟨k1, h1, e1⟩ := fmod_nat z (n := nodes.length) hpos
    refine hGx ?_
    refine absP fun Gx hGx => ?_
    obtain ⟨k2, h2, e2⟩ := fmod_nat (z.fdiv (nodes.length : Int)) (n := nodes.length) hpos
    refine hGx ?_
    refine wpAny_execs_cons (wpAny_Assign_Name (wpAny_BinOp (r_name x hz1 (wpAny_Call_NameR (r_bi G' x rfl boot_len ?_)))))
    refine cw_bi (sp_one (r_name x mo1 (m_len x (hlo.isList x.st) (by first | exact Nat.le_trans (by assumption) (by decide) | exact Nat.le_trans (Nat.le_of_eq (by assumption)) (Nat.le_trans (by assumption) (by decide)) | (rw [line24]; omega)) fun s t x => i_mod x hb fun s u1 x => ?_)))
    rw [hlen, e1]
    refine r_store x rfl rfl fun s x => ?_
    have hk2 : Kp m (upd m1 "one" (.int (k1 : Nat) u1)) := hk1.put (by decide) (by decide) (by decide)
    have hz2 : upd m1 "one" (.int (k1 : Nat) u1) "number" = some (.int z u) := hz1
    have ho2 : upd m1 "one" (.int (k1 : Nat) u1) "one" = some (.int (k1 : Nat) u1) := upd_eq _ _ _
    generalize upd m1 "one" (.int (k1 : Nat) u1) = m2 at x hk2 hz2 ho2
    have mo2 : m2 "nodes" = some (.ref dO) := hk2.k1.trans mo
    refine wpAny_execs_cons (wpAny_Assign_Name (wpAny_BinOp (wpAny_BinOp (r_name x hz2 (wpAny_Call_NameR (r_bi G' x rfl boot_len ?_))))))
    refine cw_bi (sp_one (r_name x mo2 (m_len x (hlo.isList x.st) (by first | exact Nat.le_trans (by assumption) (by decide) | exact Nat.le_trans (Nat.le_of_eq (by assumption)) (Nat.le_trans (by assumption) (by decide)) | (rw [line24]; omega)) fun s t x => i_div x hb (by first | assumption | exact Nat.le_trans (by assumption) (by decide) | exact Nat.le_trans (Nat.le_of_eq (by assumption)) (Nat.le_trans (by assumption) (by decide)) | omega) fun s u2 x => ?_)))
    refine wpAny_Call_NameR (r_bi G' x rfl boot_len ?_)
    refine cw_bi (sp_one (r_name x mo2 (m_len x (hlo.isList x.st) (by first | exact Nat.le_trans (by assumption) (by decide) | exact Nat.le_trans (Nat.le_of_eq (by assumption)) (Nat.le_trans (by assumption) (by decide)) | (rw [line24]; omega)) fun s t x => i_mod x hb fun s u3 x => ?_)))
    rw [hlen, e2]
    refine r_store x rfl rfl fun s x => ?_
    have hk3 : Kp m (upd m2 "other" (.int (k2 : Nat) u3)) := hk2.put (by decide) (by decide) (by decide)
    have ho3 : upd m2 "other" (.int (k2 : Nat) u3) "one" = some (.int (k1 : Nat) u1) := ho2
    have ht3 : upd m2 "other" (.int (k2 : Nat) u3) "other" = some (.int (k2 : Nat) u3) := upd_eq _ _ _
    generalize upd m2 "other" (.int (k2 : Nat) u3) = m3 at x hk3 ho3 ht3
    refine wpAny_execs_cons (r_forT (s0 := s0) hh ?_)
    refine List_ (sp_cons (Tuple_ (sp_cons (r_name x ho3 (sp_one (r_name x ht3 ?_))))))
    refine m_tuple x (by rw [line24]; exact (by decide : 2 ≤ 16777216)) fun g2 ta s l3 hta x => ?_
    refine sp_one (Tuple_ (sp_cons (r_name x ht3 (sp_one (r_name x ho3 ?_)))))
    refine m_tuple x (by rw [line24]; exact (by decide : 2 ≤ 16777216)) fun g3 tb s l4 htb x => ?_
    refine m_lst x (by rw [line24]; exact (by decide : 2 ≤ 16777216)) fun g4 P s l5 hP x => ?_
    have lA := l3.trans (l4.trans l5)
    refine ⟨P, _, g4, L, m3, _, rfl, x, hP, fun v hv => ?_, fun i g'' m'' μ'' => Kp m m'' ∧ ∃ ρ'', μ'' = (I, oI) :: (ρ'' ++ μ) ∧ Rds prog w g'' words words kvs ρ'', ⟨hk3, ρ', rfl, hrd'.le lA⟩, ?_, ?_⟩
    · simp only [List.mem_cons, List.not_mem_nil, or_false] at hv
      rcases hv with rfl | rfl
      · exact ⟨_, rfl⟩
      · exact ⟨_, rfl⟩
    · rintro j v I2 g5 m5 μ5 oI2 s hv lB Qx2 hN2 hC2 hB2 hR2 hJp0
      refine absP fun Gx hGx => ?_
      obtain ⟨hk5, ρ5, rfl, hrd5⟩ := hJp0
      refine hGx ?_
      rintro x
      obtain ⟨a, b, tc, q1, q2, ha, hb2, rfl, htc⟩ : ∃ a b : Nat, ∃ tc q1 q2, a < nodes.length ∧ b < nodes.length ∧ v = .ref tc ∧ Tp g5 tc [.int (a : Nat) q1, .int (b : Nat) q2] := by
        have hm := List.mem_of_getElem? hv
        simp only [List.mem_cons, List.not_mem_nil, or_false] at hm
        rcases hm with rfl | rfl
        · exact ⟨k1, k2, _, _, _, h1, h2, rfl, hta.le (l4.trans (l5.trans lB))⟩
        · exact ⟨k2, k1, _, _, _, h2, h1, rfl, htb.le (l5.trans lB)⟩
      refine r_assign2 hh x htc fun s x => ?_
      have hk6 : Kp m (upd (upd m5 "first" (.int (a : Nat) q1)) "last" (.int (b : Nat) q2)) := (hk5.put (by decide) (by decide) (by decide)).put (by decide) (by decide) (by decide)
      have mf : upd (upd m5 "first" (.int (a : Nat) q1)) "last" (.int (b : Nat) q2) "first" = some (.int (a : Nat) q1) := rfl
      have ml : upd (upd m5 "first" (.int (a : Nat) q1)) "last" (.int (b : Nat) q2) "last" = some (.int (b : Nat) q2) := upd_eq _ _ _
      generalize upd (upd m5 "first" (.int (a : Nat) q1)) "last" (.int (b : Nat) q2) = m6 at x hk6 mf ml
      have l6 := l2.trans (lA.trans lB)
      refine st_pair (κ := [(I2, oI2), (I, oI)]) (G.le l6) hA hfr LD (LH.le l6) x hrd5 (hk6.k2.trans mn) (hn.le l6) (hk6.k3.trans mr) (hr.le l6) mf ml ha hb2 fun g7 m7 ρ7 s l7 hm7 hrd7 x => ?_
      refine hN2 _ ?_
      exact ⟨g7, m7, _, l7, ⟨hk6.trans ⟨hm7 _ (by decide) (by decide) (by decide) (by decide), hm7 _ (by decide) (by decide) (by decide) (by decide), hm7 _ (by decide) (by decide) (by decide) (by decide)⟩, ρ7, rfl, hrd7⟩, x⟩
    · rintro g5 m5 μ5 s lB hJp0
      refine absP fun Gx hGx => ?_
      obtain ⟨hk5, ρ5, rfl, hrd5⟩ := hJp0
      refine hGx ?_
      rintro x
      refine wpAny_execs_nil (wpAny_execs_nil ?_)
      refine hN1 _ ?_
      exact ⟨g5, m5, _, lA.trans lB, ⟨hk5, ρ5, rfl, hrd5⟩, x⟩
  · rintro g' m' μ' s hle hJp0
    refine absP fun Gx hGx => ?_
    obtain ⟨hk, ρ', rfl, hrd'⟩ := hJp0
    refine hGx ?_
    rintro x
    refine wpAny_execs_nil ?_
    exact wpAny_execs_cons (wpAny_Return_some (wpAny_Constant_bool (hQ g' m' ρ' s (l1.trans hle) x)))
end
end Mine
end
section
set_option maxRecDepth 100000
set_option autoImplicit false
namespace Mine
open PySem PySem.Spec
theorem ns_all : ∀ x ∈ allN, dotJ x ≠ ("<string>" : Str) := by decide +kernel
section
variable {P : List Nd}
theorem node_ok (hp : ∀ p ∈ P, okPath p) {y : Nd} (hy : isNode P y) : okPath y := by
  obtain ⟨p, hm, h⟩ := hy
  obtain ⟨_, h2, h3⟩ := hp p hm
  obtain ⟨h4, h5⟩ := mem_downs.mp h
  exact ⟨h4, Nat.le_trans h5.length_le h2, fun a ha => h3 a (h5.subset ha)⟩
theorem nodes_ok (hp : ∀ p ∈ P, okPath p) : ∀ p ∈ nodesF P, okPath p := fun _ hy => node_ok hp (nodes_mem.mp hy)
theorem climb_ok (hp : ∀ p ∈ P, okPath p) : ∀ p ∈ climbF P, okPath p := fun _ hy => node_ok hp (climb_mem.mp hy)
theorem climb_len (hp : ∀ p ∈ P, okPath p) (h5 : P.length = 5) : (climbF P).length ≤ 15 := by
  have h1 := climbs_length P P [] 3 fun p hm => (hp p hm).2.1
  unfold climbF climbTo
  simp only [List.length_nil] at h1
  omega
theorem names_sub (hp : ∀ p ∈ P, okPath p) : ∀ y ∈ P.map dotJ, y ∈ wordsF P := by
  intro y hy
  obtain ⟨p, hm, rfl⟩ := List.mem_map.mp hy
  exact List.mem_map_of_mem (nodes_mem.mpr ⟨p, hm, self_downs (hp p hm).1⟩)
theorem words_len8 (hp : ∀ p ∈ P, okPath p) : ∀ y ∈ wordsF P, y.length ≤ 8 := by
  intro y hy
  obtain ⟨x, hx, rfl⟩ := List.mem_map.mp hy
  exact len_all x (node_all hp (nodes_mem.mp hx))
theorem words_ns (hp : ∀ p ∈ P, okPath p) : ("<string>" : Str) ∉ wordsF P := by
  intro h
  obtain ⟨x, hx, e⟩ := List.mem_map.mp h
  exact ns_all x (node_all hp (nodes_mem.mp hx)) e
theorem words_tri (hp : ∀ p ∈ P, okPath p) : ∀ a ∈ wordsF P, ∀ b ∈ wordsF P, a = b ∨ keyLt (keyS P a) (keyS P b) ∨ keyLt (keyS P b) (keyS P a) := by
  intro a ha b hb
  have hpw := told_sorted hp
  replace ha := told_mem.mp ha
  replace hb := told_mem.mp hb
  generalize (climbF P).map dotJ = l at ha hb hpw
  induction l with
  | nil => cases ha
  | cons x xs ih =>
    rw [List.pairwise_cons] at hpw
    rcases List.mem_cons.mp ha with rfl | ha'
    · rcases List.mem_cons.mp hb with rfl | hb'
      · exact .inl rfl
      · exact .inr (.inl (hpw.1 b hb'))
    · rcases List.mem_cons.mp hb with rfl | hb'
      · exact .inr (.inr (hpw.1 a ha'))
      · exact ih ha' hb' hpw.2
theorem inTurn_bd (needs : List (List Nat)) (first last : Nat) : ∀ k ∈ inTurnF needs first last, k < needs.length := by
  have hall : ∀ (ns : List (List Nat)) (ks : List Nat), (∀ k ∈ ks, k < needs.length) → ∀ k ∈ ns.foldl (fun told _ => turn1 needs first last told) ks, k < needs.length := by
    intro ns
    induction ns with
    | nil => intro ks h; exact h
    | cons m ns ih =>
      intro ks h
      refine ih _ fun j hj => ?_
      change j ∈ turn1 needs first last ks at hj
      unfold turn1 at hj
      cases hfd : (List.range needs.length).find? (ready needs first last ks) with
      | none => rw [hfd] at hj; exact h j hj
      | some i =>
        rw [hfd] at hj
        rcases List.mem_append.mp hj with q | q
        · exact h j q
        · rw [List.mem_singleton.mp q]
          exact List.mem_range.mp (List.mem_of_find?_eq_some hfd)
  exact hall needs [] (fun _ h => by cases h)
theorem downs_len (p : Nd) : (downs p).length = p.length := by unfold downs; simp
theorem rows_tot (hp : ∀ p ∈ P, okPath p) : total ((P.map downs).map (List.map dotJ)) ≤ 3 * P.length := by
  induction P with
  | nil => exact Nat.le_refl _
  | cons p ps ih =>
    have h1 := ih fun q hq => hp q (.tail _ hq)
    have h2 := (hp p (.head _)).2.1
    have h3 : total ((List.map downs (p :: ps)).map (List.map dotJ)) = p.length + total ((ps.map downs).map (List.map dotJ)) := by
      unfold total
      simp only [List.map_cons, List.sum_cons, List.length_map, downs_len]
    rw [h3, List.length_cons]; omega
theorem rows_len (hp : ∀ p ∈ P, okPath p) : ∀ r ∈ (P.map downs).map (List.map dotJ), r.length ≤ 100 := by
  intro r hr
  obtain ⟨q, hq, rfl⟩ := List.mem_map.mp hr
  obtain ⟨p, hm, rfl⟩ := List.mem_map.mp hq
  rw [List.length_map, downs_len]
  have := (hp p hm).2.1
  omega
theorem needs_row (N : List Nd) : ∀ p ∈ needsF N, p.length ≤ N.length := by
  intro p hm
  unfold needsF at hm
  obtain ⟨q, _, rfl⟩ := List.mem_map.mp hm
  exact Nat.le_trans (List.length_filter_le _ _) (by rw [List.length_range]; exact Nat.le_refl _)
theorem law_ok (hp : ∀ p ∈ P, okPath p) (h5 : P.length = 5) : LawD (wordsF P) (needsF (nodesF P)) ((P.map downs).map (List.map dotJ)) (nodesF P).length := by
  have h1 := nodes_len hp
  have ht := rows_tot hp
  refine ⟨?_, by omega, words_length, needs_length _, fun p hm => ?_, fun k1 k2 a b => law_reader hp a b, fun k1 k2 a b => ?_, fun k1 k2 a b k hk => ?_, by omega, by rw [List.length_map, List.length_map]; omega, rows_len hp, fun y hy => ?_, words_ns hp⟩
  · cases P with
    | nil => simp at h5
    | cons p ps => exact List.length_pos_of_mem (nodes_mem.mpr ⟨p, .head _, self_downs (hp p (.head _)).1⟩)
  · have := needs_row _ p hm
    omega
  · exact law_pair hp a b (by rw [total_app]; omega)
  · have := inTurn_bd _ _ _ k hk
    rw [needs_length] at this
    rw [words_length]; exact this
  · have := words_len8 hp y hy
    omega
end
end Mine
end
section
set_option maxRecDepth 100000
set_option autoImplicit false
namespace Mine
open PySem PySem.Spec PySem.Calls PyProof.Rows PySem.W PySem.SeqAt
section
variable {prog : Program} {w : World} {M : Model} {A : Around} {E : Value → Shared → Prop} {s0 s : Shared} {env : Env} {g : Fz} {L : Addr} {m mg mb : Str → Option Value} {μ : List (Addr × Obj)} {pos : Pos} {n : Str} {v : Value}
set_option maxHeartbeats 4000000 in
theorem law_call (G : Gd w mg mb g) (x : St g ((23, tabObj #[]) :: (143, tabObj #[]) :: μ) s0 s) (hA0 : A.handled = none) (hAf : A.frames = some []) (hAu : A.units ≤ 100) (hAd : A.depth ≤ 600) {l : Addr} {vs : List Value} (hl : LsX g l vs) (hv : Ints vs) (hvz : vs.length ≤ 63) {R : Result → Shared → Prop}
    (hR0 : ∀ g' T1 T2 s', Le g g' → St g' ((23, tabObj T1) :: (143, tabObj T2) :: μ) s0 s' → R (.ok (.ret (.bool true))) s') : codeAny (model prog w) A (.call (.ref 146) ⟨[.ref l], []⟩) R s := by
  have hcl : cLine = 9900 := rfl
  have hrl : recursionLimit = 1000 := rfl
  refine c_fnL (binds := [("script", .ref l)]) G x rfl rfl ⟨hA0, by omega, by omega⟩ rfl (by intro n x hx; simp only [List.mem_cons, List.not_mem_nil, or_false] at hx; subst hx; first | exact .inr ⟨rfl, rfl⟩ | exact .inl rfl) (by decide) (fun L s cells hc x => ?_)
  refine absP fun Gx hGx => ?_
  obtain ⟨oK, oR, oW, oWs, oN, rfl, hK, hR, hW, hWs, hN⟩ := kc_five hc
  refine hGx ?_
  clear hc
  replace hK : oK.data = .cell none := hK
  replace hR : oR.data = .cell none := hR
  replace hW : oW.data = .cell none := hW
  replace hWs : oWs.data = .cell none := hWs
  replace hN : oN.data = .cell none := hN
  generalize hE : A.deeper (envOfC _ _ L 146 (.ref 145)) = A1
  have b1 : A1.handled = none := by rw [← hE]; exact hA0
  have b2 : A1.units ≤ 110 := by rw [← hE]; show A.units + 3 ≤ 110; omega
  have b3 : A1.depth ≤ 610 := by rw [← hE]; show A.depth + 1 ≤ 610; omega
  have f1 : A1.frames = some [lawE L] := by rw [← hE]; show Option.map _ A.frames = _; rw [hAf]; rfl
  clear hE
  have hOk : Ok A1 := ⟨b1, by omega, by omega⟩
  have hOk2 : Ok2 A1 := ⟨b1, by omega, by omega⟩
  refine wpAny_execs_cons (wpAny_Assign_Name ?_)
  refine r_def G x rfl (by rfl) (by rfl) (by rfl) (sp_cons (r_name x rfl (sp_one (List_ (sp_cons (r_int x fun s t1 x _ => sp_cons (r_int x fun s t2 x _ => sp_cons (r_int x fun s t3 x _ => sp_cons (r_int x fun s t4 x _ => sp_cons (r_int x fun s t5 x _ => sp_cons (r_int x fun s t6 x _ => sp_one (r_int x fun s t7 x _ => ?_))))))))))))
  refine m_lst x (by rw [line24]; exact (by decide : 7 ≤ 16777216)) fun g1 D s hle hD x => ?_
  refine ⟨g1, G.le hle, ⟨_, _, _, x⟩, ?_⟩
  refine absP fun Gx hGx => ?_
  obtain ⟨oL, nL, y⟩ := x
  refine hGx ?_
  refine dealt_call (G.le hle) y hOk (hl.le hle) hv (by first | assumption | exact Nat.le_trans (by assumption) (by decide) | exact Nat.le_trans (Nat.le_of_eq (by assumption)) (Nat.le_trans (by assumption) (by decide)) | omega) hD (by intro v hv; simp only [List.mem_cons, List.not_mem_nil, or_false] at hv; rcases hv with rfl | rfl | rfl | rfl | rfl | rfl | rfl <;> exact ⟨_, _, rfl⟩) (by simp) fun g2 s dr ys hle2 y hys hyi hyl => ?_
  replace hyl : ys.length = 7 := hyl
  have x : Fm g2 L _ _ s0 s := ⟨oL, nL, y⟩
  generalize bindL _ _ _ = m0 at x
  have l2 := hle.trans hle2
  refine r_store x rfl rfl fun s x => ?_
  obtain ⟨zs, hzs⟩ : ∃ zs : List Int, Al (fun v z => ∃ t, v = .int z t) ys zs := by
    clear hys hyl x y
    induction ys with
    | nil => exact ⟨[], .nil⟩
    | cons v r ih =>
      refine absP fun Gx hGx => ?_
      obtain ⟨i, t, rfl⟩ := hyi _ (.head _)
      refine hGx ?_
      obtain ⟨zs, h⟩ := ih fun v hv => hyi v (.tail _ hv)
      exact ⟨i :: zs, .cons ⟨t, rfl⟩ h⟩
  have hz7 : zs.length = 7 := by rw [← hzs.length]; exact hyl
  have G2 := G.le l2
  refine wpAny_execs_cons (r_compSet (s0 := s0) ?hs2 rfl (by decide) rfl (by decide) rfl rfl ?_)
  case hs2 => rfl
  refine r_slice (s0 := s0) (r_name x rfl (wpAny_evalPart_none (wpAny_evalPart_some (r_int x fun s u x _ => ?_))))
  refine ⟨_, _, _, _, _, _, _, _, ys.take 5, rfl, x, hys.isList x.st, by first | exact Nat.le_trans (by assumption) (by decide) | exact Nat.le_trans (Nat.le_of_eq (by assumption)) (Nat.le_trans (by assumption) (by decide)) | (rw [line24]; omega), .none, .int _ _, ?hcut, fun g3 dd s hle3 hdd x => ?_⟩
  case hcut => exact pick_take (by first | assumption | exact Nat.le_trans (by assumption) (by decide) | exact Nat.le_trans (Nat.le_of_eq (by assumption)) (Nat.le_trans (by assumption) (by decide)) | omega)
  refine src_list b1 x hdd fun it s S => ?_
  refine ⟨_, _, _, _, _, S, by rw [line24]; rw [List.length_take]; omega, fun i ws g' μ' => μ' = [(L + 1 + 1 + 1 + 1 + 1, oK), (L + 1 + 1 + 1 + 1, oR), (L + 1 + 1 + 1, oW), (L + 1 + 1, oWs), (L + 1, oN)] ++ (23, tabObj #[]) :: (143, tabObj #[]) :: μ ∧ Rows (IsRow g') ws (((zs.take 5).map partsF).take i), ⟨rfl, .nil⟩, ?_, ?_⟩
  · rintro C D I i v ws g' μ' mC oI oL nD s hi hv hle4 Qx1 Qy1 hX1 hY1 ⟨rfl, hws⟩ hoL x
    refine r_assign x fun s x => ?_
    refine wpAny_tests_nil ?_
    rw [if_pos rfl]
    have G' := G2.le (hle3.trans hle4)
    have hi5 : i < 5 := by rw [List.length_take] at hi; omega
    have hvi : ys[i]? = some v := by rw [List.getElem?_take, if_pos hi5] at hv; exact hv
    refine absP fun Gx hGx => ?_
    obtain ⟨z, hzi, t, rfl⟩ := hzs.get hvi
    refine hGx ?_
    refine r_def G' x rfl (by rfl) (by rfl) (by rfl) (sp_one (r_name x (upd_eq _ _ _) ?_))
    refine ⟨_, G', ⟨_, _, _, x⟩, ?_⟩
    refine absP fun Gx hGx => ?_
    obtain ⟨oC, nC, y⟩ := x
    refine hGx ?_
    refine parts_call G' y hOk fun g4 s r hle5 y hr => ?_
    refine hX1 _ _ ?_
    refine ⟨g4, _, _, hle5, ⟨rfl, ?_⟩, oC, nC, y⟩
    have e : ((zs.take 5).map partsF)[i]? = some (partsF z) := by rw [List.getElem?_map, List.getElem?_take, if_pos hi5, hzi]; rfl
    rw [List.take_add_one, e]
    exact (hws.mono (IsRow.le hle5)).append (.cons ⟨r, rfl, hr⟩ .nil)
  · rintro D ws g4 μ' nD s hle4 ⟨rfl, hws⟩ x
    have e5 : (ys.take 5).length = ((zs.take 5).map partsF).length := by rw [List.length_map, List.length_take, List.length_take]; omega
    rw [e5, List.take_length] at hws
    generalize hP : (zs.take 5).map partsF = P at hws
    have hPok : ∀ p ∈ P, okPath p := by
      intro p hp; rw [← hP] at hp
      refine absP fun Gx hGx => ?_
      obtain ⟨d, _, rfl⟩ := List.mem_map.mp hp
      refine hGx ?_
      exact parts_ok d
    have hP5 : P.length = 5 := by rw [← hP, List.length_map, List.length_take]; omega
    have hpl : Ll (put g4 D (listOf ws.toArray nD)) D P := ⟨ws, ⟨nD, put_self _ _ _⟩, hws.mono (IsRow.le x.freeze_le)⟩
    have l5 := x.freeze_le
    replace x := x.freeze
    generalize put g4 D (listOf ws.toArray nD) = g5 at x l5 hpl
    have l5' := (hle3.trans hle4).trans l5
    have G5 := G2.le l5'
    have hyd := hys.le l5'
    have hz2 : ∀ p ∈ P, p.length ≤ 100 := fun p hp => ok_len (hPok p hp)
    refine wpAny_execs_cons (wpAny_Assign_Name ?_)
    refine r_def G5 x rfl (by rfl) (by rfl) (by rfl) (sp_one (r_name x rfl ?_))
    refine ⟨_, G5, ⟨_, _, _, x⟩, ?_⟩
    refine absP fun Gx hGx => ?_
    obtain ⟨oL2, nL2, y⟩ := x
    refine hGx ?_
    refine nodes_call G5 y hOk hpl (by first | assumption | exact Nat.le_trans (by assumption) (by decide) | exact Nat.le_trans (Nat.le_of_eq (by assumption)) (Nat.le_trans (by assumption) (by decide)) | omega) hz2 fun g6 s nd hle6 y hnd => ?_
    have x : Fm g6 L _ _ s0 s := ⟨oL2, nL2, y⟩
    refine r_store x rfl rfl fun s x => ?_
    have G6 := G5.le hle6
    have hnl := nodes_len hPok
    have hwl := words_length (paths := P)
    have hct := climb_len hPok hP5
    have hrt := rows_tot hPok
    have hnk := nodes_ok hPok
    refine wpAny_execs_cons (wpAny_Assign_Name ?_)
    refine r_def G6 x rfl (by rfl) (by rfl) (by rfl) (sp_one (r_name x rfl ?_))
    refine ⟨_, G6, ⟨_, _, _, x⟩, ?_⟩
    refine absP fun Gx hGx => ?_
    obtain ⟨oL3, nL3, y⟩ := x
    refine hGx ?_
    refine needs_call G6 y hOk hnd (by first | assumption | exact Nat.le_trans (by assumption) (by decide) | exact Nat.le_trans (Nat.le_of_eq (by assumption)) (Nat.le_trans (by assumption) (by decide)) | omega) (fun p hp => ok_len (hnk p hp)) fun g7 s ne hle7 y hne => ?_
    have x : Fm g7 L _ _ s0 s := ⟨oL3, nL3, y⟩
    refine r_store x rfl rfl fun s x => ?_
    have G7 := G6.le hle7
    have md : upd (upd (upd (upd m0 "drawn" (.ref dr)) "paths" (.ref D)) "nodes" (.ref nd)) "needs" (.ref ne) "drawn" = some (.ref dr) := rfl
    have mp : upd (upd (upd (upd m0 "drawn" (.ref dr)) "paths" (.ref D)) "nodes" (.ref nd)) "needs" (.ref ne) "paths" = some (.ref D) := rfl
    have mo : upd (upd (upd (upd m0 "drawn" (.ref dr)) "paths" (.ref D)) "nodes" (.ref nd)) "needs" (.ref ne) "nodes" = some (.ref nd) := rfl
    have mn : upd (upd (upd (upd m0 "drawn" (.ref dr)) "paths" (.ref D)) "nodes" (.ref nd)) "needs" (.ref ne) "needs" = some (.ref ne) := rfl
    generalize upd (upd (upd (upd m0 "drawn" (.ref dr)) "paths" (.ref D)) "nodes" (.ref nd)) "needs" (.ref ne) = m7 at x md mp mo mn
    have p7 := hpl.le (hle6.trans hle7)
    have o7 := hnd.le hle7
    have d7 := hyd.le (hle6.trans hle7)
    have t7 := l2.trans (l5'.trans (hle6.trans hle7))
    clear hpl hnd hyd G2 G5 G6 hl
    replace x : Fm g7 L m7 ((L + 1 + 1 + 1 + 1 + 1, oK) :: (L + 1 + 1 + 1 + 1, oR) :: (L + 1 + 1 + 1, oW) :: (L + 1 + 1, oWs) :: (L + 1, oN) :: (23, tabObj #[]) :: (143, tabObj #[]) :: μ) s0 s := x
    refine st_names x b1 mp mo p7 o7 hPok hnk (by first | assumption | exact Nat.le_trans (by assumption) (by decide) | exact Nat.le_trans (Nat.le_of_eq (by assumption)) (Nat.le_trans (by assumption) (by decide)) | omega) (by first | assumption | exact Nat.le_trans (by assumption) (by decide) | exact Nat.le_trans (Nat.le_of_eq (by assumption)) (Nat.le_trans (by assumption) (by decide)) | omega) hWs hN fun g8 s lN lW oN oWs l8 hlN hlW eN hN eWs hWs x => ?_
    have G8 := G7.le l8
    have t8 := t7.trans l8
    refine st_rows G8 x b1 mp (p7.le l8) hPok (by first | assumption | exact Nat.le_trans (by assumption) (by decide) | exact Nat.le_trans (Nat.le_of_eq (by assumption)) (Nat.le_trans (by assumption) (by decide)) | omega) fun g9 s dR l9 hRw x => ?_
    have mr : upd m7 "rows" (.ref dR) "rows" = some (.ref dR) := upd_eq _ _ _
    replace md : upd m7 "rows" (.ref dR) "drawn" = some (.ref dr) := md
    replace mp : upd m7 "rows" (.ref dR) "paths" = some (.ref D) := mp
    replace mo : upd m7 "rows" (.ref dR) "nodes" = some (.ref nd) := mo
    replace mn : upd m7 "rows" (.ref dR) "needs" = some (.ref ne) := mn
    generalize upd m7 "rows" (.ref dR) = m9 at x md mp mo mn mr
    have l79 := l8.trans l9
    have G9 := G8.le l9
    have hR5 : ((P.map downs).map (List.map dotJ)).length = 5 := by rw [List.length_map, List.length_map, hP5]
    refine st_told G9 x hOk f1 rfl rfl mr hRw mp (p7.le l79) hPok (by first | assumption | exact Nat.le_trans (by assumption) (by decide) | exact Nat.le_trans (Nat.le_of_eq (by assumption)) (Nat.le_trans (by assumption) (by decide)) | omega) (by first | assumption | exact Nat.le_trans (by assumption) (by decide) | exact Nat.le_trans (Nat.le_of_eq (by assumption)) (Nat.le_trans (by assumption) (by decide)) | omega) (rows_len hPok) (by first | assumption | exact Nat.le_trans (by assumption) (by decide) | exact Nat.le_trans (Nat.le_of_eq (by assumption)) (Nat.le_trans (by assumption) (by decide)) | omega) (law_merge hPok (by first | assumption | exact Nat.le_trans (by assumption) (by decide) | exact Nat.le_trans (Nat.le_of_eq (by assumption)) (Nat.le_trans (by assumption) (by decide)) | omega)) rfl (climb_ok hPok) (by first | assumption | exact Nat.le_trans (by assumption) (by decide) | exact Nat.le_trans (Nat.le_of_eq (by assumption)) (Nat.le_trans (by assumption) (by decide)) | omega) fun g10 s dT l10 hTl x => ?_
    have mt : upd m9 "told" (.ref dT) "told" = some (.ref dT) := upd_eq _ _ _
    replace md : upd m9 "told" (.ref dT) "drawn" = some (.ref dr) := md
    replace mo : upd m9 "told" (.ref dT) "nodes" = some (.ref nd) := mo
    replace mn : upd m9 "told" (.ref dT) "needs" = some (.ref ne) := mn
    replace mr : upd m9 "told" (.ref dT) "rows" = some (.ref dR) := mr
    generalize upd m9 "told" (.ref dT) = m10 at x md mo mn mr mt
    have G10 := G9.le l10
    have l8a := l9.trans l10
    refine st_readers G10 x hOk2 (words := wordsF P) (hlW.le l8a) (l8a _ _ eWs) hWs (words_nodup hPok) (by first | assumption | exact Nat.le_trans (by assumption) (by decide) | exact Nat.le_trans (Nat.le_of_eq (by assumption)) (Nat.le_trans (by assumption) (by decide)) | omega) hR fun g11 s ρ Dr oR oD kvs l11 eR hR eD hD hrd x => ?_
    have G11 := G10.le l11
    have l8b := l8a.trans l11
    refine st_tips (κ := [(L + 1 + 1 + 1 + 1 + 1, oK), (L + 1 + 1 + 1, oW)]) G11 x hOk (hlN.le l8b) (l8b _ _ eN) hN eR hR eD hD hrd (names_sub hPok) (by rw [List.length_map]; omega) (by first | assumption | exact Nat.le_trans (by assumption) (by decide) | exact Nat.le_trans (Nat.le_of_eq (by assumption)) (Nat.le_trans (by assumption) (by decide)) | omega) (words_len8 hPok) (words_ns hPok) fun g12 s ρ2 dTp l12 hTp hrd2 x => ?_
    change Sl g12 dTp (tipsF P) at hTp
    have mti : upd m10 "tips" (.ref dTp) "tips" = some (.ref dTp) := upd_eq _ _ _
    replace md : upd m10 "tips" (.ref dTp) "drawn" = some (.ref dr) := md
    replace mo : upd m10 "tips" (.ref dTp) "nodes" = some (.ref nd) := mo
    replace mn : upd m10 "tips" (.ref dTp) "needs" = some (.ref ne) := mn
    replace mr : upd m10 "tips" (.ref dTp) "rows" = some (.ref dR) := mr
    replace mt : upd m10 "tips" (.ref dTp) "told" = some (.ref dT) := mt
    generalize upd m10 "tips" (.ref dTp) = m12 at x md mo mn mr mt mti
    have G12 := G11.le l12
    have l8c := l8b.trans l12
    have htz : (tipsF P).length ≤ 100 := Nat.le_trans (List.length_filter_le _ _) (by unfold namesF; rw [List.length_map]; omega)
    refine st_keys (ρ := ρ2) (words := wordsF P) G12 x hOk (tips := tipsF P) (names := namesF P) (hlN.le l8c) (l8c _ _ eN) hN (hlW.le l8c) (l8c _ _ eWs) hWs mti hTp (l12 _ _ eR) hR (l12 _ _ eD) hD hrd2 (names_sub hPok) (fun y hy => (List.mem_filter.mp hy).1) (by unfold namesF; rw [List.length_map]; omega) htz (by first | assumption | exact Nat.le_trans (by assumption) (by decide) | exact Nat.le_trans (Nat.le_of_eq (by assumption)) (Nat.le_trans (by assumption) (by decide)) | omega) (words_nodup hPok) (words_len8 hPok) (words_ns hPok) hK hW fun g13 s m13 ρ3 Dk oK oDk kk l13 hm13 eK hK eDk hDk hkk hrd3 x => ?_
    change KeysOk g13 (keyS P) (wordsF P) kk at hkk
    replace md : m13 "drawn" = some (.ref dr) := (hm13 _ (by decide)).trans md
    replace mo : m13 "nodes" = some (.ref nd) := (hm13 _ (by decide)).trans mo
    replace mn : m13 "needs" = some (.ref ne) := (hm13 _ (by decide)).trans mn
    replace mr : m13 "rows" = some (.ref dR) := (hm13 _ (by decide)).trans mr
    replace mt : m13 "told" = some (.ref dT) := (hm13 _ (by decide)).trans mt
    have G13 := G12.le l13
    refine st_rank G13 x hOk fun g14 s C fa T1 T2 l14 kf il x => ?_
    have mk : upd m13 "rank" (.ref C) "rank" = some (.ref C) := upd_eq _ _ _
    replace md : upd m13 "rank" (.ref C) "drawn" = some (.ref dr) := md
    replace mo : upd m13 "rank" (.ref C) "nodes" = some (.ref nd) := mo
    replace mn : upd m13 "rank" (.ref C) "needs" = some (.ref ne) := mn
    replace mr : upd m13 "rank" (.ref C) "rows" = some (.ref dR) := mr
    replace mt : upd m13 "rank" (.ref C) "told" = some (.ref dT) := mt
    generalize upd m13 "rank" (.ref C) = m14 at x md mo mn mr mt mk
    have G14 := G13.le l14
    have l34 := l13.trans l14
    have l8d := l8c.trans l34
    have l24 := l12.trans l34
    have LD := law_ok hPok hP5
    have hpos := LD.pos
    refine st_sorted (words := wordsF P) G14 x hOk (by first | assumption | exact Nat.le_trans (by assumption) (by decide) | exact Nat.le_trans (Nat.le_of_eq (by assumption)) (Nat.le_trans (by assumption) (by decide)) | omega) (by first | assumption | exact Nat.le_trans (by assumption) (by decide) | exact Nat.le_trans (Nat.le_of_eq (by assumption)) (Nat.le_trans (by assumption) (by decide)) | omega) (key := keyS P) (hlW.le l8d) (l8d _ _ eWs) hWs (l14 _ _ eK) hK (l14 _ _ eDk) hDk (hkk.le l14) kf il mk mt (hTl.le (l11.trans l24)) (by rw [← hwl] at hpos; exact hpos) (by first | assumption | exact Nat.le_trans (by assumption) (by decide) | exact Nat.le_trans (Nat.le_of_eq (by assumption)) (Nat.le_trans (by assumption) (by decide)) | omega) (words_nodup hPok) (words_tri hPok) (fun out ho hs => law_sorted hPok ho hs) fun g15 s l15 x => ?_
    have G15 := G14.le l15
    have l8e := l8d.trans l15
    have l7e := l8.trans l8e
    refine st_rest G15 hOk f1 LD ⟨hlW.le l8e, l8e _ _ eWs, hWs, (l24.trans l15) _ _ eR, hR, (l24.trans l15) _ _ eD, hD⟩ x (hrd3.le (l14.trans l15)) mn (hne.le l7e) mr (hRw.le (l10.trans (l11.trans (l24.trans l15)))) md (d7.le l7e) hyi (by first | assumption | exact Nat.le_trans (by assumption) (by decide) | exact Nat.le_trans (Nat.le_of_eq (by assumption)) (Nat.le_trans (by assumption) (by decide)) | omega) mo (o7.le l7e) fun g16 m16 ρ4 s l16 x => ?_
    exact hR0 g16 T1 T2 s (t7.trans (l7e.trans l16)) (x.st.sub (List.sublist_append_right _ _))
end
end Mine
end
section
set_option maxRecDepth 100000
set_option autoImplicit false
namespace Mine
open PySem PySem.Spec PySem.Calls PyProof.Rows PySem.W PySem.SeqAt
theorem lookup_filterK {q : Addr × Obj → Bool} (hq : ∀ a o o', q (a, o) = q (a, o')) : ∀ {K : List (Addr × Obj)} {a : Addr} {o : Obj}, (K.filter q).lookup a = some o → K.lookup a = some o ∧ q (a, o) = true
  | [], _, _, e => by cases e
  | (b, ob) :: K, a, o, e => by
    rw [List.filter_cons] at e
    by_cases hb : a = b
    · subst hb
      cases hqb : q (a, ob) with
      | true =>
        rw [hqb, if_pos rfl, List.lookup_cons_self] at e
        cases e
        exact ⟨List.lookup_cons_self, hqb⟩
      | false =>
        rw [hqb, if_neg (by simp)] at e
        have := (lookup_filterK hq e).2
        rw [hq a o ob, hqb] at this; cases this
    · have hb' : (a == b) = false := beq_eq_false_iff_ne.mpr hb
      rw [List.lookup_cons, hb']
      cases hqb : q (b, ob) with
      | true =>
        rw [hqb, if_pos rfl, List.lookup_cons, hb'] at e
        exact lookup_filterK hq e
      | false =>
        rw [hqb, if_neg (by simp)] at e
        exact lookup_filterK hq e
theorem K9_in {w : World} {h : Heap} {tabs : List (Addr × Addr)} (X : (hd.heap_1 w.params).In h) (ht : ∀ q ∈ tabs, q.2 = 23 ∨ q.2 = 143) : (K9 w).In (ghostOf h tabs) := fun a o e => by
  obtain ⟨e1, e2⟩ := lookup_filterK (q := fun p => !(Nat.beq p.1 23 || Nat.beq p.1 143)) (fun _ _ _ => rfl) e
  refine ghost_ne (X a o e1) fun hm => ?_
  refine absP fun Gx hGx => ?_
  obtain ⟨q, hq, rfl⟩ := List.mem_map.mp hm
  refine hGx ?_
  simp only [Bool.not_eq_true', Bool.or_eq_false_iff] at e2
  obtain ⟨e3, e4⟩ := e2
  rcases ht q hq with h | h
  · rw [h] at e3; cases e3
  · rw [h] at e4; cases e4
theorem law_end {prog : Program} {w : World} {s₁ : Shared} {mg mb : Str → Option Value} {p : Program} {loose : List Str} {mean0 : ExcName → Option Value} (KX : (hd.heap_1 w.params).In s₁.heap) (T : Top p loose mean0 mg mb s₁.heap) (hT9 : TabsAt [(27, 23), (145, 143)] s₁.heap) (hsy : ∃ mm, s₁.heap.Ns sysModules mm) (hg : s₁.gens = #[])
    {l : Addr} {vs : List Value} {ns : List Int} (hL : s₁.heap.IsList l vs.toArray) (hI : IntsAre vs ns) (hlen : ns.length ≤ 63) {cw : ClaimW} {cl : Str → Option Addr} {mean : ExcName → Option Value} {args : List WData} (hr : ∀ cls, cw.raises args cls = false) (hp : cw.post args (.bool true) args = true) :
    codeAny (model prog w) callerA (.call (.ref 146) ⟨[.ref l], []⟩) (fun r s' => GoodW cw cl mean args { s₁ with heap := ghostOf s₁.heap [(27, 23), (145, 143)] } r s' ∧ GrownAll [(27, 23), (145, 143)] s'.heap) s₁ := by
  have T9 := ghost_top hT9 T
  have G9 : Gd w mg mb (fun a => (ghostOf s₁.heap [(27, 23), (145, 143)]).get? a) := Gd.of_top (K9_in KX (by
    intro q hq; simp only [List.mem_cons, List.not_mem_nil, or_false] at hq
    rcases hq with rfl | rfl
    · exact .inl rfl
    · exact .inr rfl)) T9 (let ⟨_, hn⟩ := hsy; let ⟨o, _, _, e, _⟩ := ghost_ns hT9 hn; ⟨o, e⟩)
  have t23 : s₁.heap.get? 23 = some (tabObj #[]) := (hT9 (27, 23) (.head _)).2
  have t143 : s₁.heap.get? 143 = some (tabObj #[]) := (hT9 (145, 143) (.tail _ (.head _))).2
  have x : St (fun a => (ghostOf s₁.heap [(27, 23), (145, 143)]).get? a) ((23, tabObj #[]) :: (143, tabObj #[]) :: []) s₁ s₁ := by
    refine ⟨⟨s₁.heap, s₁.toks, rfl⟩, fun b o e => of_hideAll _ e, fun p hp => ?_, fun p hp => ?_, by decide⟩
    · simp only [List.mem_cons, List.not_mem_nil, or_false] at hp
      rcases hp with rfl | rfl
      · exact t23
      · exact t143
    · simp only [List.mem_cons, List.not_mem_nil, or_false] at hp
      rcases hp with rfl | rfl
      · exact hideAll_none _ (.head _)
      · exact hideAll_none _ (.tail _ (.head _))
  have hlst : LsX (fun a => (ghostOf s₁.heap [(27, 23), (145, 143)]).get? a) l vs := ghost_list hT9 hL
  have hvl : vs.length ≤ 63 := by rw [hI.length]; exact hlen
  refine law_call G9 x rfl rfl (by decide) (by decide) hlst (Ints.of hI) hvl fun g' T1 T2 s' hle y => ?_
  refine absP fun Gx hGx => ?_
  obtain ⟨h2, tk2, e2⟩ := y.same
  refine hGx ?_
  refine ⟨⟨.inl ⟨_, _, _, rfl, hr, .bool true, hp, unshared_nil⟩, fun b o e => y.frz b o (hle b o e), by rw [e2], by rw [e2]; exact hg⟩, ⟨T1, y.mu _ (.head _)⟩, ⟨T2, y.mu _ (.tail _ (.head _))⟩, trivial⟩
set_option maxHeartbeats 8000000 in
theorem E1 : PySem.Challenge.rw_in0206_01.Holds := by
  refine hd ?_
  w_on
  w_strict (
    k_fill
    intro w s₀ s₁ mg mb G Y fa o pm cd doc dV kV ho hd hcd hD hmg hg args vals as hpre hlay hrd hwl hlo
    have KX := km_in_of Y
    have X := (Ground.X G).1
    have V := (Ground.X G).2
    refine Ground.open G ?_
    intro T B D TE TW
    have h146 : mg "law" = some (.ref 146) := mg_of KX T.g (by kernel_rfl)
    have hfa : fa = 146 := by
      have h1 : mg "law" = some (.ref fa) := hmg
      rw [h146] at h1; cases h1; rfl
    subst hfa
    have hT9 : TabsAt [(27, 23), (145, 143)] s₁.heap := List.forall_mem_cons.mpr ⟨tab_of (x := "cmp_to_key") (c := 27) (P := 23) T KX rfl (by kernel_rfl), List.forall_mem_cons.mpr ⟨tab_of (x := "law") (c := 145) (P := 143) T KX rfl (by kernel_rfl), fun _ h => nomatch h⟩⟩
    clear hd hcd hD hmg
    wrow_args hpre hlay hrd hwl hlo
    refine enter_call (kn_post hT9 (fun _ _ => rfl) ?_)
    rename IntsAre _ _ => hI
    rename Heap.IsList _ _ _ => hL
    rename ¬ _ < _ => hlen
    exact law_end KX T hT9 (let ⟨mm, h, _⟩ := (T.seer (by kernel_rfl)).mods; ⟨mm, h⟩) hg hL hI (by first | assumption | exact Nat.le_trans (by assumption) (by decide) | exact Nat.le_trans (Nat.le_of_eq (by assumption)) (Nat.le_trans (by assumption) (by decide)) | omega) (raisesW_false (by wrow_none_raised)) (by wrow_post))
end Mine
end
end
theorem PySem.Challenge.cw_in0206_01_holds : PySem.Challenge.rw_in0206_01.Holds :=
  Mine.E1
