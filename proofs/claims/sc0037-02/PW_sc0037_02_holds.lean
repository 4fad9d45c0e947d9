import PyProof.Rows.All
import Wide.All
import OpenK.AllK
import Wide.FinOn
import PySem.Challenge.RW_sc0037_02
set_option Elab.async false
set_option maxRecDepth 100000
set_option maxHeartbeats 8000000
set_option linter.all false
set_option bootstrap.genMatcherCode false
set_option genSizeOf false
set_option tactic.hygienic false
local macro_rules | `(tactic| omega) => `(tactic| first | lia | omega (splitMinMax := true))
section
namespace Mine
open PySem PySem.Spec PySem.Calls PyProof.Rows PySem.W
inductive AV where
  | none
  | bool (b : Bool)
  | int (i : Int)
  | str (s : List Nat)
  | bytes (b : List Nat)
  | ref (l : Nat)
  | val (v : Value)
noncomputable abbrev Th := Nat → Addr
noncomputable def VR (n : Nat) (θ : Th) : AV → Value → Prop
  | .none, v => v = .none
  | .bool b, v => v = .bool b
  | .int i, v => ∃ t, v = .int i t
  | .str s, v => ∃ t, v = .str ⟨s.toArray⟩ t
  | .bytes b, v => ∃ a t, v = .bytes a t ∧ a.toList.map (·.toNat) = b
  | .ref l, v => l < n ∧ v = .ref (θ l)
  | .val u, v => v = u
noncomputable def OVR (n : Nat) (θ : Th) : Option AV → Option Value → Prop
  | none, none => True
  | some a, some v => VR n θ a v
  | _, _ => False
inductive All2 {α β : Type} (P : α → β → Prop) : List α → List β → Prop
  | nil : All2 P [] []
  | cons {a b l m} : P a b → All2 P l m → All2 P (a :: l) (b :: m)
namespace All2
variable {α β : Type} {P P' : α → β → Prop}
theorem length {l : List α} {m : List β} (h : All2 P l m) : l.length = m.length := by
  induction h with
  | nil => rfl
  | cons _ _ ih => exact congrArg Nat.succ ih
theorem mono (h : ∀ a b, P a b → P' a b) {l : List α} {m : List β} (q : All2 P l m) : All2 P' l m := by
  induction q with
  | nil => exact .nil
  | cons x _ ih => exact .cons (h _ _ x) ih
theorem get {l : List α} {m : List β} (h : All2 P l m) : ∀ (i : Nat) (a : α), l[i]? = some a → ∃ b, m[i]? = some b ∧ P a b := by
  induction h with
  | nil => intro i a h; cases h
  | cons x _ ih =>
    intro i a h
    cases i with
    | zero => cases h; exact ⟨_, rfl, x⟩
    | succ i => exact ih i a h
theorem append {l l' : List α} {m m' : List β} (h : All2 P l m) (h' : All2 P l' m') : All2 P (l ++ l') (m ++ m') := by
  induction h with
  | nil => exact h'
  | cons x _ ih => exact .cons x ih
theorem take {l : List α} {m : List β} (i : Nat) (h : All2 P l m) : All2 P (l.take i) (m.take i) := by
  induction h generalizing i with
  | nil => rw [List.take_nil, List.take_nil]; exact .nil
  | cons x _ ih => cases i with
    | zero => exact .nil
    | succ i => exact .cons x (ih i)
theorem drop {l : List α} {m : List β} (i : Nat) (h : All2 P l m) : All2 P (l.drop i) (m.drop i) := by
  induction h generalizing i with
  | nil => rw [List.drop_nil, List.drop_nil]; exact .nil
  | cons x t ih => cases i with
    | zero => exact .cons x t
    | succ i => exact ih i
theorem set {l : List α} {m : List β} (i : Nat) {a : α} {b : β} (h : All2 P l m) (q : P a b) : All2 P (l.set i a) (m.set i b) := by
  induction h generalizing i with
  | nil => exact .nil
  | cons x t ih => cases i with
    | zero => exact .cons q t
    | succ i => exact .cons x (ih i)
theorem reverse {l : List α} {m : List β} (h : All2 P l m) : All2 P l.reverse m.reverse := by
  induction h with
  | nil => exact .nil
  | cons x _ ih => simp only [List.reverse_cons]; exact ih.append (.cons x .nil)
theorem snoc {l : List α} {m : List β} {a : α} {b : β} (h : All2 P l m) (x : P a b) : All2 P (l ++ [a]) (m ++ [b]) := h.append (.cons x .nil)
end All2
structure Cx where
  prog : Program
  w : World
  base : Heap
  tbl : Nat → List Str
structure FnSpec where
  qual : Str
  params : Arguments
  body : FuncBody
  scope : Scope
inductive AO where
  | ns (k : Nat) (vs : List (Option AV))
  | cell (v : Option AV)
  | list (xs : List AV)
  | tup (xs : List AV)
  | sdict (es : List (List Nat × AV))
  | idict (es : List (Int × AV))
  | inst (c : Addr) (d : Nat)
  | attrs (es : List (Str × AV))
  | meth (f : Value) (self : AV)
  | fn (sp : FnSpec) (code : Nat) (cl : List (Str × Nat))
  | code (q : Str)
  | citer (f s : AV)
  | range (a b st : Int)
  | raw (P : Addr) (o : Obj)
  | tab
  | dead
noncomputable def ORep (c : Cx) (n : Nat) (θ : Th) (h : Heap) (a : Addr) : AO → Prop
  | .ns k vs => vs.length = (c.tbl k).length ∧ (c.tbl k).Nodup ∧ ∃ m, h.Ns a m ∧ ∀ (i : Nat) (x : Str) (v : Option AV), (c.tbl k)[i]? = some x → vs[i]? = some v → OVR n θ v (m x)
  | .cell v => ∃ o v', h.get? a = some o ∧ o.data = .cell v' ∧ OVR n θ v v'
  | .list xs => ∃ vs : List Value, h.PlainList a vs.toArray ∧ All2 (VR n θ) xs vs
  | .tup xs => ∃ vs : List Value, IsTup h a vs.toArray ∧ All2 (VR n θ) xs vs
  | .sdict es => ∃ kvs : List (Str × Value), h.DictOf (strKind c.prog c.w) a kvs ∧ (a == sysModules) = false ∧ All2 (fun e d => d.1 = ⟨e.1.toArray⟩ ∧ VR n θ e.2 d.2) es kvs
  | .idict es => ∃ kvs : List (Int × Value), h.DictOf (intKind c.prog c.w) a kvs ∧ (a == sysModules) = false ∧ All2 (fun e d => d.1 = e.1 ∧ VR n θ e.2 d.2) es kvs
  | .inst c d => d < n ∧ h.get? a = some (instObj c (θ d))
  | .attrs es => ∃ (ds : List DictEntry) (k : Nat), h.get? a = some (dictOf ds k) ∧ All2 (fun e d => (∃ t, d.key = .str e.1 t) ∧ VR n θ e.2 d.val) es ds
  | .meth f self => ∃ v, VR n θ self v ∧ h.get? a = some (methodObj f v)
  | .fn sp code cl => ∃ o fd, h.get? a = some o ∧ o.cls = .type "function" ∧ o.data = .func fd ∧ fd.qualname = sp.qual ∧ fd.params = sp.params ∧ fd.body = sp.body ∧ fd.scope = sp.scope ∧ fd.globals = mainGlobals ∧ fd.builtins = builtinsNs ∧
      fd.defaults = .none ∧ fd.kwdefaults = .none ∧ code < n ∧ fd.code = .ref (θ code) ∧ (∀ p ∈ cl, p.2 < n) ∧ fd.closure = cl.map (fun p => (p.1, θ p.2))
  | .code q => ∃ o vs t, h.get? a = some o ∧ o.data = .fields vs ∧ vs[1]? = some (.str q t)
  | .citer f s => ∃ vf vs, VR n θ f vf ∧ VR n θ s vs ∧ h.get? a = some { cls := .type "callable_iterator", data := .fields #[vf, vs, .bool false] }
  | .range x y st => ∃ t u v, h.get? a = some { cls := .type "range", dict := none, data := .fields #[.int x t, .int y u, .int st v], slots := #[] }
  | .raw P o => a = P ∧ h.get? a = some o
  | .tab => ∃ ps, h.get? a = some (tabObj ps)
  | .dead => ∃ ob, h.get? a = some ob
theorem VR.mono {n n' : Nat} {θ θ' : Th} (hn : n ≤ n') (hs : ∀ l, l < n → θ' l = θ l) : ∀ {a : AV} {v : Value}, VR n θ a v → VR n' θ' a v
  | .none, _, h => h
  | .bool _, _, h => h
  | .int _, _, h => h
  | .str _, _, h => h
  | .bytes _, _, h => h
  | .val _, _, h => h
  | .ref l, _, h => ⟨Nat.lt_of_lt_of_le h.1 hn, by rw [hs l h.1]; exact h.2⟩
theorem OVR.mono {n n' : Nat} {θ θ' : Th} (hn : n ≤ n') (hs : ∀ l, l < n → θ' l = θ l) : ∀ {a : Option AV} {v : Option Value}, OVR n θ a v → OVR n' θ' a v
  | none, none, _ => trivial
  | some _, some _, h => VR.mono hn hs h
  | none, some _, h => h.elim
  | some _, none, h => h.elim
theorem ORep.congr {c : Cx} {n : Nat} {θ : Th} {h h' : Heap} {a : Addr} (e : ∀ o, h.get? a = some o → h'.get? a = some o) {o : AO} (H : ORep c n θ h a o) : ORep c n θ h' a o := by
  cases o with
  | ns => exact ⟨H.1, H.2.1, H.2.2.imp fun m x => ⟨x.1.at' e, x.2⟩⟩
  | cell => exact H.imp fun o => Exists.imp fun v x => ⟨e _ x.1, x.2⟩
  | list => exact H.imp fun vs x => ⟨x.1.imp fun _ => e _, x.2⟩
  | tup => exact H.imp fun vs x => ⟨x.1.imp fun _ y => ⟨e _ y.1, y.2⟩, x.2⟩
  | sdict => exact H.imp fun vs x => ⟨x.1.imp fun _ => Exists.imp fun _ => Exists.imp fun _ y => ⟨e _ y.1, y.2⟩, x.2⟩
  | idict => exact H.imp fun vs x => ⟨x.1.imp fun _ => Exists.imp fun _ => Exists.imp fun _ y => ⟨e _ y.1, y.2⟩, x.2⟩
  | inst => exact ⟨H.1, e _ H.2⟩
  | attrs => exact H.imp fun _ => Exists.imp fun _ y => ⟨e _ y.1, y.2⟩
  | meth => exact H.imp fun _ y => ⟨y.1, e _ y.2⟩
  | fn => exact H.imp fun _ => Exists.imp fun _ y => ⟨e _ y.1, y.2⟩
  | code => exact H.imp fun _ => Exists.imp fun _ => Exists.imp fun _ y => ⟨e _ y.1, y.2⟩
  | citer => exact H.imp fun _ => Exists.imp fun _ y => ⟨y.1, y.2.1, e _ y.2.2⟩
  | range => exact H.imp fun _ => Exists.imp fun _ => Exists.imp fun _ => e _
  | raw => exact ⟨H.1, e _ H.2⟩
  | tab => exact H.imp fun _ => e _
  | dead => exact H.imp fun _ => e _
theorem ORep.mono {c : Cx} {n n' : Nat} {θ θ' : Th} {h : Heap} {a : Addr} (hn : n ≤ n') (hs : ∀ l, l < n → θ' l = θ l) {o : AO} (H : ORep c n θ h a o) : ORep c n' θ' h a o := by
  cases o with
  | ns => exact ⟨H.1, H.2.1, H.2.2.imp fun m x => ⟨x.1, fun i k v h1 h2 => (x.2 i k v h1 h2).mono hn hs⟩⟩
  | cell => exact H.imp fun _ => Exists.imp fun _ x => ⟨x.1, x.2.1, x.2.2.mono hn hs⟩
  | list => exact H.imp fun _ x => ⟨x.1, x.2.mono fun _ _ => VR.mono hn hs⟩
  | tup => exact H.imp fun _ x => ⟨x.1, x.2.mono fun _ _ => VR.mono hn hs⟩
  | sdict => exact H.imp fun _ x => ⟨x.1, x.2.1, x.2.2.mono fun _ _ x => ⟨x.1, x.2.mono hn hs⟩⟩
  | idict => exact H.imp fun _ x => ⟨x.1, x.2.1, x.2.2.mono fun _ _ x => ⟨x.1, x.2.mono hn hs⟩⟩
  | inst _ d => exact ⟨Nat.lt_of_lt_of_le H.1 hn, (hs d H.1).symm ▸ H.2⟩
  | attrs => exact H.imp fun _ => Exists.imp fun _ x => ⟨x.1, x.2.mono fun _ _ x => ⟨x.1, x.2.mono hn hs⟩⟩
  | meth => exact H.imp fun _ x => ⟨x.1.mono hn hs, x.2⟩
  | fn _ k cl =>
    refine H.imp fun o => Exists.imp fun fd ⟨h1, h2, h3, h4, h5, h6, h7, h8, h9, h10, h⟩ => ⟨h1, h2, h3, h4, h5, h6, h7, h8, h9, h10, h.1, ?_⟩
    exact ⟨Nat.lt_of_lt_of_le h.2.1 hn, (hs k h.2.1).symm ▸ h.2.2.1, fun p hp => Nat.lt_of_lt_of_le (h.2.2.2.1 p hp) hn, h.2.2.2.2.trans (List.map_congr_left fun p hp => by rw [hs p.2 (h.2.2.2.1 p hp)])⟩
  | code => exact H
  | citer => exact H.imp fun _ => Exists.imp fun _ x => ⟨x.1.mono hn hs, x.2.1.mono hn hs, x.2.2⟩
  | range => exact H
  | raw => exact H
  | tab => exact H
  | dead => exact H
theorem ORep.alive {c : Cx} {n : Nat} {θ : Th} {h : Heap} {a : Addr} {o : AO} (H : ORep c n θ h a o) : ∃ ob, h.get? a = some ob := by
  cases o with
  | ns => exact H.2.2.elim fun _ x => x.1.imp fun _ y => (y.elim fun _ y => y.elim fun _ y => y.1)
  | cell => exact H.imp fun _ x => x.elim fun _ y => y.1
  | list => exact H.elim fun _ x => x.1.elim fun _ y => ⟨_, y⟩
  | tup => exact H.elim fun _ x => x.1.imp fun _ y => y.1
  | sdict => exact H.elim fun _ x => x.1.imp fun _ y => (y.elim fun _ y => y.elim fun _ y => y.1)
  | idict => exact H.elim fun _ x => x.1.imp fun _ y => (y.elim fun _ y => y.elim fun _ y => y.1)
  | inst => exact ⟨_, H.2⟩
  | attrs => exact H.elim fun _ x => x.elim fun _ y => ⟨_, y.1⟩
  | meth => exact H.elim fun _ x => ⟨_, x.2⟩
  | fn => exact H.imp fun _ x => x.elim fun _ y => y.1
  | code => exact H.imp fun _ x => x.elim fun _ y => y.elim fun _ y => y.1
  | citer => exact H.elim fun _ x => x.elim fun _ y => ⟨_, y.2.2⟩
  | range => exact H.elim fun _ x => x.elim fun _ x => x.elim fun _ y => ⟨_, y⟩
  | raw => exact ⟨_, H.2⟩
  | tab => exact H.elim fun _ x => ⟨_, x⟩
  | dead => exact H
structure R (c : Cx) (θ : Th) (σ : List AO) (h : Heap) : Prop where
  keep : ∀ b o, c.base.get? b = some o → h.get? b = some o
  obj : ∀ l o, σ[l]? = some o → ORep c σ.length θ h (θ l) o
  inj : ∀ l l', l < σ.length → l' < σ.length → θ l = θ l' → l = l'
  off : ∀ l, l < σ.length → c.base.get? (θ l) = none
theorem R.alive {c : Cx} {θ : Th} {σ : List AO} {h : Heap} (r : R c θ σ h) {l : Nat} (hl : l < σ.length) : ∃ o, h.get? (θ l) = some o :=
  (r.obj l σ[l] (List.getElem?_eq_getElem hl)).alive
structure Ext (n : Nat) (θ : Th) (h : Heap) (n' : Nat) (θ' : Th) (h' : Heap) : Prop where
  le : n ≤ n'
  same : ∀ l, l < n → θ' l = θ l
  keeps : ∀ b o, (∀ l, l < n → b ≠ θ l) → h.get? b = some o → h'.get? b = some o
  fresh : ∀ l, n ≤ l → l < n' → h.get? (θ' l) = none
theorem Ext.refl (n : Nat) (θ : Th) (h : Heap) : Ext n θ h n θ h :=
  ⟨Nat.le_refl _, fun _ _ => rfl, fun _ _ _ e => e, fun _ h1 h2 => absurd h2 (Nat.not_lt.mpr h1)⟩
theorem Ext.trans {n₂ : Nat} {n : Nat} {c : Cx} {σ₁ : List AO} {θ θ₁ θ₂ : Th} {h h₁ h₂ : Heap} (x : Ext n θ h σ₁.length θ₁ h₁) (r₁ : R c θ₁ σ₁ h₁) (y : Ext σ₁.length θ₁ h₁ n₂ θ₂ h₂) : Ext n θ h n₂ θ₂ h₂ where
  le := Nat.le_trans x.le y.le
  same := fun l hl => (y.same l (Nat.lt_of_lt_of_le hl x.le)).trans (x.same l hl)
  keeps := fun b o hb e => y.keeps b o (fun l hl q => by
    by_cases hn : l < n
    · exact hb l hn (q.trans (x.same l hn))
    · have := x.fresh l (Nat.not_lt.mp hn) hl
      rw [← q, e] at this; cases this) (x.keeps b o hb e)
  fresh := fun l h1 h2 => by
    by_cases hn : l < σ₁.length
    · rw [y.same l hn]; exact x.fresh l h1 hn
    · have f := y.fresh l (Nat.not_lt.mp hn) h2
      cases e : h.get? (θ₂ l) with
      | none => rfl
      | some o =>
        by_cases hb : ∀ k, k < n → θ₂ l ≠ θ k
        · rw [x.keeps _ o hb e] at f; cases f
        · have ⟨k, hk, q⟩ : ∃ k, k < n ∧ θ₂ l = θ k := by
            apply Classical.byContradiction
            intro q; exact hb fun k hk q' => q ⟨k, hk, q'⟩
          obtain ⟨o', e'⟩ := r₁.alive (Nat.lt_of_lt_of_le hk x.le)
          rw [q, ← x.same k hk, e'] at f; cases f
theorem R.get {c : Cx} {h : Heap} {θ : Th} {σ : List AO} {l : Nat} {o : AO} (r : R c θ σ h) (e : σ[l]? = some o) : ORep c σ.length θ h (θ l) o := r.obj l o e
theorem lt_of_get {α : Type} {σ : List α} {l : Nat} {o : α} (e : σ[l]? = some o) : l < σ.length := (List.getElem?_eq_some_iff.mp e).1
theorem R.set {c : Cx} {h h' : Heap} {θ : Th} {σ : List AO} {l : Nat} {o' : AO} (r : R c θ σ h) (hl : l < σ.length) (hs : Heap.SameBut (θ l) h h') (ho : ORep c σ.length θ h' (θ l) o') :
    R c θ (σ.set l o') h' ∧ Ext σ.length θ h (σ.set l o').length θ h' := by
  have hlen : (σ.set l o').length = σ.length := List.length_set ..
  refine ⟨⟨fun b o e => ?_, fun k o e => ?_, ?_, ?_⟩, ⟨by rw [hlen]; exact Nat.le_refl _, fun _ _ => rfl, fun b o hb e => hs.extBut b o (hb l hl) e, fun k h1 h2 => by rw [hlen] at h2; exact absurd h2 (Nat.not_lt.mpr h1)⟩⟩
  · refine hs.extBut b o (fun q => ?_) (r.keep b o e)
    have := r.off l hl
    rw [← q, e] at this; cases this
  · rw [hlen]
    have hk : k < σ.length := hlen ▸ lt_of_get e
    by_cases hkl : l = k
    · subst hkl
      rw [List.getElem?_set_self (by exact hl)] at e
      cases e; exact ho
    · rw [List.getElem?_set_ne hkl] at e
      exact (r.obj k o e).congr fun o'' e'' => hs.extBut _ _ (fun q => hkl ((r.inj k l hk hl q).symm)) e''
  · rw [hlen]; exact r.inj
  · rw [hlen]; exact r.off
noncomputable def ext1 (θ : Th) (n : Nat) (a : Addr) : Th := fun l => if l = n then a else θ l
theorem ext1_old {θ : Th} {n : Nat} {a : Addr} {l : Nat} (h : l < n) : ext1 θ n a l = θ l := if_neg (Nat.ne_of_lt h)
theorem ext1_new {θ : Th} {n : Nat} {a : Addr} : ext1 θ n a n = a := if_pos rfl
theorem R.push {c : Cx} {h h' : Heap} {θ : Th} {σ : List AO} {a : Addr} {o' : AO} (r : R c θ σ h) (hk : ∀ b o, h.get? b = some o → h'.get? b = some o) (ha : h.get? a = none)
    (ho : ORep c (σ.length + 1) (ext1 θ σ.length a) h' a o') :
    R c (ext1 θ σ.length a) (σ ++ [o']) h' ∧ Ext σ.length θ h (σ ++ [o']).length (ext1 θ σ.length a) h' := by
  have hlen : (σ ++ [o']).length = σ.length + 1 := by simp
  have old : ∀ l, l < σ.length → ext1 θ σ.length a l = θ l := fun l hl => ext1_old hl
  have ne : ∀ l, l < σ.length → θ l ≠ a := fun l hl q => by
    obtain ⟨o, e⟩ := r.alive hl
    rw [q, ha] at e; cases e
  have cut : ∀ l, l < σ.length + 1 → l < σ.length ∨ l = σ.length := fun l hl => by omega
  refine ⟨⟨fun b o e => hk b o (r.keep b o e), fun l o e => ?_, ?_, ?_⟩, ⟨by rw [hlen]; omega, old, fun b o _ e => hk b o e, fun l h1 h2 => ?_⟩⟩
  · rw [hlen]
    have hl : l < σ.length + 1 := hlen ▸ lt_of_get e
    rcases cut l hl with hl | rfl
    · rw [List.getElem?_append_left hl] at e
      rw [old l hl]
      exact ((r.obj l o e).congr fun o'' e'' => hk _ _ e'').mono (Nat.le_succ _) old
    · rw [List.getElem?_append_right (Nat.le_refl _)] at e
      simp at e; subst e
      rw [ext1_new]; exact ho
  · rw [hlen]
    intro l l' h1 h2 e
    rcases cut l h1 with h1 | rfl <;> rcases cut l' h2 with h2 | rfl
    · rw [old l h1, old l' h2] at e; exact r.inj l l' h1 h2 e
    · rw [old l h1, ext1_new] at e; exact absurd e (ne l h1)
    · rw [old l' h2, ext1_new] at e; exact absurd e.symm (ne l' h2)
    · rfl
  · rw [hlen]
    intro l hl
    rcases cut l hl with hl | rfl
    · rw [old l hl]; exact r.off l hl
    · rw [ext1_new]
      cases e : c.base.get? a with
      | none => rfl
      | some o => have := r.keep a o e; rw [ha] at this; cases this
  · rw [hlen] at h2
    have : l = σ.length := by omega
    subst this
    rw [ext1_new]; exact ha
theorem R.grow {c : Cx} {h h' : Heap} {θ : Th} {σ : List AO} (r : R c θ σ h) (hk : ∀ b o, (∀ l, l < σ.length → b ≠ θ l) → h.get? b = some o → h'.get? b = some o)
    (hk' : ∀ l o, l < σ.length → h.get? (θ l) = some o → h'.get? (θ l) = some o) :
    R c θ σ h' ∧ Ext σ.length θ h σ.length θ h' :=
  ⟨⟨fun b o e => hk b o (fun l hl q => by have := r.off l hl; rw [← q, e] at this; cases this) (r.keep b o e), fun l o e => (r.obj l o e).congr fun o' e' => hk' l o' (lt_of_get e) e', r.inj, r.off⟩,
   ⟨Nat.le_refl _, fun _ _ => rfl, hk, fun _ h1 h2 => absurd h2 (Nat.not_lt.mpr h1)⟩⟩
structure Post (c : Cx) (θ : Th) (σ : List AO) (s : Shared) (θ' : Th) (σ' : List AO) (s' : Shared) : Prop where
  st : ∃ h' tk, s' = { s with heap := h', toks := tk }
  ext : Ext σ.length θ s.heap σ'.length θ' s'.heap
  r : R c θ' σ' s'.heap
theorem Post.refl {c : Cx} {θ : Th} {σ : List AO} {s : Shared} (r : R c θ σ s.heap) : Post c θ σ s θ σ s := ⟨⟨_, _, rfl⟩, Ext.refl _ _ _, r⟩
theorem Post.toks {c : Cx} {θ : Th} {σ : List AO} {s : Shared} (r : R c θ σ s.heap) (tk : Nat) : Post c θ σ s θ σ { s with toks := tk } := ⟨⟨_, _, rfl⟩, Ext.refl _ _ _, r⟩
theorem Post.trans {c : Cx} {θ θ₁ θ₂ : Th} {σ σ₁ σ₂ : List AO} {s s₁ s₂ : Shared} (x : Post c θ σ s θ₁ σ₁ s₁) (y : Post c θ₁ σ₁ s₁ θ₂ σ₂ s₂) : Post c θ σ s θ₂ σ₂ s₂ := by
  obtain ⟨⟨h1, t1, rfl⟩, e1, r1⟩ := x
  obtain ⟨⟨h2, t2, rfl⟩, e2, r2⟩ := y
  exact ⟨⟨_, _, rfl⟩, e1.trans r1 e2, r2⟩
theorem Post.vr {c : Cx} {θ θ' : Th} {σ σ' : List AO} {s s' : Shared} (x : Post c θ σ s θ' σ' s') {a : AV} {v : Value} (h : VR σ.length θ a v) : VR σ'.length θ' a v := h.mono x.ext.le x.ext.same
theorem Post.vrs {c : Cx} {θ θ' : Th} {σ σ' : List AO} {s s' : Shared} (x : Post c θ σ s θ' σ' s') {a : List AV} {v : List Value} (h : All2 (VR σ.length θ) a v) : All2 (VR σ'.length θ') a v := h.mono fun _ _ => x.vr
noncomputable abbrev St (β : Type) := List AO → Option (β × List AO)
noncomputable def St.bind {α β : Type} (p : St α) (f : α → St β) : St β := fun σ => match p σ with
  | none => none
  | some (a, σ') => f a σ'
noncomputable def St.pure {α : Type} (a : α) : St α := fun σ => some (a, σ)
noncomputable def St.fail {α : Type} : St α := fun _ => none
theorem St.bind_some {α β : Type} {p : St α} {f : α → St β} {σ σ'' : List AO} {b : β} (h : St.bind p f σ = some (b, σ'')) : ∃ a σ', p σ = some (a, σ') ∧ f a σ' = some (b, σ'') := by
  unfold St.bind at h
  split at h
  · cases h
  · exact ⟨_, _, by assumption, h⟩
noncomputable abbrev FF : Value → Shared → Prop := fun _ _ => False
noncomputable abbrev SatQ {α β : Type} (c : Cx) (rel : Nat → Th → β → α → Prop) (θ : Th) (σ : List AO) (s : Shared) (b : β) (σ' : List AO) (a : α) (s' : Shared) : Prop := ∃ θ', Post c θ σ s θ' σ' s' ∧ rel σ'.length θ' b a
noncomputable def Sat {α β : Type} (c : Cx) (A : Around) (t : Sem α) (rel : Nat → Th → β → α → Prop) (θ : Th) (σ : List AO) (s : Shared) (b : β) (σ' : List AO) : Prop :=
  wpAny (model c.prog c.w) A t (SatQ c rel θ σ s b σ') FF s
structure Ok (d : Nat) (A : Around) : Prop where
  handled : A.handled = none
  depth : A.depth + 40 * d < recursionLimit
  units : A.units + 40 * d < cLine
theorem Ok.le {d d' : Nat} {A : Around} (h : Ok d A) (hd : d' ≤ d) : Ok d' A := ⟨h.handled, by have := h.depth; omega, by have := h.units; omega⟩
theorem Ok.deeper {d : Nat} {A : Around} {env : Env} (h : Ok (d + 1) A) : Ok d (A.deeper env) := ⟨h.handled, by have := h.depth; show A.depth + 1 + 40 * d < _; omega, by have := h.units; show A.units + 3 + 40 * d < _; omega⟩
structure AEnv where
  fr : Nat
  cl : List (Str × Nat)
  cd : Value
  q : Str
structure EnvR (sc : Scope) (n : Nat) (θ : Th) (ae : AEnv) (env : Env) : Prop where
  scope : env.scope = sc
  loc : env.locals = θ ae.fr
  fr : ae.fr < n
  cells : env.cells = ae.cl.map (fun p => (p.1, θ p.2))
  cl : ∀ p ∈ ae.cl, p.2 < n
  glob : env.globals = mainGlobals
  bi : env.builtins = builtinsNs
  kind : sc.kind = .function
  code : env.code = ae.cd
  qual : env.qual = ae.q
theorem EnvR.mono {sc : Scope} {n n' : Nat} {θ θ' : Th} {ae : AEnv} {env : Env} (h : EnvR sc n θ ae env) (hn : n ≤ n') (hs : ∀ l, l < n → θ' l = θ l) : EnvR sc n' θ' ae env where
  scope := h.scope
  loc := by rw [hs _ h.fr]; exact h.loc
  fr := Nat.lt_of_lt_of_le h.fr hn
  cells := by rw [h.cells]; exact List.map_congr_left fun p hp => by rw [hs _ (h.cl p hp)]
  cl := fun p hp => Nat.lt_of_lt_of_le (h.cl p hp) hn
  glob := h.glob
  bi := h.bi
  kind := h.kind
  code := h.code
  qual := h.qual
end Mine
end
section
namespace Mine
open PySem PySem.Spec PySem.Calls PyProof.Rows PySem.W
noncomputable def slotM (fr k i : Nat) : St AV := fun σ => match σ[fr]? with
  | some (.ns k' vs) => match k' == k with
    | true => match vs[i]? with
      | some (some v) => some (v, σ)
      | _ => none
    | false => none
  | _ => none
noncomputable def cellM (l : Nat) : St AV := fun σ => match σ[l]? with
  | some (.cell (some v)) => some (v, σ)
  | _ => none
noncomputable def putM (fr k i : Nat) (v : AV) : St Unit := fun σ => match σ[fr]? with
  | some (.ns k' vs) => match k' == k, decide (i < vs.length) with
    | true, true => some ((), σ.set fr (.ns k (vs.set i (some v))))
    | _, _ => none
  | _ => none
noncomputable def putCellM (l : Nat) (v : AV) : St Unit := fun σ => match σ[l]? with
  | some (.cell _) => some ((), σ.set l (.cell (some v)))
  | _ => none
noncomputable def allocM (o : AO) : St AV := fun σ => some (.ref σ.length, σ ++ [o])
noncomputable def BR (_ : Nat) (_ : Th) (b v : Bool) : Prop := v = b
section
variable {c : Cx}
noncomputable def RefE (c : Cx) (d : Nat) (sc : Scope) (ae : AEnv) (e : Expr) (P : St AV) : Prop :=
  ∀ A θ σ s env v σ', Ok d A → R c θ σ s.heap → EnvR sc σ.length θ ae env → P σ = some (v, σ') → Sat c A (eval e env) VR θ σ s v σ'
noncomputable def RefT (c : Cx) (d : Nat) (sc : Scope) (ae : AEnv) (e : Expr) (P : St Bool) : Prop :=
  ∀ A θ σ s env v σ', Ok d A → R c θ σ s.heap → EnvR sc σ.length θ ae env → P σ = some (v, σ') → Sat c A (isTrue e env (eval e env)) BR θ σ s v σ'
theorem sat_toks {β α : Type} {rel : Nat → Th → β → α → Prop} {θ : Th} {σ : List AO} {s : Shared} {b : β} {a : α} (r : R c θ σ s.heap) (tk : Nat) (h : rel σ.length θ b a) :
    ∃ θ', Post c θ σ s θ' σ { s with toks := tk } ∧ rel σ.length θ' b a := ⟨θ, .toks r tk, h⟩
theorem sat_same {β α : Type} {rel : Nat → Th → β → α → Prop} {θ : Th} {σ : List AO} {s : Shared} {b : β} {a : α} (r : R c θ σ s.heap) (h : rel σ.length θ b a) :
    ∃ θ', Post c θ σ s θ' σ s ∧ rel σ.length θ' b a := ⟨θ, .refl r, h⟩
set_option tactic.hygienic true in
theorem slotM_some {fr k i : Nat} {σ σ' : List AO} {v : AV} (h : slotM fr k i σ = some (v, σ')) : σ' = σ ∧ ∃ vs, σ[fr]? = some (.ns k vs) ∧ vs[i]? = some (some v) := by
  unfold slotM at h
  split at h
  · rename_i k' vs e
    cases hk : k' == k with
    | false => simp [hk] at h
    | true =>
      simp only [hk] at h
      have hk' := beq_iff_eq.mp hk
      subst hk'
      split at h
      · rename_i v' hv
        cases h
        exact ⟨rfl, _, e, hv⟩
      · cases h
  · cases h
theorem ns_get {θ : Th} {σ : List AO} {h : Heap} {fr k i : Nat} {vs : List (Option AV)} {v : AV} {x : Str} (r : R c θ σ h) (e : σ[fr]? = some (.ns k vs)) (hv : vs[i]? = some (some v)) (hx : (c.tbl k)[i]? = some x) :
    ∃ m u, h.Ns (θ fr) m ∧ m x = some u ∧ VR σ.length θ v u := by
  obtain ⟨_, _, m, hm, hr⟩ := r.get e
  have := hr i x (some v) hx hv
  cases hmx : m x with
  | none => rw [hmx] at this; exact this.elim
  | some u => rw [hmx] at this; exact ⟨m, u, hm, hmx, this⟩
theorem ref_local {d : Nat} {sc : Scope} {ae : AEnv} {x : Str} {pos : Pos} {k i : Nat} (hx : (c.tbl k)[i]? = some x) (hl : sc.names.lookup x = some .local) (hd : (x == ("__debug__" : Str)) = false) :
    RefE c d sc ae (.Name x pos) (slotM ae.fr k i) := by
  intro A θ σ s env v σ' _ r ev h
  obtain ⟨rfl, vs, e, hv⟩ := slotM_some h
  obtain ⟨m, u, hm, hmx, hvr⟩ := ns_get r e hv hx
  refine wpAny_Name (wpAny_loadName_local (by rw [ev.scope]; exact ev.kind) ?_ (by rw [ev.loc]; exact hm) hmx (sat_same r hvr)) hd
  show env.scope.names.lookup x = _
  rw [ev.scope]; exact hl
theorem lookup_map {cl : List (Str × Nat)} {θ : Th} {x : Str} {l : Nat} (h : cl.lookup x = some l) : (cl.map fun p => (p.1, θ p.2)).lookup x = some (θ l) := by
  induction cl with
  | nil => cases h
  | cons p r ih =>
    rw [List.lookup_cons] at h
    rw [List.map_cons, List.lookup_cons]
    cases e : x == p.1 with
    | true => rw [e] at h; simp only at h ⊢; cases h; rfl
    | false => rw [e] at h; simp only at h ⊢; exact ih h
theorem cellM_some {l : Nat} {σ σ' : List AO} {v : AV} (h : cellM l σ = some (v, σ')) : σ' = σ ∧ σ[l]? = some (.cell (some v)) := by
  unfold cellM at h
  split at h
  · cases h; exact ⟨rfl, by assumption⟩
  · cases h
theorem cell_get {θ : Th} {σ : List AO} {h : Heap} {l : Nat} {v : AV} (r : R c θ σ h) (e : σ[l]? = some (.cell (some v))) : ∃ u, h.IsCell (θ l) (some u) ∧ VR σ.length θ v u := by
  obtain ⟨o, v', ho, hd, hr⟩ := r.get e
  cases v' with
  | none => exact hr.elim
  | some u => exact ⟨u, ⟨o, ho, hd⟩, hr⟩
theorem ref_cell {d : Nat} {sc : Scope} {ae : AEnv} {x : Str} {pos : Pos} {l : Nat} (hc : ae.cl.lookup x = some l) (hl : sc.names.lookup x = some .cell) (hd : (x == ("__debug__" : Str)) = false) :
    RefE c d sc ae (.Name x pos) (cellM l) := by
  intro A θ σ s env v σ' _ r ev h
  obtain ⟨rfl, e⟩ := cellM_some h
  obtain ⟨u, hu, hvr⟩ := cell_get r e
  refine wpAny_Name (wpAny_loadName_cell (by rw [ev.scope]; exact ev.kind) ?_ (by rw [ev.cells]; exact lookup_map hc) hu (sat_same r hvr)) hd
  show env.scope.names.lookup x = _
  rw [ev.scope]; exact hl
theorem ref_free {d : Nat} {sc : Scope} {ae : AEnv} {x : Str} {pos : Pos} {l : Nat} (hc : ae.cl.lookup x = some l) (hl : sc.names.lookup x = some .free) (hd : (x == ("__debug__" : Str)) = false) (hn : (x == ("__classdict__" : Str)) = false) :
    RefE c d sc ae (.Name x pos) (cellM l) := by
  intro A θ σ s env v σ' _ r ev h
  obtain ⟨rfl, e⟩ := cellM_some h
  obtain ⟨u, hu, hvr⟩ := cell_get r e
  refine wpAny_Name (wpAny_loadName_free (by rw [ev.scope]; exact ev.kind) ?_ (by rw [ev.cells]; exact lookup_map hc) hu (sat_same r hvr) hn) hd
  show env.scope.names.lookup x = _
  rw [ev.scope]; exact hl
noncomputable def GlobalIs (c : Cx) (x : Str) (v : Value) : Prop :=
  (∃ mg, c.base.Ns mainGlobals mg ∧ mg x = some v) ∨ (∃ mg mb, c.base.Ns mainGlobals mg ∧ mg x = none ∧ c.base.Ns builtinsNs mb ∧ mb x = some v)
theorem ref_glob {d : Nat} {sc : Scope} {ae : AEnv} {x : Str} {pos : Pos} {v : Value} (hg : GlobalIs c x v) (hl : sc.names.lookup x = some .globalImplicit) (hd : (x == ("__debug__" : Str)) = false) :
    RefE c d sc ae (.Name x pos) (St.pure (.val v)) := by
  intro A θ σ s env v σ' _ r ev h
  cases h
  have hk : env.scope.kind = .function := by rw [ev.scope]; exact ev.kind
  have hx : env.kindOf x = some .globalImplicit := by show env.scope.names.lookup x = _; rw [ev.scope]; exact hl
  have up : ∀ {a : Addr} {m}, c.base.Ns a m → s.heap.Ns a m := fun q => q.keeps r.keep
  rcases hg with ⟨mg, g1, g2⟩ | ⟨mg, mb, g1, g2, g3, g4⟩
  · exact Name_function_global hk hx (loadGlobal_global (by rw [ev.glob]; exact up g1) g2 (sat_same r rfl)) hd
  · exact Name_function_global hk hx (loadGlobal_builtin (by rw [ev.glob]; exact up g1) g2 (by rw [ev.bi]; exact up g3) g4 (sat_same r rfl)) hd
theorem ref_int {d : Nat} {sc : Scope} {ae : AEnv} {i : Int} {k : Nat} {pos : Pos} : RefE c d sc ae (.Constant (.int i) k pos) (St.pure (.int i)) := by
  intro A θ σ s env v σ' _ r ev h
  cases h
  exact wpAny_Constant_int (sat_toks r _ ⟨_, rfl⟩)
theorem ref_str {d : Nat} {sc : Scope} {ae : AEnv} {x : Str} {y : List Nat} {k : Nat} {pos : Pos} (hx : x = ⟨y.toArray⟩) : RefE c d sc ae (.Constant (.str x) k pos) (St.pure (.str y)) := by
  intro A θ σ s env v σ' _ r ev h
  cases h
  subst hx
  exact wpAny_Constant_str (sat_toks r _ ⟨_, rfl⟩)
theorem ref_none {d : Nat} {sc : Scope} {ae : AEnv} {k : Nat} {pos : Pos} : RefE c d sc ae (.Constant .none k pos) (St.pure .none) := by
  intro A θ σ s env v σ' _ r ev h
  cases h
  exact wpAny_Constant_none (sat_same r rfl)
theorem ref_bool {d : Nat} {sc : Scope} {ae : AEnv} {b : Bool} {k : Nat} {pos : Pos} : RefE c d sc ae (.Constant (.bool b) k pos) (St.pure (.bool b)) := by
  intro A θ σ s env v σ' _ r ev h
  cases h
  exact wpAny_Constant_bool (sat_same r rfl)
theorem ref_bytes {d : Nat} {sc : Scope} {ae : AEnv} {b : List UInt8} {y : List Nat} {k : Nat} {pos : Pos} (hb : b.map (·.toNat) = y) : RefE c d sc ae (.Constant (.bytes b) k pos) (St.pure (.bytes y)) := by
  intro A θ σ s env v σ' _ r ev h
  cases h
  show wpAny _ A (mkTextBytes b.toArray) _ _ _
  unfold mkTextBytes
  exact wpAny_bind (wpAny_fresh (wpAny_pure (sat_toks r _ ⟨_, _, rfl, by simpa using hb⟩)))
noncomputable def BinOk (c : Cx) (op : Operator) (F : AV → AV → St AV) : Prop :=
  ∀ A θ σ s a b va vb v σ', A.handled = none → R c θ σ s.heap → VR σ.length θ a va → VR σ.length θ b vb → F a b σ = some (v, σ') → Sat c A (binaryOp op va vb) VR θ σ s v σ'
noncomputable def binM (F : AV → AV → St AV) (P Q : St AV) : St AV := St.bind P fun a => St.bind Q fun b => F a b
theorem ref_bin {d : Nat} {sc : Scope} {ae : AEnv} {op : Operator} {l r : Expr} {pos : Pos} {F : AV → AV → St AV} {P Q : St AV} (hF : BinOk c op F) (hP : RefE c d sc ae l P) (hQ : RefE c d sc ae r Q) :
    RefE c d sc ae (.BinOp l op r pos) (binM F P Q) := by
  intro A θ σ s env v σ' ok rr ev h
  obtain ⟨a, σ₁, h1, h⟩ := St.bind_some h
  obtain ⟨b, σ₂, h2, h⟩ := St.bind_some h
  refine wpAny_BinOp (wpAny_mono (hP A θ σ s env a σ₁ ok rr ev h1) (fun va s₁ ⟨θ₁, p₁, r₁⟩ => wpAny_mono (hQ A θ₁ σ₁ s₁ env b σ₂ ok p₁.r (ev.mono p₁.ext.le p₁.ext.same) h2) (fun vb s₂ ⟨θ₂, p₂, r₂⟩ => ?_) fun _ _ x => x) fun _ _ x => x)
  exact wpAny_mono (hF A θ₂ σ₂ s₂ a b va vb v σ' ok.handled p₂.r (p₂.vr r₁) r₂ h) (fun _ _ ⟨θ₃, p₃, r₃⟩ => ⟨θ₃, (p₁.trans p₂).trans p₃, r₃⟩) fun _ _ x => x
end
end Mine
end
section
namespace Mine
open PySem PySem.Spec PySem.Calls PyProof.Rows PySem.W
noncomputable def okSz (n : Nat) : Bool := Nat.ble n 1000000
theorem okSz_le {n : Nat} (h : okSz n = true) : n ≤ sizeLine := by
  have := Nat.le_of_ble_eq_true h
  rw [sizeLine_eq]; omega
theorem okSz_le' {n : Nat} (h : okSz n = true) : n ≤ 1000000 := Nat.le_of_ble_eq_true h
noncomputable def guardM {α : Type} (b : Bool) (p : St α) : St α := match b with
  | true => p
  | false => St.fail
theorem guardM_some {α : Type} {b : Bool} {p : St α} {σ : List AO} {r : α × List AO} (h : guardM b p σ = some r) : b = true ∧ p σ = some r := by
  cases b with
  | true => exact ⟨rfl, h⟩
  | false => cases h
noncomputable def getList (l : Nat) (σ : List AO) : Option (List AV) := match σ[l]? with
  | some (.list xs) => some xs
  | _ => none
theorem getList_some {l : Nat} {σ : List AO} {xs : List AV} (h : getList l σ = some xs) : σ[l]? = some (.list xs) := by
  unfold getList at h
  split at h
  · rename_i e; cases h; exact e
  · cases h
noncomputable def addP : AV → AV → St AV
  | .int i, .int j => St.pure (.int (i + j))
  | .str s, .str t => guardM (okSz (s.length + t.length)) (St.pure (.str (s ++ t)))
  | .bytes s, .bytes t => guardM (okSz (s.length + t.length)) (St.pure (.bytes (s ++ t)))
  | .ref l, .ref m => fun σ => match getList l σ, getList m σ with
    | some xs, some ys => guardM (okSz (xs.length + ys.length)) (allocM (.list (xs ++ ys))) σ
    | _, _ => none
  | _, _ => St.fail
noncomputable def subP : AV → AV → St AV
  | .int i, .int j => St.pure (.int (i - j))
  | _, _ => St.fail
noncomputable def repL (s : List Nat) : Nat → List Nat
  | 0 => []
  | n + 1 => s ++ repL s n
noncomputable def small64 (i : Int) : Bool := Nat.blt i.natAbs 18446744073709551616
noncomputable def mulP : AV → AV → St AV
  | .int i, .int j => guardM (small64 j || small64 i) (St.pure (.int (i * j)))
  | .str s, .int n => guardM (Nat.ble s.length 1000 && Nat.ble n.natAbs 1000 && decide (0 ≤ n)) (St.pure (.str (repL s n.natAbs)))
  | _, _ => St.fail
noncomputable def divP : AV → AV → St AV
  | .int i, .int j => guardM (Nat.blt (Nat.log2 j.natAbs) 9000 && !(j == 0)) (St.pure (.int (Int.fdiv i j)))
  | _, _ => St.fail
noncomputable def modP : AV → AV → St AV
  | .int i, .int j => guardM (!(j == 0)) (St.pure (.int (Int.fmod i j)))
  | _, _ => St.fail
noncomputable def powP : AV → AV → St AV
  | .int i, .int j => guardM (small64 i && decide (0 ≤ j) && Nat.ble j.natAbs 1000) (St.pure (.int (i ^ j.natAbs)))
  | _, _ => St.fail
section
variable {c : Cx}
theorem plain_list {θ : Th} {σ : List AO} {h : Heap} {l : Nat} {xs : List AV} (r : R c θ σ h) (e : σ[l]? = some (.list xs)) : ∃ vs : List Value, h.PlainList (θ l) vs.toArray ∧ All2 (VR σ.length θ) xs vs := r.get e
theorem get_size_none (h : Heap) : h.get? h.objs.size = none := by
  cases e : h.get? h.objs.size with
  | none => rfl
  | some o => exact absurd (Heap.lt_size e) (Nat.lt_irrefl _)
theorem sat_push {θ : Th} {σ : List AO} {s : Shared} {o : AO} {ob : Obj} (r : R c θ σ s.heap) (hf : ob.isFreed = false)
    (ho : ORep c (σ.length + 1) (ext1 θ σ.length s.heap.objs.size) (s.heap.push ob) s.heap.objs.size o) :
    ∃ θ', Post c θ σ s θ' (σ ++ [o]) { s with heap := s.heap.push ob } ∧ VR (σ ++ [o]).length θ' (.ref σ.length) (.ref s.heap.objs.size) := by
  obtain ⟨r', e'⟩ := r.push (h' := s.heap.push ob) (fun b o e => Heap.get?_push_of_some _ e) (get_size_none _) ho
  exact ⟨_, ⟨⟨_, _, rfl⟩, e', r'⟩, by simp, by rw [ext1_new]⟩
theorem vr_ext1 {θ : Th} {n : Nat} {a : Addr} {x : AV} {v : Value} (h : VR n θ x v) : VR (n + 1) (ext1 θ n a) x v := h.mono (Nat.le_succ n) fun _ => ext1_old
theorem sat_push_list {θ : Th} {σ : List AO} {s : Shared} {xs : List AV} {vs : List Value} (r : R c θ σ s.heap) (h : All2 (VR σ.length θ) xs vs) :
    ∃ θ', Post c θ σ s θ' (σ ++ [.list xs]) { s with heap := s.heap.push { cls := .type "list", data := .seq vs.toArray } } ∧ VR (σ ++ [AO.list xs]).length θ' (.ref σ.length) (.ref s.heap.objs.size) :=
  sat_push r rfl ⟨vs, ⟨0, Heap.get?_push_size _ rfl⟩, h.mono fun _ _ => vr_ext1⟩
set_option tactic.hygienic true in
theorem add_ok : BinOk c .Add addP := by
  intro A θ σ s a b va vb v σ' hh r ha hb h
  unfold addP at h
  split at h
  · cases h
    obtain ⟨t, rfl⟩ := ha
    obtain ⟨u, rfl⟩ := hb
    exact add_int (sat_toks r _ ⟨_, rfl⟩)
  · obtain ⟨hg, h⟩ := guardM_some h
    cases h
    obtain ⟨t, rfl⟩ := ha
    obtain ⟨u, rfl⟩ := hb
    refine add_str (fun t' tk => sat_toks r _ ⟨t', ?_⟩) (by have := okSz_le hg; simpa [Str.length] using this)
    show Value.str ⟨_ ++ _⟩ _ = _
    simp
  · obtain ⟨hg, h⟩ := guardM_some h
    cases h
    obtain ⟨x, t, rfl, hx⟩ := ha
    obtain ⟨y, u, rfl, hy⟩ := hb
    subst hx hy
    have hz := okSz_le' hg
    simp only [List.length_map, Array.length_toList] at hz
    exact KBy.add_bytes (by omega) fun t' k => sat_toks r _ ⟨_, _, rfl, by simp⟩
  · rename_i l m
    split at h
    · rename_i xs ys e1 e2
      obtain ⟨hg, h⟩ := guardM_some h
      cases h
      obtain ⟨_, rfl⟩ := ha
      obtain ⟨_, rfl⟩ := hb
      obtain ⟨us, ⟨k1, p1⟩, q1⟩ := plain_list r (getList_some e1)
      obtain ⟨ws, ⟨k2, p2⟩, q2⟩ := plain_list r (getList_some e2)
      refine P.add_list (n := k1) (n2 := k2) p1 p2 ?_ (by have := okSz_le hg; simpa [← q1.length, ← q2.length] using this)
      have : us.toArray ++ ws.toArray = (us ++ ws).toArray := by simp
      rw [this]
      exact sat_push_list r (q1.append q2)
    · cases h
  · cases h
theorem sub_ok : BinOk c .Sub subP := by
  intro A θ σ s a b va vb v σ' hh r ha hb h
  unfold subP at h
  split at h
  · cases h
    obtain ⟨t, rfl⟩ := ha
    obtain ⟨u, rfl⟩ := hb
    exact sub_int (sat_toks r _ ⟨_, rfl⟩)
  · cases h
theorem small64_bits {i : Int} (h : small64 i = true) : Builtin.Int.intBits i ≤ 64 := by
  have : i.natAbs < 18446744073709551616 := by simpa [small64] using h
  exact intBits_le_64 (by omega) (by omega)
theorem foldl_arr (s : List Nat) : ∀ (n : Nat) (acc : Array Nat), (List.replicate n s.toArray).foldl (· ++ ·) acc = acc ++ (repL s n).toArray
  | 0, acc => by simp [repL]
  | n + 1, acc => by rw [List.replicate_succ, List.foldl_cons, foldl_arr s n]; simp [repL]
set_option tactic.hygienic true in
theorem mul_ok : BinOk c .Mult mulP := by
  intro A θ σ s a b va vb v σ' hh r ha hb h
  unfold mulP at h
  split at h
  · obtain ⟨hg, h⟩ := guardM_some h
    cases h
    obtain ⟨t, rfl⟩ := ha
    obtain ⟨u, rfl⟩ := hb
    refine mul_int (sat_toks r _ ⟨_, rfl⟩) ?_
    rcases Bool.or_eq_true_iff.mp hg with h1 | h1
    · exact IntMulOk.of_right (small64_bits h1)
    · exact IntMulOk.of_left (small64_bits h1)
  · rename_i s n
    obtain ⟨hg, h⟩ := guardM_some h
    cases h
    obtain ⟨t, rfl⟩ := ha
    obtain ⟨u, rfl⟩ := hb
    simp only [Bool.and_eq_true, decide_eq_true_eq] at hg
    obtain ⟨⟨h1, h2⟩, h3⟩ := hg
    have h1 := Nat.le_of_ble_eq_true h1
    have h2 := Nat.le_of_ble_eq_true h2
    have hn : n ≤ 1000 := by omega
    have hln : s.length * n.toNat ≤ 1000 * 1000 := Nat.mul_le_mul h1 (by omega)
    have hsl : (Str.mk s.toArray).length = s.length := by simp [Str.length]
    refine SB.mul ⟨by simp; omega, fun h4 h5 => ?_, fun h4 h5 => ?_⟩ fun t' k => sat_toks r _ ⟨t', ?_⟩
    · rw [hsl]
      have : (1000 : Int) ≤ (2 ^ 63 - 1) / n := by
        rw [Int.le_ediv_iff_mul_le (by omega)]
        have : (1000 : Int) * n ≤ 1000 * 1000 := by omega
        omega
      omega
    · rw [hsl]
      unfold Builtin.Str.tooLong
      simp only [decide_eq_false_iff_not]
      first | omega | (have : sizeLine = 16777216 := sizeLine_eq; omega)
    · congr 1
      unfold Txt.mul
      have hnt : n.toNat = n.natAbs := by omega
      by_cases h4 : n < 1
      · have : n.natAbs = 0 := by omega
        rw [if_pos h4, this]; rfl
      · rw [if_neg h4]
        by_cases h5 : (n == 1 || (Str.mk s.toArray).length == 0) = true
        · rw [if_pos h5]
          rw [hsl] at h5
          rcases Bool.or_eq_true_iff.mp h5 with h6 | h6
          · have : n.natAbs = 1 := by have := beq_iff_eq.mp h6; omega
            rw [this]; simp [repL]
          · have : s = [] := List.length_eq_zero_iff.mp (beq_iff_eq.mp h6)
            subst this
            have : ∀ n, repL [] n = [] := fun n => by induction n with | zero => rfl | succ n ih => simpa [repL] using ih
            rw [this]
        · rw [if_neg h5, foldl_arr]; simp [hnt]
  · cases h
theorem div_ok : BinOk c .FloorDiv divP := by
  intro A θ σ s a b va vb v σ' hh r ha hb h
  unfold divP at h
  split at h
  · obtain ⟨hg, h⟩ := guardM_some h
    cases h
    obtain ⟨t, rfl⟩ := ha
    obtain ⟨u, rfl⟩ := hb
    simp only [Bool.and_eq_true, Bool.not_eq_true', beq_eq_false_iff_ne, ne_eq] at hg
    exact floordiv_int hg.2 (sat_toks r _ ⟨_, rfl⟩) (.inl (PyProof.noPylong_of_log2 (by simpa using hg.1)))
  · cases h
theorem mod_ok : BinOk c .Mod modP := by
  intro A θ σ s a b va vb v σ' hh r ha hb h
  unfold modP at h
  split at h
  · obtain ⟨hg, h⟩ := guardM_some h
    cases h
    obtain ⟨t, rfl⟩ := ha
    obtain ⟨u, rfl⟩ := hb
    simp only [Bool.not_eq_true', beq_eq_false_iff_ne, ne_eq] at hg
    exact mod_int' hg (sat_toks r _ ⟨_, rfl⟩)
  · cases h
set_option tactic.hygienic true in
theorem pow_ok : BinOk c .Pow powP := by
  intro A θ σ s a b va vb v σ' hh r ha hb h
  unfold powP at h
  split at h
  · rename_i i j
    obtain ⟨hg, h⟩ := guardM_some h
    cases h
    obtain ⟨t, rfl⟩ := ha
    obtain ⟨u, rfl⟩ := hb
    simp only [Bool.and_eq_true, decide_eq_true_eq] at hg
    obtain ⟨⟨h1, h2⟩, h3⟩ := hg
    have h3 := Nat.le_of_ble_eq_true h3
    have h1 : i.natAbs < 18446744073709551616 := by simpa [small64] using h1
    have e : j.toNat = j.natAbs := by omega
    refine pow_int_small h2 (by omega) (by omega) (sat_toks r _ ⟨s.toks, ?_⟩)
    rw [e]
  · cases h
end
end Mine
end
section
namespace Mine
open PySem PySem.Spec PySem.Calls PyProof.Rows PySem.W
noncomputable def CmpOk (c : Cx) (op : CmpOp) (F : AV → AV → St AV) : Prop :=
  ∀ A θ σ s a b va vb v σ', A.handled = none → A.units + 80 < cLine → R c θ σ s.heap → VR σ.length θ a va → VR σ.length θ b vb → F a b σ = some (v, σ') → Sat c A (compareOp op va vb) VR θ σ s v σ'
noncomputable def eqFlat : AV → AV → Option Bool
  | .int i, .int j => some (i == j)
  | .str s, .str t => some (s == t)
  | _, _ => none
noncomputable def eqAll : List AV → List AV → Option Bool
  | [], [] => some true
  | a :: l, b :: m => match eqFlat a b, eqAll l m with
    | some x, some y => some (x && y)
    | _, _ => none
  | _, _ => some false
noncomputable def eqV (σ : List AO) : AV → AV → Option Bool
  | .int i, .int j => some (i == j)
  | .str s, .str t => some (s == t)
  | .none, .str _ => some false
  | .bytes s, .bytes t => some (s == t)
  | .ref l, .ref m => match getList l σ, getList m σ with
    | some xs, some ys => eqAll xs ys
    | _, _ => none
  | _, _ => none
noncomputable def eqP (a b : AV) : St AV := fun σ => match eqV σ a b with
  | some x => some (.bool x, σ)
  | none => none
noncomputable def neV (σ : List AO) : AV → AV → Option Bool
  | .int i, .int j => some (i == j)
  | .str s, .str t => some (s == t)
  | .bytes s, .bytes t => some (s == t)
  | .ref l, .ref m => match getList l σ, getList m σ with
    | some xs, some ys => eqAll xs ys
    | _, _ => none
  | _, _ => none
noncomputable def neP (a b : AV) : St AV := fun σ => match neV σ a b with
  | some x => some (.bool (!x), σ)
  | none => none
noncomputable def ltP : AV → AV → St AV
  | .int i, .int j => St.pure (.bool (decide (i < j)))
  | _, _ => St.fail
noncomputable def leP : AV → AV → St AV
  | .int i, .int j => St.pure (.bool (decide (i ≤ j)))
  | _, _ => St.fail
noncomputable def gtP : AV → AV → St AV
  | .int i, .int j => St.pure (.bool (decide (j < i)))
  | _, _ => St.fail
noncomputable def geP : AV → AV → St AV
  | .int i, .int j => St.pure (.bool (decide (j ≤ i)))
  | _, _ => St.fail
noncomputable def hasKey (k : List Nat) : List (List Nat × AV) → Bool
  | [] => false
  | e :: r => e.1 == k || hasKey k r
noncomputable def inV (σ : List AO) : AV → AV → Option Bool
  | .str [x], .str t => some (t.contains x)
  | .str k, .ref l => match σ[l]? with
    | some (.sdict es) => some (hasKey k es)
    | _ => none
  | _, _ => none
noncomputable def inP (a b : AV) : St AV := fun σ => match inV σ a b with
  | some x => some (.bool x, σ)
  | none => none
noncomputable def isntP : AV → AV → St AV
  | .val (.type x), .val (.type y) => St.pure (.bool (!(x == y)))
  | _, _ => St.fail
structure Gnd (c : Cx) : Prop where
  nolimit : c.base.NoLimit
section
variable {c : Cx}
theorem plain_isList {h : Heap} {a : Addr} {vs : Array Value} (p : h.PlainList a vs) : h.IsList a vs := let ⟨n, e⟩ := p; ⟨_, e, rfl, n, rfl⟩
set_option tactic.hygienic true in
theorem eqFlat_at {n : Nat} {θ : Th} {a b : AV} {va vb : Value} {x : Bool} (ha : VR n θ a va) (hb : VR n θ b vb) (h : eqFlat a b = some x) (A : Around) (s : Shared) : SeqAt.EqAt A s va vb x := by
  unfold eqFlat at h
  split at h
  · cases h; obtain ⟨t, rfl⟩ := ha; obtain ⟨u, rfl⟩ := hb; exact SeqAt.EqAt.int_int _ _ _ _
  · rename_i p q
    cases h; obtain ⟨t, rfl⟩ := ha; obtain ⟨u, rfl⟩ := hb
    have := SeqAt.EqAt.str_str (A := A) (s := s) ⟨p.toArray⟩ t ⟨q.toArray⟩ u
    have e : ((⟨p.toArray⟩ : Str) == ⟨q.toArray⟩) = (p == q) := by
      rw [Bool.eq_iff_iff, beq_iff_eq, beq_iff_eq]; simp
    rw [e] at this; exact this
  · cases h
set_option tactic.hygienic true in
theorem eqAll_len : ∀ {xs ys : List AV} {x : Bool}, eqAll xs ys = some x → xs.length ≠ ys.length → x = false
  | [], [], _, _, h => absurd rfl h
  | [], _ :: _, _, h, _ => by simp [eqAll] at h; exact h
  | _ :: _, [], _, h, _ => by simp [eqAll] at h; exact h
  | a :: l, b :: m, x, h, hn => by
    unfold eqAll at h
    split at h
    · rename_i p q e1 e2
      cases h
      rw [eqAll_len e2 (by simpa using hn), Bool.and_false]
    · cases h
noncomputable def eAt (xs ys : List AV) (j : Nat) : Bool := match xs[j]?, ys[j]? with
  | some a, some b => (eqFlat a b).getD false
  | _, _ => false
theorem range_all_succ (f : Nat → Bool) : ∀ n, (List.range (n + 1)).all f = (f 0 && (List.range n).all fun j => f (j + 1)) := fun n => by
  rw [List.range_succ_eq_map, List.all_cons, List.all_map]; rfl
set_option tactic.hygienic true in
theorem eqAll_same : ∀ {xs ys : List AV} {x : Bool}, eqAll xs ys = some x → xs.length = ys.length → (List.range xs.length).all (eAt xs ys) = x ∧ ∀ j a b, xs[j]? = some a → ys[j]? = some b → eqFlat a b = some (eAt xs ys j)
  | [], [], x, h, _ => by simp [eqAll] at h; subst h; exact ⟨rfl, by simp⟩
  | [], _ :: _, _, _, h => by simp at h
  | _ :: _, [], _, _, h => by simp at h
  | a :: l, b :: m, x, h, hn => by
    unfold eqAll at h
    split at h
    · rename_i p q e1 e2
      cases h
      obtain ⟨i1, i2⟩ := eqAll_same e2 (by simpa using hn)
      have e0 : eAt (a :: l) (b :: m) 0 = p := by simp [eAt, e1]
      refine ⟨?_, fun j a' b' h1 h2 => ?_⟩
      · rw [List.length_cons, range_all_succ, e0, ← i1]; rfl
      · cases j with
        | zero => simp at h1 h2; subst h1 h2; rw [e0]; exact e1
        | succ j => exact i2 j a' b' (by simpa using h1) (by simpa using h2)
    · cases h
theorem eqAll_rc {A : Around} {θ : Th} {σ : List AO} {s : Shared} {l m : Nat} {xs ys : List AV} {x : Bool} (r : R c θ σ s.heap) (e1 : σ[l]? = some (.list xs)) (e2 : σ[m]? = some (.list ys)) (h : eqAll xs ys = some x) (hu : A.units < cLine) :
    SeqAt.RcAt A s (.ref (θ l)) (.ref (θ m)) x ∧ SeqAt.RcNeAt A s (.ref (θ l)) (.ref (θ m)) (!x) := by
  obtain ⟨us, p1, q1⟩ := plain_list r e1
  obtain ⟨ws, p2, q2⟩ := plain_list r e2
  by_cases hl : xs.length = ys.length
  · obtain ⟨a1, a2⟩ := eqAll_same h hl
    have hsz : us.toArray.size = ws.toArray.size := by simp [← q1.length, ← q2.length, hl]
    have he : ∀ (A' : Around) j (h1 : j < us.toArray.size) (h2 : j < ws.toArray.size), SeqAt.EqAt A' s us.toArray[j] ws.toArray[j] (eAt xs ys j) := by
      intro A' j h1 h2
      simp only [List.size_toArray] at h1 h2
      have g1 : j < xs.length := by rw [q1.length]; exact h1
      have g2 : j < ys.length := by rw [q2.length]; exact h2
      obtain ⟨u, hu1, hu2⟩ := q1.get j xs[j] (by simp [g1])
      obtain ⟨w, hw1, hw2⟩ := q2.get j ys[j] (by simp [g2])
      have := eqFlat_at hu2 hw2 (a2 j _ _ (by simp [g1]) (by simp [g2])) A' s
      have eu : us.toArray[j] = u := by
        have : us[j]? = some us[j] := List.getElem?_eq_getElem h1
        rw [hu1] at this; simpa using (Option.some.inj this).symm
      have ew : ws.toArray[j] = w := by
        have : ws[j]? = some ws[j] := List.getElem?_eq_getElem h2
        rw [hw1] at this; simpa using (Option.some.inj this).symm
      rw [eu, ew]; exact this
    have hs : us.toArray.size = xs.length := by simp [q1.length]
    have k1 := SeqAt.RcAt.lists (plain_isList p1) (plain_isList p2) hsz hu (fun j h1 h2 => he A.in1 j h1 h2)
    have k2 := SeqAt.RcNeAt.lists (plain_isList p1) (plain_isList p2) hsz hu (fun j h1 h2 => he A.in1 j h1 h2)
    rw [hs, a1] at k1 k2
    exact ⟨k1, k2⟩
  · have hx := eqAll_len h hl
    subst hx
    have hsz : (us.toArray.size != ws.toArray.size) = true := by
      simp only [List.size_toArray, ← q1.length, ← q2.length, bne_iff_ne, ne_eq]; exact hl
    exact ⟨SeqAt.RcAt.lists_lengths (plain_isList p1) (plain_isList p2) hsz hu, SeqAt.RcNeAt.lists_lengths (plain_isList p1) (plain_isList p2) hsz hu⟩
theorem str_beq (p q : List Nat) : ((⟨p.toArray⟩ : Str) == ⟨q.toArray⟩) = (p == q) := by rw [Bool.eq_iff_iff, beq_iff_eq, beq_iff_eq]; simp
theorem bytes_beq {x y : Array UInt8} : (x.toList == y.toList) = (x.toList.map (·.toNat) == y.toList.map (·.toNat)) := by
  rw [Bool.eq_iff_iff, beq_iff_eq, beq_iff_eq]
  refine ⟨fun h => by rw [h], fun h => ?_⟩
  exact (List.map_inj_right (f := fun u : UInt8 => u.toNat) (fun a b e => UInt8.toNat.inj e)).mp h
set_option tactic.hygienic true in
theorem eq_ok : CmpOk c .Eq eqP := by
  intro A θ σ s a b va vb v σ' hh hu r ha hb h
  unfold eqP at h
  split at h
  · rename_i x hx
    cases h
    unfold eqV at hx
    split at hx
    · cases hx; obtain ⟨t, rfl⟩ := ha; obtain ⟨u, rfl⟩ := hb; exact eq_int (sat_same r rfl)
    · cases hx; obtain ⟨t, rfl⟩ := ha; obtain ⟨u, rfl⟩ := hb; exact PyProof.Rows.eq_str (sat_same r (by rw [str_beq]; rfl))
    · cases hx; cases ha; obtain ⟨u, rfl⟩ := hb; exact EqNone.eq_none_str (sat_same r rfl)
    · cases hx; obtain ⟨x, t, rfl, rfl⟩ := ha; obtain ⟨y, u, rfl, rfl⟩ := hb; exact eq_bytes (sat_same r (by rw [bytes_beq]; rfl))
    · split at hx
      · rename_i xs ys e1 e2
        obtain ⟨_, rfl⟩ := ha; obtain ⟨_, rfl⟩ := hb
        exact (eqAll_rc r (getList_some e1) (getList_some e2) hx (by omega)).1 _ _ _ _ (sat_same r rfl)
      · cases hx
    · cases hx
  · cases h
set_option tactic.hygienic true in
theorem ne_ok : CmpOk c .NotEq neP := by
  intro A θ σ s a b va vb v σ' hh hu r ha hb h
  unfold neP at h
  split at h
  · rename_i x hx
    cases h
    unfold neV at hx
    split at hx
    · cases hx; obtain ⟨t, rfl⟩ := ha; obtain ⟨u, rfl⟩ := hb; exact ne_int (sat_same r rfl)
    · cases hx; obtain ⟨t, rfl⟩ := ha; obtain ⟨u, rfl⟩ := hb; exact PyProof.Rows.ne_str (sat_same r (by rw [bne, str_beq]; rfl))
    · cases hx; obtain ⟨x, t, rfl, rfl⟩ := ha; obtain ⟨y, u, rfl, rfl⟩ := hb; exact ne_bytes (sat_same r (by rw [bne, bytes_beq]; rfl))
    · split at hx
      · rename_i xs ys e1 e2
        obtain ⟨_, rfl⟩ := ha; obtain ⟨_, rfl⟩ := hb
        exact (eqAll_rc r (getList_some e1) (getList_some e2) hx (by omega)).2 _ _ _ _ (sat_same r rfl)
      · cases hx
    · cases hx
  · cases h
theorem lt_ok : CmpOk c .Lt ltP := by
  intro A θ σ s a b va vb v σ' hh hu r ha hb h
  unfold ltP at h
  split at h
  · cases h; obtain ⟨t, rfl⟩ := ha; obtain ⟨u, rfl⟩ := hb; exact lt_int (sat_same r rfl)
  · cases h
theorem gt_ok : CmpOk c .Gt gtP := by
  intro A θ σ s a b va vb v σ' hh hu r ha hb h
  unfold gtP at h
  split at h
  · cases h; obtain ⟨t, rfl⟩ := ha; obtain ⟨u, rfl⟩ := hb; exact gt_int (sat_same r rfl)
  · cases h
theorem le_ok : CmpOk c .LtE leP := by
  intro A θ σ s a b va vb v σ' hh hu r ha hb h
  unfold leP at h
  split at h
  · cases h; obtain ⟨t, rfl⟩ := ha; obtain ⟨u, rfl⟩ := hb; exact le_int (sat_same r rfl)
  · cases h
theorem ge_ok : CmpOk c .GtE geP := by
  intro A θ σ s a b va vb v σ' hh hu r ha hb h
  unfold geP at h
  split at h
  · cases h; obtain ⟨t, rfl⟩ := ha; obtain ⟨u, rfl⟩ := hb; exact ge_int (sat_same r rfl)
  · cases h
theorem hasKey_value {n : Nat} {θ : Th} (k : List Nat) {es : List (List Nat × AV)} {kvs : List (Str × Value)} (q : All2 (fun e d => d.1 = ⟨e.1.toArray⟩ ∧ VR n θ e.2 d.2) es kvs) : (valueAt kvs ⟨k.toArray⟩).isSome = hasKey k es := by
  induction q with
  | nil => rfl
  | @cons e d es kvs h t ih =>
    unfold valueAt at ih ⊢
    rw [List.find?_cons]
    unfold hasKey
    have e1 : decide (d.1 = (⟨k.toArray⟩ : Str)) = (e.1 == k) := by
      rw [h.1, Bool.eq_iff_iff, decide_eq_true_eq, beq_iff_eq]; simp
    rw [e1]
    cases e.1 == k with
    | true => rfl
    | false => exact ih
set_option tactic.hygienic true in
theorem in_ok (_ : Gnd c) : CmpOk c .In inP := by
  intro A θ σ s a b va vb v σ' hh hu r ha hb h
  unfold inP at h
  split at h
  · rename_i x hx
    cases h
    unfold inV at hx
    split at hx
    · rename_i p t
      cases hx; obtain ⟨t', rfl⟩ := ha; obtain ⟨u, rfl⟩ := hb
      refine PyProof.Rows.in_str (sat_same r ?_)
      have := StrLaws.found_one ⟨t.toArray⟩ p
      show Value.bool _ = _
      rw [show (⟨[p].toArray⟩ : Str) = ⟨#[p]⟩ from rfl, this]
      congr 1
      rw [Bool.eq_iff_iff]; simp
    · split at hx
      · rename_i es e
        cases hx; obtain ⟨t', rfl⟩ := ha; obtain ⟨hl, rfl⟩ := hb
        obtain ⟨kvs, hd, hns, q⟩ := r.get e
        exact wpAny_in_of (strKind_is _ _ _ _) hns hd.mapOf (sat_toks r _ (by rw [hasKey_value _ q]; rfl))
      · cases hx
    · cases hx
  · cases h
set_option tactic.hygienic true in
theorem isnt_ok : CmpOk c .IsNot isntP := by
  intro A θ σ s a b va vb v σ' hh hu r ha hb h
  unfold isntP at h
  split at h
  · rename_i x y
    cases h; cases ha; cases hb
    refine wpAny_isNot_plain (by rfl) (sat_same r ?_)
    show Value.bool _ = _
    congr 2
    rw [Bool.eq_iff_iff, beq_iff_eq, beq_iff_eq]
    exact ⟨fun h => by cases h; rfl, fun h => by rw [h]⟩
  · cases h
noncomputable def truthV (σ : List AO) : AV → Option Bool
  | .none => some false
  | .bool b => some b
  | .int i => some (i != 0)
  | .str s => some (!s.isEmpty)
  | .ref l => match getList l σ with
    | some xs => some (!xs.isEmpty)
    | none => none
  | _ => none
noncomputable def truthP (a : AV) : St Bool := fun σ => match okLen σ a, truthV σ a with
  | true, some x => some (x, σ)
  | _, _ => none
where
  okLen (σ : List AO) : AV → Bool
    | .str s => okSz s.length
    | .ref l => match getList l σ with
      | some xs => okSz xs.length
      | none => false
    | _ => true
set_option tactic.hygienic true in
theorem truthy_ok {A : Around} {θ : Th} {σ σ' : List AO} {s : Shared} {a : AV} {va : Value} {b : Bool} (r : R c θ σ s.heap) (ha : VR σ.length θ a va) (h : truthP a σ = some (b, σ')) :
    Sat c A (truthy va) BR θ σ s b σ' := by
  unfold truthP at h
  split at h
  · rename_i x hz hx
    cases h
    unfold truthV at hx
    split at hx
    · cases hx; cases ha; exact truthy_none (sat_same r rfl)
    · cases hx; cases ha; exact wpAny_truthy_bool (sat_same r rfl)
    · cases hx; obtain ⟨t, rfl⟩ := ha; exact PyProof.Rows.truthy_int (sat_same r rfl)
    · rename_i p
      cases hx; obtain ⟨t, rfl⟩ := ha
      have hz := okSz_le' hz
      refine P.truthy_str (by simp [Str.length]; omega) (sat_toks r _ ?_)
      show (_ : Bool) = _
      cases p with
      | nil => rfl
      | cons x l => simp [Str.length]; omega
    · split at hx
      · rename_i l xs e
        cases hx; obtain ⟨hl, rfl⟩ := ha
        obtain ⟨us, p1, q1⟩ := plain_list r (getList_some e)
        have hz : xs.length ≤ 1000000 := okSz_le' (by simpa [truthP.okLen, e] using hz)
        have e3 : (!us.toArray.isEmpty) = !xs.isEmpty := by
          have := q1.length
          cases xs <;> cases us <;> simp_all
        exact wpAny_truthy_list (plain_isList p1) (by simp [← q1.length]; omega) (sat_toks r _ e3)
      · cases hx
    · cases hx
  · cases h
noncomputable def cmpM (F : AV → AV → St AV) (P Q : St AV) : St AV := St.bind P fun a => St.bind Q fun b => F a b
theorem Ok.u80 {d : Nat} {A : Around} (ok : Ok (d + 2) A) : A.units + 80 < cLine := by have := ok.units; omega
theorem ref_cmp {d : Nat} {sc : Scope} {ae : AEnv} {op : CmpOp} {l r : Expr} {pos : Pos} {F : AV → AV → St AV} {P Q : St AV} (hF : CmpOk c op F) (hP : RefE c (d + 2) sc ae l P) (hQ : RefE c (d + 2) sc ae r Q) (hm : behindInMarks op r = false) :
    RefE c (d + 2) sc ae (.Compare l [op] [r] pos) (cmpM F P Q) := by
  intro A θ σ s env v σ' ok rr ev h
  obtain ⟨a, σ₁, h1, h⟩ := St.bind_some h
  obtain ⟨b, σ₂, h2, h⟩ := St.bind_some h
  refine wpAny_Compare1 (wpAny_mono (hP A θ σ s env a σ₁ ok rr ev h1) (fun va s₁ ⟨θ₁, p₁, r₁⟩ => wpAny_mono (hQ A θ₁ σ₁ s₁ env b σ₂ ok p₁.r (ev.mono p₁.ext.le p₁.ext.same) h2) (fun vb s₂ ⟨θ₂, p₂, r₂⟩ => ?_) fun _ _ x => x) fun _ _ x => x) hm
  exact wpAny_mono (hF A θ₂ σ₂ s₂ a b va vb v σ' ok.handled ok.u80 p₂.r (p₂.vr r₁) r₂ h) (fun _ _ ⟨θ₃, p₃, r₃⟩ => ⟨θ₃, (p₁.trans p₂).trans p₃, r₃⟩) fun _ _ x => x
noncomputable def truM (P : St AV) : St Bool := St.bind P truthP
theorem tru_of {d : Nat} {sc : Scope} {ae : AEnv} {e : Expr} {P : St AV} (hP : RefE c d sc ae e P) (he : ∀ env whole, isTrue e env whole = (do let v ← whole; standAt e.pos; holding [v] (truthy v))) : RefT c d sc ae e (truM P) := by
  intro A θ σ s env v σ' ok rr ev h
  obtain ⟨a, σ₁, h1, h⟩ := St.bind_some h
  refine wpAny_isTrue_value (wpAny_mono (hP A θ σ s env a σ₁ ok rr ev h1) (fun va s₁ ⟨θ₁, p₁, r₁⟩ => ?_) fun _ _ x => x) (he _ _)
  exact wpAny_mono (truthy_ok p₁.r r₁ h) (fun _ _ ⟨θ₃, p₃, r₃⟩ => ⟨θ₃, p₁.trans p₃, r₃⟩) fun _ _ x => x
theorem tst_cmp {d : Nat} {sc : Scope} {ae : AEnv} {op : CmpOp} {l r : Expr} {pos : Pos} {F : AV → AV → St AV} {P Q : St AV} (hF : CmpOk c op F) (hP : RefE c (d + 2) sc ae l P) (hQ : RefE c (d + 2) sc ae r Q) (hm : behindInMarks op r = false) :
    RefT c (d + 2) sc ae (.Compare l [op] [r] pos) (truM (cmpM F P Q)) := by
  intro A θ σ s env v σ' ok rr ev h
  obtain ⟨x, σ₃, h, ht⟩ := St.bind_some h
  obtain ⟨a, σ₁, h1, h⟩ := St.bind_some h
  obtain ⟨b, σ₂, h2, h⟩ := St.bind_some h
  refine wpAny_isTrue_Compare1 (wpAny_mono (hP A θ σ s env a σ₁ ok rr ev h1) (fun va s₁ ⟨θ₁, p₁, r₁⟩ => wpAny_mono (hQ A θ₁ σ₁ s₁ env b σ₂ ok p₁.r (ev.mono p₁.ext.le p₁.ext.same) h2) (fun vb s₂ ⟨θ₂, p₂, r₂⟩ => ?_) fun _ _ x => x) fun _ _ x => x) hm
  refine wpAny_mono (hF A θ₂ σ₂ s₂ a b va vb x σ₃ ok.handled ok.u80 p₂.r (p₂.vr r₁) r₂ h) (fun _ _ ⟨θ₃, p₃, r₃⟩ => ?_) fun _ _ x => x
  exact wpAny_mono (truthy_ok p₃.r r₃ ht) (fun _ _ ⟨θ₄, p₄, r₄⟩ => ⟨θ₄, ((p₁.trans p₂).trans p₃).trans p₄, r₄⟩) fun _ _ x => x
noncomputable def notM (P : St Bool) : St Bool := St.bind P fun b => St.pure (!b)
theorem tst_not {d : Nat} {sc : Scope} {ae : AEnv} {x : Expr} {pos : Pos} {P : St Bool} (hP : RefT c d sc ae x P) : RefT c d sc ae (.UnaryOp .Not x pos) (notM P) := by
  intro A θ σ s env v σ' ok rr ev h
  obtain ⟨a, σ₁, h1, h⟩ := St.bind_some h
  cases h
  exact wpAny_isTrue_Not (wpAny_mono (hP A θ σ s env a σ' ok rr ev h1) (fun _ _ ⟨θ₃, p₃, r₃⟩ => ⟨θ₃, p₃, by rw [show _ = _ from r₃]; rfl⟩) fun _ _ x => x)
noncomputable def RefA (c : Cx) (d : Nat) (sc : Scope) (ae : AEnv) (op : BoolOp) (es : List Expr) (P : St Bool) : Prop :=
  ∀ A θ σ s env v σ', Ok d A → R c θ σ s.heap → EnvR sc σ.length θ ae env → P σ = some (v, σ') → Sat c A (allTrue op es env) BR θ σ s v σ'
noncomputable def andM (P Q : St Bool) : St Bool := St.bind P fun b => match b with
  | true => Q
  | false => St.pure false
noncomputable def orM (P Q : St Bool) : St Bool := St.bind P fun b => match b with
  | true => St.pure true
  | false => Q
theorem tst_bool {d : Nat} {sc : Scope} {ae : AEnv} {op : BoolOp} {es : List Expr} {pos : Pos} {P : St Bool} (h : RefA c d sc ae op es P) : RefT c d sc ae (.BoolOp op es pos) P := by
  intro A θ σ s env v σ' ok rr ev h'
  exact wpAny_isTrue_BoolOp (h A θ σ s env v σ' ok rr ev h')
theorem and_nil {d : Nat} {sc : Scope} {ae : AEnv} : RefA c d sc ae .And [] (St.pure true) := by
  intro A θ σ s env v σ' ok rr ev h
  cases h
  exact wpAny_allTrue_And_nil (sat_same rr rfl)
theorem or_nil {d : Nat} {sc : Scope} {ae : AEnv} : RefA c d sc ae .Or [] (St.pure false) := by
  intro A θ σ s env v σ' ok rr ev h
  cases h
  exact wpAny_allTrue_Or_nil (sat_same rr rfl)
theorem and_cons {d : Nat} {sc : Scope} {ae : AEnv} {x : Expr} {rest : List Expr} {P Q : St Bool} (hP : RefT c d sc ae x P) (hQ : RefA c d sc ae .And rest Q) : RefA c d sc ae .And (x :: rest) (andM P Q) := by
  intro A θ σ s env v σ' ok rr ev h
  obtain ⟨a, σ₁, h1, h⟩ := St.bind_some h
  refine wpAny_allTrue_And_cons (wpAny_mono (hP A θ σ s env a σ₁ ok rr ev h1) (fun b s₁ ⟨θ₁, p₁, r₁⟩ => ?_) fun _ _ x => x)
  have r₁ : b = a := r₁
  subst r₁
  cases b with
  | true =>
    simp only [if_true]
    exact wpAny_mono (hQ A θ₁ σ₁ s₁ env v σ' ok p₁.r (ev.mono p₁.ext.le p₁.ext.same) h) (fun _ _ ⟨θ₃, p₃, r₃⟩ => ⟨θ₃, p₁.trans p₃, r₃⟩) fun _ _ x => x
  | false =>
    cases h
    simp only [Bool.false_eq_true, if_false]
    exact ⟨θ₁, p₁, rfl⟩
theorem or_cons {d : Nat} {sc : Scope} {ae : AEnv} {x : Expr} {rest : List Expr} {P Q : St Bool} (hP : RefT c d sc ae x P) (hQ : RefA c d sc ae .Or rest Q) : RefA c d sc ae .Or (x :: rest) (orM P Q) := by
  intro A θ σ s env v σ' ok rr ev h
  obtain ⟨a, σ₁, h1, h⟩ := St.bind_some h
  refine wpAny_allTrue_Or_cons (wpAny_mono (hP A θ σ s env a σ₁ ok rr ev h1) (fun b s₁ ⟨θ₁, p₁, r₁⟩ => ?_) fun _ _ x => x)
  have r₁ : b = a := r₁
  subst r₁
  cases b with
  | false =>
    simp only [Bool.false_eq_true, if_false]
    exact wpAny_mono (hQ A θ₁ σ₁ s₁ env v σ' ok p₁.r (ev.mono p₁.ext.le p₁.ext.same) h) (fun _ _ ⟨θ₃, p₃, r₃⟩ => ⟨θ₃, p₁.trans p₃, r₃⟩) fun _ _ x => x
  | true =>
    cases h
    simp only [if_true]
    exact ⟨θ₁, p₁, rfl⟩
noncomputable def orVM (P Q : St AV) : St AV := St.bind P fun a => St.bind (truthP a) fun b => match b with
  | true => St.pure a
  | false => Q
noncomputable def andVM (P Q : St AV) : St AV := St.bind P fun a => St.bind (truthP a) fun b => match b with
  | true => Q
  | false => St.pure a
theorem ref_or {d : Nat} {sc : Scope} {ae : AEnv} {x y : Expr} {pos : Pos} {P Q : St AV} (hP : RefE c d sc ae x P) (hQ : RefE c d sc ae y Q) : RefE c d sc ae (.BoolOp .Or [x, y] pos) (orVM P Q) := by
  intro A θ σ s env v σ' ok rr ev h
  obtain ⟨a, σ₁, h1, h⟩ := St.bind_some h
  obtain ⟨b, σ₂, h2, h⟩ := St.bind_some h
  refine wpAny_Or2 (wpAny_mono (hP A θ σ s env a σ₁ ok rr ev h1) (fun va s₁ ⟨θ₁, p₁, r₁⟩ => wpAny_mono (truthy_ok p₁.r r₁ h2) (fun t s₂ ⟨θ₂, p₂, r₂⟩ => ?_) fun _ _ x => x) fun _ _ x => x)
  have r₂ : t = b := r₂
  subst r₂
  cases t with
  | true => cases h; simp only [if_true]; exact ⟨θ₂, p₁.trans p₂, p₂.vr r₁⟩
  | false =>
    simp only [Bool.false_eq_true, if_false]
    have p := p₁.trans p₂
    exact wpAny_mono (hQ A θ₂ σ₂ s₂ env v σ' ok p.r (ev.mono p.ext.le p.ext.same) h) (fun _ _ ⟨θ₃, p₃, r₃⟩ => ⟨θ₃, p.trans p₃, r₃⟩) fun _ _ x => x
theorem ref_and {d : Nat} {sc : Scope} {ae : AEnv} {x y : Expr} {pos : Pos} {P Q : St AV} (hP : RefE c d sc ae x P) (hQ : RefE c d sc ae y Q) : RefE c d sc ae (.BoolOp .And [x, y] pos) (andVM P Q) := by
  intro A θ σ s env v σ' ok rr ev h
  obtain ⟨a, σ₁, h1, h⟩ := St.bind_some h
  obtain ⟨b, σ₂, h2, h⟩ := St.bind_some h
  refine wpAny_And2 (wpAny_mono (hP A θ σ s env a σ₁ ok rr ev h1) (fun va s₁ ⟨θ₁, p₁, r₁⟩ => wpAny_mono (truthy_ok p₁.r r₁ h2) (fun t s₂ ⟨θ₂, p₂, r₂⟩ => ?_) fun _ _ x => x) fun _ _ x => x)
  have r₂ : t = b := r₂
  subst r₂
  cases t with
  | false => cases h; simp only [Bool.false_eq_true, if_false]; exact ⟨θ₂, p₁.trans p₂, p₂.vr r₁⟩
  | true =>
    simp only [if_true]
    have p := p₁.trans p₂
    exact wpAny_mono (hQ A θ₂ σ₂ s₂ env v σ' ok p.r (ev.mono p.ext.le p.ext.same) h) (fun _ _ ⟨θ₃, p₃, r₃⟩ => ⟨θ₃, p.trans p₃, r₃⟩) fun _ _ x => x
noncomputable def iteM {α : Type} (T : St Bool) (P Q : St α) : St α := St.bind T fun b => match b with
  | true => P
  | false => Q
theorem ref_ite {d : Nat} {sc : Scope} {ae : AEnv} {t x y : Expr} {pos : Pos} {T : St Bool} {P Q : St AV} (hT : RefT c d sc ae t T) (hP : RefE c d sc ae x P) (hQ : RefE c d sc ae y Q) : RefE c d sc ae (.IfExp t x y pos) (iteM T P Q) := by
  intro A θ σ s env v σ' ok rr ev h
  obtain ⟨b, σ₁, h1, h⟩ := St.bind_some h
  refine wpAny_IfExp (wpAny_mono (hT A θ σ s env b σ₁ ok rr ev h1) (fun t s₁ ⟨θ₁, p₁, r₁⟩ => ?_) fun _ _ x => x)
  have r₁ : t = b := r₁
  subst r₁
  cases t with
  | true =>
    simp only [if_true]
    exact wpAny_mono (hP A θ₁ σ₁ s₁ env v σ' ok p₁.r (ev.mono p₁.ext.le p₁.ext.same) h) (fun _ _ ⟨θ₃, p₃, r₃⟩ => ⟨θ₃, p₁.trans p₃, r₃⟩) fun _ _ x => x
  | false =>
    simp only [Bool.false_eq_true, if_false]
    exact wpAny_mono (hQ A θ₁ σ₁ s₁ env v σ' ok p₁.r (ev.mono p₁.ext.le p₁.ext.same) h) (fun _ _ ⟨θ₃, p₃, r₃⟩ => ⟨θ₃, p₁.trans p₃, r₃⟩) fun _ _ x => x
noncomputable def negM (P : St AV) : St AV := St.bind P fun a => match a with
  | .int i => St.pure (.int (-i))
  | _ => St.fail
theorem ref_neg {d : Nat} {sc : Scope} {ae : AEnv} {x : Expr} {pos : Pos} {P : St AV} (hP : RefE c d sc ae x P) : RefE c d sc ae (.UnaryOp .USub x pos) (negM P) := by
  intro A θ σ s env v σ' ok rr ev h
  obtain ⟨a, σ₁, h1, h⟩ := St.bind_some h
  refine wpAny_UnaryOp (wpAny_mono (hP A θ σ s env a σ₁ ok rr ev h1) (fun t s₁ ⟨θ₁, p₁, r₁⟩ => ?_) fun _ _ x => x)
  split at h
  · cases h
    obtain ⟨t, rfl⟩ := r₁
    exact PyProof.Rows.neg_int ⟨θ₁, p₁.trans (Post.toks p₁.r _), ⟨_, rfl⟩⟩
  · cases h
end
end Mine
end
section
namespace Mine
open PySem PySem.Spec PySem.Calls PyProof.Rows PySem.W
noncomputable def getAt {α : Type} (xs : List α) : Int → Option α
  | .ofNat j => xs[j]?
  | .negSucc j => match Nat.blt j xs.length with
    | true => xs[xs.length - (j + 1)]?
    | false => none
noncomputable def clip (n : Nat) : Int → Nat
  | .ofNat j => min j n
  | .negSucc j => n - (j + 1)
noncomputable def sliceL {α : Type} (xs : List α) (lo hi : Option Int) : List α :=
  (xs.drop (lo.elim 0 (clip xs.length))).take (hi.elim xs.length (clip xs.length) - lo.elim 0 (clip xs.length))
theorem clip_eq (n : Nat) (i : Int) : clip n i = clipAt n i := by
  cases i with
  | ofNat j => exact (clipAt_nat n j).symm
  | negSucc j =>
    have := clipAt_neg n (j + 1) (by omega)
    rw [show (Int.negSucc j) = -((j + 1 : Nat) : Int) by omega, this]
    show clip n (-((j : Int) + 1)) = _
    rfl
set_option tactic.hygienic true in
theorem getAt_index {α : Type} {xs : List α} {k : Int} {x : α} (h : getAt xs k = some x) : ∃ j, seqIndex? k xs.length = some j ∧ xs[j]? = some x ∧ -(xs.length : Int) ≤ k ∧ k < xs.length ∧ (0 ≤ k → k.toNat = j) ∧ (k < 0 → (k + (xs.length : Int)).toNat = j) := by
  unfold getAt at h
  split at h
  · rename_i j
    have hl := lt_of_get h
    refine ⟨j, ?_, h, Int.le_trans (Int.neg_nonpos_of_nonneg (Int.natCast_nonneg _)) (Int.natCast_nonneg j), Int.ofNat_lt.mpr hl, fun _ => rfl, fun q => absurd q (by simp)⟩
    have h1 : ¬ (Int.ofNat j < 0) := by simp
    have h2 : (Int.ofNat j) < (xs.length : Int) := Int.ofNat_lt.mpr hl
    unfold seqIndex?
    simp only [h1, if_false]
    simp [hl]
  · rename_i j
    split at h
    · rename_i hb
      have hb : j < xs.length := by simpa using hb
      refine ⟨xs.length - (j + 1), ?_, h, by omega, by omega, fun q => absurd q (by omega), fun _ => by omega⟩
      have h1 : Int.negSucc j < 0 := by omega
      unfold seqIndex?
      simp only [h1, if_true]
      have e : Int.negSucc j + (xs.length : Int) = ((xs.length - (j + 1) : Nat) : Int) := by omega
      rw [e]
      have h3 : xs.length - (j + 1) < xs.length := by omega
      simp [h3]
    · cases h
noncomputable def lookS (k : List Nat) : List (List Nat × AV) → Option AV
  | [] => none
  | e :: r => match e.1 == k with
    | true => some e.2
    | false => lookS k r
noncomputable def idxV (σ : List AO) : AV → AV → Option AV
  | .ref l, .int k => match getList l σ with
    | some xs => match okSz xs.length with
      | true => getAt xs k
      | false => none
    | none => none
  | .ref l, .str k => match σ[l]? with
    | some (.sdict es) => lookS k es
    | _ => none
  | .str s, .int k => match okSz s.length, getAt s k with
    | true, some x => some (.str [x])
    | _, _ => none
  | _, _ => none
noncomputable def idxP (a i : AV) : St AV := fun σ => match idxV σ a i with
  | some v => some (v, σ)
  | none => none
noncomputable def partV : AV → Option (Option Int)
  | .none => some none
  | .int i => some (some i)
  | _ => none
noncomputable def sliceP (a l u : AV) : St AV := fun σ => match partV l, partV u with
  | some lo, some hi => match a with
    | .str s => guardM (okSz s.length) (St.pure (.str (sliceL s lo hi))) σ
    | .bytes s => guardM (okSz s.length) (St.pure (.bytes (sliceL s lo hi))) σ
    | .ref l => match getList l σ with
      | some xs => guardM (okSz xs.length) (allocM (.list (sliceL xs lo hi))) σ
      | none => none
    | _ => none
  | _, _ => none
section
variable {c : Cx}
theorem lookS_value {n : Nat} {θ : Th} (k : List Nat) {v : AV} {es : List (List Nat × AV)} {kvs : List (Str × Value)} (q : All2 (fun e d => d.1 = ⟨e.1.toArray⟩ ∧ VR n θ e.2 d.2) es kvs) (h : lookS k es = some v) : ∃ u, valueAt kvs ⟨k.toArray⟩ = some u ∧ VR n θ v u := by
  induction q with
  | nil => cases h
  | @cons e d es kvs x t ih =>
    unfold lookS at h
    unfold valueAt at ih ⊢
    rw [List.find?_cons]
    have e1 : decide (d.1 = (⟨k.toArray⟩ : Str)) = (e.1 == k) := by
      rw [x.1, Bool.eq_iff_iff, decide_eq_true_eq, beq_iff_eq]; simp
    rw [e1]
    cases hb : e.1 == k with
    | true => rw [hb] at h; cases h; exact ⟨_, rfl, x.2⟩
    | false => rw [hb] at h; exact ih h
set_option tactic.hygienic true in
theorem getItem_ok {A : Around} {θ : Th} {σ σ' : List AO} {s : Shared} {a i v : AV} {va vi : Value} (r : R c θ σ s.heap) (ha : VR σ.length θ a va) (hi : VR σ.length θ i vi) (h : idxP a i σ = some (v, σ')) :
    (∃ T id, s.TypeIs va T ∧ typeLookup (.type T) "__getitem__" = pure (some (.builtin id))) ∧ Sat c A (getItem va vi) VR θ σ s v σ' := by
  unfold idxP at h
  split at h
  · rename_i x hx
    cases h
    unfold idxV at hx
    split at hx
    · split at hx
      · rename_i l k _ xs e
        split at hx
        · rename_i hz
          obtain ⟨hl, rfl⟩ := ha
          obtain ⟨t, rfl⟩ := hi
          obtain ⟨us, p1, q1⟩ := plain_list r (getList_some e)
          have hL := plain_isList p1
          have hz := okSz_le' hz
          refine ⟨⟨"list", _, hL.typeIs, slot_list_getitem.lookup⟩, ?_⟩
          obtain ⟨j, h1, h2, h3, h4, h5, h6⟩ := getAt_index hx
          obtain ⟨u, hu1, hu2⟩ := q1.get j v h2
          by_cases hk : 0 ≤ k
          · refine wpAny_getItem_list hL hk (by omega) (x := u) ?_ (sat_same r hu2)
            rw [h5 hk]; simpa using hu1
          · have hs : (us.toArray.size : Int) = xs.length := by simp [← q1.length]
            refine wpAny_getItem_list_neg hL (by omega) (by rw [hs]; omega) (by omega) (x := u) ?_ (sat_same r hu2)
            rw [hs, h6 (by omega)]; simpa using hu1
        · cases hx
      · cases hx
    · split at hx
      · rename_i l k _ es e
        obtain ⟨hl, rfl⟩ := ha
        obtain ⟨t, rfl⟩ := hi
        obtain ⟨kvs, hd, _, q⟩ := r.get e
        obtain ⟨u, hu1, hu2⟩ := lookS_value k q hx
        exact ⟨⟨"dict", _, hd.typeIs, slot_dict_getitem.lookup⟩, wpAny_getItem_of (strKind_is _ _ _ _) hd.mapOf hu1 (sat_toks r _ hu2)⟩
      · cases hx
    · split at hx
      · rename_i p k _ _ x hz hg
        cases hx
        obtain ⟨t, rfl⟩ := ha
        obtain ⟨u, rfl⟩ := hi
        obtain ⟨j, h1, h2, h3, h4, _⟩ := getAt_index hg
        have hz := okSz_le' hz
        refine ⟨⟨"str", _, typeIs_str _ _ _, F.slot_str_getitem.lookup⟩, P.getItem_str (c := x) ?_ ?_ (sat_toks r _ ⟨s.toks, rfl⟩)⟩
        · simp; omega
        · have : (⟨p.toArray⟩ : Str).length = p.length := by simp [Str.length]
          rw [this, h1]; simpa using h2
      · cases hx
    · cases hx
  · cases h
noncomputable def idxM (P Q : St AV) : St AV := St.bind P fun a => St.bind Q fun i => idxP a i
theorem ref_idx {d : Nat} {sc : Scope} {ae : AEnv} {e i : Expr} {pos : Pos} {P Q : St AV} (hP : RefE c d sc ae e P) (hQ : RefE c d sc ae i Q) (hs : ∀ o x, subscripted i false o x = operate [o, x] (getItem o x)) :
    RefE c d sc ae (.Subscript e i pos) (idxM P Q) := by
  intro A θ σ s env v σ' ok rr ev h
  obtain ⟨a, σ₁, h1, h⟩ := St.bind_some h
  obtain ⟨b, σ₂, h2, h⟩ := St.bind_some h
  refine Subscript_ (wpAny_mono (hP A θ σ s env a σ₁ ok rr ev h1) (fun va s₁ ⟨θ₁, p₁, r₁⟩ => wpAny_mono (hQ A θ₁ σ₁ s₁ env b σ₂ ok p₁.r (ev.mono p₁.ext.le p₁.ext.same) h2) (fun vb s₂ ⟨θ₂, p₂, r₂⟩ => ?_) fun _ _ x => x) fun _ _ x => x)
  obtain ⟨⟨T, id, hT, hl⟩, hg⟩ := getItem_ok (A := A) p₂.r (p₂.vr r₁) r₂ h
  exact tail_any hT hl (wpAny_mono hg (fun _ _ ⟨θ₃, p₃, r₃⟩ => ⟨θ₃, (p₁.trans p₂).trans p₃, r₃⟩) fun _ _ x => x) (hs _ _)
noncomputable def RefO (c : Cx) (d : Nat) (sc : Scope) (ae : AEnv) (e : Option Expr) (P : St AV) : Prop :=
  ∀ A θ σ s env v σ', Ok d A → R c θ σ s.heap → EnvR sc σ.length θ ae env → P σ = some (v, σ') → Sat c A (evalPart e env) VR θ σ s v σ'
theorem part_none {d : Nat} {sc : Scope} {ae : AEnv} : RefO c d sc ae none (St.pure .none) := by
  intro A θ σ s env v σ' ok rr ev h
  cases h
  exact wpAny_of_eq (evalPart_none env) (sat_same rr rfl)
theorem part_some {d : Nat} {sc : Scope} {ae : AEnv} {e : Expr} {P : St AV} (hP : RefE c d sc ae e P) : RefO c d sc ae (some e) P := by
  intro A θ σ s env v σ' ok rr ev h
  exact wpAny_evalPart_some (hP A θ σ s env v σ' ok rr ev h)
theorem isPart_of {n : Nat} {θ : Th} {a : AV} {v : Value} {o : Option Int} (h : VR n θ a v) (e : partV a = some o) : IsPart v o := by
  unfold partV at e
  split at e
  · cases e; cases h; exact .none
  · cases e; obtain ⟨t, rfl⟩ := h; exact .int _ t
  · cases e
theorem Post.grown {θ : Th} {σ : List AO} {s : Shared} (r : R c θ σ s.heap) (h' : Heap) (tk : Nat) (hk : ∀ b o, s.heap.get? b = some o → h'.get? b = some o) : Post c θ σ s θ σ { s with heap := h', toks := tk } := by
  obtain ⟨a, b⟩ := r.grow (h' := h') (fun b o _ e => hk b o e) (fun l o _ e => hk _ o e)
  exact ⟨⟨_, _, rfl⟩, b, a⟩
theorem strSlice_indices (s : List Nat) (lo hi : Option Int) : (Builtin.Str.strSliceIndices lo hi 1 s.length).filterMap (s.toArray[·]?) = sliceL s lo hi := by
  have e : Builtin.Str.strSliceIndices lo hi 1 s.length = sliceRange (sliceBounds lo hi none s.length).1 (sliceBounds lo hi none s.length).2.1 (sliceBounds lo hi none s.length).2.2 := by
    unfold Builtin.Str.strSliceIndices sliceBounds
    cases lo <;> cases hi <;> rfl
  rw [e, sliceBounds_plain]
  simp only [sliceRange_one, pick_run]
  unfold sliceL
  have e1 : ∀ o : Option Int, o.elim 0 (clipAt s.length) = o.elim 0 (clip s.length) := fun o => by cases o <;> simp [clip_eq]
  have e2 : ∀ o : Option Int, o.elim s.length (clipAt s.length) = o.elim s.length (clip s.length) := fun o => by cases o <;> simp [clip_eq]
  rw [e1, e2]
theorem sliceL_le {α : Type} (xs : List α) (lo hi : Option Int) : (sliceL xs lo hi).length ≤ xs.length := by
  unfold sliceL; simp only [List.length_take, List.length_drop]; omega
theorem sliceL_full {α : Type} {xs : List α} {lo hi : Option Int} (h : (sliceL xs lo hi).length = xs.length) : sliceL xs lo hi = xs := by
  by_cases h0 : xs = []
  · subst h0; unfold sliceL; simp
  · have hp : 0 < xs.length := List.length_pos_iff.mpr h0
    unfold sliceL at h ⊢
    simp only [List.length_take, List.length_drop] at h
    have h1 : lo.elim 0 (clip xs.length) = 0 := by omega
    rw [h1] at h ⊢
    rw [List.drop_zero, List.take_of_length_le (by omega)]
theorem isPart_parts {v : Value} {o : Option Int} (h : IsPart v o) : ∃ p : Option (Int × Tok), v = partValue p ∧ p.map (·.1) = o := by
  cases h with
  | none => exact ⟨none, rfl, rfl⟩
  | int i t => exact ⟨some (i, t), rfl, rfl⟩
theorem clips {n : Nat} (o : Option Int) (k : Nat) : o.elim k (clipAt n) = o.elim k (clip n) := by cases o <;> simp [clip_eq]
theorem list_picked (us : List Value) (lo hi : Option Int) : slicePick us.toArray lo hi none = (sliceL us lo hi).toArray := by
  rw [slicePick_plain]
  unfold sliceL
  rw [List.size_toArray, clips, clips]
theorem str_picked (x : List Nat) (pl pu : Option (Int × Tok)) : (slicePicked ⟨x.toArray⟩ pl pu none).filterMap (x.toArray[·]?) = sliceL x (pl.map (·.1)) (pu.map (·.1)) := strSlice_indices x _ _
theorem str_whole {x : List Nat} {pl pu : Option (Int × Tok)} (hc : (slicePicked ⟨x.toArray⟩ pl pu none).length = x.length) : sliceL x (pl.map (·.1)) (pu.map (·.1)) = x := by
  have hin : ∀ i ∈ slicePicked ⟨x.toArray⟩ pl pu none, i < x.length := by
    intro i hi
    have e : Builtin.Str.strSliceIndices (pl.map (·.1)) (pu.map (·.1)) 1 x.length = sliceRange (sliceBounds (pl.map (·.1)) (pu.map (·.1)) none x.length).1 (sliceBounds (pl.map (·.1)) (pu.map (·.1)) none x.length).2.1 (sliceBounds (pl.map (·.1)) (pu.map (·.1)) none x.length).2.2 := by
      unfold Builtin.Str.strSliceIndices sliceBounds
      cases pl <;> cases pu <;> rfl
    have hi' : i ∈ Builtin.Str.strSliceIndices (pl.map (·.1)) (pu.map (·.1)) 1 x.length := hi
    rw [e, sliceBounds_plain] at hi'
    simp only [sliceRange_one, List.mem_map, List.mem_range] at hi'
    obtain ⟨k, hk, rfl⟩ := hi'
    have : (pu.map (·.1)).elim x.length (clipAt x.length) ≤ x.length := by
      cases pu with
      | none => exact Nat.le_refl _
      | some q => simp only [Option.map_some, Option.elim]; rw [← clip_eq]; unfold clip; split <;> omega
    omega
  refine sliceL_full ?_
  rw [← str_picked, ← hc, List.length_filterMap_eq_countP]
  exact List.countP_eq_length.mpr fun i hi => by simp [hin i hi]
section
variable {A : Around} {θ : Th} {σ σ' : List AO} {s : Shared} {v : AV} {va vl vu : Value} {S : Addr} {plo phi : Option Int} {e : Expr} {lo hi : Option Expr} {p : Pos}
theorem tail_str {x : List Nat} (r : R c θ σ s.heap) (ha : VR σ.length θ (.str x) va) (i1 : IsPart vl plo) (i2 : IsPart vu phi) (hsl : s.heap.IsSliceOf S vl vu .none) (hz : okSz x.length = true) :
    Sat c A (subscriptTail e (.Slice lo hi none p) va (.ref S)) VR θ σ s (.str (sliceL x plo phi)) σ := by
  obtain ⟨t, rfl⟩ := ha
  have hz := okSz_le' hz
  obtain ⟨pl, rfl, rfl⟩ := isPart_parts i1
  obtain ⟨pu, rfl, rfl⟩ := isPart_parts i2
  refine tail_any (typeIs_str _ _ _) F.slot_str_getitem.lookup (ops := [.ref S, .str ⟨x.toArray⟩ t]) (wpAny_getItem_str_slice (l := pl) (u := pu) (st := none) hsl rfl ?_) rfl
  have hlen : (⟨x.toArray⟩ : Str).length = x.length := List.size_toArray
  unfold sliceMade
  rw [hlen]
  split
  · rename_i hc
    exact ⟨θ, Post.refl r, t, by rw [str_whole (of_decide_eq_true (by simpa using hc))]⟩
  · refine ⟨?_, θ, Post.toks r _, s.toks, ?_⟩
    · show (List.filterMap (x.toArray[·]?) (slicePicked _ pl pu none)).toArray.size ≤ sizeLine
      rw [str_picked, List.size_toArray, sizeLine_eq]
      exact Nat.le_trans (sliceL_le x _ _) (Nat.le_trans hz (by decide))
    · show Value.str ⟨(List.filterMap (x.toArray[·]?) (slicePicked _ pl pu none)).toArray⟩ _ = _
      rw [str_picked]
theorem tail_bytes {x : List Nat} (r : R c θ σ s.heap) (ha : VR σ.length θ (.bytes x) va) (i1 : IsPart vl plo) (i2 : IsPart vu phi) (hsl : s.heap.IsSliceOf S vl vu .none) (hz : okSz x.length = true) :
    Sat c A (subscriptTail e (.Slice lo hi none p) va (.ref S)) VR θ σ s (.bytes (sliceL x plo phi)) σ := by
  obtain ⟨b, t, rfl, rfl⟩ := ha
  have hz := okSz_le' hz
  refine tail_of_ItemOn ⟨"bytes", _, FB.slot_bytes_getitem.lookup, typeIs_bytes _ _ _, getItem_meets (typeIs_bytes _ _ _) (by decide) FB.slot_bytes_getitem FB.entry_bytes_getitem (FB.args_bytes_getitem_2 _ _) (KBc.meets_slice2 b t _ i1 i2)
    ⟨hsl, Nat.le_trans (KBc.size_picked_le b plo phi) (by rw [sizeLine_eq]; simp at hz; omega), fun t' k => ⟨θ, Post.toks r _, _, t', rfl, ?_⟩⟩⟩ (ops := [.ref S, .bytes b t]) rfl (fun r => by cases e <;> rfl)
  rw [KBc.picked_eq]
  unfold sliceL
  rw [clips, clips]
  simp [List.map_take, List.map_drop]
theorem tail_list {l : Nat} {xs : List AV} (r : R c θ σ s.heap) (ha : VR σ.length θ (.ref l) va) (i1 : IsPart vl plo) (i2 : IsPart vu phi) (hsl : s.heap.IsSliceOf S vl vu .none) (hz : okSz xs.length = true) (eL : getList l σ = some xs) (h : allocM (.list (sliceL xs plo phi)) σ = some (v, σ')) :
    Sat c A (subscriptTail e (.Slice lo hi none p) va (.ref S)) VR θ σ s v σ' := by
  cases h
  obtain ⟨hl', rfl⟩ := ha
  obtain ⟨us, q1, q2⟩ := plain_list r (getList_some eL)
  have hz := okSz_le' hz
  refine tail_any (plain_isList q1).typeIs slot_list_getitem.lookup (ops := [.ref S, .ref (θ l)]) (wpAny_getItem_list_slice (plain_isList q1) hsl i1 i2 .none (by simp) ?_ (by simp [← q2.length, sizeLine_eq]; omega)) rfl
  rw [list_picked]
  refine sat_push_list r ?_
  unfold sliceL
  rw [← q2.length]
  exact (q2.drop _).take _
theorem tail_slice {a l u : AV} (r : R c θ σ s.heap) (ha : VR σ.length θ a va) (hl : VR σ.length θ l vl) (hu : VR σ.length θ u vu) (hsl : s.heap.IsSliceOf S vl vu .none) (h : sliceP a l u σ = some (v, σ')) :
    Sat c A (subscriptTail e (.Slice lo hi none p) va (.ref S)) VR θ σ s v σ' := by
  unfold sliceP at h
  cases e1 : partV l with
  | none => rw [e1] at h; cases h
  | some plo => cases e2 : partV u with
    | none => rw [e1, e2] at h; cases h
    | some phi =>
      rw [e1, e2] at h
      have i1 := isPart_of hl e1
      have i2 := isPart_of hu e2
      cases a with
      | str x => obtain ⟨hz, h⟩ := guardM_some h; cases h; exact tail_str r ha i1 i2 hsl hz
      | bytes x => obtain ⟨hz, h⟩ := guardM_some h; cases h; exact tail_bytes r ha i1 i2 hsl hz
      | ref k =>
        simp only at h
        cases eL : getList k σ with
        | none => rw [eL] at h; cases h
        | some xs => rw [eL] at h; obtain ⟨hz, h⟩ := guardM_some h; exact tail_list r ha i1 i2 hsl hz eL h
      | _ => cases h
end
noncomputable def slcM (P L U : St AV) : St AV := St.bind P fun a => St.bind L fun l => St.bind U fun u => sliceP a l u
theorem ref_slice {d : Nat} {sc : Scope} {ae : AEnv} {e : Expr} {lo hi : Option Expr} {p pos : Pos} {P L U : St AV} (hP : RefE c d sc ae e P) (hL : RefO c d sc ae lo L) (hU : RefO c d sc ae hi U) :
    RefE c d sc ae (.Subscript e (.Slice lo hi none p) pos) (slcM P L U) := by
  intro A θ σ s env v σ' ok rr ev h
  obtain ⟨a, σ₁, h1, h⟩ := St.bind_some h
  obtain ⟨l, σ₂, h2, h⟩ := St.bind_some h
  obtain ⟨u, σ₃, h3, h⟩ := St.bind_some h
  refine Subscript_ (wpAny_mono (hP A θ σ s env a σ₁ ok rr ev h1) (fun va s₁ x₁ => x₁.elim fun θ₁ x₁ => wpAny_Slice (wpAny_mono (hL A θ₁ σ₁ s₁ env l σ₂ ok x₁.1.r (ev.mono x₁.1.ext.le x₁.1.ext.same) h2) (fun vl s₂ x₂ => x₂.elim fun θ₂ x₂ =>
    wpAny_mono (hU A θ₂ σ₂ s₂ env u σ₃ ok x₂.1.r (ev.mono (x₁.1.trans x₂.1).ext.le (x₁.1.trans x₂.1).ext.same) h3) (fun vu s₃ x₃ => x₃.elim fun θ₃ x₃ => wpAny_of_eq (a := Value.none) rfl ?_) fun _ _ x => x) fun _ _ x => x)) fun _ _ x => x)
  have gr := Post.grown x₃.1.r (s₃.heap.push { cls := .type "slice", data := .fields #[vl, vu, .none] }) s₃.toks (fun b o e => Heap.get?_push_of_some _ e)
  exact wpAny_mono (tail_slice gr.r ((x₂.1.trans x₃.1).vr x₁.2) (x₃.1.vr x₂.2) x₃.2 (Heap.IsSliceOf.new ..) h) (fun _ _ x => x.imp fun _ y => ⟨((x₁.1.trans (x₂.1.trans x₃.1)).trans gr).trans y.1, y.2⟩) fun _ _ x => x
noncomputable def RefL (c : Cx) (d : Nat) (sc : Scope) (ae : AEnv) (es : List Expr) (P : St (List AV)) : Prop :=
  ∀ A θ σ s env v σ' pos, Ok d A → R c θ σ s.heap → EnvR sc σ.length θ ae env → P σ = some (v, σ') → Sat c A (spliced (backTo pos (starEach es env))) (fun n θ => All2 (VR n θ)) θ σ s v σ'
noncomputable def consM (P : St AV) (Q : St (List AV)) : St (List AV) := St.bind P fun a => St.bind Q fun l => St.pure (a :: l)
theorem list_nil {d : Nat} {sc : Scope} {ae : AEnv} : RefL c d sc ae [] (St.pure []) := by
  intro A θ σ s env v σ' pos ok rr ev h
  cases h
  exact spliced_nil ⟨θ, Post.refl rr, .nil⟩
theorem list_cons {d : Nat} {sc : Scope} {ae : AEnv} {e : Expr} {es : List Expr} {P : St AV} {Q : St (List AV)} (hP : RefE c d sc ae e P) (hQ : RefL c d sc ae es Q) (hn : ∀ env, starEach (e :: es) env = (false, eval e env) :: starEach es env) : RefL c d sc ae (e :: es) (consM P Q) := by
  intro A θ σ s env v σ' pos ok rr ev h
  obtain ⟨a, σ₁, h1, h⟩ := St.bind_some h
  obtain ⟨l, σ₂, h2, h⟩ := St.bind_some h
  cases h
  rw [hn env]
  show wpAny _ A (spliced ((false, eval e env) :: backTo pos (starEach es env))) _ _ s
  refine spliced_cons (wpAny_mono (hP A θ σ s env a σ₁ ok rr ev h1) (fun va s₁ ⟨θ₁, p₁, r₁⟩ => wpAny_mono (hQ A θ₁ σ₁ s₁ env l σ' pos ok p₁.r (ev.mono p₁.ext.le p₁.ext.same) h2) (fun vs s₂ ⟨θ₂, p₂, r₂⟩ => ?_) fun _ _ x => x) fun _ _ x => x)
  exact ⟨θ₂, p₁.trans p₂, .cons (p₂.vr r₁) r₂⟩
noncomputable def listM (P : St (List AV)) : St AV := St.bind P fun xs => guardM (okSz xs.length) (allocM (.list xs))
noncomputable def tupM (P : St (List AV)) : St AV := St.bind P fun xs => guardM (okSz xs.length) (allocM (.tup xs))
theorem ref_list {d : Nat} {sc : Scope} {ae : AEnv} {es : List Expr} {pos : Pos} {P : St (List AV)} (hP : RefL c d sc ae es P) : RefE c d sc ae (.List es pos) (listM P) := by
  intro A θ σ s env v σ' ok rr ev h
  obtain ⟨a, σ₁, h1, h⟩ := St.bind_some h
  obtain ⟨hz, h⟩ := guardM_some h
  cases h
  refine List_ (wpAny_mono (hP A θ σ s env a σ₁ pos ok rr ev h1) (fun vs s₁ ⟨θ₁, p₁, r₁⟩ => ?_) fun _ _ x => x)
  refine wpAny_newList ?_ (by rw [← All2.length r₁]; exact okSz_le hz)
  obtain ⟨θ', p', r'⟩ := sat_push_list p₁.r r₁
  exact ⟨θ', p₁.trans p', r'⟩
theorem ref_tup {d : Nat} {sc : Scope} {ae : AEnv} {es : List Expr} {k : Nat} {pos : Pos} {P : St (List AV)} (hP : RefL c d sc ae es P) : RefE c d sc ae (.Tuple es k pos) (tupM P) := by
  intro A θ σ s env v σ' ok rr ev h
  obtain ⟨a, σ₁, h1, h⟩ := St.bind_some h
  obtain ⟨hz, h⟩ := guardM_some h
  cases h
  refine Tuple_ (wpAny_mono (hP A θ σ s env a σ₁ pos ok rr ev h1) (fun vs s₁ ⟨θ₁, p₁, r₁⟩ => ?_) fun _ _ x => x)
  refine wpAny_newTuple ?_ (by rw [← All2.length r₁]; exact okSz_le hz)
  obtain ⟨θ', p', r'⟩ := sat_push (o := .tup a) (ob := { cls := .type "tuple", data := .seq vs.toArray }) p₁.r rfl ⟨vs, ⟨_, Heap.get?_push_size _ rfl, rfl, 0, rfl⟩, r₁.mono fun _ _ => vr_ext1⟩
  exact ⟨θ', p₁.trans p', r'⟩
end
end Mine
end
section
namespace Mine
open PySem PySem.Spec PySem.Calls PyProof.Rows PySem.W
noncomputable def KeepOk (c : Cx) (f : Value) : Prop :=
  ∀ h : Heap, (∀ b o, c.base.get? b = some o → h.get? b = some o) → ∃ k, (k = Keeper.frame ∨ k = Keeper.machine ∨ k = Keeper.boundFrame) ∧ Looks (model c.prog c.w) h (keeperOf f) k
noncomputable def CallR (c : Cx) (d : Nat) (f : Value) (F : List AV → St AV) : Prop :=
  ∀ A θ σ s args vs v σ', Ok d A → R c θ σ s.heap → All2 (VR σ.length θ) args vs → F args σ = some (v, σ') → Sat c A (call f vs []) VR θ σ s v σ'
section
variable {c : Cx}
theorem keep_builtin (id : String) : KeepOk c (.builtin id) := fun _ _ => ⟨.machine, .inr (.inl rfl), Looks.of_pure rfl⟩
theorem keep_type (T : String) : KeepOk c (.type T) := fun _ _ => ⟨.machine, .inr (.inl rfl), Looks.of_pure rfl⟩
theorem keep_of {K : Frag} (X : K.In c.base) {f : Value} (e : keepIn K f = true) : KeepOk c f := fun h hk => keeps_K e h fun b o q => hk b o (X b o q)
noncomputable def AR (n : Nat) (θ : Th) (vs : List AV) (a : Args) : Prop := a.kw = [] ∧ All2 (VR n θ) vs a.pos
noncomputable def RefArgs (c : Cx) (d : Nat) (sc : Scope) (ae : AEnv) (es : List Expr) (P : St (List AV)) : Prop :=
  ∀ A θ σ s env v σ' pos f, Ok d A → R c θ σ s.heap → EnvR sc σ.length θ ae env → P σ = some (v, σ') → Sat c A (evalArgs f true (backTo pos (starEach es env)) []) AR θ σ s v σ' ∧ (backTo pos (starEach es env)).any (·.1) = false
theorem args_nil {d : Nat} {sc : Scope} {ae : AEnv} : RefArgs c d sc ae [] (St.pure []) := by
  intro A θ σ s env v σ' pos f ok rr ev h
  cases h
  exact ⟨evalArgs_nil3 ⟨θ, Post.refl rr, rfl, .nil⟩, rfl⟩
theorem args_cons {d : Nat} {sc : Scope} {ae : AEnv} {e : Expr} {es : List Expr} {P : St (List AV)} (hP : RefL c d sc ae (e :: es) P) (hn : ∀ env, starEach (e :: es) env = (false, eval e env) :: starEach es env)
    (hp : ∀ env pos, (backTo pos (starEach es env)).any (·.1) = false) : RefArgs c d sc ae (e :: es) P := by
  intro A θ σ s env v σ' pos f ok rr ev h
  have h1 := hP A θ σ s env v σ' pos ok rr ev h
  rw [hn env] at h1 ⊢
  refine ⟨?_, ?_⟩
  · show wpAny _ A (evalArgs f true ((false, eval e env) :: backTo pos (starEach es env)) []) _ _ s
    exact evalArgs_plain (wpAny_mono h1 (fun vs s₁ ⟨θ₁, p₁, r₁⟩ => ⟨θ₁, p₁, rfl, r₁⟩) fun _ _ x => x)
  · show ((false || (backTo pos (starEach es env)).any (·.1)) = false)
    rw [hp]; rfl
theorem callWith_ok {d : Nat} {sc : Scope} {ae : AEnv} {es : List Expr} {As : St (List AV)} {f : Value} {F : List AV → St AV} (hk : KeepOk c f) (hA : RefArgs c d sc ae es As) (hc : CallR c d f F)
    {A : Around} {θ : Th} {σ σ' : List AO} {s : Shared} {env : Env} {v : AV} {pos : Pos} {first : List AV} {firstV : List Value} (ok : Ok d A) (rr : R c θ σ s.heap) (ev : EnvR sc σ.length θ ae env) (hf : All2 (VR σ.length θ) first firstV)
    (h : St.bind As (fun vs => F (first ++ vs)) σ = some (v, σ')) : Sat c A (callWith pos f firstV (backTo pos (starEach es env)) []) VR θ σ s v σ' := by
  obtain ⟨a, σ₁, h1, h⟩ := St.bind_some h
  obtain ⟨h2, h3⟩ := hA A θ σ s env a σ₁ pos f ok rr ev h1
  refine callWith_of (P := fun h => ∀ b o, c.base.get? b = some o → h.get? b = some o) (by simp only [h3]; rfl) (fun h q => hk h q) (wpAny_mono h2 (fun ar s₁ ⟨θ₁, p₁, kw, r₁⟩ => ⟨p₁.r.keep, ?_⟩) fun _ _ x => x)
  rw [kw]
  exact wpAny_mono (hc A θ₁ σ₁ s₁ (first ++ a) (firstV ++ ar.pos) v σ' ok p₁.r ((p₁.vrs hf).append r₁) h) (fun _ _ ⟨θ₂, p₂, r₂⟩ => ⟨θ₂, p₁.trans p₂, r₂⟩) fun _ _ x => x
noncomputable def callM (F : List AV → St AV) (As : St (List AV)) : St AV := St.bind As fun vs => F ([] ++ vs)
theorem ref_call {d : Nat} {sc : Scope} {ae : AEnv} {x : Str} {px pos : Pos} {es : List Expr} {As : St (List AV)} {f : Value} {F : List AV → St AV} (hx : RefE c d sc ae (.Name x px) (St.pure (.val f))) (hk : KeepOk c f) (hA : RefArgs c d sc ae es As) (hc : CallR c d f F) :
    RefE c d sc ae (.Call (.Name x px) es [] pos) (callM F As) := by
  intro A θ σ s env v σ' ok rr ev h
  refine Call_ (wpAny_mono (hx A θ σ s env (.val f) σ ok rr ev rfl) (fun vf s₁ ⟨θ₁, p₁, r₁⟩ => ?_) fun _ _ x => x)
  cases r₁
  exact wpAny_mono (callWith_ok hk hA hc ok p₁.r (ev.mono p₁.ext.le p₁.ext.same) .nil h) (fun _ _ ⟨θ₂, p₂, r₂⟩ => ⟨θ₂, p₁.trans p₂, r₂⟩) fun _ _ x => x
noncomputable def GetM (c : Cx) (name : Str) (f : Value) (sel : AV → List AO → Option (List AV)) : Prop :=
  ∀ A θ σ s a va fs (pl : Sem Bool), R c θ σ s.heap → VR σ.length θ a va → sel a σ = some fs → wpAny (model c.prog c.w) A (getMethod va name pl) (fun fx s' => fx.1 = f ∧ ∃ θ', Post c θ σ s θ' σ s' ∧ All2 (VR σ.length θ') fs fx.2) FF s
noncomputable def methM (P : St AV) (sel : AV → List AO → Option (List AV)) (F : List AV → St AV) (As : St (List AV)) : St AV := St.bind P fun a => fun σ => match sel a σ with
  | some fs => St.bind As (fun vs => F (fs ++ vs)) σ
  | none => none
theorem ref_meth {d : Nat} {sc : Scope} {ae : AEnv} {o : Expr} {name : Str} {apos pos : Pos} {es : List Expr} {P : St AV} {As : St (List AV)} {f : Value} {F : List AV → St AV} {sel : AV → List AO → Option (List AV)} {pl : Env → Sem Bool}
    (hP : RefE c d sc ae o P) (hg : GetM c name f sel) (hk : KeepOk c f) (hA : RefArgs c d sc ae es As) (hc : CallR c d f F)
    (he : ∀ env, eval (.Call (.Attribute o name apos) es [] pos) env = (do
      let ov ← eval o env
      standAt apos.atName
      let (f, first) ← holding [ov] (getMethod ov name (pl env))
      callWith pos f first (backTo pos (starEach es env)) [])) :
    RefE c d sc ae (.Call (.Attribute o name apos) es [] pos) (methM P sel F As) := by
  intro A θ σ s env v σ' ok rr ev h
  obtain ⟨a, σ₁, h1, h⟩ := St.bind_some h
  refine MethodCall_ (pl := pl env) (wpAny_mono (hP A θ σ s env a σ₁ ok rr ev h1) (fun vo s₁ ⟨θ₁, p₁, r₁⟩ => ?_) fun _ _ x => x) (he env)
  cases hs : sel a σ₁ with
  | none => simp [hs] at h
  | some fs =>
    simp only [hs] at h
    refine wpAny_mono (hg A θ₁ σ₁ s₁ a vo fs _ p₁.r r₁ hs) (fun fx s₂ ⟨e1, θ₂, p₂, r₂⟩ => ?_) fun _ _ x => x
    subst e1
    have p := p₁.trans p₂
    exact wpAny_mono (callWith_ok hk hA hc ok p₂.r (ev.mono p.ext.le p.ext.same) r₂ h) (fun _ _ ⟨θ₃, p₃, r₃⟩ => ⟨θ₃, p.trans p₃, r₃⟩) fun _ _ x => x
noncomputable def selList (a : AV) (σ : List AO) : Option (List AV) := match a with
  | .ref l => match getList l σ with
    | some _ => some [a]
    | none => none
  | _ => none
noncomputable def selStr (a : AV) (_ : List AO) : Option (List AV) := match a with
  | .str _ => some [a]
  | _ => none
set_option tactic.hygienic true in
theorem getm_list {name : Str} {id : String} (slot : Slot "list" name id) (pa : PlainAttrs "list") (hty : typeOf (.builtin id) = pure (.type "method_descriptor")) : GetM c name (.builtin id) selList := by
  intro A θ σ s a va fs pl rr ha h
  unfold selList at h
  split at h
  · split at h
    · rename_i l _ xs e
      cases h
      obtain ⟨hl, rfl⟩ := ha
      obtain ⟨us, p, q⟩ := plain_list rr (getList_some e)
      refine getMethod_builtin (plain_isList p).typeIs pa slot hty (fun a h => ?_) ⟨rfl, θ, Post.refl rr, .cons ⟨hl, rfl⟩ .nil⟩
      cases h
      obtain ⟨n, e⟩ := p
      exact ⟨_, e, rfl⟩
    · cases h
  · cases h
theorem getm_str {name : Str} {id : String} (slot : Slot "str" name id) (pa : PlainAttrs "str") (hty : typeOf (.builtin id) = pure (.type "method_descriptor")) : GetM c name (.builtin id) selStr := by
  intro A θ σ s a va fs pl rr ha h
  unfold selStr at h
  split at h
  · cases h
    obtain ⟨t, rfl⟩ := ha
    exact getMethod_builtin (typeIs_str _ _ _) pa slot hty (fun a h => by cases h) ⟨rfl, θ, Post.refl rr, .cons ⟨t, rfl⟩ .nil⟩
  · cases h
end
end Mine
end
section
namespace Mine
open PySem PySem.Spec PySem.Calls PyProof.Rows PySem.W
inductive AF where
  | next | brk | cont
  | ret (v : AV)
noncomputable def FlR (n : Nat) (θ : Th) : AF → Flow → Prop
  | .next, f => f = .next
  | .brk, f => f = .brk
  | .cont, f => f = .cont
  | .ret v, f => ∃ u, f = .ret u ∧ VR n θ v u
noncomputable def UR (_ : Nat) (_ : Th) (_ : Unit) (_ : Unit) : Prop := True
noncomputable def seqM (P Q : St AF) : St AF := St.bind P fun f => match f with
  | .next => Q
  | .brk => St.pure .brk
  | .cont => St.pure .cont
  | .ret v => St.pure (.ret v)
noncomputable def nextM (P : St Unit) : St AF := St.bind P fun _ => St.pure .next
noncomputable def asgM (P : St AV) (F : AV → St Unit) : St AF := St.bind P fun a => nextM (F a)
noncomputable def asg2M (P : St AV) (F G : AV → St Unit) : St AF := St.bind P fun a => St.bind (F a) fun _ => nextM (G a)
noncomputable def augM (L P : St AV) (F : AV → AV → St AV) (S : AV → St Unit) : St AF := St.bind L fun a => St.bind P fun b => St.bind (F a b) fun r => nextM (S r)
noncomputable def retM (P : St AV) : St AF := St.bind P fun a => St.pure (.ret a)
noncomputable def exprM (P : St AV) : St AF := St.bind P fun _ => St.pure .next
noncomputable def ifM (T : St Bool) (P Q : St AF) : St AF := St.bind T fun b => match b with
  | true => P
  | false => Q
noncomputable def whileM (T : St Bool) (B : St AF) : Nat → St AF
  | 0 => St.fail
  | n + 1 => St.bind T fun b => match b with
    | false => St.pure .next
    | true => St.bind B fun f => match f with
      | .next => whileM T B n
      | .cont => whileM T B n
      | .brk => St.pure .next
      | .ret v => St.pure (.ret v)
section
variable {c : Cx}
noncomputable def RefS (c : Cx) (d : Nat) (sc : Scope) (ae : AEnv) (st : Stmt) (P : St AF) : Prop :=
  ∀ A θ σ s env v σ', Ok d A → R c θ σ s.heap → EnvR sc σ.length θ ae env → P σ = some (v, σ') → Sat c A (exec st env) FlR θ σ s v σ'
noncomputable def RefB (c : Cx) (d : Nat) (sc : Scope) (ae : AEnv) (sts : List Stmt) (P : St AF) : Prop :=
  ∀ A θ σ s env v σ', Ok d A → R c θ σ s.heap → EnvR sc σ.length θ ae env → P σ = some (v, σ') → Sat c A (execs sts env) FlR θ σ s v σ'
noncomputable def RefW (c : Cx) (d : Nat) (sc : Scope) (ae : AEnv) (W : Env → Value → Sem Unit) (F : AV → St Unit) : Prop :=
  ∀ A θ σ s env a v u σ', Ok d A → R c θ σ s.heap → EnvR sc σ.length θ ae env → VR σ.length θ a v → F a σ = some (u, σ') → Sat c A (W env v) UR θ σ s u σ'
theorem b_nil {d : Nat} {sc : Scope} {ae : AEnv} : RefB c d sc ae [] (St.pure .next) := by
  intro A θ σ s env v σ' ok rr ev h
  cases h
  exact wpAny_execs_nil ⟨θ, Post.refl rr, rfl⟩
theorem b_cons {d : Nat} {sc : Scope} {ae : AEnv} {st : Stmt} {sts : List Stmt} {P Q : St AF} (hP : RefS c d sc ae st P) (hQ : RefB c d sc ae sts Q) : RefB c d sc ae (st :: sts) (seqM P Q) := by
  intro A θ σ s env v σ' ok rr ev h
  obtain ⟨f, σ₁, h1, h⟩ := St.bind_some h
  refine wpAny_execs_cons (wpAny_mono (hP A θ σ s env f σ₁ ok rr ev h1) (fun g s₁ ⟨θ₁, p₁, r₁⟩ => ?_) fun _ _ x => x)
  cases f with
  | next =>
    cases r₁
    exact wpAny_mono (hQ A θ₁ σ₁ s₁ env v σ' ok p₁.r (ev.mono p₁.ext.le p₁.ext.same) h) (fun _ _ ⟨θ₂, p₂, r₂⟩ => ⟨θ₂, p₁.trans p₂, r₂⟩) fun _ _ x => x
  | brk => cases r₁; cases h; exact ⟨θ₁, p₁, rfl⟩
  | cont => cases r₁; cases h; exact ⟨θ₁, p₁, rfl⟩
  | ret u => obtain ⟨u', rfl, r₁⟩ := r₁; cases h; exact ⟨θ₁, p₁, u', rfl, r₁⟩
theorem b_one {d : Nat} {sc : Scope} {ae : AEnv} {st : Stmt} {P : St AF} (hP : RefS c d sc ae st P) : RefB c d sc ae [st] P := by
  intro A θ σ s env v σ' ok rr ev h
  refine wpAny_execs_cons (wpAny_mono (hP A θ σ s env v σ' ok rr ev h) (fun g s₁ ⟨θ₁, p₁, r₁⟩ => ?_) fun _ _ x => x)
  cases v with
  | next => cases r₁; exact wpAny_execs_nil ⟨θ₁, p₁, rfl⟩
  | brk => cases r₁; exact ⟨θ₁, p₁, rfl⟩
  | cont => cases r₁; exact ⟨θ₁, p₁, rfl⟩
  | ret u => obtain ⟨u', rfl, r₁⟩ := r₁; exact ⟨θ₁, p₁, u', rfl, r₁⟩
set_option tactic.hygienic true in
theorem putM_some {fr k i : Nat} {v : AV} {σ σ' : List AO} {u : Unit} (h : putM fr k i v σ = some (u, σ')) : ∃ vs, σ[fr]? = some (.ns k vs) ∧ i < vs.length ∧ σ' = σ.set fr (.ns k (vs.set i (some v))) := by
  unfold putM at h
  split at h
  · rename_i k' vs e
    cases hk : k' == k with
    | false => simp [hk] at h
    | true =>
      simp only [hk] at h
      have hk' := beq_iff_eq.mp hk
      subst hk'
      by_cases hi : i < vs.length
      · simp only [hi, decide_true] at h
        cases h
        exact ⟨vs, e, hi, rfl⟩
      · simp [hi] at h
  · cases h
theorem ns_set {θ : Th} {σ : List AO} {h' : Heap} {fr k i : Nat} {vs : List (Option AV)} {a : AV} {u : Value} {x : Str} {m : Str → Option Value} (e : σ[fr]? = some (.ns k vs)) (hl : vs.length = (c.tbl k).length) (hd : (c.tbl k).Nodup)
    (hr : ∀ (i : Nat) (x : Str) (v : Option AV), (c.tbl k)[i]? = some x → vs[i]? = some v → OVR σ.length θ v (m x)) (hi : i < vs.length) (hx : (c.tbl k)[i]? = some x) (ha : VR σ.length θ a u)
    (hn : h'.Ns (θ fr) (fun y => if y = x then some u else m y)) : ORep c σ.length θ h' (θ fr) (.ns k (vs.set i (some a))) := by
  refine ⟨by rw [List.length_set]; exact hl, hd, _, hn, fun j y v h1 h2 => ?_⟩
  by_cases hij : i = j
  · subst hij
    rw [hx] at h1; cases h1
    rw [List.getElem?_set_self hi] at h2
    cases h2
    simp only [if_true]; exact ha
  · rw [List.getElem?_set_ne hij] at h2
    have hne : y ≠ x := by
      rintro rfl
      have hj := lt_of_get h1
      have hi' := lt_of_get hx
      rw [List.getElem?_eq_getElem hj] at h1
      rw [List.getElem?_eq_getElem hi'] at hx
      have := Option.some.inj h1
      have h3 := Option.some.inj hx
      exact hij ((List.getElem_inj hd).mp (h3.trans this.symm))
    simp only [hne, if_false]
    exact hr j y v h1 h2
theorem ev_hp {sc : Scope} {n : Nat} {θ : Th} {ae : AEnv} {env : Env} (ev : EnvR sc n θ ae env) : (env.scope.kind == .class || (env.scope.kind == .module && env.locals != env.globals)) = false := by
  rw [ev.scope, ev.kind]; rfl
theorem w_local {d : Nat} {sc : Scope} {ae : AEnv} {x : Str} {k i : Nat} (hx : (c.tbl k)[i]? = some x) (hl : sc.names.lookup x = some .local) : RefW c d sc ae (fun env v => storeName env x v) (putM ae.fr k i) := by
  intro A θ σ s env a v u σ' ok rr ev ha h
  obtain ⟨vs, e, hi, rfl⟩ := putM_some h
  obtain ⟨h1, h2, m, hm, hr⟩ := rr.get e
  refine wpAny_storeName_local (by show env.scope.names.lookup x = _; rw [ev.scope]; exact hl) (by rw [ev.loc]; exact hm) (fun h' hn hs => ?_) (ev_hp ev)
  rw [ev.loc] at hn hs
  obtain ⟨r', e'⟩ := rr.set (o' := .ns k (vs.set i (some a))) ev.fr hs (ns_set e h1 h2 hr hi hx ha hn)
  exact ⟨θ, ⟨⟨_, _, rfl⟩, e', r'⟩, trivial⟩
set_option tactic.hygienic true in
theorem w_cell {d : Nat} {sc : Scope} {ae : AEnv} {x : Str} {l : Nat} (hc : ae.cl.lookup x = some l) (hl : sc.names.lookup x = some .cell) : RefW c d sc ae (fun env v => storeName env x v) (putCellM l) := by
  intro A θ σ s env a v u σ' ok rr ev ha h
  unfold putCellM at h
  split at h
  · rename_i v₀ e
    cases h
    obtain ⟨o, v', ho, hd, hr⟩ := rr.get e
    refine wpAny_storeName_cell (by rw [ev.scope]; exact ev.kind) (by show env.scope.names.lookup x = _; rw [ev.scope]; exact hl) (by rw [ev.cells]; exact lookup_map hc) ⟨o, ho, hd⟩ (fun h' hc' hs => ?_)
    obtain ⟨o', ho', hd'⟩ := hc'
    obtain ⟨r', e'⟩ := rr.set (o' := .cell (some a)) (lt_of_get e) hs ⟨o', _, ho', hd', ha⟩
    exact ⟨θ, ⟨⟨_, _, rfl⟩, e', r'⟩, trivial⟩
  · cases h
theorem w_name {d : Nat} {sc : Scope} {ae : AEnv} {x : Str} {pos : Pos} {F : AV → St Unit} (hW : RefW c d sc ae (fun env v => storeName env x v) F) : RefW c d sc ae (fun env v => assign (.Name x pos) env v) F := by
  intro A θ σ s env a v u σ' ok rr ev ha h
  exact PyProof.Rows.assign_Name (hW A θ σ s env a v u σ' ok rr ev ha h)
theorem s_asg {d : Nat} {sc : Scope} {ae : AEnv} {x : Str} {px pos : Pos} {e : Expr} {P : St AV} {F : AV → St Unit} (hP : RefE c d sc ae e P) (hW : RefW c d sc ae (fun env v => storeName env x v) F)
    (hs : ∀ env, env.scope = sc → swapsWith e (some (.Name x px)) pos.line env = pure false) : RefS c d sc ae (.Assign [.Name x px] e pos) (asgM P F) := by
  intro A θ σ s env v σ' ok rr ev h
  obtain ⟨a, σ₁, h1, h⟩ := St.bind_some h
  obtain ⟨u, σ₂, h2, h⟩ := St.bind_some h
  cases h
  refine wpAny_Assign_Name (wpAny_mono (hP A θ σ s env a σ₁ ok rr ev h1) (fun va s₁ ⟨θ₁, p₁, r₁⟩ => ?_) fun _ _ x => x) (hs env ev.scope)
  exact wpAny_mono (hW A θ₁ σ₁ s₁ env a va u σ' ok p₁.r (ev.mono p₁.ext.le p₁.ext.same) r₁ h2) (fun _ _ ⟨θ₂, p₂, _⟩ => ⟨θ₂, p₁.trans p₂, rfl⟩) fun _ _ x => x
theorem s_asg2 {d : Nat} {sc : Scope} {ae : AEnv} {t₁ t₂ : Expr} {pos : Pos} {e : Expr} {P : St AV} {F G : AV → St Unit} (hP : RefE c d sc ae e P) (hW : RefW c d sc ae (fun env v => assign t₁ env v) F) (hV : RefW c d sc ae (fun env v => assign t₂ env v) G)
    (he : ∀ env, (assignEach [t₁, t₂] env).map (·.2) = [assign t₁ env, assign t₂ env]) (hw : ∀ env, swappedStores [t₁, t₂] e env = pure none) : RefS c d sc ae (.Assign [t₁, t₂] e pos) (asg2M P F G) := by
  intro A θ σ s env v σ' ok rr ev h
  obtain ⟨a, σ₁, h1, h⟩ := St.bind_some h
  obtain ⟨u, σ₂, h2, h⟩ := St.bind_some h
  obtain ⟨u', σ₃, h3, h⟩ := St.bind_some h
  cases h
  refine wpAny_Assign_two (wpAny_mono (hP A θ σ s env a σ₁ ok rr ev h1) (fun va s₁ ⟨θ₁, p₁, r₁⟩ => ?_) fun _ _ x => x) (he env) (hw env)
  refine wpAny_mono (hW A θ₁ σ₁ s₁ env a va u σ₂ ok p₁.r (ev.mono p₁.ext.le p₁.ext.same) r₁ h2) (fun _ s₂ ⟨θ₂, p₂, _⟩ => ?_) fun _ _ x => x
  have p := p₁.trans p₂
  exact wpAny_mono (hV A θ₂ σ₂ s₂ env a va u' σ' ok p₂.r (ev.mono p.ext.le p.ext.same) (p₂.vr r₁) h3) (fun _ _ ⟨θ₃, p₃, _⟩ => ⟨θ₃, p.trans p₃, rfl⟩) fun _ _ x => x
noncomputable def AugOk (c : Cx) (op : Operator) (F : AV → AV → St AV) : Prop :=
  ∀ A θ σ s a b va vb v σ', A.handled = none → R c θ σ s.heap → VR σ.length θ a va → VR σ.length θ b vb → F a b σ = some (v, σ') → Sat c A (inplaceOp op va vb) VR θ σ s v σ'
noncomputable def RefN (c : Cx) (d : Nat) (sc : Scope) (ae : AEnv) (x : Str) (P : St AV) : Prop :=
  ∀ A θ σ s env v σ', Ok d A → R c θ σ s.heap → EnvR sc σ.length θ ae env → P σ = some (v, σ') → Sat c A (loadName env x) VR θ σ s v σ'
theorem n_local {d : Nat} {sc : Scope} {ae : AEnv} {x : Str} {k i : Nat} (hx : (c.tbl k)[i]? = some x) (hl : sc.names.lookup x = some .local) : RefN c d sc ae x (slotM ae.fr k i) := by
  intro A θ σ s env v σ' _ r ev h
  obtain ⟨rfl, vs, e, hv⟩ := slotM_some h
  obtain ⟨m, u, hm, hmx, hvr⟩ := ns_get r e hv hx
  exact wpAny_loadName_local (by rw [ev.scope]; exact ev.kind) (by show env.scope.names.lookup x = _; rw [ev.scope]; exact hl) (by rw [ev.loc]; exact hm) hmx (sat_same r hvr)
theorem s_aug {d : Nat} {sc : Scope} {ae : AEnv} {x : Str} {px pos : Pos} {op : Operator} {e : Expr} {L P : St AV} {F : AV → AV → St AV} {S : AV → St Unit} (hL : RefN c d sc ae x L) (hP : RefE c d sc ae e P) (hF : AugOk c op F)
    (hW : RefW c d sc ae (fun env v => storeName env x v) S) : RefS c d sc ae (.AugAssign (.Name x px) op e pos) (augM L P F S) := by
  intro A θ σ s env v σ' ok rr ev h
  obtain ⟨a, σ₁, h1, h⟩ := St.bind_some h
  obtain ⟨b, σ₂, h2, h⟩ := St.bind_some h
  obtain ⟨r, σ₃, h3, h⟩ := St.bind_some h
  obtain ⟨u, σ₄, h4, h⟩ := St.bind_some h
  cases h
  refine wpAny_AugAssign_Name (wpAny_mono (hL A θ σ s env a σ₁ ok rr ev h1) (fun va s₁ ⟨θ₁, p₁, r₁⟩ => ?_) fun _ _ x => x)
  refine wpAny_mono (hP A θ₁ σ₁ s₁ env b σ₂ ok p₁.r (ev.mono p₁.ext.le p₁.ext.same) h2) (fun vb s₂ ⟨θ₂, p₂, r₂⟩ => ?_) fun _ _ x => x
  refine wpAny_mono (hF A θ₂ σ₂ s₂ a b va vb r σ₃ ok.handled p₂.r (p₂.vr r₁) r₂ h3) (fun vr s₃ ⟨θ₃, p₃, r₃⟩ => ?_) fun _ _ x => x
  have p := (p₁.trans p₂).trans p₃
  exact wpAny_mono (hW A θ₃ σ₃ s₃ env r vr u σ' ok p₃.r (ev.mono p.ext.le p.ext.same) r₃ h4) (fun _ _ ⟨θ₄, p₄, _⟩ => ⟨θ₄, p.trans p₄, rfl⟩) fun _ _ x => x
theorem s_ret {d : Nat} {sc : Scope} {ae : AEnv} {pos : Pos} {e : Expr} {P : St AV} (hP : RefE c d sc ae e P) : RefS c d sc ae (.Return (some e) pos) (retM P) := by
  intro A θ σ s env v σ' ok rr ev h
  obtain ⟨a, σ₁, h1, h⟩ := St.bind_some h
  cases h
  exact wpAny_Return_some (wpAny_mono (hP A θ σ s env a σ' ok rr ev h1) (fun va s₁ ⟨θ₁, p₁, r₁⟩ => ⟨θ₁, p₁, va, rfl, r₁⟩) fun _ _ x => x)
theorem s_expr {d : Nat} {sc : Scope} {ae : AEnv} {pos : Pos} {e : Expr} {P : St AV} (hP : RefE c d sc ae e P) (hi : ∀ env : Env, env.scope.kind = .function → interactive env = false) (hs : ∀ env, swapsWith e none pos.line env = pure false) : RefS c d sc ae (.Expr e pos) (exprM P) := by
  intro A θ σ s env v σ' ok rr ev h
  obtain ⟨a, σ₁, h1, h⟩ := St.bind_some h
  cases h
  exact wpAny_Expr_any (wpAny_mono (hP A θ σ s env a σ' ok rr ev h1) (fun va s₁ ⟨θ₁, p₁, _⟩ => ⟨θ₁, p₁, rfl⟩) fun _ _ x => x) (hi env (by rw [ev.scope]; exact ev.kind)) (hs env)
theorem s_if {d : Nat} {sc : Scope} {ae : AEnv} {pos : Pos} {t : Expr} {b o : List Stmt} {T : St Bool} {P Q : St AF} (hT : RefT c d sc ae t T) (hP : RefB c d sc ae b P) (hQ : RefB c d sc ae o Q) : RefS c d sc ae (.If t b o pos) (ifM T P Q) := by
  intro A θ σ s env v σ' ok rr ev h
  obtain ⟨x, σ₁, h1, h⟩ := St.bind_some h
  refine wpAny_If (wpAny_mono (hT A θ σ s env x σ₁ ok rr ev h1) (fun y s₁ ⟨θ₁, p₁, r₁⟩ => ?_) fun _ _ x => x)
  cases r₁
  cases x with
  | true => exact wpAny_mono (hP A θ₁ σ₁ s₁ env v σ' ok p₁.r (ev.mono p₁.ext.le p₁.ext.same) h) (fun _ _ ⟨θ₂, p₂, r₂⟩ => ⟨θ₂, p₁.trans p₂, r₂⟩) fun _ _ x => x
  | false => exact wpAny_mono (hQ A θ₁ σ₁ s₁ env v σ' ok p₁.r (ev.mono p₁.ext.le p₁.ext.same) h) (fun _ _ ⟨θ₂, p₂, r₂⟩ => ⟨θ₂, p₁.trans p₂, r₂⟩) fun _ _ x => x
theorem s_cont {d : Nat} {sc : Scope} {ae : AEnv} {pos : Pos} : RefS c d sc ae (.Continue pos) (St.pure .cont) := by
  intro A θ σ s env v σ' ok rr ev h
  cases h
  exact wpAny_Continue ⟨θ, Post.refl rr, rfl⟩
theorem s_while {d : Nat} {sc : Scope} {ae : AEnv} {pos : Pos} {t : Expr} {b : List Stmt} {T : St Bool} {B : St AF} (n : Nat) (hT : RefT c d sc ae t T) (hB : RefB c d sc ae b B) : RefS c d sc ae (.While t b [] pos) (whileM T B n) := by
  intro A θ σ s env v σ' ok rr ev h
  refine wpAny_While ?_
  refine codeAny_whileLoop (fun k s₁ => ∃ θ₁ σ₁, Post c θ σ s θ₁ σ₁ s₁ ∧ whileM T B k σ₁ = some (v, σ')) (fun k s₁ ⟨θ₁, σ₁, p₁, h⟩ => ?_) n ⟨θ, σ, Post.refl rr, h⟩
  cases k with
  | zero => cases h
  | succ k =>
    obtain ⟨x, σ₂, h1, h⟩ := St.bind_some h
    refine wpAny_mono (hT A θ₁ σ₁ s₁ env x σ₂ ok p₁.r (ev.mono p₁.ext.le p₁.ext.same) h1) (fun y s₂ ⟨θ₂, p₂, r₂⟩ => ?_) fun _ _ x => x.elim
    cases r₂
    have p := p₁.trans p₂
    cases x with
    | false =>
      cases h
      exact wpAny_execs_nil ⟨θ₂, p, rfl⟩
    | true =>
      obtain ⟨f, σ₃, h3, h⟩ := St.bind_some h
      refine wpAny_mono (hB A θ₂ σ₂ s₂ env f σ₃ ok p₂.r (ev.mono p.ext.le p.ext.same) h3) (fun g s₃ ⟨θ₃, p₃, r₃⟩ => ?_) fun _ _ x => x.elim
      have q := p.trans p₃
      cases f with
      | next => cases r₃; exact ⟨k, Nat.lt_succ_self _, θ₃, σ₃, q, h⟩
      | cont => cases r₃; exact ⟨k, Nat.lt_succ_self _, θ₃, σ₃, q, h⟩
      | brk => cases r₃; cases h; exact ⟨θ₃, q, rfl⟩
      | ret u => obtain ⟨u', rfl, r₃⟩ := r₃; cases h; exact ⟨θ₃, q, u', rfl, r₃⟩
end
end Mine
end
section
namespace Mine
open PySem PySem.Spec PySem.Calls PyProof.Rows PySem.W
noncomputable def AV.below (n : Nat) : AV → Prop
  | .ref l => l < n
  | _ => True
noncomputable def OVbelow (n : Nat) : Option AV → Prop
  | some a => a.below n
  | none => True
noncomputable def AO.below (n : Nat) : AO → Prop
  | .ns _ vs => ∀ v ∈ vs, OVbelow n v
  | .cell v => OVbelow n v
  | .list xs => ∀ x ∈ xs, x.below n
  | .tup xs => ∀ x ∈ xs, x.below n
  | .sdict es => ∀ e ∈ es, e.2.below n
  | .idict es => ∀ e ∈ es, e.2.below n
  | .inst _ d => d < n
  | .attrs es => ∀ e ∈ es, e.2.below n
  | .meth _ s => s.below n
  | .fn _ k cl => k < n ∧ ∀ p ∈ cl, p.2 < n
  | .code _ => True
  | .citer f s => f.below n ∧ s.below n
  | .range _ _ _ => True
  | .raw _ _ => True
  | .tab => True
  | .dead => True
theorem VR.up {n : Nat} {θ : Th} : ∀ {a : AV} {v : Value}, VR n θ a v → a.below n
  | .none, _, _ => trivial
  | .bool _, _, _ => trivial
  | .int _, _, _ => trivial
  | .str _, _, _ => trivial
  | .bytes _, _, _ => trivial
  | .val _, _, _ => trivial
  | .ref _, _, h => h.1
theorem VR.down {n n' : Nat} {θ : Th} : ∀ {a : AV} {v : Value}, VR n' θ a v → a.below n → VR n θ a v
  | .none, _, h, _ => h
  | .bool _, _, h, _ => h
  | .int _, _, h, _ => h
  | .str _, _, h, _ => h
  | .bytes _, _, h, _ => h
  | .val _, _, h, _ => h
  | .ref _, _, h, q => ⟨q, h.2⟩
theorem OVR.down {n n' : Nat} {θ : Th} : ∀ {a : Option AV} {v : Option Value}, OVR n' θ a v → OVbelow n a → OVR n θ a v
  | none, none, _, _ => trivial
  | some _, some _, h, q => VR.down h q
  | none, some _, h, _ => h.elim
  | some _, none, h, _ => h.elim
theorem All2.monoM {α β : Type} {P P' : α → β → Prop} {l : List α} {m : List β} (q : All2 P l m) (h : ∀ a ∈ l, ∀ b, P a b → P' a b) : All2 P' l m := by
  induction q with
  | nil => exact .nil
  | cons x _ ih => exact .cons (h _ List.mem_cons_self _ x) (ih fun a ha => h a (List.mem_cons_of_mem _ ha))
theorem All2.all {α β : Type} {P : α → β → Prop} {Q : α → Prop} (h : ∀ a b, P a b → Q a) {l : List α} {m : List β} (q : All2 P l m) : ∀ a ∈ l, Q a := by
  induction q with
  | nil => intro a ha; cases ha
  | cons x _ ih => exact List.forall_mem_cons.mpr ⟨h _ _ x, ih⟩
theorem OVR.up {n : Nat} {θ : Th} {v : Option AV} {u : Option Value} (h : OVR n θ v u) : OVbelow n v := by
  cases v with
  | none => trivial
  | some a => cases u with
    | none => exact h.elim
    | some u => exact VR.up h
theorem ORep.up {c : Cx} {n : Nat} {θ : Th} {h : Heap} {a : Addr} {o : AO} (H : ORep c n θ h a o) : o.below n := by
  cases o with
  | ns k vs => exact fun v hv => H.2.2.elim fun m r => (List.getElem?_of_mem hv).elim fun i hi => OVR.up (r.2 i _ v (List.getElem?_eq_getElem (H.1 ▸ lt_of_get hi)) hi)
  | cell v => exact H.elim fun _ x => x.elim fun _ x => OVR.up x.2.2
  | list => exact H.elim fun _ x => All2.all (Q := fun x => AV.below n x) (fun _ _ x => VR.up x) x.2
  | tup => exact H.elim fun _ x => All2.all (Q := fun x => AV.below n x) (fun _ _ x => VR.up x) x.2
  | sdict => exact H.elim fun _ x e he => All2.all (Q := fun e => AV.below n e.2) (fun _ _ x => VR.up x.2) x.2.2 e he
  | idict => exact H.elim fun _ x e he => All2.all (Q := fun e => AV.below n e.2) (fun _ _ x => VR.up x.2) x.2.2 e he
  | inst => exact H.1
  | attrs => exact H.elim fun _ x => x.elim fun _ x e he => All2.all (Q := fun e => AV.below n e.2) (fun _ _ x => VR.up x.2) x.2 e he
  | meth => exact H.elim fun _ x => VR.up x.1
  | fn => exact H.elim fun _ x => x.elim fun _ x => ⟨x.2.2.2.2.2.2.2.2.2.2.2.1, x.2.2.2.2.2.2.2.2.2.2.2.2.2.1⟩
  | code => trivial
  | citer => exact H.elim fun _ x => x.elim fun _ x => ⟨VR.up x.1, VR.up x.2.1⟩
  | range => trivial
  | raw => trivial
  | tab => trivial
  | dead => trivial
theorem ORep.down {c : Cx} {n n' : Nat} {θ : Th} {h : Heap} {a : Addr} {o : AO} (H : ORep c n' θ h a o) (q : o.below n) : ORep c n θ h a o := by
  cases o with
  | ns => exact ⟨H.1, H.2.1, H.2.2.imp fun m x => ⟨x.1, fun i k v h1 h2 => (x.2 i k v h1 h2).down (q v (List.mem_of_getElem? h2))⟩⟩
  | cell => exact H.imp fun _ => Exists.imp fun _ x => ⟨x.1, x.2.1, x.2.2.down q⟩
  | list => exact H.imp fun _ x => ⟨x.1, x.2.monoM fun a ha _ x => x.down (q a ha)⟩
  | tup => exact H.imp fun _ x => ⟨x.1, x.2.monoM fun a ha _ x => x.down (q a ha)⟩
  | sdict => exact H.imp fun _ x => ⟨x.1, x.2.1, x.2.2.monoM fun a ha _ x => ⟨x.1, x.2.down (q a ha)⟩⟩
  | idict => exact H.imp fun _ x => ⟨x.1, x.2.1, x.2.2.monoM fun a ha _ x => ⟨x.1, x.2.down (q a ha)⟩⟩
  | inst => exact ⟨q, H.2⟩
  | attrs => exact H.imp fun _ => Exists.imp fun _ x => ⟨x.1, x.2.monoM fun a ha _ x => ⟨x.1, x.2.down (q a ha)⟩⟩
  | meth => exact H.imp fun _ x => ⟨x.1.down q, x.2⟩
  | fn => exact H.imp fun o => Exists.imp fun fd ⟨h1, h2, h3, h4, h5, h6, h7, h8, h9, h10, h⟩ => ⟨h1, h2, h3, h4, h5, h6, h7, h8, h9, h10, h.1, q.1, h.2.2.1, q.2, h.2.2.2.2⟩
  | code => exact H
  | citer => exact H.imp fun _ => Exists.imp fun _ x => ⟨x.1.down q.1, x.2.1.down q.2, x.2.2⟩
  | range => exact H
  | raw => exact H
  | tab => exact H
  | dead => exact H
theorem take_get {α : Type} {σ : List α} {n l : Nat} {o : α} (h : (σ.take n)[l]? = some o) : l < n ∧ σ[l]? = some o := by
  have hl := lt_of_get h
  have : l < n := by simp only [List.length_take] at hl; omega
  rw [List.getElem?_take_of_lt this] at h
  exact ⟨this, h⟩
theorem R.take {c : Cx} {θ : Th} {σ : List AO} {h : Heap} (r : R c θ σ h) {n : Nat} (hn : n ≤ σ.length) (hb : ∀ i o, i < n → σ[i]? = some o → o.below n) : R c θ (σ.take n) h := by
  have hlen : (σ.take n).length = n := by simp; omega
  refine ⟨r.keep, fun l o e => ?_, ?_, ?_⟩
  · obtain ⟨h1, h2⟩ := take_get e
    rw [hlen]
    exact (r.obj l o h2).down (hb l o h1 h2)
  · rw [hlen]; exact fun l l' h1 h2 => r.inj l l' (Nat.lt_of_lt_of_le h1 hn) (Nat.lt_of_lt_of_le h2 hn)
  · rw [hlen]; exact fun l h1 => r.off l (Nat.lt_of_lt_of_le h1 hn)
theorem R.but {c : Cx} {θ : Th} {σ : List AO} {h h' : Heap} {a : Addr} (r : R c θ σ h) (hk : ∀ b o, b ≠ a → h.get? b = some o → h'.get? b = some o) (ha : ∀ l, l < σ.length → a ≠ θ l) (hb : c.base.get? a = none) : R c θ σ h' :=
  ⟨fun b o e => hk b o (fun q => by rw [q, hb] at e; cases e) (r.keep b o e), fun l o e => (r.obj l o e).congr fun o' e' => hk _ o' (fun q => ha l (lt_of_get e) q.symm) e', r.inj, r.off⟩
theorem Post.take {c : Cx} {θ θ' : Th} {σ σ' : List AO} {s s' : Shared} {n : Nat} (r : R c θ σ s.heap) (p : Post c θ σ s θ' σ' s') (hn : σ.length ≤ n) (hn' : n ≤ σ'.length) (hb : ∀ i o, i < n → σ'[i]? = some o → σ[i]? = some o ∨ o.below n) :
    Post c θ σ s θ' (σ'.take n) s' := by
  have hlen : (σ'.take n).length = n := by simp; omega
  refine ⟨p.st, ⟨by rw [hlen]; exact hn, p.ext.same, p.ext.keeps, fun l h1 h2 => ?_⟩, p.r.take hn' fun i o h1 h2 => ?_⟩
  · rw [hlen] at h2; exact p.ext.fresh l h1 (Nat.lt_of_lt_of_le h2 hn')
  · rcases hb i o h1 h2 with h3 | h3
    · have := ((r.obj i o h3).mono hn (θ' := θ) fun _ _ => rfl).up
      exact this
    · exact h3
noncomputable abbrev Live := List AO → Prop
noncomputable def liveOf (l : Nat) (xs : List AV) : Live := fun σ => σ[l]? = some (.list xs)
noncomputable def always : Live := fun _ => True
structure ItOk (c : Cx) (A : Around) (a : Addr) (n₀ : Nat) (θ₀ : Th) (vs : List AV) (live : Live) (S : Nat → Heap → Prop) : Prop where
  frame : ∀ i h h', S i h → (∀ o, h.get? a = some o → h'.get? a = some o) → S i h'
  alive : ∀ i h, S i h → ∃ o, h.get? a = some o
  self : ∀ i (s : Shared) (Q : Value → Shared → Prop) (E : Value → Shared → Prop), S i s.heap → Q (.ref a) s → wpAny (model c.prog c.w) A (pyIter (.ref a)) Q E s
  item : ∀ i θ σ (s : Shared) (x : AV) (Q : Option Value → Shared → Prop) (E : Value → Shared → Prop), (∀ l, l < n₀ → θ l = θ₀ l) → n₀ ≤ σ.length → R c θ σ s.heap → (∀ l, l < σ.length → a ≠ θ l) → live σ → S i s.heap → vs[i]? = some x →
    (∀ u h' tk, VR σ.length θ x u → S (i + 1) h' → (∀ b o, b ≠ a → s.heap.get? b = some o → h'.get? b = some o) → Q (some u) { s with heap := h', toks := tk }) → wpAny (model c.prog c.w) A (pyNext (.ref a)) Q E s
  done : ∀ θ σ (s : Shared) (Q : Option Value → Shared → Prop) (E : Value → Shared → Prop), (∀ l, l < n₀ → θ l = θ₀ l) → n₀ ≤ σ.length → R c θ σ s.heap → (∀ l, l < σ.length → a ≠ θ l) → live σ → S vs.length s.heap →
    (∀ h' tk, (∀ b o, b ≠ a → s.heap.get? b = some o → h'.get? b = some o) → Q none { s with heap := h', toks := tk }) → wpAny (model c.prog c.w) A (pyNext (.ref a)) Q E s
theorem ItOk.of_walks {c : Cx} {A : Around} {a : Addr} {n₀ : Nat} {θ₀ : Th} {vs : List AV} {n : Nat} {P : Nat → Value → Prop} {S : Nat → Heap → Prop} (W : Walks c.prog c.w A a [a] [a] n P S) (hn : n = vs.length)
    (hP : ∀ i x u, vs[i]? = some x → P i u → ∀ m θ, VR m θ x u) (ha : ∀ i h, S i h → ∃ o, h.get? a = some o) : ItOk c A a n₀ θ₀ vs always S where
  frame := fun i h h' st hk => W.frame i h h' st fun b hb o e => by rw [List.mem_singleton.mp hb] at e ⊢; exact hk o e
  alive := ha
  self := fun i s Q E st h => W.self i s Q E st h
  item := fun i θ σ s x Q E _ _ _ _ _ st hx h => W.item i s Q E (by rw [hn]; exact lt_of_get hx) st fun v h' tk hv st' hk => h v h' tk (hP i x v hx hv _ _) st' fun b o hb e => hk b o (by simpa using hb) e
  done := fun θ σ s Q E _ _ _ _ _ st h => W.done s Q E (by rw [hn]; exact st) fun h' tk hk => h h' tk fun b o hb e => hk b o (by simpa using hb) e
theorem ItOk.of_list {c : Cx} {A : Around} (hh : A.handled = none) {a : Addr} {n₀ : Nat} {θ₀ : Th} {l : Nat} {xs : List AV} (hl : l < n₀) : ItOk c A a n₀ θ₀ xs (liveOf l xs) (fun i h => h.IsListIter a (θ₀ l) i) where
  frame := fun _ _ _ st hk => st.at hk
  alive := fun _ _ st => let ⟨o, ho, _⟩ := st; ⟨o, ho⟩
  self := fun _ _ _ _ st h => wpAny_pyIter_listiter st h
  item := fun i θ σ s x Q E hs hn r hu lv st hx h => by
    obtain ⟨us, p, q⟩ := plain_list r lv
    obtain ⟨u, hu1, hu2⟩ := q.get i x hx
    rw [hs l hl] at p
    refine wpAny_pyNext_list_item st (plain_isList p) (x := u) (by simpa using hu1) fun h' hit' hs' => ?_
    exact h u h' s.toks hu2 hit' fun b o hb e => hs'.extBut b o hb e
  done := fun θ σ s Q E hs hn r hu lv st h => by
    obtain ⟨us, p, q⟩ := plain_list r lv
    rw [hs l hl] at p
    refine wpAny_pyNext_list_end hh st (plain_isList p) (by simp [q.length]) fun h' he' => ?_
    exact h h' s.toks fun b o hb e => he' b o hb e
noncomputable def RefI (c : Cx) (d : Nat) (sc : Scope) (ae : AEnv) (e : Expr) (P : St (List AV × Live)) : Prop :=
  ∀ A θ σ s env vs live σ', Ok d A → R c θ σ s.heap → EnvR sc σ.length θ ae env → P σ = some ((vs, live), σ') →
    wpAny (model c.prog c.w) A (eval e env) (fun x s₁ => wpAny (model c.prog c.w) A (pyIter x) (fun it s₂ => ∃ a θ' S, it = .ref a ∧ Post c θ σ s θ' σ' s₂ ∧ (∀ l, l < σ'.length → a ≠ θ' l) ∧ s.heap.get? a = none ∧ ItOk c A a σ'.length θ' vs live S ∧ S 0 s₂.heap) FF s₁) FF s
noncomputable def strItems (s : List Nat) : List AV := s.map fun x => .str [x]
noncomputable def bytesItems (s : List Nat) : List AV := s.map fun (x : Nat) => .int (x : Int)
noncomputable def itV (a : AV) : St (List AV × Live) := fun σ => match a with
  | .ref l => match getList l σ with
    | some xs => some ((xs, liveOf l xs), σ)
    | none => none
  | .str s => some ((strItems s, always), σ)
  | .bytes s => some ((bytesItems s, always), σ)
  | _ => none
noncomputable def itM (P : St AV) : St (List AV × Live) := St.bind P itV
section
variable {c : Cx}
theorem new_untracked {θ : Th} {σ : List AO} {s : Shared} (r : R c θ σ s.heap) {a : Addr} (ha : s.heap.get? a = none) : ∀ l, l < σ.length → a ≠ θ l := fun l hl q => by
  obtain ⟨o, e⟩ := r.alive hl
  rw [← q, ha] at e; cases e
theorem Post.old_none {θ θ' : Th} {σ σ' : List AO} {s s' : Shared} (_ : R c θ σ s.heap) (p : Post c θ σ s θ' σ' s') {a : Addr} (ha : s'.heap.get? a = none) : s.heap.get? a = none := by
  cases e : s.heap.get? a with
  | none => rfl
  | some o =>
    by_cases hb : ∀ l, l < σ.length → a ≠ θ l
    · rw [p.ext.keeps a o hb e] at ha; cases ha
    · have ⟨l, hl, q⟩ : ∃ l, l < σ.length ∧ a = θ l := by
        apply Classical.byContradiction
        intro q; exact hb fun k hk q' => q ⟨k, hk, q'⟩
      obtain ⟨o', e'⟩ := p.r.alive (Nat.lt_of_lt_of_le hl p.ext.le)
      rw [p.ext.same l hl, ← q, ha] at e'; cases e'
theorem it_val {d : Nat} {sc : Scope} {ae : AEnv} {e : Expr} {P : St AV} (hP : RefE c d sc ae e P) : RefI c d sc ae e (itM P) := by
  intro A θ σ s env vs live σ' ok rr ev h
  obtain ⟨a, σ₁, h1, h⟩ := St.bind_some h
  refine wpAny_mono (hP A θ σ s env a σ₁ ok rr ev h1) (fun va s₁ ⟨θ₁, p₁, r₁⟩ => ?_) fun _ _ x => x
  have hnew : ∀ ob : Obj, Post c θ₁ σ₁ s₁ θ₁ σ₁ { s₁ with heap := s₁.heap.push ob } := fun ob => Post.grown p₁.r _ _ fun b o e => Heap.get?_push_of_some _ e
  have h0 := get_size_none s₁.heap
  unfold itV at h
  cases a with
  | ref l =>
    simp only at h
    cases el : getList l σ₁ with
    | none => simp [el] at h
    | some xs =>
      simp only [el] at h
      cases h
      obtain ⟨hl, rfl⟩ := r₁
      obtain ⟨us, q1, q2⟩ := plain_list p₁.r (getList_some el)
      refine wpAny_pyIter_list (plain_isList q1) ⟨_, θ₁, _, rfl, p₁.trans (hnew _), new_untracked p₁.r h0, p₁.old_none rr h0, ItOk.of_list ok.handled hl, ?_⟩
      exact ⟨_, Heap.get?_push_size _ rfl, rfl, rfl⟩
  | str x =>
    cases h
    obtain ⟨t, rfl⟩ := r₁
    have hP : ∀ i y u, (strItems x)[i]? = some y → SignAt ⟨x.toArray⟩ i u → ∀ m θ, VR m θ y u := by
      intro i y u h1 ⟨k, t', h2, h3⟩ m θ
      simp only [strItems, List.getElem?_map] at h1
      have h2 : x[i]? = some k := by simpa using h2
      rw [h2] at h1; cases h1
      exact ⟨t', h3⟩
    have hn : (Str.mk x.toArray).cps.size = (strItems x).length := by simp [strItems]
    cases ha : (Str.mk x.toArray).cps.all (· < 128)
    · refine wpAny_pyIter_wide ha ⟨_, θ₁, _, rfl, p₁.trans (hnew _), new_untracked p₁.r h0, p₁.old_none rr h0, ItOk.of_walks (Walks.strWide ok.handled _ ⟨x.toArray⟩ t) hn hP (fun _ _ st => let ⟨o, ho, _⟩ := st; ⟨o, ho⟩), ?_⟩
      exact ⟨_, Heap.get?_push_size _ rfl, rfl, rfl⟩
    · refine wpAny_pyIter_ascii ha ⟨_, θ₁, _, rfl, p₁.trans (hnew _), new_untracked p₁.r h0, p₁.old_none rr h0, ItOk.of_walks (Walks.strAscii ok.handled _ ⟨x.toArray⟩ t) hn hP (fun _ _ st => let ⟨o, ho, _⟩ := st; ⟨o, ho⟩), ?_⟩
      exact ⟨_, Heap.get?_push_size _ rfl, rfl, rfl⟩
  | bytes x =>
    cases h
    obtain ⟨b, t, rfl, rfl⟩ := r₁
    refine KBw.pyIter_bytes ⟨_, θ₁, _, rfl, p₁.trans (hnew _), new_untracked p₁.r h0, p₁.old_none rr h0, ItOk.of_walks (KBw.walks ok.handled _ b t) (by simp [bytesItems]) ?_ (fun _ _ st => let ⟨o, ho, _⟩ := st; ⟨o, ho⟩), ?_⟩
    · intro i y u h1 ⟨k, t', h2, h3⟩ m θ
      simp only [bytesItems, List.getElem?_map] at h1
      have h2 : b.toList[i]? = some k := by simpa using h2
      rw [h2] at h1
      cases h1
      exact ⟨t', h3⟩
    · exact ⟨_, Heap.get?_push_size _ rfl, rfl, rfl⟩
  | _ => cases h
end
end Mine
end
section
namespace Mine
open PySem PySem.Spec PySem.Calls PyProof.Rows PySem.W
section
variable {c : Cx}
structure PostX (a : Addr) (c : Cx) (θ : Th) (σ : List AO) (s : Shared) (θ' : Th) (σ' : List AO) (s' : Shared) : Prop where
  st : ∃ h' tk, s' = { s with heap := h', toks := tk }
  le : σ.length ≤ σ'.length
  same : ∀ l, l < σ.length → θ' l = θ l
  keeps : ∀ b o, b ≠ a → (∀ l, l < σ.length → b ≠ θ l) → s.heap.get? b = some o → s'.heap.get? b = some o
  fresh : ∀ l, σ.length ≤ l → l < σ'.length → s.heap.get? (θ' l) = none
  un : ∀ l, l < σ'.length → a ≠ θ' l
  r : R c θ' σ' s'.heap
theorem PostX.of {a : Addr} {θ θ' : Th} {σ σ' : List AO} {s s' : Shared} (p : Post c θ σ s θ' σ' s') (un : ∀ l, l < σ'.length → a ≠ θ' l) : PostX a c θ σ s θ' σ' s' :=
  ⟨p.st, p.ext.le, p.ext.same, fun b o _ h e => p.ext.keeps b o h e, p.ext.fresh, un, p.r⟩
theorem PostX.post {a : Addr} {θ θ' : Th} {σ σ' : List AO} {s s' : Shared} (x : PostX a c θ σ s θ' σ' s') (ha : s.heap.get? a = none) : Post c θ σ s θ' σ' s' :=
  ⟨x.st, ⟨x.le, x.same, fun b o hb e => x.keeps b o (fun q => by rw [q, ha] at e; cases e) hb e, x.fresh⟩, x.r⟩
theorem PostX.step {a : Addr} {θ θ' : Th} {σ σ' : List AO} {s s' : Shared} {h' : Heap} {tk : Nat} (x : PostX a c θ σ s θ' σ' s') (hk : ∀ b o, b ≠ a → s'.heap.get? b = some o → h'.get? b = some o) (hb : c.base.get? a = none) :
    PostX a c θ σ s θ' σ' { s' with heap := h', toks := tk } := by
  obtain ⟨⟨h1, t1, rfl⟩, x1, x2, x3, x4, x5, x6⟩ := x
  exact ⟨⟨_, _, rfl⟩, x1, x2, fun b o hb' h e => hk b o hb' (x3 b o hb' h e), x4, x5, x6.but hk x5 hb⟩
theorem PostX.trans {a : Addr} {θ θ₁ θ₂ : Th} {σ σ₁ σ₂ : List AO} {s s₁ s₂ : Shared} (x : PostX a c θ σ s θ₁ σ₁ s₁) (al : ∃ o, s₁.heap.get? a = some o) (p : Post c θ₁ σ₁ s₁ θ₂ σ₂ s₂) : PostX a c θ σ s θ₂ σ₂ s₂ := by
  obtain ⟨⟨h2, t2, e2⟩, y, r2⟩ := p
  obtain ⟨⟨h1, t1, e1⟩, x1, x2, x3, x4, x5, x6⟩ := x
  refine ⟨⟨h2, t2, by rw [e2, e1]⟩, Nat.le_trans x1 y.le, fun l hl => (y.same l (Nat.lt_of_lt_of_le hl x1)).trans (x2 l hl), fun b o hba hb e => ?_, fun l h1 h2 => ?_, fun l hl => ?_, r2⟩
  · refine y.keeps b o (fun l hl q => ?_) (x3 b o hba hb e)
    by_cases hn : l < σ.length
    · exact hb l hn (q.trans (x2 l hn))
    · have := x4 l (Nat.not_lt.mp hn) hl
      rw [← q, e] at this; cases this
  · by_cases hn : l < σ₁.length
    · rw [y.same l hn]; exact x4 l h1 hn
    · have f := y.fresh l (Nat.not_lt.mp hn) h2
      cases e : s.heap.get? (θ₂ l) with
      | none => rfl
      | some o =>
        by_cases hb : ∀ k, k < σ.length → θ₂ l ≠ θ k
        · by_cases hq : θ₂ l = a
          · obtain ⟨o', e'⟩ := al
            rw [hq, e'] at f; cases f
          · rw [x3 _ o hq hb e] at f; cases f
        · have ⟨k, hk, q⟩ : ∃ k, k < σ.length ∧ θ₂ l = θ k := by
            apply Classical.byContradiction
            intro q; exact hb fun k hk q' => q ⟨k, hk, q'⟩
          obtain ⟨o', e'⟩ := x6.alive (Nat.lt_of_lt_of_le hk x1)
          rw [q, ← x2 k hk, e'] at f; cases f
  · by_cases hn : l < σ₁.length
    · rw [y.same l hn]; exact x5 l hn
    · intro q
      have f := y.fresh l (Nat.not_lt.mp hn) hl
      obtain ⟨o', e'⟩ := al
      rw [← q, e'] at f; cases f
open Classical in
noncomputable def onlyIf {α : Type} (P : Prop) (p : St α) : St α := fun σ => if P then p σ else none
theorem onlyIf_some {α : Type} {P : Prop} {p : St α} {σ : List AO} {r : α × List AO} (h : onlyIf P p σ = some r) : P ∧ p σ = some r := by
  unfold onlyIf at h
  split at h
  · exact ⟨by assumption, h⟩
  · cases h
theorem onlyIf_pos {α : Type} {P : Prop} {p : St α} {σ : List AO} (h : P) : onlyIf P p σ = p σ := by unfold onlyIf; exact if_pos h
noncomputable def forL (live : Live) (W : AV → St Unit) (B : St AF) : List AV → St AF
  | [] => fun σ => onlyIf (live σ) (St.pure .next) σ
  | v :: vs => fun σ => onlyIf (live σ) (St.bind (W v) fun _ => St.bind B fun f => match f with
    | .next => forL live W B vs
    | .cont => forL live W B vs
    | .brk => St.pure .next
    | .ret u => St.pure (.ret u)) σ
noncomputable def forM (N : St (List AV × Live)) (W : AV → St Unit) (B : St AF) : St AF := St.bind N fun p => forL p.2 W B p.1
theorem drop_get {α : Type} {l : List α} {i : Nat} {x : α} {r : List α} (h : l.drop i = x :: r) : l[i]? = some x ∧ l.drop (i + 1) = r ∧ i < l.length := by
  have h1 : (l.drop i)[0]? = some x := by rw [h]; rfl
  have h2 : l[i]? = some x := by simpa using h1
  refine ⟨h2, ?_, lt_of_get h2⟩
  have : l.drop (i + 1) = (l.drop i).drop 1 := by rw [List.drop_drop]
  rw [this, h]; rfl
structure Cur (c : Cx) (a : Addr) (θ : Th) (σ : List AO) (s : Shared) (n : Nat) (θ₀ : Th) (S : Nat → Heap → Prop) (i : Nat) (θ' : Th) (σ' : List AO) (s' : Shared) : Prop where
  x : PostX a c θ σ s θ' σ' s'
  same : ∀ l, l < n → θ' l = θ₀ l
  le : n ≤ σ'.length
  st : S i s'.heap
theorem Cur.trans {a : Addr} {θ θ₀ θ₁ θ₂ : Th} {σ σ₁ σ₂ : List AO} {s s₁ s₂ : Shared} {n i m : Nat} {A : Around} {vs : List AV} {live : Live} {S : Nat → Heap → Prop} {θi : Th} (C : Cur c a θ σ s n θ₀ S i θ₁ σ₁ s₁) (I : ItOk c A a m θi vs live S) (p : Post c θ₁ σ₁ s₁ θ₂ σ₂ s₂) : Cur c a θ σ s n θ₀ S i θ₂ σ₂ s₂ :=
  ⟨C.x.trans (I.alive _ _ C.st) p, fun l hl => (p.ext.same l (Nat.lt_of_lt_of_le hl C.le)).trans (C.same l hl), Nat.le_trans C.le p.ext.le, I.frame _ _ _ C.st fun o e => p.ext.keeps a o C.x.un e⟩
theorem Cur.step {a : Addr} {θ θ₀ θ₁ : Th} {σ σ₁ : List AO} {s s₁ : Shared} {n i j tk : Nat} {h' : Heap} {S : Nat → Heap → Prop} (C : Cur c a θ σ s n θ₀ S i θ₁ σ₁ s₁) (hb : c.base.get? a = none) (st' : S j h') (hk : ∀ b o, b ≠ a → s₁.heap.get? b = some o → h'.get? b = some o) : Cur c a θ σ s n θ₀ S j θ₁ σ₁ { s₁ with heap := h', toks := tk } :=
  ⟨C.x.step hk hb, C.same, C.le, st'⟩
theorem off_base {θ : Th} {σ : List AO} {h : Heap} (r : R c θ σ h) {a : Addr} (ha : h.get? a = none) : c.base.get? a = none := by
  cases e : c.base.get? a with
  | none => rfl
  | some o => rw [r.keep a o e] at ha; cases ha
theorem s_for {d : Nat} {sc : Scope} {ae : AEnv} {target iter : Expr} {body : List Stmt} {pos : Pos} {N : St (List AV × Live)} {W : AV → St Unit} {B : St AF} (hN : RefI c d sc ae iter N) (hW : RefW c d sc ae (fun env v => assign target env v) W) (hB : RefB c d sc ae body B)
    (hs : ∀ env x, foldedSetIterable iter env x = pure x) (ht : ∀ it v, letOwnedTupleGo target it v = pure ()) : RefS c d sc ae (.For target iter body [] pos) (forM N W B) := by
  intro A θ σ s env f σ' ok rr ev h
  obtain ⟨⟨vs, live⟩, σ₀, h1, h⟩ := St.bind_some h
  refine wpAny_For (wpAny_mono (hN A θ σ s env vs live σ₀ ok rr ev h1) (fun x s₁ h₁ => wpAny_mono h₁ (fun it s₂ ⟨a, θ₂, S, e, p₂, un, ha, I, st⟩ => ?_) fun _ _ x => x) fun _ _ x => x) (hs env)
  subst e
  have hbase := off_base rr ha
  refine codeAny_forLoop (fun k s₃ => ∃ i θ₃ σ₃, i + k = vs.length ∧ Cur c a θ σ s σ₀.length θ₂ S i θ₃ σ₃ s₃ ∧ forL live W B (vs.drop i) σ₃ = some (f, σ'))
    (fun k s₃ ⟨i, θ₃, σ₃, hik, C, h₃⟩ => ?_) vs.length ⟨0, θ₂, σ₀, Nat.zero_add _, ⟨PostX.of p₂ un, fun _ _ => rfl, Nat.le_refl _, st⟩, h⟩ (ht _)
  cases hd : vs.drop i with
  | nil =>
    rw [hd] at h₃
    obtain ⟨lv, h₃⟩ := onlyIf_some h₃
    cases h₃
    have hi : i = vs.length := Nat.le_antisymm (Nat.le.intro hik) (List.drop_eq_nil_iff.mp hd)
    subst hi
    exact I.done θ₃ _ s₃ _ _ C.same C.le C.x.r C.x.un lv C.st fun h' tk hk => wpAny_execs_nil ⟨θ₃, (C.x.step hk hbase).post ha, rfl⟩
  | cons v r =>
    rw [hd] at h₃
    obtain ⟨g1, g2, g3⟩ := drop_get hd
    obtain ⟨lv, h₃⟩ := onlyIf_some h₃
    obtain ⟨u, σ₄, h4, h₃⟩ := St.bind_some h₃
    obtain ⟨g, σ₅, h5, h₃⟩ := St.bind_some h₃
    refine I.item i θ₃ σ₃ s₃ v _ _ C.same C.le C.x.r C.x.un lv C.st g1 fun vv h' tk hv st' hk => ?_
    have C₄ := C.step (tk := tk) hbase st' hk
    have ev₃ := ev.mono C.x.le C.x.same
    refine wpAny_mono (hW A θ₃ σ₃ _ env v vv u σ₄ ok C₄.x.r ev₃ hv h4) (fun _ s₅ x => x.elim fun θ₅ x => wpAny_mono (hB A θ₅ σ₄ s₅ env g σ₅ ok x.1.r (ev₃.mono x.1.ext.le x.1.ext.same) h5) (fun q s₆ y => y.elim fun θ₆ y => ?_) fun _ _ x => x.elim) fun _ _ x => x.elim
    have C₆ := (C₄.trans I x.1).trans I y.1
    have r₆ := y.2
    clear h h1 h4 h5 hd st x y C C₄ hv st' hk g1 ev₃ ev
    cases k with
    | zero => exact absurd hik (Nat.ne_of_lt g3)
    | succ k =>
      cases g with
      | next => cases r₆; exact ⟨k, Nat.lt_succ_self _, i + 1, θ₆, σ₅, (Nat.succ_add_eq_add_succ i k).trans hik, C₆, g2 ▸ h₃⟩
      | cont => cases r₆; exact ⟨k, Nat.lt_succ_self _, i + 1, θ₆, σ₅, (Nat.succ_add_eq_add_succ i k).trans hik, C₆, g2 ▸ h₃⟩
      | brk => cases r₆; cases h₃; exact ⟨θ₆, C₆.x.post ha, rfl⟩
      | ret w => cases h₃; exact r₆.elim fun w' y => by rw [y.1]; exact ⟨θ₆, C₆.x.post ha, w', rfl, y.2⟩
noncomputable def pushL (l : Nat) (y : AV) : St Unit := fun σ => match getList l σ with
  | some ys => guardM (okSz ys.length) (fun σ => some ((), σ.set l (.list (ys ++ [y])))) σ
  | none => none
noncomputable def compL (live : Live) (W : AV → St Unit) (T : St Bool) (E : St AV) (l : Nat) : List AV → St Unit
  | [] => fun σ => onlyIf (live σ) (St.pure ()) σ
  | v :: vs => fun σ => onlyIf (live σ) (St.bind (W v) fun _ => St.bind T fun b => match b with
    | true => St.bind E fun y => St.bind (pushL l y) fun _ => compL live W T E l vs
    | false => compL live W T E l vs) σ
noncomputable def CompEnd (σ σ' : List AO) : Prop := σ.length + 2 ≤ σ'.length ∧ (∃ k vs, σ'[σ.length + 1]? = some (.ns k vs)) ∧ ∀ i o, i < σ.length + 1 → σ'[i]? = some o → σ[i]? = some o ∨ o.below (σ.length + 1)
noncomputable def compR (k m : Nat) (W : Nat → AV → St Unit) (T : Nat → St Bool) (E : Nat → St AV) (vs : List AV) (live : Live) : St AV := fun σ =>
  match compL live (W (σ.length + 1)) (T (σ.length + 1)) (E (σ.length + 1)) σ.length vs (σ ++ [.list [], .ns k (List.replicate m none)]) with
  | some (_, σ') => onlyIf (CompEnd σ σ') (fun _ => some (.ref σ.length, σ'.take (σ.length + 1))) σ
  | none => none
noncomputable def compM (I : St (List AV × Live)) (k m : Nat) (W : Nat → AV → St Unit) (T : Nat → St Bool) (E : Nat → St AV) : St AV := St.bind I fun p => compR k m W T E p.1 p.2
theorem R.below {θ : Th} {σ : List AO} {h : Heap} (r : R c θ σ h) {n i : Nat} {o : AO} (e : σ[i]? = some o) (hn : σ.length ≤ n) : o.below n := ((r.obj i o e).mono hn (θ' := θ) fun _ _ => rfl).up
theorem comp_end {θ θ₁ θe : Th} {σ σ₁ σe : List AO} {s s₁ se : Shared} (r₁ : R c θ₁ σ₁ s₁.heap) (hle : σ.length ≤ σ₁.length) (p : Post c θ σ s θe σe se) (ce : CompEnd σ₁ σe) :
    Post c θ σ s θe (σe.take (σ₁.length + 1)) se ∧ VR (σe.take (σ₁.length + 1)).length θe (.ref σ₁.length) (.ref (θe σ₁.length)) ∧ (∃ m, se.heap.Ns (θe (σ₁.length + 1)) m) ∧ (∀ l, l < (σe.take (σ₁.length + 1)).length → θe (σ₁.length + 1) ≠ θe l) ∧
      s.heap.get? (θe (σ₁.length + 1)) = none ∧ c.base.get? (θe (σ₁.length + 1)) = none := by
  obtain ⟨c1, ⟨k, vs, c2⟩, c3⟩ := ce
  have hlen : (σe.take (σ₁.length + 1)).length = σ₁.length + 1 := by simp; omega
  refine ⟨⟨p.st, ⟨by rw [hlen]; omega, p.ext.same, p.ext.keeps, fun l h1 h2 => ?_⟩, p.r.take (by omega) fun i o h1 h2 => ?_⟩, ⟨by rw [hlen]; omega, rfl⟩, ?_, ?_, ?_, ?_⟩
  · rw [hlen] at h2; exact p.ext.fresh l h1 (by omega)
  · rcases c3 i o h1 h2 with h3 | h3
    · exact r₁.below h3 (Nat.le_succ _)
    · exact h3
  · obtain ⟨_, _, m, hm, _⟩ := p.r.get c2
    exact ⟨m, hm⟩
  · intro l hl q
    rw [hlen] at hl
    have := p.r.inj _ _ (by omega) (by omega) q
    omega
  · exact p.ext.fresh _ (by omega) (by omega)
  · exact p.r.off _ (by omega)
theorem Post.gone {θ θ' : Th} {σ σ' : List AO} {s s' : Shared} {h' : Heap} {C : Addr} (p : Post c θ σ s θ' σ' s') (hs : Heap.SameBut C s'.heap h') (un : ∀ l, l < σ'.length → C ≠ θ' l) (h0 : s.heap.get? C = none) (hb : c.base.get? C = none) :
    Post c θ σ s θ' σ' { s' with heap := h' } := by
  obtain ⟨⟨h1, t1, rfl⟩, x, r⟩ := p
  exact ⟨⟨_, _, rfl⟩, ⟨x.le, x.same, fun b o hb' e => hs.extBut b o (fun q => by rw [q, h0] at e; cases e) (x.keeps b o hb' e), x.fresh⟩, r.but (fun b o h e => hs.extBut b o h e) un hb⟩
noncomputable def relS (csc sc : Scope) : Scope := { csc with names := csc.names.map fun (n, k) => if (k == .free && sc.kind == .function && sc.names.lookup n == some .cell) then (n, .cell) else (n, k) }
theorem relS_eq {csc sc : Scope} {env : Env} (h : env.scope = sc) : relabel csc env = relS csc sc := by subst h; rfl
noncomputable def RefF (c : Cx) (d : Nat) (sc : Scope) (ae : AEnv) (ifs : List Expr) (P : St Bool) : Prop :=
  ∀ A θ σ s env v σ', Ok d A → R c θ σ s.heap → EnvR sc σ.length θ ae env → P σ = some (v, σ') →
    Sat c A (forIn ifs true fun c r => if r = true then do let ok ← isTrue c env (eval c env); pure (ForInStep.yield ok) else pure (ForInStep.yield r)) BR θ σ s v σ'
theorem f_nil {d : Nat} {sc : Scope} {ae : AEnv} : RefF c d sc ae [] (St.pure true) := by
  intro A θ σ s env v σ' ok rr ev h
  cases h
  exact wpAny_tests_nil ⟨θ, Post.refl rr, rfl⟩
set_option tactic.hygienic true in
theorem pushL_some {l : Nat} {y : AV} {σ σ' : List AO} {u : Unit} (h : pushL l y σ = some (u, σ')) : ∃ ys, σ[l]? = some (.list ys) ∧ okSz ys.length = true ∧ σ' = σ.set l (.list (ys ++ [y])) := by
  unfold pushL at h
  split at h
  · rename_i ys e
    obtain ⟨h1, h⟩ := guardM_some h
    cases h
    exact ⟨ys, getList_some e, h1, rfl⟩
  · cases h
theorem append_ok {A : Around} {θ : Th} {σ σ' : List AO} {s : Shared} {l : Nat} {y : AV} {vy : Value} {u : Unit} (rr : R c θ σ s.heap) (hy : VR σ.length θ y vy) (h : pushL l y σ = some (u, σ')) :
    wpAny (model c.prog c.w) A (call (.builtin "list.append") [.ref (θ l), vy]) (fun r s' => r = .none ∧ Post c θ σ s θ σ' s') FF s := by
  obtain ⟨ys, e, hz, rfl⟩ := pushL_some h
  obtain ⟨us, p, q⟩ := plain_list rr e
  refine wpAny_list_append_plain p (fun h' hl hs => ⟨rfl, ?_⟩) ?_
  · obtain ⟨r', e'⟩ := rr.set (o' := .list (ys ++ [y])) (lt_of_get e) hs ⟨us ++ [vy], by simpa using hl, q.snoc hy⟩
    exact ⟨⟨_, _, rfl⟩, e', r'⟩
  · have := okSz_le hz
    rw [q.length] at this; simpa using this
end
end Mine
end
section
namespace Mine
open PySem PySem.Spec PySem.Calls PyProof.Rows PySem.W
section
variable {c : Cx}
theorem rep_none {k m : Nat} (hk : (c.tbl k).length = m) (hd : (c.tbl k).Nodup) {n : Nat} {θ : Th} {h : Heap} {a : Addr} (hn : h.Ns a fun _ => none) : ORep c n θ h a (.ns k (List.replicate m none)) := by
  refine ⟨by simp [hk], hd, _, hn, fun i x v _ h2 => ?_⟩
  obtain ⟨hl, e⟩ := List.getElem?_eq_some_iff.mp h2
  rw [List.getElem_replicate] at e
  subst e; trivial
noncomputable def ClosIs (csc sc : Scope) (cl cl' : List (Str × Nat)) : Prop :=
  (∀ (env : Env) (θ : Th), env.scope = sc → env.cells = cl.map (fun p => (p.1, θ p.2)) → closureFor csc env = pure (cl'.map fun p => (p.1, θ p.2))) ∧ ∀ p ∈ cl', p ∈ cl
structure CompHyp (c : Cx) (d : Nat) (sc : Scope) (ae : AEnv) (csc : Scope) (cl' : List (Str × Nat)) (k m : Nat) (target elt : Expr) (ifs : List Expr) (W : Nat → AV → St Unit) (T : Nat → St Bool) (E : Nat → St AV) : Prop where
  len : (c.tbl k).length = m
  nodup : (c.tbl k).Nodup
  clos : ClosIs csc sc ae.cl (cl'.map fun p => (p.1, p.2))
  kind : csc.kind = .function
  names : ∀ x ∈ csc.names, x.2 = .local → csc.names.lookup x.1 = some .local
  cell : ∀ x ∈ csc.names, x.2 ≠ .cell
  w : ∀ fr, RefW c d (relS csc sc) { ae with fr := fr, cl := cl' } (fun env v => assign target env v) (W fr)
  t : ∀ fr, RefF c d (relS csc sc) { ae with fr := fr, cl := cl' } ifs (T fr)
  e : ∀ fr, RefE c d (relS csc sc) { ae with fr := fr, cl := cl' } elt (E fr)
theorem comp_loop {d : Nat} {sc csc : Scope} {ae : AEnv} {cl' : List (Str × Nat)} {k m : Nat} {target iter elt : Expr} {ifs : List Expr} {W : Nat → AV → St Unit} {T : Nat → St Bool} {E : Nat → St AV} {pos : Pos}
    (H : CompHyp c d sc ae csc cl' k m target elt ifs W T E) (ht : ∀ it v, letOwnedTupleGo target it v = pure ())
    {A : Around} {θ θ₂ θ₄ : Th} {σ σ₄ σe : List AO} {s s₄ : Shared} {ce : Env} {a acc : Addr} {S : Nat → Heap → Prop} {vs : List AV} {live : Live} {n : Nat} {u : Unit} {QQ : Result → Shared → Prop}
    (ok : Ok d A) (ev : EnvR (relS csc sc) (n + 2) θ₄ { ae with fr := n + 1, cl := cl' } ce) (hθ : ∀ l, l < n → θ₄ l = θ₂ l) (hacc : θ₄ n = acc) (ha : s.heap.get? a = none) (hbase : c.base.get? a = none) (I : ItOk c A a n θ₂ vs live S)
    (C₀ : Cur c a θ σ s (n + 2) θ₄ S 0 θ₄ σ₄ s₄) (h : compL live (W (n + 1)) (T (n + 1)) (E (n + 1)) n vs σ₄ = some (u, σe)) (hR : ∀ θe se, Post c θ σ s θe σe se → (∀ l, l < n + 2 → θe l = θ₄ l) → QQ (.ok .next) se) :
    codeAny (model c.prog c.w) A (.compLoop (.ListComp elt [⟨target, iter, ifs, 0⟩] csc pos) 0 (.ref a) (.ref acc) ce) QQ s₄ := by
  refine codeAny_compLoop_tests (fun j s₅ => ∃ i θ₅ σ₅, i + j = vs.length ∧ Cur c a θ σ s (n + 2) θ₄ S i θ₅ σ₅ s₅ ∧
    compL live (W (n + 1)) (T (n + 1)) (E (n + 1)) n (vs.drop i) σ₅ = some (u, σe)) (fun j s₅ ⟨i, θ₅, σ₅, hij, C₅, h₅⟩ => ?_) vs.length ⟨0, θ₄, σ₄, Nat.zero_add _, C₀, h⟩ (ht _)
  have hs₂ : ∀ l, l < n → θ₅ l = θ₂ l := fun l hl => (C₅.same l (Nat.lt_add_right 2 hl)).trans (hθ l hl)
  have hl₂ : n ≤ σ₅.length := Nat.le_of_add_right_le C₅.le
  cases hd : vs.drop i with
  | nil =>
    rw [hd] at h₅
    obtain ⟨lv, h₅⟩ := onlyIf_some h₅
    cases h₅
    have hi : i = vs.length := Nat.le_antisymm (Nat.le.intro hij) (List.drop_eq_nil_iff.mp hd)
    subst hi
    exact I.done θ₅ _ s₅ _ _ hs₂ hl₂ C₅.x.r C₅.x.un lv C₅.st fun h' tk hk => hR θ₅ _ ((C₅.x.step (tk := tk) hk hbase).post ha) C₅.same
  | cons v r =>
    rw [hd] at h₅
    obtain ⟨g1, g2, g3⟩ := drop_get hd
    obtain ⟨lv, h₅⟩ := onlyIf_some h₅
    obtain ⟨u₁, σ₆, h6, h₅⟩ := St.bind_some h₅
    obtain ⟨b, σ₇, h7, h₅⟩ := St.bind_some h₅
    refine I.item i θ₅ σ₅ s₅ v _ _ hs₂ hl₂ C₅.x.r C₅.x.un lv C₅.st g1 fun vv h' tk hv st' hk => ?_
    have C₆ := C₅.step (tk := tk) hbase st' hk
    have ev₅ := ev.mono (n' := σ₅.length) C₅.le C₅.same
    clear h hd C₀ hs₂ hl₂ st' hk g1 C₅
    refine wpAny_mono (H.w _ A θ₅ σ₅ _ _ v vv u₁ σ₆ (ok.le (by omega)) C₆.x.r ev₅ hv h6) (fun _ s₆ x => x.elim fun θ₆ x => wpAny_mono (H.t _ A θ₆ σ₆ s₆ _ b σ₇ (ok.le (by omega)) x.1.r (ev₅.mono x.1.ext.le x.1.ext.same) h7) (fun q s₇ y => y.elim fun θ₇ y => ?_) fun _ _ x => x.elim) fun _ _ x => x.elim
    have C₈ := (C₆.trans I x.1).trans I y.1
    have ev₇ := (ev₅.mono x.1.ext.le x.1.ext.same).mono y.1.ext.le y.1.ext.same
    have hq := y.2
    clear x y C₆ ev₅ h6 h7 hv
    cases hq
    cases j with
    | zero => exact absurd hij (Nat.ne_of_lt g3)
    | succ j =>
      have hij := (Nat.succ_add_eq_add_succ i j).trans hij
      cases b with
      | false => exact ⟨j, Nat.lt_succ_self _, i + 1, θ₇, σ₇, hij, C₈, g2 ▸ h₅⟩
      | true =>
        obtain ⟨y, σ₈, h8, h₅⟩ := St.bind_some h₅
        obtain ⟨u₂, σ₉, h9, h₅⟩ := St.bind_some h₅
        simp only [if_true]
        refine wpAny_mono (H.e _ A θ₇ σ₇ s₇ _ y σ₈ ok C₈.x.r ev₇ h8) (fun vy s₈ x => x.elim fun θ₈ x => ?_) fun _ _ x => x.elim
        have C₉ := C₈.trans I x.1
        have hap := append_ok (A := A) C₉.x.r x.2 h9
        rw [C₉.same n (Nat.lt_add_of_pos_right (by decide)), hacc] at hap
        exact wpAny_mono hap (fun _ s₉ y => ⟨j, Nat.lt_succ_self _, i + 1, θ₈, σ₉, hij, C₉.trans I y.2, g2 ▸ h₅⟩) fun _ _ x => x.elim
theorem comp_core {d : Nat} {sc csc : Scope} {ae : AEnv} {cl' : List (Str × Nat)} {k m : Nat} {target iter elt : Expr} {ifs : List Expr} {W : Nat → AV → St Unit} {T : Nat → St Bool} {E : Nat → St AV} {pos : Pos}
    (H : CompHyp c d sc ae csc cl' k m target elt ifs W T E) (ht : ∀ it v, letOwnedTupleGo target it v = pure ())
    {A : Around} {θ θ₂ : Th} {σ σ₂ σe : List AO} {s s₂ : Shared} {env : Env} {a : Addr} {S : Nat → Heap → Prop} {vs : List AV} {live : Live} {E' : Value → Shared → Prop} {RR : Value → Addr → Result → Shared → Prop} {u : Unit}
    (ok : Ok d A) (ev : EnvR sc σ₂.length θ₂ ae env) (p₂ : Post c θ σ s θ₂ σ₂ s₂) (un : ∀ l, l < σ₂.length → a ≠ θ₂ l) (ha : s.heap.get? a = none) (hbase : c.base.get? a = none) (I : ItOk c A a σ₂.length θ₂ vs live S) (st : S 0 s₂.heap)
    (h : compL live (W (σ₂.length + 1)) (T (σ₂.length + 1)) (E (σ₂.length + 1)) σ₂.length vs (σ₂ ++ [.list [], .ns k (List.replicate m none)]) = some (u, σe))
    (hR : ∀ θe se, Post c θ σ s θe σe se → RR (.ref (θe σ₂.length)) (θe (σ₂.length + 1)) (.ok .next) se) :
    wpAny (model c.prog c.w) A (newList []) (fun acc s₃ => wpAny (model c.prog c.w) A (newFunctionEnv csc env.globals (cl'.map fun p => (p.1, θ₂ p.2)) [] env.qual none .none (some env)) (fun cenv s₄ =>
      codeAny (model c.prog c.w) A (.compStart (.ListComp elt [⟨target, iter, ifs, 0⟩] csc pos) 0 (.ref a) acc { cenv with scope := relabel csc env }) (RR acc cenv.locals) s₄) E' s₃) E' s₂ := by
  refine wpAny_newList ?_ (by rw [sizeLine_eq]; simp)
  obtain ⟨θ₃, p₃, r₃⟩ := sat_push_list p₂.r (xs := []) (vs := []) .nil
  refine wpAny_newFunctionEnv H.cell (by intro y hy; cases hy) (fun h₄ hn hs => ?_) H.kind
  have h5 : θ₃ σ₂.length = s₂.heap.objs.size := by injection r₃.2 with this; exact this.symm
  generalize hh : s₂.heap.push { cls := .type "list", data := .seq [].toArray } = h₃ at *
  generalize hC' : h₃.objs.size = C at *
  have hlen3 : (σ₂ ++ [AO.list []]).length = σ₂.length + 1 := List.length_append
  have hC0 : h₃.get? C = none := hC' ▸ get_size_none _
  obtain ⟨r₄, e₄⟩ := p₃.r.push (h' := h₄) (a := C) (o' := .ns k (List.replicate m none))
    (fun b o e => hs.extBut b o (fun q => by rw [q, hC0] at e; cases e) (Heap.get?_push_of_some _ e)) hC0 (rep_none H.len H.nodup hn)
  have p₄ : Post c θ₂ σ₂ s₂ _ _ _ := p₃.trans (⟨⟨h₄, s₂.toks + ([] : List (Str × Value)).length, rfl⟩, e₄, r₄⟩ : Post c θ₃ (σ₂ ++ [AO.list []]) { s₂ with heap := h₃ } _ _ { s₂ with heap := h₄, toks := s₂.toks + ([] : List (Str × Value)).length })
  have hσ : (σ₂ ++ [AO.list []]) ++ [AO.ns k (List.replicate m none)] = σ₂ ++ [.list [], .ns k (List.replicate m none)] := List.append_assoc ..
  rw [hσ] at p₄
  have hD : ext1 θ₃ (σ₂ ++ [AO.list []]).length C σ₂.length = s₂.heap.objs.size := by rw [hlen3, ext1_old (Nat.lt_succ_self _)]; exact h5
  have hC : ext1 θ₃ (σ₂ ++ [AO.list []]).length C (σ₂.length + 1) = C := by rw [hlen3, ext1_new]
  generalize ext1 θ₃ (σ₂ ++ [AO.list []]).length C = θ₄ at p₄ hD hC
  clear r₄ e₄ p₃ r₃ hσ hlen3 h5 hC0
  have hlen4 : (σ₂ ++ [AO.list [], AO.ns k (List.replicate m none)]).length = σ₂.length + 2 := List.length_append
  have hcl : ∀ p ∈ cl', p.2 < σ₂.length := fun p hp => ev.cl p (H.clos.2 p (by simpa using hp))
  have un₄ : ∀ l, l < (σ₂ ++ [AO.list [], AO.ns k (List.replicate m none)]).length → a ≠ θ₄ l := fun l hl q => by
    by_cases hn : l < σ₂.length
    · rw [p₄.ext.same l hn] at q; exact un l hn q
    · have f := p₄.ext.fresh l (Nat.not_lt.mp hn) hl
      obtain ⟨o, e⟩ := I.alive _ _ st
      rw [← q, e] at f; cases f
  have ev₄ : EnvR (relS csc sc) (σ₂.length + 2) θ₄ { ae with fr := σ₂.length + 1, cl := cl' } { newEnv csc C env.globals (cl'.map fun p => (p.1, θ₂ p.2)) env.qual none .none (some env) builtinsNs with scope := relabel csc env } :=
    ⟨relS_eq ev.scope, hC.symm, Nat.lt_succ_self _, List.map_congr_left fun p hp => by rw [p₄.ext.same p.2 (hcl p hp)], fun p hp => Nat.lt_add_right 2 (hcl p hp), ev.glob, ev.bi, H.kind, ev.code, ev.qual⟩
  have st₄ := I.frame _ _ _ st fun o e => p₄.ext.keeps a o un e
  have loop := comp_loop (pos := pos) (iter := iter) (QQ := RR (.ref s₂.heap.objs.size) C) H ht ok ev₄ p₄.ext.same hD ha hbase I ⟨PostX.of (a := a) (p₂.trans p₄) un₄, fun _ _ => rfl, Nat.le_of_eq hlen4.symm, st₄⟩ h
    (fun θe se p hs => by have := hR θe se p; rwa [hs _ (Nat.lt_add_of_pos_right (by decide)), hs _ (Nat.lt_succ_self _), hD, hC] at this)
  exact codeAny_compStart_list loop (I.self 0 _ _ _ st₄ loop)
theorem fresh_base {θ : Th} {σ : List AO} {s : Shared} (r : R c θ σ s.heap) {a : Addr} (ha : s.heap.get? a = none) : c.base.get? a = none := by
  cases e : c.base.get? a with
  | none => rfl
  | some o => rw [r.keep a o e] at ha; cases ha
set_option tactic.hygienic true in
theorem compR_some {k m : Nat} {W : Nat → AV → St Unit} {T : Nat → St Bool} {E : Nat → St AV} {vs : List AV} {live : Live} {σ σ' : List AO} {v : AV} (h : compR k m W T E vs live σ = some (v, σ')) :
    ∃ u σe, compL live (W (σ.length + 1)) (T (σ.length + 1)) (E (σ.length + 1)) σ.length vs (σ ++ [.list [], .ns k (List.replicate m none)]) = some (u, σe) ∧ CompEnd σ σe ∧ v = .ref σ.length ∧ σ' = σe.take (σ.length + 1) := by
  unfold compR at h
  split at h
  · rename_i u σe e
    obtain ⟨h1, h⟩ := onlyIf_some h
    cases h
    exact ⟨_, _, e, h1, rfl, rfl⟩
  · cases h
theorem ref_comp {d : Nat} {sc csc : Scope} {ae : AEnv} {cl' : List (Str × Nat)} {k m : Nat} {target iter elt : Expr} {ifs : List Expr} {N : St (List AV × Live)} {W : Nat → AV → St Unit} {T : Nat → St Bool} {E : Nat → St AV} {pos : Pos}
    (hN : RefI c d sc ae iter N) (H : CompHyp c d sc ae csc cl' k m target elt ifs W T E) (hs : ∀ env x, foldedSetIterable iter env x = pure x) (ht : ∀ it v, letOwnedTupleGo target it v = pure ()) :
    RefE c d sc ae (.ListComp elt [⟨target, iter, ifs, 0⟩] csc pos) (compM N k m W T E) := by
  intro A θ σ s env v σ' ok rr ev h
  obtain ⟨⟨vs, live⟩, σ₂, h1, h⟩ := St.bind_some h
  obtain ⟨u, σe, h2, ce, rfl, rfl⟩ := compR_some h
  show wpAny _ A (eval _ env) _ _ s
  rw [eval_ListComp]
  have hcells := H.clos.1 env θ ev.scope ev.cells
  refine wpAny_comprehension_free (use := none) rfl (hs env) hcells H.kind H.names (wpAny_mono (hN A θ σ s env vs live σ₂ ok rr ev h1) (fun _ s₁ h₁ => wpAny_mono h₁ (fun it s₂ ⟨a, θ₂, S, e, p₂, un, ha, I, st⟩ => ?_) fun _ _ x => x) fun _ _ x => x)
  subst e
  have ev₂ := ev.mono p₂.ext.le p₂.ext.same
  have hcl : ((cl'.map fun p => (p.1, p.2)).map fun p => (p.1, θ p.2)) = cl'.map fun p => (p.1, θ₂ p.2) := by
    rw [List.map_map]
    exact List.map_congr_left fun p hp => by show (p.1, θ p.2) = _; rw [p₂.ext.same p.2 (ev.cl p (H.clos.2 p (by simpa using hp)))]
  rw [hcl]
  refine comp_core (RR := fun acc C => compPost (model c.prog c.w) A FF none _ acc C) H ht ok ev₂ p₂ un ha (fresh_base rr ha) I st h2 fun θe se pe => ?_
  obtain ⟨q1, q2, ⟨m, q3⟩, q4, q5, q6⟩ := comp_end p₂.r p₂.ext.le pe ce
  exact ⟨m, q3, fun h' hs' => ⟨θe, q1.gone hs' q4 q5 q6, q2⟩⟩
theorem s_comp {d : Nat} {sc csc : Scope} {ae : AEnv} {cl' : List (Str × Nat)} {k m : Nat} {target iter elt : Expr} {ifs : List Expr} {N : St (List AV × Live)} {W : Nat → AV → St Unit} {T : Nat → St Bool} {E : Nat → St AV} {cpos : Pos} {x : Str} {px pos : Pos} {F : AV → St Unit}
    (hN : RefI c d sc ae iter N) (H : CompHyp c d sc ae csc cl' k m target elt ifs W T E) (hs : ∀ env x, foldedSetIterable iter env x = pure x) (ht : ∀ it v, letOwnedTupleGo target it v = pure ())
    (hW : RefW c d sc ae (fun env v => storeName env x v) F) (hsw : ∀ env, env.scope = sc → swapsWith (.ListComp elt [⟨target, iter, ifs, 0⟩] csc cpos) (some (.Name x px)) pos.line env = pure true) :
    RefS c d sc ae (.Assign [.Name x px] (.ListComp elt [⟨target, iter, ifs, 0⟩] csc cpos) pos) (asgM (compM N k m W T E) F) := by
  intro A θ σ s env f σ' ok rr ev h
  obtain ⟨v, σ₁, h0, h⟩ := St.bind_some h
  obtain ⟨⟨vs, live⟩, σ₂, h1, h0⟩ := St.bind_some h0
  obtain ⟨u, σe, h2, ce, rfl, rfl⟩ := compR_some h0
  obtain ⟨u', σ₃, h3, h⟩ := St.bind_some h
  cases h
  show wpAny _ A (exec _ env) _ _ s
  rw [exec_Assign_Name_used _ _ _ _ (hsw env ev.scope)]
  refine wpAny_bind (wpAny_standAt (wpAny_bind ?_))
  show wpAny _ A (do let _ ← comprehension (.ListComp elt [⟨target, iter, ifs, 0⟩] csc cpos) csc env _ (newList []) false (eval iter env) (some (assign (.Name x px) env))) _ _ s
  have hcells := H.clos.1 env θ ev.scope ev.cells
  refine wpAny_bind (wpAny_mono (wpAny_comprehension_free (use := some (assign (.Name x px) env)) (Q := fun _ s' => ∃ θ', Post c θ σ s θ' σ' s' ∧ FlR σ'.length θ' .next .next) rfl (hs env) hcells H.kind H.names
    (wpAny_mono (hN A θ σ s env vs live σ₂ ok rr ev h1) (fun _ s₁ h₁ => wpAny_mono h₁ (fun it s₂ ⟨a, θ₂, S, e, p₂, un, ha, I, st⟩ => ?_) fun _ _ x => x) fun _ _ x => x)) (fun _ s' hq => wpAny_pure (wpAny_pure hq)) fun _ _ x => x)
  subst e
  have ev₂ := ev.mono p₂.ext.le p₂.ext.same
  have hcl : ((cl'.map fun p => (p.1, p.2)).map fun p => (p.1, θ p.2)) = cl'.map fun p => (p.1, θ₂ p.2) := by
    rw [List.map_map]
    exact List.map_congr_left fun p hp => by show (p.1, θ p.2) = _; rw [p₂.ext.same p.2 (ev.cl p (H.clos.2 p (by simpa using hp)))]
  rw [hcl]
  refine comp_core (RR := fun acc C => compPost (model c.prog c.w) A FF (some (assign (.Name x px) env)) _ acc C) H ht ok ev₂ p₂ un ha (fresh_base rr ha) I st h2 fun θe se pe => ?_
  obtain ⟨q1, q2, ⟨m, q3⟩, q4, q5, q6⟩ := comp_end p₂.r p₂.ext.le pe ce
  have ev₃ := ev.mono q1.ext.le q1.ext.same
  refine PyProof.Rows.assign_Name (wpAny_mono (hW A θe _ se env _ _ u' σ' ok q1.r ev₃ q2 h3) (fun _ s'' ⟨θ', p', _⟩ => ?_) fun _ _ x => x)
  have hal : ∃ o, se.heap.get? (θe (σ₂.length + 1)) = some o := let ⟨o, _, _, ho, _⟩ := q3; ⟨o, ho⟩
  refine ⟨m, q3.at' fun o e => p'.ext.keeps _ o q4 e, fun h' hs' => ⟨θ', (q1.trans p').gone hs' (fun l hl q => ?_) q5 q6, rfl⟩⟩
  by_cases hn : l < (σe.take (σ₂.length + 1)).length
  · rw [p'.ext.same l hn] at q; exact q4 l hn q
  · have f := p'.ext.fresh l (Nat.not_lt.mp hn) hl
    obtain ⟨o, e⟩ := hal
    rw [← q, e] at f; cases f
end
end Mine
end
section
namespace Mine
open PySem PySem.Spec PySem.Calls PyProof.Rows PySem.W
noncomputable def cellNames : List (Str × NameKind) → List Str
  | [] => []
  | (x, k) :: r => match k == .cell with
    | true => x :: cellNames r
    | false => cellNames r
noncomputable def numbered (n : Nat) : List Str → List (Str × Nat)
  | [] => []
  | x :: r => (x, n) :: numbered (n + 1) r
theorem cellsFrom_eq : ∀ (names : List (Str × NameKind)) (n : Nat) (acc : List (Str × Addr)), cellsFrom n names acc = (numbered n (cellNames names)).reverse ++ acc
  | [], _, _ => rfl
  | (x, k) :: r, n, acc => by
    unfold cellsFrom cellNames
    cases hk : k == NameKind.cell with
    | true => simp [cellsFrom_eq r, numbered]
    | false => simp [cellsFrom_eq r]
theorem numbered_get : ∀ (l : List Str) (n j : Nat) (x : Str), l[j]? = some x → (numbered n l)[j]? = some (x, n + j)
  | [], _, _, _, h => by simp at h
  | y :: r, n, 0, x, h => by simp at h; subst h; rfl
  | y :: r, n, j + 1, x, h => by
    have := numbered_get r (n + 1) j x (by simpa using h)
    simp only [numbered, List.getElem?_cons_succ, this]; congr 2; omega
theorem numbered_mem : ∀ (l : List Str) (n : Nat) (p : Str × Nat), p ∈ numbered n l → p.1 ∈ l ∧ n ≤ p.2 ∧ p.2 < n + l.length ∧ l[p.2 - n]? = some p.1
  | [], _, _, h => by simp [numbered] at h
  | y :: r, n, p, h => by
    rcases List.mem_cons.mp h with rfl | h
    · simp
    · obtain ⟨h1, h2, h3, h4⟩ := numbered_mem r (n + 1) p h
      refine ⟨List.mem_cons_of_mem _ h1, by omega, by simp; omega, ?_⟩
      have : p.2 - n = (p.2 - (n + 1)) + 1 := by omega
      rw [this]; simpa using h4
theorem lookup_of_mem {α : Type} : ∀ {l : List (Str × α)} {x : Str} {v : α}, (x, v) ∈ l → (∀ v', (x, v') ∈ l → v' = v) → l.lookup x = some v
  | [], _, _, h, _ => by cases h
  | (y, u) :: r, x, v, h, hu => by
    rw [List.lookup_cons]
    cases e : x == y with
    | true =>
      have := beq_iff_eq.mp e
      subst this
      simp only
      rw [hu u List.mem_cons_self]
    | false =>
      rcases List.mem_cons.mp h with q | h
      · cases q; simp at e
      · exact lookup_of_mem h fun v' h' => hu v' (List.mem_cons_of_mem _ h')
theorem nodup_idx {l : List Str} (hd : l.Nodup) {i j : Nat} {x : Str} (h1 : l[i]? = some x) (h2 : l[j]? = some x) : i = j := by
  obtain ⟨a, b⟩ := List.getElem?_eq_some_iff.mp h1
  obtain ⟨a', b'⟩ := List.getElem?_eq_some_iff.mp h2
  exact (List.getElem_inj hd).mp (b.trans b'.symm)
theorem cells_lookup {names : List (Str × NameKind)} (hd : (cellNames names).Nodup) {L j : Nat} {x : Str} (h : (cellNames names)[j]? = some x) : (cellsFrom L names []).lookup x = some (L + j) := by
  rw [cellsFrom_eq, List.append_nil]
  have h1 := List.mem_of_getElem? (numbered_get _ L j x h)
  refine lookup_of_mem (List.mem_reverse.mpr h1) fun v' hv => ?_
  obtain ⟨_, h2, h3, h4⟩ := numbered_mem _ L _ (List.mem_reverse.mp hv)
  have h5 : v' - L = j := nodup_idx hd h4 h
  have h2 : L ≤ v' := h2
  exact ((Nat.sub_eq_iff_eq_add h2).mp h5).trans (Nat.add_comm _ _)
theorem bindL_at (kindOf : Str → Option NameKind) : ∀ (binds : List (Str × Value)) (m : Str → Option Value), (binds.map (·.1)).Nodup → ∀ x, bindL kindOf binds m x = if kindOf x = some .local then (binds.lookup x).or (m x) else m x
  | [], m, _, x => by simp [bindL]
  | (n, v) :: r, m, hd, x => by
    simp only [List.map_cons, List.nodup_cons] at hd
    unfold bindL
    rw [bindL_at kindOf r _ hd.2 x, List.lookup_cons]
    by_cases hx : x = n
    · subst hx
      have hr : r.lookup x = none := by
        cases e : r.lookup x with
        | none => rfl
        | some u => exact absurd (List.mem_map_of_mem (f := (·.1)) (mem_of_lookup e)) hd.1
      by_cases hk : kindOf x = some .local
      · simp [hk, hr]
      · simp [hk]
    · have hb : (x == n) = false := beq_eq_false_iff_ne.mpr hx
      by_cases hk : kindOf x = some .local
      · by_cases hn : kindOf n = some .local <;> simp [hk, hn, hb, hx]
      · by_cases hn : kindOf n = some .local <;> simp [hk, hn, hx]
theorem bindC_at (kindOf : Str → Option NameKind) : ∀ (binds : List (Str × Value)) (m : Str → Option Value), (binds.map (·.1)).Nodup → ∀ x, bindC kindOf binds m x = if kindOf x = some .local then m x else (binds.lookup x).or (m x)
  | [], m, _, x => by simp [bindC]
  | (n, v) :: r, m, hd, x => by
    simp only [List.map_cons, List.nodup_cons] at hd
    unfold bindC
    rw [bindC_at kindOf r _ hd.2 x, List.lookup_cons]
    by_cases hx : x = n
    · subst hx
      have hr : r.lookup x = none := by
        cases e : r.lookup x with
        | none => rfl
        | some u => exact absurd (List.mem_map_of_mem (f := (·.1)) (mem_of_lookup e)) hd.1
      by_cases hk : kindOf x = some .local
      · simp [hk]
      · simp [hk, hr]
    · have hb : (x == n) = false := beq_eq_false_iff_ne.mpr hx
      by_cases hk : kindOf x = some .local
      · by_cases hn : kindOf n = some .local <;> simp [hk, hn, hx]
      · by_cases hn : kindOf n = some .local <;> simp [hk, hn, hb, hx]
theorem len1 {α : Type} {l : List α} (h : l.length = 1) : ∃ a, l = [a] := by
  cases l with
  | nil => cases h
  | cons a r => cases r with
    | nil => exact ⟨a, rfl⟩
    | cons _ _ => cases h
theorem lenS {α : Type} {n : Nat} {l : List α} (h : l.length = n + 1) : ∃ a r, l = a :: r ∧ r.length = n := by
  cases l with
  | nil => cases h
  | cons a r => exact ⟨a, r, rfl, Nat.succ.inj h⟩
theorem len2 {α : Type} {l : List α} (h : l.length = 2) : ∃ a b, l = [a, b] := by
  obtain ⟨a, r, rfl, q⟩ := lenS h
  obtain ⟨b, rfl⟩ := len1 q
  exact ⟨a, b, rfl⟩
theorem len3 {α : Type} {l : List α} (h : l.length = 3) : ∃ a b c, l = [a, b, c] := by
  obtain ⟨a, r, rfl, q⟩ := lenS h
  obtain ⟨b, c, rfl⟩ := len2 q
  exact ⟨a, b, c, rfl⟩
theorem zip_keys {α : Type} : ∀ (names : List Str) (vs : List α), vs.length = names.length → (names.zip vs).map (·.1) = names
  | [], [], _ => rfl
  | [], _ :: _, h => by simp at h
  | _ :: _, [], h => by simp at h
  | x :: r, v :: vs, h => by simp [zip_keys r vs (by simpa using h)]
theorem zip_lookup {n : Nat} {θ : Th} (names : List Str) {args : List AV} {vs : List Value} (h : All2 (VR n θ) args vs) (x : Str) : OVR n θ ((names.zip args).lookup x) ((names.zip vs).lookup x) := by
  induction h generalizing names with
  | nil => rw [List.zip_nil_right, List.zip_nil_right]; trivial
  | cons h _ ih => cases names with
    | nil => trivial
    | cons y r =>
      simp only [List.zip_cons_cons, List.lookup_cons]
      cases x == y with
      | true => exact h
      | false => exact ih r
noncomputable def extN (θ : Th) (n : Nat) (as : List Addr) : Th := fun l => if l < n then θ l else (as[l - n]?).getD 0
theorem R.pushN {c : Cx} {h h' : Heap} {θ : Th} {σ os : List AO} {as : List Addr} (r : R c θ σ h) (hk : ∀ b o, h.get? b = some o → h'.get? b = some o) (hl : as.length = os.length) (ha : ∀ a ∈ as, h.get? a = none) (nd : as.Nodup)
    (ho : ∀ (j : Nat) (o : AO) (a : Addr), os[j]? = some o → as[j]? = some a → ORep c (σ.length + os.length) (extN θ σ.length as) h' a o) :
    R c (extN θ σ.length as) (σ ++ os) h' ∧ Ext σ.length θ h (σ ++ os).length (extN θ σ.length as) h' := by
  have hlen : (σ ++ os).length = σ.length + os.length := by simp
  have old : ∀ l, l < σ.length → extN θ σ.length as l = θ l := fun l hl => if_pos hl
  have new : ∀ l, σ.length ≤ l → l < σ.length + os.length → ∃ a, as[l - σ.length]? = some a ∧ extN θ σ.length as l = a := fun l h1 h2 => by
    have h3 : l - σ.length < as.length := by omega
    refine ⟨as[l - σ.length], List.getElem?_eq_getElem h3, ?_⟩
    unfold extN
    rw [if_neg (by omega), List.getElem?_eq_getElem h3]; rfl
  have nn : ∀ l, σ.length ≤ l → l < σ.length + os.length → h.get? (extN θ σ.length as l) = none := fun l h1 h2 => by
    obtain ⟨a, e1, e2⟩ := new l h1 h2
    rw [e2]; exact ha a (List.mem_of_getElem? e1)
  refine ⟨⟨fun b o e => hk b o (r.keep b o e), fun l o e => ?_, ?_, ?_⟩, ⟨by rw [hlen]; omega, old, fun b o _ e => hk b o e, fun l h1 h2 => nn l h1 (by omega)⟩⟩
  · rw [hlen]
    by_cases hn : l < σ.length
    · rw [List.getElem?_append_left hn] at e
      rw [old l hn]
      exact ((r.obj l o e).congr fun o'' e'' => hk _ _ e'').mono (by omega) old
    · have hl' : l < σ.length + os.length := hlen ▸ lt_of_get e
      rw [List.getElem?_append_right (by omega)] at e
      obtain ⟨a, e1, e2⟩ := new l (by omega) hl'
      rw [e2]; exact ho _ o a e e1
  · rw [hlen]
    intro l l' h1 h2 e
    by_cases n1 : l < σ.length <;> by_cases n2 : l' < σ.length
    · rw [old l n1, old l' n2] at e; exact r.inj l l' n1 n2 e
    · obtain ⟨o, q⟩ := r.alive n1
      have := nn l' (by omega) h2
      rw [← e, old l n1, q] at this; cases this
    · obtain ⟨o, q⟩ := r.alive n2
      have := nn l (by omega) h1
      rw [e, old l' n2, q] at this; cases this
    · obtain ⟨a, e1, e2⟩ := new l (by omega) h1
      obtain ⟨a', e1', e2'⟩ := new l' (by omega) h2
      rw [e2, e2'] at e
      subst e
      obtain ⟨i1, i2⟩ := List.getElem?_eq_some_iff.mp e1
      obtain ⟨j1, j2⟩ := List.getElem?_eq_some_iff.mp e1'
      have := (List.getElem_inj nd).mp (i2.trans j2.symm)
      omega
  · rw [hlen]
    intro l hl'
    by_cases hn : l < σ.length
    · rw [old l hn]; exact r.off l hn
    · cases e : c.base.get? (extN θ σ.length as l) with
      | none => rfl
      | some o => have := r.keep _ o e; rw [nn l (by omega) hl'] at this; cases this
structure FnIs (c : Cx) (a : Addr) (names : List Str) (body : List Stmt) (sc : Scope) (cd : Value) (q : Str) : Prop where
  ex : ∃ o fd, c.base.get? a = some o ∧ o.data = .func fd ∧ c.base.CodeRec fd.code fd.qualname ∧ fd.body = .stmts body ∧ fd.closure = [] ∧ fd.scope = sc ∧ fd.globals = mainGlobals ∧ fd.builtins = builtinsNs ∧ fd.code = cd ∧ fd.qualname ++ ".<locals>." = q ∧
    ∀ vs : List Value, vs.length = names.length → bindArgs fd ⟨vs, []⟩ = pure (names.zip vs)
  co : sc.isCoroutine = false
  gen : sc.isGenerator = false
  kind : sc.kind = .function
noncomputable def entryO (names : List Str) (tbl : List Str) (k : Nat) (cells : List Str) (args : List AV) : List AO :=
  .ns k (tbl.map fun x => (names.zip args).lookup x) :: cells.map fun x => .cell ((names.zip args).lookup x)
noncomputable def retOf : Option (AF × List AO) → Option (AV × List AO)
  | some (.ret v, σ) => some (v, σ)
  | some (.next, σ) => some (.none, σ)
  | _ => none
noncomputable def fnM (names tbl : List Str) (k : Nat) (cells : List Str) (B : Nat → St AF) (args : List AV) : St AV := fun σ => match args.length == names.length with
  | true => retOf (B σ.length (σ ++ entryO names tbl k cells args))
  | false => none
noncomputable def CallC (c : Cx) (d : Nat) (f : Value) (F : List AV → St AV) : Prop :=
  ∀ A θ σ (s : Shared) args vs v σ' (RR : Result → Shared → Prop), Ok d A → R c θ σ s.heap → All2 (VR σ.length θ) args vs → F args σ = some (v, σ') →
    (∀ u θ' s', Post c θ σ s θ' σ' s' → VR σ'.length θ' v u → RR (.ok (.ret u)) s') → codeAny (model c.prog c.w) A (.call f ⟨vs, []⟩) RR s
theorem CallC.r {c : Cx} {d : Nat} {f : Value} {F : List AV → St AV} (h : CallC c d f F) : CallR c d f F := fun A θ σ s args vs v σ' ok rr ha e =>
  wpAny_call (h A θ σ s args vs v σ' _ ok rr ha e fun _ θ' _ p r => ⟨θ', p, r⟩)
section
variable {c : Cx}
theorem callC_fn (g : Gnd c) {a : Addr} {names : List Str} {body : List Stmt} {sc : Scope} {cd : Value} {q : Str} (F : FnIs c a names body sc cd q) (hnd : names.Nodup) {k : Nat} (htl : ∀ x ∈ c.tbl k, sc.names.lookup x = some .local) (htn : (c.tbl k).Nodup)
    (hcn : (cellNames sc.names).Nodup) (hck : ∀ x ∈ cellNames sc.names, sc.names.lookup x = some .cell) (hpk : ∀ x ∈ names, sc.names.lookup x = some .local ∨ sc.names.lookup x = some .cell ∧ x ∈ cellNames sc.names) {d : Nat} {B : Nat → St AF}
    (hB : ∀ fr, RefB c d sc ⟨fr, cellsFrom (fr + 1) sc.names [], cd, q⟩ body (B fr)) : CallC c (d + 1) (.ref a) (fnM names (c.tbl k) k (cellNames sc.names) B) := by
  intro A θ σ s args vs v σ' RR ok rr ha h hRR
  unfold fnM at h
  split at h
  rotate_left
  · cases h
  rename_i hlen
  have hlen := beq_iff_eq.mp hlen
  have hvl : vs.length = names.length := by rw [← ha.length]; exact hlen
  obtain ⟨o, fd, ho, hdata, hcd, hbody, hclo, hsc, hgl, hbi, hcode, hqual, hbind⟩ := F.ex
  subst hsc
  refine codeAny_call_cells (by have := ok.depth; omega) (rr.keep _ _ ho) hdata (g.nolimit.keeps rr.keep) (hcd.keeps rr.keep) hbody (hbind vs hvl) hclo (fun x hx => ?_) (fun s₁ X => ?_) F.co F.gen F.kind
  · have hx' : x.1 ∈ names := by
      have := List.mem_map_of_mem (f := (·.1)) hx
      rwa [zip_keys names vs hvl] at this
    rcases hpk x.1 hx' with q | ⟨q, q'⟩
    · exact .inl q
    · refine .inr ⟨q, ?_⟩
      obtain ⟨j, hj⟩ := List.getElem?_of_mem q'
      rw [cells_lookup hcn hj]; rfl
  · have hkn : (names.zip vs).map (·.1) = names := zip_keys names vs hvl
    have hnd' : ((names.zip vs).map (·.1)).Nodup := by rw [hkn]; exact hnd
    generalize hL : s.heap.objs.size = L at X
    have hLn : s.heap.get? L = none := by rw [← hL]; exact get_size_none _
    have hge : ∀ j, s.heap.get? (L + j) = none := fun j => by
      cases e : s.heap.get? (L + j) with
      | none => rfl
      | some o => exact absurd (Heap.lt_size e) (by rw [hL]; exact Nat.not_lt.mpr (Nat.le_add_right _ _))
    obtain ⟨⟨h₁, tk, rfl⟩, hns, hkeep, _⟩ := X.toInCall
    have push := rr.pushN (h' := h₁) (os := entryO names (c.tbl k) k (cellNames fd.scope.names) args) (as := (List.range (1 + (cellNames fd.scope.names).length)).map fun j => L + j) hkeep
      (by simp [entryO]; omega) (by intro x hx; obtain ⟨j, _, rfl⟩ := List.mem_map.mp hx; exact hge j)
      (List.Pairwise.map _ (fun a b h q => h (Nat.add_left_cancel q)) List.nodup_range) ?_
    rotate_left
    · intro j ob b hj hb
      have hold : ∀ l, l < σ.length → extN θ σ.length ((List.range (1 + (cellNames fd.scope.names).length)).map fun j => L + j) l = θ l := fun l hl => if_pos hl
      have har : All2 (VR (σ.length + (entryO names (c.tbl k) k (cellNames fd.scope.names) args).length) (extN θ σ.length ((List.range (1 + (cellNames fd.scope.names).length)).map fun j => L + j))) args vs :=
        ha.mono fun _ _ x => x.mono (Nat.le_add_right _ _) hold
      cases j with
      | zero =>
        simp [entryO] at hj
        subst hj
        have hb : L = b := by
          rw [List.getElem?_map, List.getElem?_range (by omega)] at hb
          simpa using hb
        subst hb
        refine ⟨by simp, htn, _, hns, fun i x v h1 h2 => ?_⟩
        rw [List.getElem?_map, h1] at h2
        simp only [Option.map_some, Option.some.injEq] at h2
        subst h2
        rw [bindL_at _ _ _ hnd']
        have : (callEnvC fd L a).kindOf x = some .local := htl x (List.mem_of_getElem? h1)
        rw [if_pos this, Option.or_none]
        exact zip_lookup names har x
      | succ j =>
        simp only [entryO, List.getElem?_cons_succ, List.getElem?_map] at hj
        cases hx : (cellNames fd.scope.names)[j]? with
        | none => rw [hx] at hj; cases hj
        | some x =>
          rw [hx] at hj
          simp only [Option.map_some, Option.some.injEq] at hj
          subst hj
          have hjl := lt_of_get hx
          have hb : L + (j + 1) = b := by
            rw [List.getElem?_map, List.getElem?_range (by omega)] at hb
            simpa using hb
          subst hb
          have := X.cell x (L + 1 + j) (by show (cellsFrom (L + 1) fd.scope.names []).lookup x = _; exact cells_lookup hcn hx)
          obtain ⟨o', ho', hd'⟩ := this
          refine ⟨o', _, by rw [show L + (j + 1) = L + 1 + j by omega]; exact ho', hd', ?_⟩
          rw [bindC_at _ _ _ hnd']
          have : ¬ (callEnvC fd L a).kindOf x = some .local := by
            show ¬ fd.scope.names.lookup x = _
            rw [hck x (List.mem_of_getElem? hx)]; decide
          rw [if_neg this, Option.or_none]
          exact zip_lookup names har x
    obtain ⟨r₁, e₁⟩ := push
    generalize hθ : extN θ σ.length ((List.range (1 + (cellNames fd.scope.names).length)).map fun j => L + j) = θ₁ at r₁ e₁
    have hat : ∀ j, j < 1 + (cellNames fd.scope.names).length → θ₁ (σ.length + j) = L + j := fun j hj => by
      rw [← hθ]; unfold extN
      rw [if_neg (by omega), List.getElem?_map, Nat.add_sub_cancel_left, List.getElem?_range hj]; rfl
    have hlen₁ : (σ ++ entryO names (c.tbl k) k (cellNames fd.scope.names) args).length = σ.length + (1 + (cellNames fd.scope.names).length) := by simp [entryO]; omega
    have ev : EnvR fd.scope (σ ++ entryO names (c.tbl k) k (cellNames fd.scope.names) args).length θ₁ ⟨σ.length, cellsFrom (σ.length + 1) fd.scope.names [], cd, q⟩ (callEnvC fd L a) := by
      refine ⟨rfl, ?_, by rw [hlen₁]; show σ.length < _; omega, ?_, fun p hp => ?_, hgl, hbi, F.kind, hcode, hqual⟩
      · show L = θ₁ σ.length
        have := hat 0 (by omega)
        simpa using this.symm
      · show cellsFrom (L + 1) fd.scope.names [] = (cellsFrom (σ.length + 1) fd.scope.names []).map _
        rw [cellsFrom_eq, cellsFrom_eq, List.append_nil, List.append_nil, List.map_reverse]
        congr 1
        have : ∀ (l : List Str) (n i : Nat), n + i + l.length ≤ 1 + (cellNames fd.scope.names).length → numbered (L + n + i) l = (numbered (σ.length + n + i) l).map fun p => (p.1, θ₁ p.2) := by
          intro l
          induction l with
          | nil => intros; rfl
          | cons x r ih =>
            intro n i hni
            simp only [List.length_cons] at hni
            simp only [numbered, List.map_cons]
            have h1 := hat (n + i) (by omega)
            rw [← Nat.add_assoc, ← Nat.add_assoc] at h1
            rw [h1]
            have := ih n (i + 1) (by omega)
            rw [← Nat.add_assoc, ← Nat.add_assoc] at this
            rw [this]
        have := this (cellNames fd.scope.names) 1 0 (by omega)
        simpa using this
      · rw [cellsFrom_eq, List.append_nil] at hp
        obtain ⟨_, h2, h3, _⟩ := numbered_mem _ _ _ (List.mem_reverse.mp hp)
        rw [hlen₁]; omega
    cases hb : B σ.length (σ ++ entryO names (c.tbl k) k (cellNames fd.scope.names) args) with
    | none => rw [hb] at h; cases h
    | some q =>
      obtain ⟨f, σ₂⟩ := q
      rw [hb] at h
      have p₁ : Post c θ σ s θ₁ (σ ++ entryO names (c.tbl k) k (cellNames fd.scope.names) args) { s with heap := h₁, toks := tk } := ⟨⟨_, _, rfl⟩, e₁, r₁⟩
      refine wpAny_mono (hB σ.length (A.deeper (callEnvC fd L a)) θ₁ _ _ _ f σ₂ ok.deeper r₁ ev hb) (fun g s₂ ⟨θ₂, p₂, r₂⟩ => ?_) fun _ _ x => x.elim
      cases f with
      | next => cases r₂; cases h; exact hRR _ θ₂ _ (p₁.trans p₂) rfl
      | ret u => obtain ⟨u', rfl, r₂⟩ := r₂; cases h; exact hRR _ θ₂ _ (p₁.trans p₂) r₂
      | brk => cases h
      | cont => cases h
end
end Mine
end
section
namespace Mine
open PySem PySem.Spec PySem.Calls PyProof.Rows PySem.W
noncomputable def intsOf : List AV → Option (List Int)
  | [] => some []
  | .int i :: r => match intsOf r with
    | some l => some (i :: l)
    | none => none
  | _ :: _ => none
noncomputable def strsOf : List AV → Option (List (List Nat))
  | [] => some []
  | .str i :: r => match strsOf r with
    | some l => some (i :: l)
    | none => none
  | _ :: _ => none
noncomputable def sumI : List Int → Int
  | [] => 0
  | x :: r => x + sumI r
noncomputable def lowA (x : Nat) : Nat := match Nat.ble 65 x && Nat.ble x 90 with
  | true => x + 32
  | false => x
noncomputable def lenF : List AV → St AV
  | [.str s] => guardM (okSz s.length) (St.pure (.int (s.length : Nat)))
  | [.ref l] => fun σ => match σ[l]? with
    | some (.list xs) => guardM (okSz xs.length) (St.pure (.int (xs.length : Nat))) σ
    | some (.sdict xs) => guardM (okSz xs.length) (St.pure (.int (xs.length : Nat))) σ
    | some (.idict xs) => guardM (okSz xs.length) (St.pure (.int (xs.length : Nat))) σ
    | _ => none
  | _ => St.fail
noncomputable def chrF : List AV → St AV
  | [.int i] => guardM (decide (0 ≤ i) && decide (i ≤ 1114111)) (St.pure (.str [i.toNat]))
  | _ => St.fail
noncomputable def ordF : List AV → St AV
  | [.str [x]] => St.pure (.int (x : Nat))
  | _ => St.fail
noncomputable def minF : List AV → St AV
  | [.int a, .int b] => St.pure (.int (if b < a then b else a))
  | _ => St.fail
noncomputable def maxF : List AV → St AV
  | [.int a, .int b] => St.pure (.int (if b > a then b else a))
  | _ => St.fail
noncomputable def absF : List AV → St AV
  | [.int a] => St.pure (.int (a.natAbs : Nat))
  | _ => St.fail
noncomputable def intF : List AV → St AV
  | [.int a] => St.pure (.int a)
  | _ => St.fail
noncomputable def typeF : List AV → St AV
  | [.int _] => St.pure (.val (.type "int"))
  | _ => St.fail
noncomputable def divmodF : List AV → St AV
  | [.int a, .int b] => guardM (Nat.blt (Nat.log2 b.natAbs) 9000 && !(b == 0)) (allocM (.tup [.int (Int.fdiv a b), .int (Int.fmod a b)]))
  | _ => St.fail
noncomputable def sumF : List AV → St AV
  | [.ref l] => fun σ => match getList l σ with
    | some xs => match intsOf xs with
      | some ns => some (.int (sumI ns), σ)
      | none => none
    | none => none
  | _ => St.fail
noncomputable def listF : List AV → St AV
  | [.str s] => guardM (okSz s.length) (allocM (.list (s.map fun x => .str [x])))
  | _ => St.fail
noncomputable def joinF : List AV → St AV
  | [.str [], .ref l] => fun σ => match getList l σ with
    | some xs => match strsOf xs with
      | some ss => guardM (okSz ss.flatten.length) (St.pure (.str ss.flatten)) σ
      | none => none
    | none => none
  | _ => St.fail
noncomputable def lowerF : List AV → St AV
  | [.str [x]] => guardM (Nat.blt x 128) (St.pure (.str [lowA x]))
  | _ => St.fail
noncomputable def strCount (s t : List Nat) : Int := Builtin.Str.occurrences ⟨s.toArray⟩ ⟨t.toArray⟩ 0 s.length (s.length + 1) |>.length
noncomputable def scountF : List AV → St AV
  | [.str s, .str t] => St.pure (.int (strCount s t))
  | _ => St.fail
noncomputable def lcountF : List AV → St AV
  | [.ref l, .int k] => fun σ => match getList l σ with
    | some xs => match intsOf xs with
      | some ns => some (.int (ns.count k : Nat), σ)
      | none => none
    | none => none
  | _ => St.fail
noncomputable def appendF : List AV → St AV
  | [.ref l, y] => St.bind (pushL l y) fun _ => St.pure .none
  | _ => St.fail
noncomputable def popF : List AV → St AV
  | [.ref l, .int k] => fun σ => match getList l σ, k == 0 with
    | some (x :: xs), true => guardM (okSz (xs.length + 1)) (fun σ => some (x, σ.set l (.list xs))) σ
    | _, _ => none
  | _ => St.fail
section
variable {c : Cx}
theorem intsOf_cons {x : AV} {xs : List AV} {ns : List Int} (h : intsOf (x :: xs) = some ns) : ∃ i l, x = .int i ∧ intsOf xs = some l ∧ ns = i :: l := by
  cases x with
  | int i =>
    unfold intsOf at h
    cases e : intsOf xs with
    | none => rw [e] at h; cases h
    | some l => rw [e] at h; cases h; exact ⟨i, l, rfl, rfl, rfl⟩
  | _ => cases h
theorem intsOf_are {n : Nat} {θ : Th} {xs : List AV} {vs : List Value} {ns : List Int} (q : All2 (VR n θ) xs vs) (h : intsOf xs = some ns) : IntsAre vs ns := by
  induction q generalizing ns with
  | nil => cases h; exact .nil
  | cons hx _ ih =>
    obtain ⟨i, l, rfl, e, rfl⟩ := intsOf_cons h
    obtain ⟨tk, rfl⟩ := hx
    exact .cons _ _ (ih e)
theorem ints_at {vs : List Value} {ns : List Int} (q : IntsAre vs ns) : ∀ (i : Nat) (v : Value), vs[i]? = some v → ∃ t, v = Value.int (ns.getD i 0) t := by
  induction q with
  | nil => intro i v h; cases h
  | cons n t r ih =>
    intro i v h
    cases i with
    | zero => cases h; exact ⟨t, rfl⟩
    | succ i => exact ih i v h
theorem preSum_eq : ∀ (ns : List Int) (k : Nat), k ≤ ns.length → preSum (fun i => ns.getD i 0) k = sumI (ns.take k)
  | ns, 0, _ => by simp [preSum, sumI]
  | ns, k + 1, h => by
    have : ∀ (l : List Int) (x : Int), sumI (l ++ [x]) = sumI l + x := by
      intro l x
      induction l with
      | nil => simp [sumI]
      | cons y r ih => simp only [List.cons_append, sumI, ih]; omega
    rw [preSum, preSum_eq ns k (by omega), List.take_add_one, List.getElem?_eq_getElem (by omega), Option.toList_some, this]
    congr 1
    simp [List.getD_eq_getElem?_getD, List.getElem?_eq_getElem (show k < ns.length by omega)]
theorem b_len (_ : Gnd c) {d : Nat} : CallR c d (.builtin "len") lenF := by
  intro A θ σ s args vs v σ' ok rr ha h
  unfold lenF at h
  split at h
  · obtain ⟨hz, h⟩ := guardM_some h
    cases h
    obtain _ | ⟨⟨t, rfl⟩, _ | _⟩ := ha
    have hz := okSz_le' hz
    refine PyProof.Rows.len_str (by simp [Str.length]; omega) (sat_toks rr _ ⟨s.toks + 1, ?_⟩)
    simp [Str.length]
  · obtain _ | ⟨⟨hl, rfl⟩, _ | _⟩ := ha
    split at h
    · rename_i xs e
      obtain ⟨hz, h⟩ := guardM_some h
      cases h
      have hz := okSz_le' hz
      obtain ⟨us, p, q⟩ := plain_list rr e
      refine PyProof.Rows.len_list (plain_isList p) (by simp [← q.length]; omega) (sat_toks rr _ ⟨s.toks + 1, ?_⟩)
      simp [q.length]
    · rename_i xs e
      obtain ⟨hz, h⟩ := guardM_some h
      cases h
      have hz := okSz_le' hz
      obtain ⟨kvs, hd, hns, q⟩ := rr.get e
      refine call_function_entry (by decide +kernel) (by decide +kernel) entry_len (args_len1 _) (wpAny_len_body_dict hns hd (by rw [← q.length]; omega) (sat_toks rr _ ⟨s.toks + 1, ?_⟩))
      rw [q.length]
    · rename_i xs e
      obtain ⟨hz, h⟩ := guardM_some h
      cases h
      have hz := okSz_le' hz
      obtain ⟨kvs, hd, hns, q⟩ := rr.get e
      refine call_function_entry (by decide +kernel) (by decide +kernel) entry_len (args_len1 _) (wpAny_len_body_dict hns hd (by rw [← q.length]; omega) (sat_toks rr _ ⟨s.toks + 1, ?_⟩))
      rw [q.length]
    · cases h
  · cases h
theorem b_chr {d : Nat} : CallR c d (.builtin "chr") chrF := by
  intro A θ σ s args vs v σ' ok rr ha h
  unfold chrF at h
  split at h
  · obtain ⟨hz, h⟩ := guardM_some h
    cases h
    obtain _ | ⟨⟨t, rfl⟩, _ | _⟩ := ha
    simp only [Bool.and_eq_true, decide_eq_true_eq] at hz
    exact chr_of_range hz.1 hz.2 (sat_toks rr _ ⟨_, rfl⟩)
  · cases h
theorem b_ord {d : Nat} : CallR c d (.builtin "ord") ordF := by
  intro A θ σ s args vs v σ' ok rr ha h
  unfold ordF at h
  split at h
  · cases h
    obtain _ | ⟨⟨t, rfl⟩, _ | _⟩ := ha
    exact P.ord_of_char (sat_toks rr _ ⟨_, rfl⟩)
  · cases h
set_option tactic.hygienic true in
theorem b_min {d : Nat} : CallR c d (.builtin "min") minF := by
  intro A θ σ s args vs v σ' ok rr ha h
  unfold minF at h
  split at h
  · rename_i a b
    cases h
    obtain _ | ⟨⟨t, rfl⟩, _ | ⟨⟨u, rfl⟩, _ | _⟩⟩ := ha
    refine min_two_ints ok.handled fun h' tk hk => ⟨θ, Post.grown rr _ _ hk, ?_⟩
    by_cases hb : b < a
    · rw [if_pos hb, if_pos hb]; exact ⟨_, rfl⟩
    · rw [if_neg hb, if_neg hb]; exact ⟨_, rfl⟩
  · cases h
set_option tactic.hygienic true in
theorem b_abs {d : Nat} : CallR c d (.builtin "abs") absF := by
  intro A θ σ s args vs v σ' ok rr ha h
  unfold absF at h
  split at h
  · rename_i a
    cases h
    obtain _ | ⟨⟨t, rfl⟩, _ | _⟩ := ha
    refine call_abs_int fun u tk => sat_toks rr _ ⟨u, ?_⟩
    congr 1
    split <;> omega
  · cases h
theorem b_int {d : Nat} : CallR c d (.type "int") intF := by
  intro A θ σ s args vs v σ' ok rr ha h
  unfold intF at h
  split at h
  · cases h
    obtain _ | ⟨⟨t, rfl⟩, _ | _⟩ := ha
    exact call_int_int (sat_same rr ⟨_, rfl⟩)
  · cases h
theorem b_type {d : Nat} : CallR c d (.type "type") typeF := by
  intro A θ σ s args vs v σ' ok rr ha h
  unfold typeF at h
  split at h
  · cases h
    obtain _ | ⟨⟨t, rfl⟩, _ | _⟩ := ha
    exact call_type_of (typeIs_int _ _ _) (by decide +kernel) (sat_same rr rfl)
  · cases h
theorem b_divmod {d : Nat} : CallR c d (.builtin "divmod") divmodF := by
  intro A θ σ s args vs v σ' ok rr ha h
  unfold divmodF at h
  split at h
  · obtain ⟨hz, h⟩ := guardM_some h
    cases h
    obtain _ | ⟨⟨t, rfl⟩, _ | ⟨⟨u, rfl⟩, _ | _⟩⟩ := ha
    simp only [Bool.and_eq_true, Bool.not_eq_true', beq_eq_false_iff_ne, ne_eq] at hz
    refine divmod_int hz.2 ?_ (.inl (PyProof.noPylong_of_log2 (by simpa using hz.1)))
    obtain ⟨θ', p, r⟩ := sat_push (o := .tup [.int _, .int _]) (ob := { cls := .type "tuple", data := .seq #[.int (Int.fdiv _ _) s.toks, .int (Int.fmod _ _) (s.toks + 1)] }) rr rfl ⟨[_, _], ⟨_, Heap.get?_push_size _ rfl, rfl, 0, rfl⟩, .cons ⟨_, rfl⟩ (.cons ⟨_, rfl⟩ .nil)⟩
    exact ⟨θ', p.trans (Post.toks p.r _), r⟩
  · cases h
set_option tactic.hygienic true in
theorem b_sum {d : Nat} : CallR c d (.builtin "sum") sumF := by
  intro A θ σ s args vs v σ' ok rr ha h
  unfold sumF at h
  split at h
  · split at h
    · rename_i l _ xs e
      split at h
      · rename_i ns hi
        cases h
        obtain _ | ⟨⟨hl, rfl⟩, _ | _⟩ := ha
        obtain ⟨us, p, q⟩ := plain_list rr (getList_some e)
        have hI := intsOf_are q hi
        refine call_sum_walkG (wpAny_pyIter_list (plain_isList p) ⟨_, _, _, _, _, _, fun i => ns.getD i 0, rfl, Walks.list (A := A.in1) ok.handled _ (θ l) (fun h => ?_) us.toArray, ⟨⟨_, Heap.get?_push_size _ rfl, rfl, rfl⟩, (plain_isList p).push _⟩, ?_, ?_, ?_⟩)
        · obtain ⟨o, ho⟩ := rr.alive hl
          exact absurd (Heap.lt_size ho) (by rw [h]; exact Nat.lt_irrefl _)
        · intro b hb
          simp only [Heap.size_push]
          rcases List.mem_cons.mp hb with rfl | hb
          · exact Nat.lt_succ_self _
          · rw [List.mem_singleton.mp hb]
            obtain ⟨o, ho⟩ := rr.alive hl
            exact Nat.lt_succ_of_lt (Heap.lt_size ho)
        · intro i v hv
          exact ints_at hI i v (by simpa using hv)
        · intro h' tk t' hk
          refine ⟨θ, Post.grown rr _ _ fun b o eb => hk b o ?_ (Heap.get?_push_of_some _ eb), t', ?_⟩
          · intro hb
            rw [List.mem_singleton.mp hb] at eb
            exact absurd (Heap.lt_size eb) (Nat.lt_irrefl _)
          · rw [preSum_eq _ _ (by simp [hI.length])]
            simp [hI.length, List.take_of_length_le]
      · cases h
    · cases h
  · cases h
set_option tactic.hygienic true in
theorem b_list {d : Nat} : CallR c d (.type "list") listF := by
  intro A θ σ s args vs v σ' ok rr ha h
  unfold listF at h
  split at h
  · rename_i x
    obtain ⟨hz, h⟩ := guardM_some h
    cases h
    obtain _ | ⟨⟨t, rfl⟩, _ | _⟩ := ha
    have hz := okSz_le hz
    refine call_list_str ok.handled ⟨x.toArray⟩ t (fun h' tk acc' c' hk hg hit => ?_) (by simpa using hz)
    have hcs : (Str.mk x.toArray).cps.size = x.length := by simp
    have hpl : h'.PlainList s.heap.objs.size acc' := ⟨c', hg⟩
    obtain ⟨h1, h2⟩ := hit
    rw [hcs] at h1
    have gen : ∀ (l : List Nat) (us : List Value), us.length = l.length → (∀ (j : Nat) (v : Value), us[j]? = some v → ∃ c u, l[j]? = some c ∧ v = .str ⟨#[c]⟩ u) → ∀ n θ, All2 (VR n θ) (l.map fun y => .str [y]) us := by
      intro l
      induction l with
      | nil => intro us hl _ n θ; have := List.length_eq_zero_iff.mp hl; subst this; exact .nil
      | cons a l ih =>
        intro us hl hu n θ
        cases us with
        | nil => simp at hl
        | cons u us =>
          obtain ⟨k, w, e1, e2⟩ := hu 0 u rfl
          simp at e1; subst e1
          exact .cons ⟨w, e2⟩ (ih us (by simpa using hl) (fun j v hv => by simpa using hu (j + 1) v (by simpa using hv)) n θ)
    have hall := gen x acc'.toList (by simpa using h1) (fun j v hv => by
      obtain ⟨k, u, e1, e2⟩ := h2 j v (by simpa using hv)
      exact ⟨k, u, by simpa using e1, e2⟩)
    obtain ⟨r', e'⟩ := rr.push (h' := h') (a := s.heap.objs.size) (o' := .list (x.map fun y => .str [y])) hk (get_size_none _) ⟨acc'.toList, by simpa using hpl, hall _ _⟩
    exact ⟨_, ⟨⟨_, _, rfl⟩, e', r'⟩, by simp, by rw [ext1_new]⟩
  · cases h
end
end Mine
end
section
namespace Mine
open PySem PySem.Spec PySem.Calls PyProof.Rows PySem.W
theorem lower_small : ∀ x, x < 128 → (Txt.lower ⟨#[x]⟩).cps.toList = [lowA x] := by decide +kernel
noncomputable def iterF : List AV → St AV
  | [.ref m, s] => fun σ => match σ[m]? with
    | some (.meth _ _) => allocM (.citer (.ref m) s) σ
    | _ => none
  | _ => St.fail
section
variable {c : Cx}
theorem strsOf_val {n : Nat} {θ : Th} {xs : List AV} {vs : List Value} {ss : List (List Nat)} (q : All2 (VR n θ) xs vs) (h : strsOf xs = some ss) : ∃ l : List (Str × Tok), vs = strValues l ∧ l.map (·.1) = ss.map fun x => (⟨x.toArray⟩ : Str) := by
  induction q generalizing ss with
  | nil => cases h; exact ⟨[], rfl, rfl⟩
  | @cons x _ xs _ hx _ ih =>
    cases x with
    | str i =>
      unfold strsOf at h
      cases e : strsOf xs with
      | none => rw [e] at h; cases h
      | some l =>
        rw [e] at h
        cases h
        obtain ⟨tk, rfl⟩ := hx
        obtain ⟨r, rfl, e2⟩ := ih e
        exact ⟨(⟨i.toArray⟩, tk) :: r, rfl, congrArg (_ :: ·) e2⟩
    | _ => cases h
theorem glued_flat (ss : List (List Nat)) : Builtin.Str.glued ⟨#[]⟩ (ss.map fun x => (⟨x.toArray⟩ : Str)) = ⟨ss.flatten.toArray⟩ := by
  unfold Builtin.Str.glued
  have : ∀ (l : List (List Nat)) (acc : List Nat), (l.map fun x => (⟨x.toArray⟩ : Str)).foldl (fun (a : Array Nat) p => a ++ #[] ++ p.cps) acc.toArray = (acc ++ l.flatten).toArray := by
    intro l
    induction l with
    | nil => intro acc; simp
    | cons x r ih =>
      intro acc
      have e : acc.toArray ++ #[] ++ x.toArray = (acc ++ x).toArray := by simp
      simp only [List.map_cons, List.foldl_cons]
      rw [e, ih]
      simp
  cases ss with
  | nil => rfl
  | cons x r =>
    have := this r x
    simp only [List.map_cons, List.drop_succ_cons, List.drop_zero, List.headD_cons, List.flatten_cons]
    congr 1
theorem join_total (ss : List (List Nat)) : ((ss.map fun x => (⟨x.toArray⟩ : Str)).toArray).foldl (fun (a : Nat) p => a + p.length + (⟨#[]⟩ : Str).length) 0 = ss.flatten.length := by
  rw [StrLaws.joinTotal]
  have : (⟨#[]⟩ : Str).length = 0 := rfl
  rw [this]
  simp only [Nat.mul_zero, Nat.add_zero, List.map_map]
  induction ss with
  | nil => rfl
  | cons x r ih => simp only [List.map_cons, List.sum_cons, List.flatten_cons, List.length_append, ih]; congr 1
set_option tactic.hygienic true in
theorem b_join {d : Nat} : CallR c d (.builtin "str.join") joinF := by
  intro A θ σ s args vs v σ' ok rr ha h
  unfold joinF at h
  split at h
  · split at h
    · rename_i l _ xs e
      split at h
      · rename_i ss hi
        obtain ⟨hz, h⟩ := guardM_some h
        cases h
        obtain _ | ⟨⟨t, rfl⟩, _ | ⟨⟨hl, rfl⟩, _ | _⟩⟩ := ha
        obtain ⟨us, p, q⟩ := plain_list rr (getList_some e)
        obtain ⟨ps, rfl, e2⟩ := strsOf_val q hi
        have hz := okSz_le hz
        refine call_meets F.slot_str_join (typeIs_str _ _ _) F.entry_str_join (F.args_str_join_2 _ _) (meets_str_join_list ⟨#[]⟩ t (θ l) ps ?_) ⟨plain_isList p, ?_⟩
        · rw [e2]
          have := join_total ss
          rw [this]
          simp only [Builtin.Str.tooLong, decide_eq_false_iff_not]; omega
        · cases ps with
          | nil =>
            refine ⟨?_, θ, Post.toks rr _, s.toks, ?_⟩
            · rw [e2, glued_flat]; simpa [Str.length] using hz
            · rw [e2, glued_flat]
          | cons p0 r => cases r with
            | nil =>
              cases ss with
              | nil => simp at e2
              | cons x r =>
                simp only [List.map_cons, List.map_nil, List.cons.injEq] at e2
                have hr : r = [] := by
                  cases r with
                  | nil => rfl
                  | cons _ _ => simp at e2
                subst hr
                refine ⟨θ, Post.refl rr, p0.2, ?_⟩
                show Value.str p0.1 p0.2 = _
                rw [e2.1]; simp
            | cons p1 r =>
              refine ⟨?_, θ, Post.toks rr _, s.toks, ?_⟩
              · rw [e2, glued_flat]; simpa [Str.length] using hz
              · rw [e2, glued_flat]
      · cases h
    · cases h
  · cases h
set_option tactic.hygienic true in
theorem b_lower {d : Nat} : CallR c d (.builtin "str.lower") lowerF := by
  intro A θ σ s args vs v σ' ok rr ha h
  unfold lowerF at h
  split at h
  · rename_i x
    obtain ⟨hz, h⟩ := guardM_some h
    cases h
    obtain _ | ⟨⟨t, rfl⟩, _ | _⟩ := ha
    have hx : x < 128 := by simpa using hz
    have e := lower_small x hx
    have e0 : (Txt.lower ⟨#[x]⟩).cps = [lowA x].toArray := Array.toList_inj.mp (by rw [e])
    have e' : Txt.lower ⟨#[x]⟩ = ⟨[lowA x].toArray⟩ := by
      show (⟨(Txt.lower ⟨#[x]⟩).cps⟩ : Str) = _
      rw [e0]
    refine SC.lower (by show Builtin.Str.tooLong (Txt.lower ⟨#[x]⟩).length = false; rw [e']; rfl) (sat_toks rr _ ⟨s.toks, ?_⟩)
    show Value.str (Txt.lower ⟨#[x]⟩) _ = _
    rw [e']
  · cases h
theorem b_scount {d : Nat} : CallR c d (.builtin "str.count") scountF := by
  intro A θ σ s args vs v σ' ok rr ha h
  unfold scountF at h
  split at h
  · cases h
    obtain _ | ⟨⟨t, rfl⟩, _ | ⟨⟨u, rfl⟩, _ | _⟩⟩ := ha
    exact SC.count (sat_toks rr _ ⟨s.toks, by simp [strCount, Txt.count, Str.length]⟩)
  · cases h
theorem b_append {d : Nat} : CallR c d (.builtin "list.append") appendF := by
  intro A θ σ s args vs v σ' ok rr ha h
  unfold appendF at h
  split at h
  · obtain ⟨u, σ₁, h1, h⟩ := St.bind_some h
    cases h
    obtain _ | ⟨⟨hl, rfl⟩, _ | ⟨hy, _ | _⟩⟩ := ha
    exact wpAny_mono (append_ok (A := A) rr hy h1) (fun r s' ⟨e, p⟩ => ⟨θ, p, e⟩) fun _ _ x => x
  · cases h
set_option tactic.hygienic true in
theorem b_pop {d : Nat} : CallR c d (.builtin "list.pop") popF := by
  intro A θ σ s args vs v σ' ok rr ha h
  unfold popF at h
  split at h
  · rename_i l k
    split at h
    · rename_i x xs e hk
      obtain ⟨hz, h⟩ := guardM_some h
      cases h
      have hk := beq_iff_eq.mp hk
      subst hk
      obtain _ | ⟨⟨hl, rfl⟩, _ | ⟨⟨u, rfl⟩, _ | _⟩⟩ := ha
      have e := getList_some e
      obtain ⟨us, ⟨n, p⟩, q⟩ := plain_list rr e
      obtain _ | ⟨hx, q⟩ := q
      rename_i y ys
      have hz := okSz_le hz
      have hys : (y :: ys).toArray.size ≤ sizeLine := by simp [← q.length]; exact hz
      refine call_meets F.slot_list_pop ⟨_, p, rfl⟩ F.entry_list_pop (F.args_list_pop_2 _ _) (MeetsSeq.list_pop_at (θ l) _ n 0 u 0 y (by decide) ?_ (by simp) hys) ⟨p, ?_⟩
      · show seqIndex? 0 (y :: ys).toArray.size = some 0
        simp [seqIndex?]
      · have hs : Heap.SameBut (θ l) s.heap (s.heap.update (θ l) (Obj.mapSeq fun xs => xs.eraseIdxIfInBounds 0)) := Heap.SameBut.update ..
        have hu := IsL.update p (fun xs => xs.eraseIdxIfInBounds 0)
        have he : (y :: ys).toArray.eraseIdxIfInBounds 0 = ys.toArray := kl_erase [] ys y
        rw [he] at hu
        obtain ⟨r', e'⟩ := rr.set (o' := .list xs) hl hs ⟨ys, ⟨_, hu⟩, q⟩
        exact ⟨θ, ⟨⟨_, _, rfl⟩, e', r'⟩, by rw [List.length_set]; exact hx⟩
    · cases h
  · cases h
end
end Mine
end
section
namespace Mine
open PySem PySem.Spec PySem.Calls PyProof.Rows PySem.W
noncomputable def storeS (k : List Nat) (v : AV) : List (List Nat × AV) → List (List Nat × AV)
  | [] => [(k, v)]
  | e :: r => match e.1 == k with
    | true => (e.1, v) :: r
    | false => e :: storeS k v r
noncomputable def storeI (k : Int) (v : AV) : List (Int × AV) → List (Int × AV)
  | [] => [(k, v)]
  | e :: r => match e.1 == k with
    | true => (e.1, v) :: r
    | false => e :: storeI k v r
noncomputable def setM (v a i : AV) : St Unit := fun σ => match a, i with
  | .ref l, .int k => match σ[l]? with
    | some (.list xs) => guardM (decide (0 ≤ k) && Nat.blt k.toNat xs.length && okSz xs.length) (fun σ => some ((), σ.set l (.list (xs.set k.toNat v)))) σ
    | some (.idict es) => guardM (okSz es.length) (fun σ => some ((), σ.set l (.idict (storeI k v es)))) σ
    | _ => none
  | .ref l, .str k => match σ[l]? with
    | some (.sdict es) => guardM (okSz es.length) (fun σ => some ((), σ.set l (.sdict (storeS k v es)))) σ
    | _ => none
  | _, _ => none
noncomputable def asgSubM (V P I : St AV) : St AF := St.bind V fun v => St.bind P fun a => St.bind I fun i => nextM (setM v a i)
section
variable {c : Cx}
theorem stored_cons {K : Type} [DecidableEq K] {e : K × Value} {r : List (K × Value)} {k : K} {v : Value} (hn : ((e :: r).map (·.1)).Nodup) : PySem.stored (e :: r) k v = if e.1 = k then (e.1, v) :: r else e :: PySem.stored r k v := by
  simp only [List.map_cons, List.nodup_cons] at hn
  unfold PySem.stored
  by_cases h : e.1 = k
  · subst h
    rw [if_pos rfl, if_pos (by simp)]
    simp only [List.map_cons, if_true]
    rw [map_store_of_not_mem r e.1 v hn.1]
  · rw [if_neg h]
    by_cases h2 : r.any (fun kv => decide (kv.1 = k)) = true
    · rw [if_pos h2, if_pos (by simp [h]; simpa using h2)]; simp [h]
    · rw [if_neg h2, if_neg (by simp [h]; simpa using h2)]; rfl
theorem storeS_rep {n : Nat} {θ : Th} {k : List Nat} {x : AV} {v : Value} (hx : VR n θ x v) {es : List (List Nat × AV)} {kvs : List (Str × Value)} (q : All2 (fun e d => d.1 = ⟨e.1.toArray⟩ ∧ VR n θ e.2 d.2) es kvs) (hn : (kvs.map (·.1)).Nodup) :
    All2 (fun e d => d.1 = ⟨e.1.toArray⟩ ∧ VR n θ e.2 d.2) (storeS k x es) (PySem.stored kvs ⟨k.toArray⟩ v) := by
  induction q with
  | nil => exact .cons ⟨rfl, hx⟩ .nil
  | @cons e d es kvs h t ih =>
    rw [stored_cons hn]
    unfold storeS
    have e1 : (d.1 = (⟨k.toArray⟩ : Str)) ↔ (e.1 == k) = true := by
      rw [h.1, beq_iff_eq]; simp
    cases hb : e.1 == k with
    | true => rw [if_pos (e1.mpr hb)]; exact .cons ⟨h.1, hx⟩ t
    | false => rw [if_neg (fun q => by rw [e1.mp q] at hb; cases hb)]; exact .cons h (ih (List.nodup_cons.mp hn).2)
theorem storeI_rep {n : Nat} {θ : Th} {k : Int} {x : AV} {v : Value} (hx : VR n θ x v) {es : List (Int × AV)} {kvs : List (Int × Value)} (q : All2 (fun e d => d.1 = e.1 ∧ VR n θ e.2 d.2) es kvs) (hn : (kvs.map (·.1)).Nodup) :
    All2 (fun e d => d.1 = e.1 ∧ VR n θ e.2 d.2) (storeI k x es) (PySem.stored kvs k v) := by
  induction q with
  | nil => exact .cons ⟨rfl, hx⟩ .nil
  | @cons e d es kvs h t ih =>
    rw [stored_cons hn]
    unfold storeI
    have e1 : (d.1 = k) ↔ (e.1 == k) = true := by rw [h.1, beq_iff_eq]
    cases hb : e.1 == k with
    | true => rw [if_pos (e1.mpr hb)]; exact .cons ⟨h.1, hx⟩ t
    | false => rw [if_neg (fun q => by rw [e1.mp q] at hb; cases hb)]; exact .cons h (ih (List.nodup_cons.mp hn).2)
theorem DictOf.nodup {K : Type} [DecidableEq K] {prog : Program} {w : World} {knd : KeyKind prog w K} {h : Heap} {a : Addr} {kvs : List (K × Value)} (x : h.DictOf knd a kvs) : (kvs.map (·.1)).Nodup := x.elim fun _ x => x.elim fun _ x => x.elim fun _ x => x.2.2.2.2.2
set_option tactic.hygienic true in
theorem setItem_ok {A : Around} {θ : Th} {σ σ' : List AO} {s : Shared} {v a i : AV} {vv va vi : Value} {u : Unit} (r : R c θ σ s.heap) (hv : VR σ.length θ v vv) (ha : VR σ.length θ a va) (hi : VR σ.length θ i vi) (h : setM v a i σ = some (u, σ')) :
    wpAny (model c.prog c.w) A (setItem va vi vv) (fun _ s' => Post c θ σ s θ σ' s') FF s := by
  unfold setM at h
  split at h
  · rename_i l k
    obtain ⟨hl, rfl⟩ := ha
    obtain ⟨t, rfl⟩ := hi
    split at h
    · rename_i xs e
      obtain ⟨hz, h⟩ := guardM_some h
      cases h
      simp only [Bool.and_eq_true, decide_eq_true_eq] at hz
      obtain ⟨⟨h0, h1⟩, h2⟩ := hz
      have h1 := Nat.le_of_ble_eq_true h1
      have h2 := okSz_le' h2
      obtain ⟨us, ⟨n, p⟩, q⟩ := plain_list r e
      have hsz : us.toArray.size = xs.length := by simp [q.length]
      have hp := IsL.update p (fun ys => ys.setIfInBounds k.toNat vv)
      refine ki_setAt p h0 (by omega) (by rw [hsz]; omega) ?_
      obtain ⟨r', e'⟩ := r.set (o' := .list (xs.set k.toNat v)) hl (Heap.SameBut.update ..) ⟨us.set k.toNat vv, ⟨_, by simpa using hp⟩, q.set _ hv⟩
      exact ⟨⟨_, _, rfl⟩, e', r'⟩
    · rename_i es e
      obtain ⟨hz, h⟩ := guardM_some h
      cases h
      have hz := okSz_le hz
      obtain ⟨kvs, hd, hns, q⟩ := r.get e
      refine wpAny_setItem_pairs (intKind_is c.prog c.w _ _) hd (fun h' hd' hs => ?_) (by rw [← q.length]; exact hz)
      obtain ⟨r', e'⟩ := r.set (o' := .idict (storeI _ v es)) hl hs ⟨_, hd', hns, storeI_rep hv q (DictOf.nodup hd)⟩
      exact ⟨⟨_, _, rfl⟩, e', r'⟩
    · cases h
  · obtain ⟨hl, rfl⟩ := ha
    obtain ⟨t, rfl⟩ := hi
    split at h
    · rename_i es e
      obtain ⟨hz, h⟩ := guardM_some h
      cases h
      have hz := okSz_le hz
      obtain ⟨kvs, hd, hns, q⟩ := r.get e
      refine wpAny_setItem_pairs (strKind_is c.prog c.w _ _) hd (fun h' hd' hs => ?_) (by rw [← q.length]; exact hz)
      obtain ⟨r', e'⟩ := r.set (o' := .sdict (storeS _ v es)) hl hs ⟨_, hd', hns, storeS_rep hv q (DictOf.nodup hd)⟩
      exact ⟨⟨_, _, rfl⟩, e', r'⟩
    · cases h
  · cases h
theorem s_asg_sub {d : Nat} {sc : Scope} {ae : AEnv} {o i e : Expr} {px pos : Pos} {V P I : St AV} (hV : RefE c d sc ae e V) (hP : RefE c d sc ae o P) (hI : RefE c d sc ae i I) (hs : ∀ env, swapsWith e (some (.Subscript o i px)) pos.line env = pure false) :
    RefS c d sc ae (.Assign [.Subscript o i px] e pos) (asgSubM V P I) := by
  intro A θ σ s env f σ' ok rr ev h
  obtain ⟨v, σ₁, h1, h⟩ := St.bind_some h
  obtain ⟨a, σ₂, h2, h⟩ := St.bind_some h
  obtain ⟨k, σ₃, h3, h⟩ := St.bind_some h
  obtain ⟨u, σ₄, h4, h⟩ := St.bind_some h
  cases h
  refine wpAny_Assign_Subscript (wpAny_mono (hV A θ σ s env v σ₁ ok rr ev h1) (fun vv s₁ ⟨θ₁, p₁, r₁⟩ => ?_) fun _ _ x => x) (hs env)
  refine wpAny_mono (hP A θ₁ σ₁ s₁ env a σ₂ ok p₁.r (ev.mono p₁.ext.le p₁.ext.same) h2) (fun va s₂ ⟨θ₂, p₂, r₂⟩ => ?_) fun _ _ x => x
  have p := p₁.trans p₂
  refine wpAny_mono (hI A θ₂ σ₂ s₂ env k σ₃ ok p₂.r (ev.mono p.ext.le p.ext.same) h3) (fun vk s₃ ⟨θ₃, p₃, r₃⟩ => ?_) fun _ _ x => x
  exact wpAny_mono (setItem_ok (A := A) p₃.r (p₃.vr (p₂.vr r₁)) (p₃.vr r₂) r₃ h4) (fun _ _ p₄ => ⟨θ₃, (p.trans p₃).trans p₄, rfl⟩) fun _ _ x => x
noncomputable def sdict1M (K V : St AV) : St AV := fun σ => match K (σ ++ [.sdict []]) with
  | some (.str k, σ₁) => match V σ₁ with
    | some (v, σ₂) => match σ₂[σ.length]? with
      | some (.sdict []) => some (.ref σ.length, σ₂.set σ.length (.sdict [(k, v)]))
      | _ => none
    | none => none
  | _ => none
noncomputable def storesM : List (AV → St Unit) → List AV → St Unit
  | [], [] => St.pure ()
  | f :: fs, x :: xs => St.bind (f x) fun _ => storesM fs xs
  | _, _ => St.fail
noncomputable def RefIn (c : Cx) (d : Nat) (sc : Scope) (ae : AEnv) (Ts : Env → List (Value → Sem Unit)) (Fs : List (AV → St Unit)) : Prop :=
  ∀ A θ σ s env xs vs u σ', Ok d A → R c θ σ s.heap → EnvR sc σ.length θ ae env → All2 (VR σ.length θ) xs vs → storesM Fs xs σ = some (u, σ') → Sat c A (assignInOrder (Ts env) vs) UR θ σ s u σ'
theorem in_nil {d : Nat} {sc : Scope} {ae : AEnv} : RefIn c d sc ae (fun _ => []) [] := by
  intro A θ σ s env xs vs u σ' ok rr ev ha h
  cases ha with
  | nil => cases h; exact PyProof.Rows.assignInOrder_nil ⟨θ, Post.refl rr, trivial⟩
  | cons _ _ => cases h
theorem in_cons {d : Nat} {sc : Scope} {ae : AEnv} {W : Env → Value → Sem Unit} {Ts : Env → List (Value → Sem Unit)} {F : AV → St Unit} {Fs : List (AV → St Unit)} (hW : RefW c d sc ae W F) (hT : RefIn c d sc ae Ts Fs) : RefIn c d sc ae (fun env => W env :: Ts env) (F :: Fs) := by
  intro A θ σ s env xs vs u σ' ok rr ev ha h
  cases ha with
  | nil => cases h
  | cons hx t =>
    obtain ⟨u₁, σ₁, h1, h⟩ := St.bind_some h
    refine PyProof.Rows.assignInOrder_cons (wpAny_mono (hW A θ σ s env _ _ u₁ σ₁ ok rr ev hx h1) (fun _ s₁ ⟨θ₁, p₁, _⟩ => ?_) fun _ _ x => x)
    exact wpAny_mono (hT A θ₁ σ₁ s₁ env _ _ u σ' ok p₁.r (ev.mono p₁.ext.le p₁.ext.same) (p₁.vrs t) h) (fun _ _ ⟨θ₂, p₂, r₂⟩ => ⟨θ₂, p₁.trans p₂, r₂⟩) fun _ _ x => x
theorem w_bind {d : Nat} {sc : Scope} {ae : AEnv} {x : Str} {F : AV → St Unit} (hW : RefW c d sc ae (fun env v => storeName env x v) F) : RefW c d sc ae (fun env v => bindName env x v) F := by
  intro A θ σ s env a v u σ' ok rr ev ha h
  exact PyProof.Rows.bindName_ (hW A θ σ s env a v u σ' ok rr ev ha h)
noncomputable def getTup (a : AV) (σ : List AO) : Option (List AV) := match a with
  | .ref l => match σ[l]? with
    | some (.tup xs) => some xs
    | _ => none
  | _ => none
noncomputable def asgTupM (P : St AV) (n : Nat) (Fs : List (AV → St Unit)) : St AF := St.bind P fun a => fun σ => match getTup a σ with
  | some xs => guardM (xs.length == n) (nextM (storesM Fs xs)) σ
  | none => none
noncomputable def asgSwapM (P : St AV) (n : Nat) (Fs : List (AV → St Unit)) : St AF := St.bind P fun a => fun σ => match getTup a σ with
  | some xs => guardM (xs.length == n) (nextM (storesM Fs xs.reverse)) σ
  | none => none
theorem getTup_some {a : AV} {σ : List AO} {xs : List AV} (h : getTup a σ = some xs) : ∃ l, a = .ref l ∧ σ[l]? = some (.tup xs) := by
  unfold getTup at h
  split at h
  · split at h
    · rename_i e; cases h; exact ⟨_, rfl, e⟩
    · cases h
  · cases h
theorem s_tup {d : Nat} {sc : Scope} {ae : AEnv} {elts : List Expr} {kk : Nat} {tp pos : Pos} {e : Expr} {P : St AV} {n : Nat} {Ts : Env → List (Value → Sem Unit)} {Fs : List (AV → St Unit)} (hP : RefE c d sc ae e P) (hT : RefIn c d sc ae Ts Fs)
    (he : ∀ env, (assignEach elts env).map (·.2) = Ts env) (hn : ∀ env, (assignEach elts env).length = n) (hst : ∀ env, (assignEach elts env).findIdx? (·.1) = none) (hs : ∀ env, swapsWithSole [.Tuple elts kk tp] e pos.line env = pure false)
    (hw : ∀ env, swappedStores [.Tuple elts kk tp] e env = pure none) : RefS c d sc ae (.Assign [.Tuple elts kk tp] e pos) (asgTupM P n Fs) := by
  intro A θ σ s env f σ' ok rr ev h
  obtain ⟨a, σ₁, h1, h⟩ := St.bind_some h
  cases hx : getTup a σ₁ with
  | none => simp [hx] at h
  | some xs =>
    simp only [hx] at h
    obtain ⟨hl, h⟩ := guardM_some h
    have hl := beq_iff_eq.mp hl
    obtain ⟨u, σ₂, h2, h⟩ := St.bind_some h
    cases h
    obtain ⟨l, rfl, e⟩ := getTup_some hx
    refine Assign_Tuple (wpAny_mono (hP A θ σ s env _ σ₁ ok rr ev h1) (fun va s₁ ⟨θ₁, p₁, r₁⟩ => ?_) fun _ _ x => x) (hs env) (hw env)
    obtain ⟨_, rfl⟩ := r₁
    obtain ⟨us, ht, q⟩ := p₁.r.get e
    refine assign_Tuple_tuple ok.handled ht (by rw [hn, ← hl]; simp [q.length]) (hst env) fun h' he' => ?_
    have g : Post c θ₁ σ₁ s₁ θ₁ σ₁ { s₁ with heap := h' } := Post.grown p₁.r h' _ fun b o eb => he' b o (Nat.ne_of_lt (Heap.lt_size eb)) eb
    rw [he env]
    have ev₁ := ev.mono p₁.ext.le p₁.ext.same
    exact wpAny_mono (hT A θ₁ σ₁ _ env xs us u σ' ok g.r ev₁ q h2) (fun _ _ ⟨θ₂, p₂, _⟩ => ⟨θ₂, (p₁.trans g).trans p₂, rfl⟩) fun _ _ x => x
theorem s_swap {d : Nat} {sc : Scope} {ae : AEnv} {elts : List Expr} {kk : Nat} {tp pos : Pos} {e : Expr} {P : St AV} {n : Nat} {names : List Str} {Fs : List (AV → St Unit)} (hP : RefE c d sc ae e P) (hT : RefIn c d sc ae (fun env => names.reverse.map fun x => bindName env x) Fs) (hn : names.length = n)
    (hs : ∀ env, swapsWithSole [.Tuple elts kk tp] e pos.line env = pure false)
    (hw : ∀ env, env.scope = sc → swappedStores [.Tuple elts kk tp] e env = pure (some names)) : RefS c d sc ae (.Assign [.Tuple elts kk tp] e pos) (asgSwapM P n Fs) := by
  intro A θ σ s env f σ' ok rr ev h
  obtain ⟨a, σ₁, h1, h⟩ := St.bind_some h
  cases hx : getTup a σ₁ with
  | none => simp [hx] at h
  | some xs =>
    simp only [hx] at h
    obtain ⟨hl, h⟩ := guardM_some h
    have hl := beq_iff_eq.mp hl
    obtain ⟨u, σ₂, h2, h⟩ := St.bind_some h
    cases h
    obtain ⟨l, rfl, e⟩ := getTup_some hx
    refine Assign_Tuple_swapped (wpAny_mono (hP A θ σ s env _ σ₁ ok rr ev h1) (fun va s₁ ⟨θ₁, p₁, r₁⟩ => ?_) fun _ _ x => x) (hs env) (hw env ev.scope)
    obtain ⟨_, rfl⟩ := r₁
    obtain ⟨us, ht, q⟩ := p₁.r.get e
    have hsz : names.length = us.toArray.size := by rw [hn, ← hl]; simp [q.length]
    rw [hsz]
    refine unpackItems_tuple ok.handled ht fun h' he' => ?_
    have g : Post c θ₁ σ₁ s₁ θ₁ σ₁ { s₁ with heap := h' } := Post.grown p₁.r h' _ fun b o eb => he' b o (Nat.ne_of_lt (Heap.lt_size eb)) eb
    have ev₁ := ev.mono p₁.ext.le p₁.ext.same
    exact wpAny_mono (hT A θ₁ σ₁ _ env xs.reverse us.reverse u σ' ok g.r ev₁ q.reverse h2) (fun _ _ ⟨θ₂, p₂, _⟩ => ⟨θ₂, (p₁.trans g).trans p₂, rfl⟩) fun _ _ x => x
noncomputable def iaddP : AV → AV → St AV
  | .int i, .int j => St.pure (.int (i + j))
  | .str s, .str t => guardM (okSz (s.length + t.length)) (St.pure (.str (s ++ t)))
  | _, _ => St.fail
theorem iadd_ok : AugOk c .Add iaddP := by
  intro A θ σ s a b va vb v σ' hh r ha hb h
  unfold iaddP at h
  split at h
  · cases h
    obtain ⟨t, rfl⟩ := ha
    obtain ⟨u, rfl⟩ := hb
    exact iadd_int (sat_toks r _ ⟨_, rfl⟩)
  · obtain ⟨hg, h⟩ := guardM_some h
    cases h
    obtain ⟨t, rfl⟩ := ha
    obtain ⟨u, rfl⟩ := hb
    refine SB.iadd (fun t' tk => sat_toks r _ ⟨t', ?_⟩) (by have := okSz_le hg; simpa [Str.length] using this)
    show Value.str ⟨_ ++ _⟩ _ = _
    simp
  · cases h
noncomputable def isubP : AV → AV → St AV
  | .int i, .int j => St.pure (.int (i - j))
  | _, _ => St.fail
theorem isub_ok : AugOk c .Sub isubP := by
  intro A θ σ s a b va vb v σ' hh r ha hb h
  unfold isubP at h
  split at h
  · cases h
    obtain ⟨t, rfl⟩ := ha
    obtain ⟨u, rfl⟩ := hb
    exact isub_int (sat_toks r _ ⟨_, rfl⟩)
  · cases h
end
end Mine
end
section
namespace Mine
open PySem PySem.Spec PySem.Calls PyProof.Rows PySem.W
noncomputable def smallI (a : Int) : Bool := Nat.ble a.natAbs 1000000
noncomputable def rangeArgs : List AV → Option (Int × Int × Int)
  | [.int n] => match smallI n with
    | true => some (0, n, 1)
    | false => none
  | [.int a, .int b] => match smallI a && smallI b with
    | true => some (a, b, 1)
    | false => none
  | [.int a, .int b, .int k] => match smallI a && smallI b && (k == 2) with
    | true => some (a, b, k)
    | false => none
  | _ => none
noncomputable def rangeI (a b k : Int) : List Int := (List.range (Builtin.Range.rangeSize a b k).toNat).map fun i => a + (i : Nat) * k
noncomputable def rangeIt (As : St (List AV)) : St (List AV × Live) := St.bind As fun args => fun σ => match rangeArgs args with
  | some (a, b, k) => some (((rangeI a b k).map .int, always), σ)
  | none => none
noncomputable def rangeF (args : List AV) : St AV := fun σ => match rangeArgs args with
  | some (a, b, k) => some (.ref σ.length, σ ++ [.range a b k])
  | none => none
noncomputable def listRF : List AV → St AV
  | [.ref l] => fun σ => match σ[l]? with
    | some (.range a b k) => guardM (smallI a && smallI b && (k == 1 || k == 2)) (fun σ => some (.ref σ.length, σ ++ [.list ((rangeI a b k).map .int)])) σ
    | _ => none
  | _ => St.fail
section
variable {c : Cx}
theorem smallI_le {a : Int} (h : smallI a = true) : -1000000 ≤ a ∧ a ≤ 1000000 := by
  have := Nat.le_of_ble_eq_true h
  omega
theorem range_small {a b k : Int} (ha : smallI a = true) (hb : smallI b = true) (hk : k = 1 ∨ k = 2) : Builtin.Range.small a b k = true ∧ 0 ≤ Builtin.Range.rangeSize a b k ∧ Builtin.Range.rangeSize a b k ≤ 2000000 := by
  have := smallI_le ha
  have := smallI_le hb
  have hsz : 0 ≤ Builtin.Range.rangeSize a b k ∧ Builtin.Range.rangeSize a b k ≤ 2000000 := by
    rcases hk with rfl | rfl
    · unfold Builtin.Range.rangeSize
      simp only [show (1 : Int) > 0 by decide, if_true]
      split <;> omega
    · unfold Builtin.Range.rangeSize
      simp only [show (2 : Int) > 0 by decide, if_true]
      split <;> omega
  refine ⟨?_, hsz⟩
  unfold Builtin.Range.small
  simp only [Builtin.Range.rangeFitsLong, Bool.and_eq_true, Bool.or_eq_true, decide_eq_true_eq, beq_iff_eq]
  rcases hk with rfl | rfl
  · simp only [show (1 : Int) > 0 by decide, if_true, Bool.and_eq_true, decide_eq_true_eq]; omega
  · simp only [show (2 : Int) > 0 by decide, if_true, Bool.and_eq_true, decide_eq_true_eq]; omega
theorem rangeArgs_some {args : List AV} {a b k : Int} (h : rangeArgs args = some (a, b, k)) : smallI a = true ∧ smallI b = true ∧ (k = 1 ∨ k = 2) := by
  unfold rangeArgs at h
  split at h
  · split at h
    · rename_i e; cases h; exact ⟨rfl, e, .inl rfl⟩
    · cases h
  · split at h
    · rename_i e
      cases h
      simp only [Bool.and_eq_true] at e
      exact ⟨e.1, e.2, .inl rfl⟩
    · cases h
  · split at h
    · rename_i e
      cases h
      simp only [Bool.and_eq_true, beq_iff_eq] at e
      exact ⟨e.1.1, e.1.2, .inr e.2⟩
    · cases h
  · cases h
theorem range_call {A : Around} {n : Nat} {θ : Th} {s : Shared} {args : List AV} {vs : List Value} {a b k : Int} {Q : Value → Shared → Prop} (ha : All2 (VR n θ) args vs) (h : rangeArgs args = some (a, b, k))
    (hQ : ∀ t u v tk, Q (.ref s.heap.objs.size) { s with heap := s.heap.push { cls := .type "range", data := .fields #[.int a t, .int b u, .int k v] }, toks := tk }) :
    wpAny (model c.prog c.w) A (call (.type "range") vs []) Q FF s := by
  obtain ⟨_, _, hk⟩ := rangeArgs_some h
  unfold rangeArgs at h
  split at h
  · obtain _ | ⟨⟨t, rfl⟩, _ | _⟩ := ha
    split at h
    · cases h; exact call_range_1 (hQ _ _ _ _)
    · cases h
  · obtain _ | ⟨⟨t, rfl⟩, _ | ⟨⟨u, rfl⟩, _ | _⟩⟩ := ha
    split at h
    · cases h; exact call_range_2 (hQ _ _ _ _)
    · cases h
  · obtain _ | ⟨⟨t, rfl⟩, _ | ⟨⟨u, rfl⟩, _ | ⟨⟨w, rfl⟩, _ | _⟩⟩⟩ := ha
    split at h
    · cases h
      refine call_range_3 (by rcases hk with rfl | rfl <;> decide) (hQ _ _ _ _) (.inl (PyProof.noPylong_of_log2 ?_))
      rcases hk with rfl | rfl <;> decide +kernel
    · cases h
  · cases h
theorem callWith_raw {d : Nat} {sc : Scope} {ae : AEnv} {es : List Expr} {As : St (List AV)} {f : Value} (hk : KeepOk c f) (hA : RefArgs c d sc ae es As)
    {A : Around} {θ : Th} {σ σ₁ : List AO} {s : Shared} {env : Env} {a : List AV} {pos : Pos} {Q : Value → Shared → Prop} (ok : Ok d A) (rr : R c θ σ s.heap) (ev : EnvR sc σ.length θ ae env) (h : As σ = some (a, σ₁))
    (hQ : ∀ vs θ₁ s₁, Post c θ σ s θ₁ σ₁ s₁ → All2 (VR σ₁.length θ₁) a vs → wpAny (model c.prog c.w) A (call f vs []) Q FF s₁) : wpAny (model c.prog c.w) A (callWith pos f [] (backTo pos (starEach es env)) []) Q FF s := by
  obtain ⟨h2, h3⟩ := hA A θ σ s env a σ₁ pos f ok rr ev h
  refine callWith_of (P := fun h => ∀ b o, c.base.get? b = some o → h.get? b = some o) (by simp only [h3]; rfl) (fun h q => hk h q) (wpAny_mono h2 (fun ar s₁ ⟨θ₁, p₁, kw, r₁⟩ => ⟨p₁.r.keep, ?_⟩) fun _ _ x => x)
  rw [kw]
  exact hQ ar.pos θ₁ s₁ p₁ r₁
theorem it_range {d : Nat} {sc : Scope} {ae : AEnv} {x : Str} {px pos : Pos} {es : List Expr} {As : St (List AV)} (hx : RefE c d sc ae (.Name x px) (St.pure (.val (.type "range")))) (hA : RefArgs c d sc ae es As) :
    RefI c d sc ae (.Call (.Name x px) es [] pos) (rangeIt As) := by
  intro A θ σ s env vs live σ' ok rr ev h
  obtain ⟨args, σ₁, h1, h⟩ := St.bind_some h
  cases hr : rangeArgs args with
  | none => simp [hr] at h
  | some q =>
    obtain ⟨a, b, k⟩ := q
    simp only [hr] at h
    cases h
    refine Call_ (wpAny_mono (hx A θ σ s env _ σ ok rr ev rfl) (fun vf s₁ ⟨θ₁, p₁, r₁⟩ => ?_) fun _ _ x => x)
    cases r₁
    refine callWith_raw (keep_type "range") hA ok p₁.r (ev.mono p₁.ext.le p₁.ext.same) h1 fun vs θ₂ s₂ p₂ r₂ => ?_
    obtain ⟨ha, hb, hk⟩ := rangeArgs_some hr
    obtain ⟨h1, h2, h3⟩ := range_small ha hb hk
    refine range_call r₂ hr fun t u v tk => ?_
    have g1 : Post c θ₂ σ' s₂ θ₂ σ' { s₂ with heap := s₂.heap.push { cls := .type "range", data := .fields #[.int a t, .int b u, .int k v] }, toks := tk } := Post.grown p₂.r _ _ fun b o e => Heap.get?_push_of_some _ e
    refine wpAny_pyIter_range (Heap.get?_push_size _ rfl) h1 ?_
    have p := (p₁.trans p₂).trans g1
    have h0 := get_size_none (s₂.heap.push { cls := .type "range", data := .fields #[.int a t, .int b u, .int k v] })
    refine ⟨_, θ₂, _, rfl, p.trans (Post.grown g1.r _ _ fun b o e => Heap.get?_push_of_some _ e), new_untracked g1.r h0, p.old_none rr h0, ItOk.of_walks (Walks.range ok.handled _ a k (Builtin.Range.rangeSize a b k).toNat) (by simp [rangeI]) ?_ (fun _ _ st => ⟨_, st⟩), ?_⟩
    · intro i x u h4 ⟨t', h5⟩ m θ
      rw [List.getElem?_map] at h4
      unfold rangeI at h4
      rw [List.getElem?_map] at h4
      by_cases hi : i < (Builtin.Range.rangeSize a b k).toNat
      · rw [List.getElem?_range hi] at h4
        cases h4
        exact ⟨t', h5⟩
      · rw [List.getElem?_eq_none (by simpa using hi)] at h4; cases h4
    · have e1 : a + ((0 : Nat) : Int) * k = a := by simp
      have e2 : (((Builtin.Range.rangeSize a b k).toNat : Nat) : Int) - ((0 : Nat) : Int) = Builtin.Range.rangeSize a b k := by omega
      show IsRangeIter _ _ (a + ((0 : Nat) : Int) * k) (((Builtin.Range.rangeSize a b k).toNat : Nat) - ((0 : Nat) : Int)) k
      rw [e1, e2]
      exact Heap.get?_push_size _ rfl
set_option tactic.hygienic true in
theorem b_range {d : Nat} : CallR c d (.type "range") rangeF := by
  intro A θ σ s args vs v σ' ok rr ha h
  unfold rangeF at h
  split at h
  · rename_i a b k hr
    cases h
    refine range_call ha hr fun t u w tk => ?_
    obtain ⟨θ', p, r⟩ := sat_push (o := .range a b k) (ob := { cls := .type "range", data := .fields #[.int a t, .int b u, .int k w] }) rr rfl ⟨t, u, w, Heap.get?_push_size _ rfl⟩
    exact ⟨θ', p.trans (Post.toks p.r tk), r⟩
  · cases h
set_option tactic.hygienic true in
theorem b_listr {d : Nat} : CallR c d (.type "list") listRF := by
  intro A θ σ s args vs v σ' ok rr ha h
  unfold listRF at h
  split at h
  · split at h
    · rename_i l _ a b k e
      obtain ⟨hz, h⟩ := guardM_some h
      cases h
      simp only [Bool.and_eq_true, Bool.or_eq_true, beq_iff_eq] at hz
      obtain _ | ⟨⟨hl, rfl⟩, _ | _⟩ := ha
      obtain ⟨h1, h2, h3⟩ := range_small hz.1.1 hz.1.2 hz.2
      obtain ⟨t, u, w, ho⟩ := rr.get e
      refine call_list_range (n := (Builtin.Range.rangeSize a b k).toNat) ok.handled ho h1 (by omega) (by omega) fun h' tk acc' c' hk hg hit => ?_
      have hpl : h'.PlainList s.heap.objs.size acc' := ⟨c', hg⟩
      have gen : ∀ (l : List Int) (us : List Value), us.length = l.length → (∀ (j : Nat) (v : Value), us[j]? = some v → ∃ i t, l[j]? = some i ∧ v = .int i t) → ∀ n θ, All2 (VR n θ) (l.map .int) us := by
        intro l
        induction l with
        | nil => intro us hl _ n θ; have := List.length_eq_zero_iff.mp hl; subst this; exact .nil
        | cons a l ih =>
          intro us hl hu n θ
          cases us with
          | nil => simp at hl
          | cons u us =>
            obtain ⟨k, w, e1, e2⟩ := hu 0 u rfl
            simp at e1; subst e1
            exact .cons ⟨w, e2⟩ (ih us (by simpa using hl) (fun j v hv => by simpa using hu (j + 1) v (by simpa using hv)) n θ)
      obtain ⟨i1, i2⟩ := hit
      have hall := gen (rangeI a b k) acc'.toList (by simp [rangeI, i1]) (fun j v hv => by
        obtain ⟨t, e2⟩ := i2 j v (by simpa using hv)
        have hj : j < (Builtin.Range.rangeSize a b k).toNat := by
          have := lt_of_get hv
          simp [i1] at this; omega
        refine ⟨_, t, ?_, e2⟩
        unfold rangeI
        rw [List.getElem?_map, List.getElem?_range hj]; rfl)
      obtain ⟨r', e'⟩ := rr.push (h' := h') (a := s.heap.objs.size) (o' := .list ((rangeI a b k).map .int)) hk (get_size_none _) ⟨acc'.toList, by simpa using hpl, hall _ _⟩
      exact ⟨_, ⟨⟨_, _, rfl⟩, e', r'⟩, by simp, by rw [ext1_new]⟩
    · cases h
  · cases h
noncomputable def Cut (σ σ₁ : List AO) (v₁ v : AV) (σ' : List AO) : Prop := ∃ n, σ.length ≤ n ∧ n ≤ σ₁.length ∧ (∀ i o, i < n → σ₁[i]? = some o → σ[i]? = some o ∨ o.below n) ∧
  ((v = v₁ ∧ v.below n ∧ σ' = σ₁.take n) ∨ ∃ l o, n ≤ l ∧ v₁ = .ref l ∧ σ₁[l]? = some o ∧ o.below n ∧ v = .ref n ∧ σ' = σ₁.take n ++ [o])
theorem cut_post {θ θ₁ : Th} {σ σ₁ σ' : List AO} {s s₁ : Shared} {v₁ v : AV} {u : Value} (rr : R c θ σ s.heap) (p : Post c θ σ s θ₁ σ₁ s₁) (hv : VR σ₁.length θ₁ v₁ u) (hc : Cut σ σ₁ v₁ v σ') :
    ∃ θ', Post c θ σ s θ' σ' s₁ ∧ VR σ'.length θ' v u := by
  obtain ⟨n, h1, h2, h3, h4⟩ := hc
  have hlen : (σ₁.take n).length = n := by rw [List.length_take]; exact Nat.min_eq_left h2
  have pt := Post.take rr p h1 h2 h3
  rcases h4 with ⟨rfl, hb, rfl⟩ | ⟨l, o, hl, rfl, ho, hb, rfl, rfl⟩
  · exact ⟨θ₁, pt, hlen.symm ▸ hv.down hb⟩
  · have hl' := hv.1
    rw [hv.2]
    have hlen' : (σ₁.take n ++ [o]).length = n + 1 := by rw [List.length_append, hlen]; rfl
    have old : ∀ k, k < n → k < σ₁.length := fun k hk => Nat.lt_of_lt_of_le hk h2
    have cut : ∀ k, k < (σ₁.take n ++ [o]).length → k < n ∨ k = n := fun k hk => by rw [hlen'] at hk; exact Nat.lt_succ_iff_lt_or_eq.mp hk
    have hne : ∀ k, k < n → θ₁ k ≠ θ₁ l := fun k hk e => absurd (p.r.inj k l (old k hk) hl' e) (Nat.ne_of_lt (Nat.lt_of_lt_of_le hk hl))
    have e1 : ∀ k, k < n → ext1 θ₁ n (θ₁ l) k = θ₁ k := fun k hk => ext1_old hk
    have e2 : ext1 θ₁ n (θ₁ l) n = θ₁ l := ext1_new
    generalize ext1 θ₁ n (θ₁ l) = θ' at e1 e2
    refine ⟨θ', ⟨p.st, ⟨hlen'.symm ▸ Nat.le_succ_of_le h1, fun k hk => (e1 k (Nat.lt_of_lt_of_le hk h1)).trans (p.ext.same k hk), p.ext.keeps, fun k k1 k2 => ?_⟩, ⟨pt.r.keep, fun k q hq => ?_, fun k k' hk hk' e => ?_, fun k hk => ?_⟩⟩, hlen'.symm ▸ Nat.lt_succ_self n, e2.symm ▸ rfl⟩
    · rcases cut k k2 with hk | rfl
      · rw [e1 k hk]; exact p.ext.fresh k k1 (old k hk)
      · rw [e2]; exact p.ext.fresh l (Nat.le_trans h1 hl) hl'
    · rw [hlen']
      rcases cut k (lt_of_get hq) with hk | rfl
      · rw [List.getElem?_append_left (hlen.symm ▸ hk)] at hq
        rw [e1 k hk]
        have := pt.r.obj k q hq
        rw [hlen] at this
        exact this.mono (Nat.le_succ n) e1
      · rw [List.getElem?_append_right (Nat.le_of_eq hlen), hlen, Nat.sub_self] at hq
        cases hq
        rw [e2]
        exact ((p.r.obj l o ho).down hb).mono (Nat.le_succ k) e1
    · rcases cut k hk with hk | rfl <;> rcases cut k' hk' with hk' | rfl
      · rw [e1 k hk, e1 k' hk'] at e; exact p.r.inj k k' (old k hk) (old k' hk') e
      · rw [e1 k hk, e2] at e; exact absurd e (hne k hk)
      · rw [e1 k' hk', e2] at e; exact absurd e.symm (hne k' hk')
      · rfl
    · rcases cut k hk with hk | rfl
      · rw [e1 k hk]; exact p.r.off k (old k hk)
      · rw [e2]; exact p.r.off l hl'
theorem CallC.cut {d : Nat} {f : Value} {F G : List AV → St AV} (hF : CallC c d f F) (h : ∀ args σ v σ', G args σ = some (v, σ') → ∃ v₁ σ₁, F args σ = some (v₁, σ₁) ∧ Cut σ σ₁ v₁ v σ') : CallC c d f G := by
  intro A θ σ s args vs v σ' RR ok rr ha e hRR
  obtain ⟨v₁, σ₁, e1, hc⟩ := h args σ v σ' e
  refine hF A θ σ s args vs v₁ σ₁ RR ok rr ha e1 fun u θ₁ s₁ p r => ?_
  obtain ⟨θ', p', r'⟩ := cut_post rr p r hc
  exact hRR u θ' s₁ p' r'
theorem Cut.pure {σ junk : List AO} {v : AV} (hv : v.below σ.length) : Cut σ (σ ++ junk) v v σ :=
  ⟨σ.length, Nat.le_refl _, by simp, fun i o h e => .inl (by rwa [List.getElem?_append_left h] at e), .inl ⟨rfl, hv, by simp⟩⟩
theorem Cut.list {σ junk : List AO} {o : AO} {l : Nat} (ho : junk[l]? = some o) (hb : o.below σ.length) : Cut σ (σ ++ junk) (.ref (σ.length + l)) (.ref σ.length) (σ ++ [o]) :=
  ⟨σ.length, Nat.le_refl _, by simp, fun i o h e => .inl (by rwa [List.getElem?_append_left h] at e), .inr ⟨σ.length + l, o, by omega, rfl, by rw [List.getElem?_append_right (by omega)]; simpa using ho, hb, rfl, by simp⟩⟩
end
end Mine
end
section
namespace Mine
open PySem PySem.Spec PySem.Calls PyProof.Rows PySem.W
noncomputable def storeA (k : Str) (v : AV) : List (Str × AV) → List (Str × AV)
  | [] => [(k, v)]
  | e :: r => match e.1 == k with
    | true => (e.1, v) :: r
    | false => e :: storeA k v r
noncomputable def lookA (k : Str) : List (Str × AV) → Option AV
  | [] => none
  | e :: r => match e.1 == k with
    | true => some e.2
    | false => lookA k r
noncomputable def plainV : AV → Bool
  | .val _ => false
  | _ => true
noncomputable def instOf (C : Addr) (a : AV) (σ : List AO) : Option (Nat × List (Str × AV)) := match a with
  | .ref x => match σ[x]? with
    | some (.inst C' d) => match C' == C, σ[d]? with
      | true, some (.attrs es) => some (d, es)
      | _, _ => none
    | _ => none
  | _ => none
noncomputable def attrV (C : Addr) (name : Str) (a : AV) : St AV := fun σ => match instOf C a σ with
  | some (_, es) => match lookA name es with
    | some v => guardM (plainV v) (St.pure v) σ
    | none => none
  | none => none
noncomputable def attrM (C : Addr) (name : Str) (P : St AV) : St AV := St.bind P (attrV C name)
noncomputable def setA (C : Addr) (name : Str) (v a : AV) : St Unit := fun σ => match instOf C a σ with
  | some (d, es) => guardM (Nat.ble es.length 100) (fun σ => some ((), σ.set d (.attrs (storeA name v es)))) σ
  | none => none
noncomputable def asgAttrM (C : Addr) (name : Str) (V P : St AV) : St AF := St.bind V fun v => St.bind P fun a => nextM (setA C name v a)
noncomputable def augAttrM (C : Addr) (name : Str) (P V : St AV) (F : AV → AV → St AV) : St AF := St.bind P fun a => St.bind (attrV C name a) fun old => St.bind V fun v => St.bind (F old v) fun r => nextM (setA C name r a)
structure Kit (c : Cx) (K : Frag) (C : Addr) : Prop where
  x : K.In c.base
  get : plainGet K C "" = true
  dict : hasDictIn K C = true
  setter : findIn K (.ref C) "__setattr__" = some (some (.builtin "object.__setattr__"))
  over : plainOver K C = true
section
variable {c : Cx}
theorem attrs_find {n : Nat} {θ : Th} (k : Str) {es : List (Str × AV)} {ds : List DictEntry} (q : All2 (fun e d => (∃ t, d.key = .str e.1 t) ∧ VR n θ e.2 d.val) es ds) :
    (∀ v, lookA k es = some v → ∃ u, getL k ds = some (some u) ∧ VR n θ v u) ∧ (lookA k es = none → getL k ds = some none) := by
  induction q with
  | nil => exact ⟨fun v h => (by cases h), fun _ => rfl⟩
  | @cons e d es ds h r ih =>
    have h1 := h.1
    have e1 : d.key.isStr k = (e.1 == k) := h1.elim fun t h1 => by rw [h1]; rfl
    have e3 : d.refKey = false := h1.elim fun t h1 => by unfold DictEntry.refKey; rw [h1]
    unfold lookA getL
    rw [List.find?_cons, e1]
    cases hb : e.1 == k with
    | true => exact ⟨fun v q => (by cases q; exact ⟨_, rfl, h.2⟩), fun h => (by cases h)⟩
    | false =>
      simp only
      unfold getL at ih
      rw [List.any_cons, e3, Bool.false_or]
      exact ih
theorem attrs_store {n : Nat} {θ : Th} {k : Str} {x : AV} {v : Value} {hsh : Int} {t : Tok} (hx : VR n θ x v) {es : List (Str × AV)} {ds : List DictEntry} (q : All2 (fun e d => (∃ t, d.key = .str e.1 t) ∧ VR n θ e.2 d.val) es ds) :
    All2 (fun e d => (∃ t, d.key = .str e.1 t) ∧ VR n θ e.2 d.val) (storeA k x es) (putL k hsh (.str k t) v ds) := by
  induction q with
  | nil => exact .cons ⟨⟨t, rfl⟩, hx⟩ .nil
  | @cons e d es ds h r ih =>
    have e1 : d.key.isStr k = (e.1 == k) := h.1.elim fun t h1 => by rw [h1]; rfl
    unfold storeA putL
    rw [e1]
    cases hb : e.1 == k with
    | true => exact .cons ⟨h.1, hx⟩ r
    | false => exact .cons h ih
theorem storeA_len (k : Str) (v : AV) : ∀ es : List (Str × AV), (storeA k v es).length ≤ es.length + 1
  | [] => by simp [storeA]
  | e :: r => by
    unfold storeA
    cases e.1 == k with
    | true => simp
    | false => simpa using storeA_len k v r
theorem instOf_some {C : Addr} {a : AV} {σ : List AO} {d : Nat} {es : List (Str × AV)} (h : instOf C a σ = some (d, es)) : ∃ x, a = .ref x ∧ σ[x]? = some (.inst C d) ∧ σ[d]? = some (.attrs es) := by
  cases a with
  | ref x =>
    simp only [instOf] at h
    cases e1 : σ[x]? with
    | none => simp [e1] at h
    | some o =>
      cases o with
      | inst C' d' =>
        simp only [e1] at h
        cases e2 : C' == C with
        | false => simp [e2] at h
        | true =>
          cases e3 : σ[d']? with
          | none => simp [e2, e3] at h
          | some o' =>
            cases o' with
            | attrs es' =>
              simp only [e2, e3] at h
              cases h
              exact ⟨x, rfl, by rw [e1, beq_iff_eq.mp e2], e3⟩
            | _ => simp [e2, e3] at h
      | _ => simp [e1] at h
  | _ => cases h
theorem inst_at {θ : Th} {σ : List AO} {h : Heap} {C : Addr} {x d : Nat} {es : List (Str × AV)} (r : R c θ σ h) (e1 : σ[x]? = some (.inst C d)) (e2 : σ[d]? = some (.attrs es)) :
    ∃ (ds : List DictEntry) (k : Nat), h.get? (θ d) = some (dictOf ds k) ∧ PySem.W.InstAt h (θ x) (instObj C (θ d)) C (some (dictOf ds k)) ∧ All2 (fun e d => (∃ t, d.key = .str e.1 t) ∧ VR σ.length θ e.2 d.val) es ds := by
  obtain ⟨_, hx⟩ := r.get e1
  obtain ⟨ds, k, hd, q⟩ := r.get e2
  exact ⟨ds, k, hd, ⟨hx, rfl, rfl, hd⟩, q⟩
theorem handed {n : Nat} {θ : Th} {a : AV} {v : Value} (h : VR n θ a v) (hp : plainV a = true) : handedIn v = true := by
  cases a with
  | none => have h : v = _ := h; rw [h]; rfl
  | bool _ => have h : v = _ := h; rw [h]; rfl
  | int _ => exact h.elim fun t h => by rw [h]; rfl
  | str _ => exact h.elim fun t h => by rw [h]; rfl
  | bytes _ => exact h.elim fun _ h => h.elim fun _ h => by rw [h.1]; rfl
  | ref _ => rw [h.2]; rfl
  | val _ => cases hp
set_option tactic.hygienic true in
theorem attr_ok {K : Frag} {C : Addr} (k : Kit c K C) {name : Str} (hf : findIn K (.ref C) name = some none) {A : Around} {θ : Th} {σ σ' : List AO} {s : Shared} {a v : AV} {va : Value} {expr : Bool} (rr : R c θ σ s.heap) (ha : VR σ.length θ a va)
    (h : attrV C name a σ = some (v, σ')) : Sat c A (getAttr va name expr) VR θ σ s v σ' := by
  unfold attrV at h
  split at h
  · rename_i d es hi
    split at h
    · rename_i w hw
      obtain ⟨hp, h⟩ := guardM_some h
      cases h
      obtain ⟨x, rfl, e1, e2⟩ := instOf_some hi
      obtain ⟨_, rfl⟩ := ha
      obtain ⟨ds, n, hd, I, q⟩ := inst_at rr e1 e2
      obtain ⟨u, hu, hv⟩ := (attrs_find name q).1 _ hw
      exact PySem.W.get_value (k.x.keeps rr.keep) I (plainGet_of k.get).1 (findObj_own k.dict hf rfl hu) (handed hv hp) (sat_toks rr _ hv)
    · cases h
  · cases h
theorem ref_attr {K : Frag} {C : Addr} (k : Kit c K C) {name : Str} (hf : findIn K (.ref C) name = some none) {d : Nat} {sc : Scope} {ae : AEnv} {o : Expr} {pos : Pos} {P : St AV} (hP : RefE c d sc ae o P)
    (he : ∀ env, eval (.Attribute o name pos) env = (do
      let o' ← eval o env
      standAt pos.atName
      let r ← holding [o'] (getAttr o' name true)
      letTemporaryGo o o' r
      pure r)) : RefE c d sc ae (.Attribute o name pos) (attrM C name P) := by
  intro A θ σ s env v σ' ok rr ev h
  obtain ⟨a, σ₁, h1, h⟩ := St.bind_some h
  refine Attribute_any_ (wpAny_mono (hP A θ σ s env a σ₁ ok rr ev h1) (fun va s₁ ⟨θ₁, p₁, r₁⟩ => ?_) fun _ _ x => x) (he env)
  exact wpAny_mono (attr_ok k hf (A := A) p₁.r r₁ h) (fun _ _ ⟨θ₂, p₂, r₂⟩ => ⟨θ₂, p₁.trans p₂, r₂⟩) fun _ _ x => x
set_option tactic.hygienic true in
theorem setA_ok {K : Frag} {C : Addr} (k : Kit c K C) {name : Str} (ht : takerIn K C name = some none) {A : Around} {θ : Th} {σ σ' : List AO} {s : Shared} {v a : AV} {vv va : Value} {u : Unit} (rr : R c θ σ s.heap) (hv : VR σ.length θ v vv) (ha : VR σ.length θ a va)
    (h : setA C name v a σ = some (u, σ')) : wpAny (model c.prog c.w) A (setAttr va name vv) (fun _ s' => Post c θ σ s θ σ' s') FF s := by
  unfold setA at h
  split at h
  · rename_i d es hi
    obtain ⟨hz, h⟩ := guardM_some h
    cases h
    have hz := Nat.le_of_ble_eq_true hz
    obtain ⟨x, rfl, e1, e2⟩ := instOf_some hi
    obtain ⟨_, rfl⟩ := ha
    obtain ⟨ds, n, hd, I, q⟩ := inst_at rr e1 e2
    have X := k.x.keeps rr.keep
    have hget : (lookIn name (dictOf ds n)).isSome = true := by
      rw [lookIn_dict]
      obtain ⟨g1, g2⟩ := attrs_find name q
      cases hl : lookA name es with
      | none => rw [g2 hl]; rfl
      | some w => obtain ⟨u, hu, _⟩ := g1 w hl; rw [hu]; rfl
    refine set_plain X I k.setter ?_
    refine osa_open (s := { s with toks := s.toks + 1 }) X I k.over ht fun b => ?_
    obtain ⟨cd, hc, hd'⟩ := any_some k.dict
    have hx := I.at_
    refine wpAny_bind (wpAny_pure (wpAny_bind (wpAny_bind (wpAny_loadPart hx (wpAny_bind ((looks_clsIn (h := ({ s with toks := s.toks + 1 } : Shared).heap) X hc).here ?_))))))
    rw [hd']
    refine wpAny_pure (a := some (θ d)) (wpAny_bind (wpAny_pure (wpAny_bind ?_)))
    unfold nsSet
    refine wpAny_bind (wpAny_bind (wpAny_askSetting (wpAny_pure (wpAny_bind (wpAny_mkText (wpAny_bind (wpAny_loadPart hd ?_)))))))
    have hkeys : ds.any (·.refKey) = false := by
      rw [List.any_eq_false]
      intro y hy
      have gen : ∀ {es : List (Str × AV)} {ds : List DictEntry}, All2 (fun e d => (∃ t, d.key = .str e.1 t) ∧ VR σ.length θ e.2 d.val) es ds → ∀ y ∈ ds, y.refKey = false := by
        intro es ds q
        induction q with
        | nil => intro y hy; cases hy
        | cons h _ ih =>
          intro y hy
          rcases List.mem_cons.mp hy with rfl | hy
          · obtain ⟨⟨t, ht⟩, _⟩ := h
            unfold DictEntry.refKey; rw [ht]
          · exact ih y hy
      rw [gen q y hy]; decide
    dsimp only
    have cc : (!ds.toArray.any (·.key.isStr name) && ds.toArray.any (·.refKey)) = false := by
      have : ds.toArray.any (·.refKey) = false := by rw [← hkeys]; simp
      rw [this, Bool.and_false]
    rw [aRefKeyMayBeTheName_at, cc]
    have hput := putName_dict name (PyData.keyHash c.w.params name) (.str name (s.toks + 1)) vv ds n
    have hnew : (s.heap.update (θ d) (Obj.putName name (PyData.keyHash c.w.params name) (.str name (s.toks + 1)) vv)).get? (θ d) = some (dictOf (putL name (PyData.keyHash c.w.params name) (.str name (s.toks + 1)) vv ds) (putN name ds n)) := by
      rw [Heap.get?_update_self _ hd (by rw [hput]; rfl), hput]
    have q' := attrs_store (k := name) (hsh := PyData.keyHash c.w.params name) (t := s.toks + 1) hv q
    refine wpAny_updatePart hd ?_
    refine wpAny_bind (wpAny_lookBehind hnew (pastItsLine_dict (by
      rw [List.size_toArray, ← q'.length, sizeLine_eq]
      have := storeA_len name v es
      omega)) ?_)
    obtain ⟨r', e'⟩ := rr.set (o' := .attrs (storeA name v es)) (lt_of_get e2) (Heap.SameBut.update ..) ⟨_, _, hnew, q'⟩
    exact wpAny_pure ⟨⟨_, _, rfl⟩, e', r'⟩
  · cases h
theorem s_asg_attr {K : Frag} {C : Addr} (k : Kit c K C) {name : Str} (ht : takerIn K C name = some none) {d : Nat} {sc : Scope} {ae : AEnv} {o e : Expr} {px pos : Pos} {V P : St AV} (hV : RefE c d sc ae e V) (hP : RefE c d sc ae o P)
    (hs : ∀ env, swapsWith e (some (.Attribute o name px)) pos.line env = pure false) : RefS c d sc ae (.Assign [.Attribute o name px] e pos) (asgAttrM C name V P) := by
  intro A θ σ s env f σ' ok rr ev h
  obtain ⟨v, σ₁, h1, h⟩ := St.bind_some h
  obtain ⟨a, σ₂, h2, h⟩ := St.bind_some h
  obtain ⟨u, σ₃, h3, h⟩ := St.bind_some h
  cases h
  refine plainObj_wpAny_Assign_Attribute (wpAny_mono (hV A θ σ s env v σ₁ ok rr ev h1) (fun vv s₁ ⟨θ₁, p₁, r₁⟩ => ?_) fun _ _ x => x) (hs env)
  refine wpAny_mono (hP A θ₁ σ₁ s₁ env a σ₂ ok p₁.r (ev.mono p₁.ext.le p₁.ext.same) h2) (fun va s₂ ⟨θ₂, p₂, r₂⟩ => ?_) fun _ _ x => x
  exact wpAny_mono (setA_ok k ht (A := A) p₂.r (p₂.vr r₁) r₂ h3) (fun _ _ p₃ => ⟨θ₂, (p₁.trans p₂).trans p₃, rfl⟩) fun _ _ x => x
theorem s_aug_attr {K : Frag} {C : Addr} (k : Kit c K C) {name : Str} (hf : findIn K (.ref C) name = some none) (ht : takerIn K C name = some none) {d : Nat} {sc : Scope} {ae : AEnv} {o e : Expr} {op : Operator} {px pos : Pos} {V P : St AV} {F : AV → AV → St AV}
    (hP : RefE c d sc ae o P) (hV : RefE c d sc ae e V) (hF : AugOk c op F) : RefS c d sc ae (.AugAssign (.Attribute o name px) op e pos) (augAttrM C name P V F) := by
  intro A θ σ s env f σ' ok rr ev h
  obtain ⟨a, σ₁, h1, h⟩ := St.bind_some h
  obtain ⟨old, σ₂, h2, h⟩ := St.bind_some h
  obtain ⟨v, σ₃, h3, h⟩ := St.bind_some h
  obtain ⟨r, σ₄, h4, h⟩ := St.bind_some h
  obtain ⟨u, σ₅, h5, h⟩ := St.bind_some h
  cases h
  refine wpAny_AugAssign_AttributeAny (wpAny_mono (hP A θ σ s env a σ₁ ok rr ev h1) (fun va s₁ ⟨θ₁, p₁, r₁⟩ => ?_) fun _ _ x => x)
  refine wpAny_mono (attr_ok k hf (A := A) p₁.r r₁ h2) (fun vo s₂ ⟨θ₂, p₂, r₂⟩ => ?_) fun _ _ x => x
  have p := p₁.trans p₂
  refine wpAny_mono (hV A θ₂ σ₂ s₂ env v σ₃ ok p₂.r (ev.mono p.ext.le p.ext.same) h3) (fun vv s₃ ⟨θ₃, p₃, r₃⟩ => ?_) fun _ _ x => x
  refine wpAny_mono (hF A θ₃ σ₃ s₃ old v vo vv r σ₄ ok.handled p₃.r (p₃.vr r₂) r₃ h4) (fun vr s₄ ⟨θ₄, p₄, r₄⟩ => ?_) fun _ _ x => x
  exact wpAny_mono (setA_ok k ht (A := A) p₄.r r₄ (p₄.vr (p₃.vr (p₂.vr r₁))) h5) (fun _ _ p₅ => ⟨θ₄, ((p.trans p₃).trans p₄).trans p₅, rfl⟩) fun _ _ x => x
noncomputable def selInst (C : Addr) (name : Str) (a : AV) (σ : List AO) : Option (List AV) := match instOf C a σ with
  | some (_, es) => match lookA name es with
    | none => some [a]
    | some _ => none
  | none => none
set_option tactic.hygienic true in
theorem getm_inst {K : Frag} {C f : Addr} (k : Kit c K C) {name : Str} (hf : findIn K (.ref C) name = some (some (.ref f))) (ht : typeIn K (.ref f) = some (.type "function")) : GetM c name (.ref f) (selInst C name) := by
  intro A θ σ s a va fs pl rr ha h
  unfold selInst at h
  split at h
  · rename_i d es hi
    split at h
    · rename_i hl
      cases h
      obtain ⟨x, rfl, e1, e2⟩ := instOf_some hi
      have ha' := ha
      obtain ⟨_, rfl⟩ := ha
      obtain ⟨ds, n, hd, I, q⟩ := inst_at rr e1 e2
      refine method_fn (k.x.keeps rr.keep) I (plainGet_of k.get).1 (plainGet_of k.get).2 hf ht (by show (lookIn name (dictOf ds n)).map _ = _; rw [lookIn_dict, (attrs_find name q).2 hl]; rfl) ⟨rfl, θ, Post.refl rr, .cons ha' .nil⟩
    · cases h
  · cases h
end
end Mine
end
section
namespace Mine
open PySem PySem.Spec PySem.Calls PyProof.Rows PySem.W
theorem ci_next : Slot "callable_iterator" "__next__" "callable_iterator.__next__" :=
  .of (owner := "callable_iterator") (n := "__next__") (by rw [typeLookup_type, builtinLookup_eq_fast]; kernel_rfl) (by decide +kernel) (by decide +kernel) (by decide +kernel)
    (by first | exact .inl (by decide +kernel) | exact .inr (by decide +kernel)) (by rw [isSubtype_type]; kernel_rfl)
theorem ci_iter : Slot "callable_iterator" "__iter__" "callable_iterator.__iter__" :=
  .of (owner := "callable_iterator") (n := "__iter__") (by rw [typeLookup_type, builtinLookup_eq_fast]; kernel_rfl) (by decide +kernel) (by decide +kernel) (by decide +kernel)
    (by first | exact .inl (by decide +kernel) | exact .inr (by decide +kernel)) (by rw [isSubtype_type]; kernel_rfl)
theorem ci_entry_next : entryFor table "callable_iterator.__next__" = some Builtin.«callable_iterator.__next__» := entryFor_of_tree (by kernel_rfl)
theorem ci_entry_iter : entryFor table "callable_iterator.__iter__" = some Builtin.«dict_keyiterator.__iter__» := entryFor_alias (id' := "dict_keyiterator.__iter__") (by kernel_rfl) rfl (by decide +kernel) (by kernel_rfl)
theorem ci_args_next (a : Value) : argsOk "callable_iterator.__next__" ⟨[a], []⟩ := by unfold argsOk; kernel_rfl
theorem ci_args_iter (a : Value) : argsOk "callable_iterator.__iter__" ⟨[a], []⟩ := by unfold argsOk; kernel_rfl
theorem args_iter2 (a b : Value) : argsOk "iter" ⟨[a, b], []⟩ := by unfold argsOk; kernel_rfl
theorem meth_call : typeLookup (.type "method") "__call__" = pure (some (.builtin "method.__call__")) := by rw [typeLookup_type, builtinLookup_eq_fast]; kernel_rfl
noncomputable def boundM (C f : Addr) (name : Str) (P : St AV) : St AV := St.bind P fun a => fun σ => match instOf C a σ with
  | some (_, es) => match lookA name es with
    | none => some (.ref σ.length, σ ++ [.meth (.ref f) a])
    | some _ => none
  | none => none
section
variable {c : Cx}
theorem ref_bound {K : Frag} {C f : Addr} (k : Kit c K C) {name : Str} (hf : findIn K (.ref C) name = some (some (.ref f))) (ht : typeIn K (.ref f) = some (.type "function"))
    (hg : specialIn K (.ref f) "__get__" = some (some (.builtin "function.__get__"))) (hk : takesIn K (.ref f) = some false) (hc : copiedNames.contains name = false)
    {d : Nat} {sc : Scope} {ae : AEnv} {o : Expr} {pos : Pos} {P : St AV} (hP : RefE c d sc ae o P)
    (he : ∀ env, eval (.Attribute o name pos) env = (do
      let o' ← eval o env
      standAt pos.atName
      let r ← holding [o'] (getAttr o' name true)
      letTemporaryGo o o' r
      pure r)) : RefE c d sc ae (.Attribute o name pos) (boundM C f name P) := by
  intro A θ σ s env v σ' ok rr ev h
  obtain ⟨a, σ₁, h1, h⟩ := St.bind_some h
  cases hi : instOf C a σ₁ with
  | none => simp [hi] at h
  | some q =>
    obtain ⟨d', es⟩ := q
    simp only [hi] at h
    cases hl : lookA name es with
    | some _ => simp [hl] at h
    | none =>
      simp only [hl] at h
      cases h
      refine Attribute_any_ (wpAny_mono (hP A θ σ s env a σ₁ ok rr ev h1) (fun va s₁ ⟨θ₁, p₁, r₁⟩ => ?_) fun _ _ x => x) (he env)
      obtain ⟨x, rfl, e1, e2⟩ := instOf_some hi
      have r₁' := r₁
      obtain ⟨_, rfl⟩ := r₁
      obtain ⟨ds, n, hd, I, q⟩ := inst_at p₁.r e1 e2
      have X := k.x.keeps p₁.r.keep
      have hfo : findObj K C (some (dictOf ds n)) name = some (.bind (.builtin "function.__get__") (.ref f)) := by
        obtain ⟨cd, hcd, hdd⟩ := any_some k.dict
        unfold findObj
        have ho : PySem.W.ownOf cd (some (dictOf ds n)) name = some none := by unfold PySem.W.ownOf; rw [if_pos hdd]; exact (attrs_find name q).2 hl
        rw [hcd, Option.bind_some, hf, Option.bind_some]
        simp only [hg, Option.bind_some, hk, ho, hc, Bool.false_and, Bool.false_eq_true, if_false]
      refine PySem.W.get_bind X I (plainGet_of k.get).1 hfo (plainGet_of k.get).2 (wpAny_call (PySem.W.fn_get (s := { s₁ with toks := s₁.toks + 1 }) X ht ?_))
      show wpAny _ A (handedOut _) _ _ _
      rw [handedOut_of rfl]
      obtain ⟨θ', p', r'⟩ := sat_push (o := .meth (.ref f) (.ref x)) (ob := methodObj (.ref f) (.ref (θ₁ x))) p₁.r rfl ⟨_, vr_ext1 r₁', Heap.get?_push_size _ rfl⟩
      exact wpAny_pure ⟨θ', p₁.trans (p'.trans (Post.toks p'.r _)), r'⟩
set_option tactic.hygienic true in
theorem b_iter {d : Nat} : CallR c d (.builtin "iter") iterF := by
  intro A θ σ s args vs v σ' ok rr ha h
  unfold iterF at h
  split at h
  · rename_i m sv
    split at h
    · rename_i f self e
      cases h
      obtain _ | ⟨hm, _ | ⟨hs, _ | _⟩⟩ := ha
      rename_i vs'
      have hm' := hm
      obtain ⟨_, rfl⟩ := hm
      obtain ⟨u, hu, ho⟩ := rr.get e
      refine call_function_entry (by decide +kernel) (by decide +kernel) kdk_entry_iter (args_iter2 _ _) ?_
      unfold Builtin.«iter»
      refine wpAny_bind (m := someArgs "iter" 1 2 _) (wpAny_of_eq (a := [Value.ref (θ m), vs']) (by first | rfl | kernel_rfl!) ?_)
      have hT : s.TypeIs (.ref (θ m)) "method" := ⟨_, ho, rfl⟩
      dsimp only
      refine wpAny_bind (wpAny_specialOf hT meth_call ?_)
      simp only [Option.isNone_some, Bool.false_eq_true, if_false]
      refine wpAny_bind (wpAny_rule ?_)
      refine wpAny_bind (wpAny_newObj_type ?_)
      obtain ⟨θ', p', r'⟩ := sat_push (o := .citer (.ref m) sv) (ob := { cls := .type "callable_iterator", data := .fields #[.ref (θ m), vs', .bool false] }) rr rfl ⟨_, _, vr_ext1 hm', vr_ext1 hs, Heap.get?_push_size _ rfl⟩
      exact wpAny_pure ⟨_, rfl, θ', p', r'⟩
    · cases h
  · cases h
noncomputable def citAt (f : Addr) (l : Nat) (σ : List AO) : Option (AV × List Nat) := match σ[l]? with
  | some (.citer (.ref m) (.str e)) => match σ[m]? with
    | some (.meth (.ref g) self) => match g == f with
      | true => some (self, e)
      | false => none
    | _ => none
  | _ => none
noncomputable def citNext (f : Addr) (F : List AV → St AV) (l : Nat) : St (Option AV) := fun σ => match citAt f l σ with
  | some (self, _) => match F [self] σ with
    | some (.str r, σ₁) => match citAt f l σ₁ with
      | some (_, e) => match r == e with
        | true => some (none, σ₁.set l .dead)
        | false => some (some (.str r), σ₁)
      | none => none
    | _ => none
  | none => none
theorem citAt_some {f : Addr} {l : Nat} {σ : List AO} {self : AV} {e : List Nat} (h : citAt f l σ = some (self, e)) : ∃ m, σ[l]? = some (.citer (.ref m) (.str e)) ∧ σ[m]? = some (.meth (.ref f) self) := by
  unfold citAt at h
  cases e1 : σ[l]? with
  | none => simp [e1] at h
  | some o =>
    cases o with
    | citer a b =>
      cases a with
      | ref m =>
        cases b with
        | str w =>
          simp only [e1] at h
          cases e2 : σ[m]? with
          | none => simp [e2] at h
          | some o' =>
            cases o' with
            | meth g self' =>
              cases g with
              | ref g =>
                simp only [e2] at h
                cases e3 : g == f with
                | false => simp [e3] at h
                | true =>
                  simp only [e3] at h
                  cases h
                  exact ⟨m, rfl, by rw [e2, beq_iff_eq.mp e3]⟩
              | _ => simp [e2] at h
            | _ => simp [e2] at h
        | _ => simp [e1] at h
      | _ => simp [e1] at h
    | _ => simp [e1] at h
theorem wpAny_callBorrowed {M : Model} {A : Around} {E : Value → Shared → Prop} {s : Shared} {f : Value} {pos : List Value} {Q : Value → Shared → Prop}
    (hc : codeAny M A (.call f ⟨pos, []⟩) (fun r s' => match r with | .ok (.ret v) => Q v s' | .ok _ => False | .error e => E e s') s) : wpAny M A (callBorrowed f pos) Q E s := fun Γ p hΓ => by
  unfold callBorrowed
  rw [Sem.wp_call]
  refine codeAny_mono hc (fun r s' h => ?_) _ p rfl (hΓ.enter _ none p (by intro x; cases x))
  rcases r with e | (v | _ | _ | _) <;> first | exact h | exact h.elim
theorem borrows_meth {A : Around} {s : Shared} {E : Value → Shared → Prop} {Q : Bool → Shared → Prop} {m f : Addr} {self : Value} {o : Obj} {fd : FuncData} (hm : s.heap.get? m = some (methodObj (.ref f) self)) (hf : s.heap.get? f = some o) (hd : o.data = .func fd) (h : Q true s) :
    wpAny (model c.prog c.w) A (borrowsExactly (.ref m)) Q E s := by
  unfold borrowsExactly
  refine wpAny_bind (wpAny_load hm ?_)
  show wpAny _ _ (if (Value.type "method" == Value.type "method") = true then _ else _) _ _ s
  rw [if_pos (by decide)]
  show wpAny _ _ (load f >>= _) _ _ s
  refine wpAny_bind (wpAny_load hf ?_)
  rw [hd]
  exact wpAny_pure h
theorem citNext_some {f : Addr} {F : List AV → St AV} {σ σ' : List AO} {l : Nat} {x : Option AV} (h : citNext f F l σ = some (x, σ')) : ∃ self w r σ₁ self' w', citAt f l σ = some (self, w) ∧ F [self] σ = some (.str r, σ₁) ∧ citAt f l σ₁ = some (self', w') ∧
    ((r == w') = true ∧ x = none ∧ σ' = σ₁.set l .dead ∨ (r == w') = false ∧ x = some (.str r) ∧ σ' = σ₁) := by
  unfold citNext at h
  cases e0 : citAt f l σ with
  | none => rw [e0] at h; cases h
  | some q =>
    rw [e0] at h
    simp only at h
    cases e3 : F [q.1] σ with
    | none => rw [e3] at h; cases h
    | some p =>
      rw [e3] at h
      obtain ⟨r, σ₁⟩ := p
      cases r with
      | str r =>
        simp only at h
        cases e4 : citAt f l σ₁ with
        | none => rw [e4] at h; cases h
        | some q' =>
          rw [e4] at h
          simp only at h
          refine ⟨q.1, q.2, r, σ₁, q'.1, q'.2, rfl, e3, e4, ?_⟩
          cases hb : r == q'.2 with
          | false => rw [hb] at h; cases h; exact .inr ⟨rfl, rfl, rfl⟩
          | true => rw [hb] at h; cases h; exact .inl ⟨rfl, rfl, rfl⟩
      | _ => cases h
theorem citer_at {θ : Th} {σ : List AO} {s : Shared} {f : Addr} {l : Nat} {self : AV} {w : List Nat} (r : R c θ σ s.heap) (h : citAt f l σ = some (self, w)) :
    ∃ m ts vself, s.heap.get? (θ l) = some { cls := .type "callable_iterator", data := .fields #[.ref m, .str ⟨w.toArray⟩ ts, .bool false] } ∧ s.heap.get? m = some (methodObj (.ref f) vself) ∧ VR σ.length θ self vself ∧ l < σ.length := by
  obtain ⟨m, e1, e2⟩ := citAt_some h
  obtain ⟨vf, vs, h1, ⟨ts, rfl⟩, ho⟩ := r.get e1
  obtain ⟨_, rfl⟩ := h1
  obtain ⟨vself, hself, hm⟩ := r.get e2
  exact ⟨_, ts, vself, ho, hm, hself, lt_of_get e1⟩
theorem cit_dead {θ θ₁ : Th} {σ σ₁ : List AO} {s s₁ : Shared} {l : Nat} {h4 : Heap} {o : Obj} (p₁ : Post c θ σ s θ₁ σ₁ s₁) (hl : l < σ.length) (hs : Heap.SameBut (θ l) s₁.heap h4) (ho : h4.get? (θ l) = some o) (h5 : Heap) (tk : Nat) (hk : ∀ b o, h4.get? b = some o → h5.get? b = some o) :
    SatQ c OVR θ σ s none (σ₁.set l .dead) none { s₁ with heap := h5, toks := tk } := by
  have hθl : θ₁ l = θ l := p₁.ext.same l hl
  rw [← hθl] at hs ho
  obtain ⟨r', e'⟩ := p₁.r.set (o' := .dead) (Nat.lt_of_lt_of_le hl p₁.ext.le) hs ⟨_, ho⟩
  have p₂ : Post c θ₁ σ₁ s₁ θ₁ (σ₁.set l .dead) { s₁ with heap := h4 } := ⟨⟨_, _, rfl⟩, e', r'⟩
  exact ⟨θ₁, (p₁.trans p₂).trans (Post.grown p₂.r _ _ hk), trivial⟩
theorem cit_ok {d : Nat} {f : Addr} {F : List AV → St AV} (hF : CallC c d (.ref f) F) (hfn : ∃ o fd, c.base.get? f = some o ∧ o.data = .func fd) {A : Around} {θ : Th} {σ σ' : List AO} {s : Shared} {l : Nat} {x : Option AV} (ok : Ok (d + 2) A) (rr : R c θ σ s.heap)
    (h : citNext f F l σ = some (x, σ')) : wpAny (model c.prog c.w) A (pyNext (.ref (θ l))) (SatQ c OVR θ σ s x σ') FF s := by
  obtain ⟨self, w, r, σ₁, self', w', e0, e3, e4, hx⟩ := citNext_some h
  obtain ⟨m, ts, vself, ho, hm, hself, hl⟩ := citer_at rr e0
  obtain ⟨fo, fd, hf, hfd⟩ := hfn
  have hT : s.TypeIs (.ref (θ l)) "callable_iterator" := ⟨_, ho, rfl⟩
  have ok1 : Ok d A.in1 := ⟨ok.handled, by have := ok.depth; show A.depth + 40 * d < _; omega, by have := ok.units; show A.units + 1 + 40 * d < _; omega⟩
  have hA : A.in1.handled = none := ok.handled
  have hs1 : ∀ u θ₁ s₁, Post c θ σ s θ₁ σ₁ s₁ → VR σ₁.length θ₁ (.str r) u → ∃ tr m' ts' vself', u = .str ⟨r.toArray⟩ tr ∧ s₁.heap.get? (θ l) = some { cls := .type "callable_iterator", data := .fields #[.ref m', .str ⟨w'.toArray⟩ ts', .bool false] } ∧ s₁.heap.get? m' = some (methodObj (.ref f) vself') := fun u θ₁ s₁ p₁ r₁ =>
    r₁.elim fun tr r₁ => (citer_at p₁.r e4).elim fun m' y => y.elim fun ts' y => y.elim fun vs' y => ⟨tr, m', ts', vs', r₁, p₁.ext.same l hl ▸ y.1, y.2.1⟩
  clear h e0 e4
  unfold pyNext
  refine wpAny_bind (wpAny_attempt (wpAny_callSpecial?_slot (name := PySem.Str.ofString "__next__") hT ci_next (wpAny_call_entry ci_next hT ci_entry_next ?_ (ci_args_next _))))
  unfold Builtin.«callable_iterator.__next__»
  refine wpAny_bind (wpAny_of_eq (a := (Value.ref (θ l), ([] : List Value))) (by first | rfl | kernel_rfl) ?_)
  dsimp only
  refine wpAny_bind (wpAny_field ho rfl (x := .bool false) rfl ?_)
  rw [if_neg (by decide)]
  refine wpAny_bind (wpAny_field ho rfl (x := .ref m) rfl (wpAny_bind (wpAny_attempt ?_)))
  unfold callOutOfASlot
  refine wpAny_bind (borrows_meth hm (rr.keep _ _ hf) hfd ?_)
  rw [if_pos rfl]
  clear hT ho
  refine wpAny_callBorrowed ((PySem.W.method_call hm (hF A.in1 θ σ s [self] [vself] (.str r) σ₁ _ ok1 rr (.cons hself .nil) e3 fun u θ₁ s₁ p₁ r₁ => ?_)))
  clear hm e3 hself ok1
  obtain ⟨tr, m', ts', vself', rfl, ho', hm'⟩ := hs1 u θ₁ s₁ p₁ r₁
  clear hs1 r₁
  dsimp only
  refine wpAny_bind (wpAny_field ho' rfl (x := .bool false) rfl ?_)
  rw [if_neg (by decide)]
  refine wpAny_bind (wpAny_field ho' rfl (x := .str ⟨w'.toArray⟩ ts') rfl (wpAny_bind (wpAny_holding (eqBool_str ?_))))
  rw [str_beq, show (w' == r) = (r == w') by rw [Bool.eq_iff_iff, beq_iff_eq, beq_iff_eq]; exact ⟨Eq.symm, Eq.symm⟩]
  rcases hx with ⟨hb, rfl, rfl⟩ | ⟨hb, rfl, rfl⟩
  · rw [hb, if_neg (by decide)]
    refine wpAny_bind (wpAny_rule (wpAny_bind ?_))
    show wpAny _ _ (field (.ref (θ l)) 0 >>= _) _ _ _
    refine wpAny_bind (wpAny_field ho' rfl (x := .ref m') rfl (wpAny_bind ?_))
    show wpAny _ _ (borrowsExactly (.ref m') >>= _) _ _ _
    refine wpAny_bind (borrows_meth hm' (p₁.r.keep _ _ hf) hfd ?_)
    rw [if_pos rfl]
    refine wpAny_pure (wpAny_bind (wpAny_setField_rec ho' (by simp) fun h2 ho2 hs2 => wpAny_bind (wpAny_setField_rec ho2 (by simp) fun h3 ho3 hs3 => wpAny_setField_rec ho3 (by simp) fun h4 ho4 hs4 => ?_)))
    have fin := cit_dead p₁ hl ((hs2.trans hs3).trans hs4) ho4
    clear ho' hm' hs2 ho2 hs3 ho3 hs4 ho4 rr p₁ hF hf hfd ok
    show wpAny _ _ (newExc (.type "StopIteration") [] >>= _) _ _ _
    refine wpAny_bind ?_
    simp only [newExc, newTuple]
    refine wpAny_bind (wpAny_newObj_type ?_ (by size_fits))
    refine wpAny_bind (m := firstArgMember _ _) (wpAny_of_eq (a := Value.none) (by first | rfl | (simp only [firstArgMember]; rfl)) ?_)
    refine wpAny_newObj_type ?_ (by size_fits)
    simp only [raiseNew]
    refine wpAny_bind (wpAny_handled ?_)
    rw [hA]
    refine wpAny_bind (wpAny_pure (wpAny_throw ?_))
    refine wpAny_bind (wpAny_isInstance (T := "StopIteration") (b := true) ⟨_, Heap.get?_push_size _ rfl, rfl⟩ isSubtype_stop ?_)
    exact wpAny_pure (fin _ _ fun b o e => Heap.get?_push_of_some _ (Heap.get?_push_of_some _ e))
  · rw [hb, if_pos (by decide)]
    exact wpAny_pure ⟨_, rfl, wpAny_pure ⟨θ₁, p₁, tr, rfl⟩⟩
end
end Mine
end
section
namespace Mine
open PySem PySem.Spec PySem.Calls PyProof.Rows PySem.W
noncomputable def forC (f : Addr) (F : List AV → St AV) (l : Nat) (W : AV → St Unit) (B : St AF) : Nat → St AF
  | 0 => St.fail
  | n + 1 => St.bind (citNext f F l) fun x => match x with
    | none => St.pure .next
    | some v => St.bind (W v) fun _ => St.bind B fun g => match g with
      | .next => forC f F l W B n
      | .cont => forC f F l W B n
      | .brk => St.pure .next
      | .ret u => St.pure (.ret u)
noncomputable def forCM (f : Addr) (F : List AV → St AV) (P : St AV) (W : AV → St Unit) (B : St AF) (n : Nat) : St AF := St.bind P fun a => fun σ => match a with
  | .ref l => match citAt f l σ with
    | some _ => forC f F l W B n σ
    | none => none
  | _ => none
theorem extN_at (θ : Th) (n : Nat) (as : List Addr) (j : Nat) : extN θ n as (n + j) = (as[j]?).getD 0 := by
  unfold extN
  rw [if_neg (by omega), Nat.add_sub_cancel_left]
section
variable {c : Cx}
structure CurC (c : Cx) (θ : Th) (σ : List AO) (s : Shared) (l : Nat) (θ₁ : Th) (θ₂ : Th) (σ₂ : List AO) (s₂ : Shared) : Prop where
  p : Post c θ σ s θ₂ σ₂ s₂
  same : θ₂ l = θ₁ l
  lt : l < σ₂.length
theorem CurC.trans {θ θ₁ θ₂ θ₃ : Th} {σ σ₂ σ₃ : List AO} {s s₂ s₃ : Shared} {l : Nat} (C : CurC c θ σ s l θ₁ θ₂ σ₂ s₂) (p : Post c θ₂ σ₂ s₂ θ₃ σ₃ s₃) : CurC c θ σ s l θ₁ θ₃ σ₃ s₃ :=
  ⟨C.p.trans p, (p.ext.same l C.lt).trans C.same, Nat.lt_of_lt_of_le C.lt p.ext.le⟩
theorem s_forc {d : Nat} {sc : Scope} {ae : AEnv} {target iter : Expr} {body : List Stmt} {pos : Pos} {f : Addr} {F : List AV → St AV} {P : St AV} {W : AV → St Unit} {B : St AF} (n : Nat) (hF : CallC c d (.ref f) F) (hfn : ∃ o fd, c.base.get? f = some o ∧ o.data = .func fd)
    (hP : RefE c (d + 2) sc ae iter P) (hW : RefW c (d + 2) sc ae (fun env v => assign target env v) W) (hB : RefB c (d + 2) sc ae body B)
    (hs : ∀ env x, foldedSetIterable iter env x = pure x) (ht : ∀ it v, letOwnedTupleGo target it v = pure ()) : RefS c (d + 2) sc ae (.For target iter body [] pos) (forCM f F P W B n) := by
  intro A θ σ s env g σ' ok rr ev h
  obtain ⟨a, σ₁, h1, h⟩ := St.bind_some h
  have hx : ∃ l q, a = .ref l ∧ citAt f l σ₁ = some q ∧ forC f F l W B n σ₁ = some (g, σ') := by
    cases a with
    | ref l =>
      simp only at h
      cases e0 : citAt f l σ₁ with
      | none => rw [e0] at h; cases h
      | some q => rw [e0] at h; exact ⟨l, q, rfl, e0, h⟩
    | _ => cases h
  clear h
  obtain ⟨l, q, rfl, e0, h⟩ := hx
  refine wpAny_For (wpAny_mono (hP A θ σ s env _ σ₁ ok rr ev h1) (fun va s₁ x => x.elim fun θ₁ x => ?_) fun _ _ x => x) (hs env)
  have ho : ∃ vf vs, s₁.heap.get? (θ₁ l) = some { cls := .type "callable_iterator", data := .fields #[vf, vs, .bool false] } := (citAt_some e0).elim fun m e => (x.1.r.get e.1).elim fun vf y => y.elim fun vs y => ⟨vf, vs, y.2.2⟩
  obtain ⟨vf, vs, ho⟩ := ho
  have hT : s₁.TypeIs (.ref (θ₁ l)) "callable_iterator" := ⟨_, ho, rfl⟩
  rw [x.2.2]
  have C₁ : CurC c θ σ s l θ₁ θ₁ σ₁ s₁ := ⟨x.1, rfl, x.2.1⟩
  clear x h1 e0 ho q
  refine wpAny_pyIter_slot hT ci_iter (wpAny_call_entry ci_iter hT ci_entry_iter (wpAny_pure ⟨_, rfl, "callable_iterator", _, hT, ci_next.lookup, ?_⟩) (ci_args_iter _))
  refine codeAny_forLoop (fun k s₂ => ∃ θ₂ σ₂, CurC c θ σ s l θ₁ θ₂ σ₂ s₂ ∧ forC f F l W B k σ₂ = some (g, σ')) (fun k s₂ ⟨θ₂, σ₂, C, h⟩ => ?_) n ⟨θ₁, σ₁, C₁, h⟩ (ht _)
  clear hT C₁ vf vs
  cases k with
  | zero => cases h
  | succ k =>
    obtain ⟨x, σ₃, h3, h⟩ := St.bind_some h
    rw [← C.same]
    refine wpAny_mono (cit_ok hF hfn ok C.p.r h3) (fun r s₃ y => y.elim fun θ₃ y => ?_) fun _ _ x => x.elim
    have C₃ := C.trans y.1
    have r₃ := y.2
    clear y h3 C
    cases x with
    | none =>
      cases r with
      | some _ => exact r₃.elim
      | none => cases h; exact wpAny_execs_nil ⟨θ₃, C₃.p, rfl⟩
    | some v =>
      cases r with
      | none => exact r₃.elim
      | some u =>
        obtain ⟨u₄, σ₄, h4, h⟩ := St.bind_some h
        obtain ⟨q, σ₅, h5, h⟩ := St.bind_some h
        have ev₃ := ev.mono C₃.p.ext.le C₃.p.ext.same
        refine wpAny_mono (hW A θ₃ σ₃ s₃ env v u u₄ σ₄ ok C₃.p.r ev₃ r₃ h4) (fun _ s₄ x => x.elim fun θ₄ x => wpAny_mono (hB A θ₄ σ₄ s₄ env q σ₅ ok x.1.r (ev₃.mono x.1.ext.le x.1.ext.same) h5) (fun q' s₅ y => y.elim fun θ₅ y => ?_) fun _ _ x => x.elim) fun _ _ x => x.elim
        have C₅ := (C₃.trans x.1).trans y.1
        have r₅ := y.2
        clear x y h4 h5 ev₃ r₃ C₃ ev rr ok
        cases q with
        | next => cases r₅; exact ⟨k, Nat.lt_succ_self _, θ₅, σ₅, C₅, h⟩
        | cont => cases r₅; exact ⟨k, Nat.lt_succ_self _, θ₅, σ₅, C₅, h⟩
        | brk => cases r₅; cases h; exact ⟨θ₅, C₅.p, rfl⟩
        | ret w => cases h; exact r₅.elim fun w' y => by rw [y.1]; exact ⟨θ₅, C₅.p, w', rfl, y.2⟩
noncomputable def makeF (C : Addr) (I : List AV → St AV) (args : List AV) : St AV := fun σ => match I (.ref (σ.length + 1) :: args) (σ ++ [.attrs [], .inst C σ.length]) with
  | some (.none, σ') => some (.ref (σ.length + 1), σ')
  | _ => none
set_option tactic.hygienic true in
theorem make_ok {K : Frag} {C fI : Addr} (k : Kit c K C) (hm : makesIn K C = true) (hi : findIn K (.ref C) "__init__" = some (some (.ref fI))) (hf : typeIn K (.ref fI) = some (.type "function")) {d : Nat} {I : List AV → St AV} (hI : CallC c d (.ref fI) I) :
    CallC c (d + 1) (.ref C) (makeF C I) := by
  intro A θ σ s args vs v σ' RR ok rr ha h hRR
  unfold makeF at h
  split at h
  · rename_i σ₁ h1
    cases h
    obtain ⟨hh, g, dr, t, os⟩ := s
    have X := k.x.keeps rr.keep
    refine make_core (makes_of X hm) (looks_findIn X hi) (fun self => bind_fn X self hf) (.inl rfl) ?_
    have hz : (hh.push emptyDict).objs.size = hh.objs.size + 1 := Heap.size_push ..
    have hx1 : ((hh.push emptyDict).push (instObj C hh.objs.size)).get? (hh.objs.size + 1) = some (instObj C hh.objs.size) := by rw [← hz]; exact Heap.get?_push_size _ rfl
    have hx0 : ((hh.push emptyDict).push (instObj C hh.objs.size)).get? hh.objs.size = some emptyDict := Heap.get?_push_of_some _ (Heap.get?_push_size _ rfl)
    have hk : ∀ b o, hh.get? b = some o → ((hh.push emptyDict).push (instObj C hh.objs.size)).get? b = some o := fun b o e => Heap.get?_push_of_some _ (Heap.get?_push_of_some _ e)
    obtain ⟨r', e'⟩ := rr.pushN (h' := (hh.push emptyDict).push (instObj C hh.objs.size)) (os := [.attrs [], .inst C σ.length]) (as := [hh.objs.size, hh.objs.size + 1]) hk rfl
      (by
        intro a ha
        have : hh.objs.size ≤ a := by
          rcases List.mem_cons.mp ha with rfl | ha
          · exact Nat.le_refl _
          · rw [List.mem_singleton.mp ha]; exact Nat.le_succ _
        exact Heap.get?_none_of_le this)
      (by rw [List.nodup_cons]; exact ⟨fun h => absurd (List.mem_singleton.mp h) (Nat.ne_of_lt (Nat.lt_succ_self _)), by simp⟩) (by
        intro j o a hj hja
        match j, hj, hja with
        | 0, hj, hja => cases hj; cases hja; exact ⟨[], 0, hx0, .nil⟩
        | 1, hj, hja =>
          cases hj; cases hja
          refine ⟨by simp, ?_⟩
          have : extN θ σ.length [hh.objs.size, hh.objs.size + 1] σ.length = hh.objs.size := extN_at _ _ _ 0
          rw [this]; exact hx1
        | j + 2, hj, hja => simp at hj)
    generalize hθ : extN θ σ.length [hh.objs.size, hh.objs.size + 1] = θ₁ at r' e'
    have hθ1 : θ₁ (σ.length + 1) = hh.objs.size + 1 := by rw [← hθ]; exact extN_at _ _ _ 1
    have p₀ : Post c θ σ ⟨hh, g, dr, t, os⟩ θ₁ (σ ++ [.attrs [], .inst C σ.length]) ⟨(hh.push emptyDict).push (instObj C hh.objs.size), g, dr, t, os⟩ := ⟨⟨_, _, rfl⟩, e', r'⟩
    have ok' : Ok d (A.under (.builtin "type.__call__" ⟨.ref C :: vs, []⟩)) := by
      refine ⟨ok.handled, ?_, ?_⟩
      · show A.depth + 1 + 40 * d < _
        have := ok.depth; omega
      · have hu : (Code.builtin "type.__call__" ⟨.ref C :: vs, []⟩).cUnits ≤ 10 := by
          have : (Code.builtin "type.__call__" ⟨.ref C :: vs, []⟩).cUnits = 1 := rfl
          omega
        show A.units + (Code.builtin "type.__call__" ⟨.ref C :: vs, []⟩).cUnits + 40 * d < _
        have := ok.units; omega
    have hself : VR (σ ++ [AO.attrs [], AO.inst C σ.length]).length θ₁ (.ref (σ.length + 1)) (.ref (hh.objs.size + 1)) := ⟨by simp, by rw [hθ1]⟩
    refine hI _ θ₁ _ _ (.ref (σ.length + 1) :: args) (.ref (hh.objs.size + 1) :: vs) .none σ' _ ok' r' (.cons hself (p₀.vrs ha)) h1 fun u θ₂ s₂ p₂ r₂ => ?_
    exact ⟨r₂, hRR _ θ₂ s₂ (p₀.trans p₂) (p₂.vr hself)⟩
  · cases h
noncomputable def lamM (P : Nat) (PT : Addr) (sp : FnSpec) (cl : List (Str × Nat)) : St AV := fun σ => match σ[P]? with
  | some (.raw P' o) => onlyIf ((o = tabObj #[] ∧ P' = PT) ∧ ∀ p ∈ cl, p.2 < σ.length) (fun σ => some (.ref (σ.length + 1), σ.set P .tab ++ [.code sp.qual, .fn sp σ.length cl])) σ
  | _ => none
set_option tactic.hygienic true in
theorem ref_lam (g : Gnd c) {mg : Str → Option Value} {cc PT : Addr} {Pl : Nat} (hns : c.base.Ns mainGlobals mg) {sc lsc : Scope} {ae : AEnv} (hcd : ae.cd = .ref cc)
    (hbi : ∃ bm o, mg "__builtins__" = some (.ref bm) ∧ bm ≠ builtinsNs ∧ bm ≠ mainGlobals ∧ c.base.get? bm = some o ∧ o.cls = .type "module" ∧ o.dict = some builtinsNs ∧ ∀ P, c.base.get? P = none → c.base.BuiltinsAt mg P)
    {cl' : List (Str × Nat)} (hcl : ClosIs lsc sc ae.cl cl') {params : Arguments} {body : Expr} {pos : Pos} {d : Nat} (hdef : ∀ env, defaultsOf params env = ([], []))
    (hC : ∀ (θ : Th) (σ : List AO) (s : Shared), R c θ σ s.heap → σ[Pl]? = some (.raw PT (tabObj #[])) → CodeHd s.heap cc (θ Pl)) :
    RefE c d sc ae (.Lambda params body lsc pos) (lamM Pl PT ⟨ae.q ++ "<lambda>", params, .expr body, lsc⟩ cl') := by
  intro A θ σ s env v σ' ok rr ev h
  unfold lamM at h
  split at h
  · rename_i o e
    obtain ⟨⟨⟨ho, hPT⟩, hlt⟩, h9⟩ := onlyIf_some h
    subst ho
    subst hPT
    cases h9
    have hPl := lt_of_get e
    have hP : s.heap.get? (θ Pl) = some (tabObj #[]) := (rr.get e).2
    obtain ⟨bm, bo, b1, b2, b3, b4, b5, b6, b7⟩ := hbi
    refine kla_eval (hdef env) ?_
    have hB : s.heap.BuiltinsAt mg (θ Pl) := by
      obtain ⟨bm', o', x1, x2, x3, x4, x5, r⟩ := b7 _ (rr.off Pl hPl)
      exact ⟨bm', o', x1, x2, x3, x4, rr.keep _ _ x5, r⟩
    have hns' : s.heap.Ns mainGlobals mg := hns.keeps rr.keep
    have hgP : mainGlobals ≠ θ Pl := fun q => by
      obtain ⟨o, _, _, ho, _⟩ := hns
      rw [q, rr.off Pl hPl] at ho; cases ho
    refine kla_makeFunction (hcl.1 env θ ev.scope ev.cells) ev.glob hns' (by rw [ev.code]; exact hcd) (hC θ σ s rr e) hP trivial rfl hgP hB fun c' ctv h' tk hx hge hlt' hrec htb => ?_
    obtain ⟨c₂, oc, ws, t, e2, hoc, hdc, hv⟩ := hrec
    cases e2
    have hs1 : ∀ b o, b ≠ θ Pl → s.heap.get? b = some o → h'.get? b = some o := fun b o hb eb => hx b o hb eb
    obtain ⟨r1, x1⟩ : R c θ (σ.set Pl .tab) h' ∧ Ext σ.length θ s.heap (σ.set Pl .tab).length θ h' := by
      have hlen : (σ.set Pl AO.tab).length = σ.length := List.length_set ..
      refine ⟨⟨fun b o eb => hs1 b o (fun q => by rw [q, rr.off Pl hPl] at eb; cases eb) (rr.keep b o eb), fun l o el => ?_, by rw [hlen]; exact rr.inj, by rw [hlen]; exact rr.off⟩,
        ⟨by rw [hlen]; exact Nat.le_refl _, fun _ _ => rfl, fun b o hb eb => hs1 b o (hb Pl hPl) eb, fun l a b => by rw [hlen] at b; exact absurd b (Nat.not_lt.mpr a)⟩⟩
      rw [hlen]
      have hl : l < σ.length := hlen ▸ lt_of_get el
      by_cases hq : Pl = l
      · subst hq
        rw [List.getElem?_set_self hPl] at el
        cases el; exact ⟨_, htb⟩
      · rw [List.getElem?_set_ne hq] at el
        exact (rr.obj l o el).congr fun o' e' => hs1 _ _ (fun q => hq (rr.inj l Pl hl hPl q).symm) e'
    have hlen : (σ.set Pl AO.tab).length = σ.length := List.length_set ..
    have p1 : Post c θ σ s θ (σ.set Pl .tab) { s with heap := h', toks := tk } := ⟨⟨_, _, rfl⟩, x1, r1⟩
    generalize hfo : kla_obj "<lambda>" (env.qual ++ "<lambda>") params body lsc (cl'.map fun p => (p.1, θ p.2)) ((mg "__name__").getD .none) c' ctv = fo
    have hcnone : s.heap.get? c' = none := Heap.get?_none_of_le hge
    have hk2 : ∀ b o, s.heap.get? b = some o → b ≠ θ Pl → (h'.push fo).get? b = some o := fun b o eb hb => Heap.get?_push_of_some _ (hs1 b o hb eb)
    have al : ∀ l, l < σ.length → ∃ o, s.heap.get? (θ l) = some o := fun l hl => rr.alive hl
    have hff : s.heap.get? h'.objs.size = none := by
      cases eb : s.heap.get? h'.objs.size with
      | none => rfl
      | some o =>
        by_cases hb : h'.objs.size = θ Pl
        · rw [hb] at eb
          have : θ Pl < h'.objs.size := Heap.lt_size htb
          rw [hb] at this
          exact absurd this (Nat.lt_irrefl _)
        · exact absurd (Heap.lt_size (hs1 _ o hb eb)) (Nat.lt_irrefl _)
    have hold : ∀ l, l < σ.length → extN θ σ.length [c', h'.objs.size] l = θ l := fun l hl => if_pos hl
    have hnew0 : extN θ σ.length [c', h'.objs.size] σ.length = c' := extN_at _ _ _ 0
    have hnew1 : extN θ σ.length [c', h'.objs.size] (σ.length + 1) = h'.objs.size := extN_at _ _ _ 1
    have hlen2 : (σ.set Pl AO.tab ++ [AO.code (ae.q ++ "<lambda>"), AO.fn ⟨ae.q ++ "<lambda>", params, .expr body, lsc⟩ σ.length cl']).length = σ.length + 2 := by simp
    have hne : ∀ l, l < σ.length → θ l ≠ c' ∧ θ l ≠ h'.objs.size := fun l hl => by
      obtain ⟨o, eo⟩ := al l hl
      exact ⟨fun q => (by rw [q, hcnone] at eo; cases eo), fun q => (by rw [q, hff] at eo; cases eo)⟩
    have hcf : c' ≠ h'.objs.size := Nat.ne_of_lt hlt'
    have cut : ∀ l, l < σ.length + 2 → l < σ.length ∨ l = σ.length ∨ l = σ.length + 1 := fun l hl => by omega
    have hpush : ∀ b o, h'.get? b = some o → (h'.push fo).get? b = some o := fun b o eb => Heap.get?_push_of_some _ eb
    refine ⟨extN θ σ.length [c', h'.objs.size], ⟨⟨_, _, rfl⟩, ⟨by rw [hlen2]; omega, hold, fun b o hb eb => hk2 b o eb (hb Pl hPl), fun l a b => ?_⟩, ?_⟩, ?_⟩
    · rw [hlen2] at b
      rcases cut l b with h0 | rfl | rfl
      · omega
      · rw [hnew0]; exact hcnone
      · rw [hnew1]; exact hff
    · refine ⟨fun b o eb => hpush b o (r1.keep b o eb), fun l o el => ?_, ?_, ?_⟩
      · rw [hlen2]
        have hl := lt_of_get el
        rw [hlen2] at hl
        rcases cut l hl with h0 | rfl | rfl
        · rw [List.getElem?_append_left (by rw [hlen]; exact h0)] at el
          rw [hold l h0]
          have := r1.obj l o el
          rw [hlen] at this
          exact (this.congr fun o' e' => hpush _ _ e').mono (by omega) hold
        · rw [List.getElem?_append_right (by rw [hlen]; exact Nat.le_refl _), hlen] at el
          simp at el; subst el
          rw [hnew0]
          refine ⟨oc, ws, t, hpush _ _ hoc, hdc, ?_⟩
          rw [← ev.qual]; exact hv
        · rw [List.getElem?_append_right (by rw [hlen]; omega), hlen] at el
          simp at el; subst el
          rw [hnew1]
          refine ⟨fo, kla_fn "<lambda>" (env.qual ++ "<lambda>") params body lsc (cl'.map fun p => (p.1, θ p.2)) ((mg "__name__").getD .none) (.ref c') ctv, Heap.get?_push_size _ (by rw [← hfo]; rfl), by rw [← hfo], by rw [← hfo], by rw [← ev.qual], rfl, rfl, rfl, rfl, rfl, rfl, rfl, by omega, by rw [hnew0], fun p hp => by have := hlt p hp; omega, ?_⟩
          show cl'.map _ = cl'.map _
          exact List.map_congr_left fun p hp => by rw [hold p.2 (hlt p hp)]
      · rw [hlen2]
        intro l l' h1 h2 q
        rcases cut l h1 with h0 | rfl | rfl <;> rcases cut l' h2 with h0' | rfl | rfl
        · rw [hold l h0, hold l' h0'] at q; exact rr.inj l l' h0 h0' q
        · rw [hold l h0, hnew0] at q; exact absurd q (hne l h0).1
        · rw [hold l h0, hnew1] at q; exact absurd q (hne l h0).2
        · rw [hold l' h0', hnew0] at q; exact absurd q.symm (hne l' h0').1
        · rfl
        · rw [hnew0, hnew1] at q; exact absurd q hcf
        · rw [hold l' h0', hnew1] at q; exact absurd q.symm (hne l' h0').2
        · rw [hnew0, hnew1] at q; exact absurd q.symm hcf
        · rfl
      · rw [hlen2]
        intro l hl
        rcases cut l hl with h0 | rfl | rfl
        · rw [hold l h0]; exact rr.off l h0
        · rw [hnew0]; exact fresh_base rr hcnone
        · rw [hnew1]; exact fresh_base rr hff
    · exact ⟨by rw [hlen2]; omega, by rw [hnew1]⟩
  · cases h
end
end Mine
end
section
namespace Mine
open PySem PySem.Spec PySem.Calls PyProof.Rows PySem.W
noncomputable def lamF (sp : FnSpec) (x : Str) (names tbl : List Str) (k : Nat) (E : Nat → Nat → St AV) (lf : Nat) (args : List AV) : St AV := fun σ => match σ[lf]? with
  | some (.fn sp' code [(y, l)]) => onlyIf (sp' = sp ∧ y = x ∧ args.length = names.length ∧ σ[code]? = some (.code sp.qual)) (fun σ => E σ.length l (σ ++ [.ns k (tbl.map fun z => (names.zip args).lookup z)])) σ
  | _ => none
noncomputable def methFM (C : Addr) (name : Str) (P : St AV) (As : St (List AV)) (G : Nat → List AV → St AV) : St AV := St.bind P fun a => St.bind (attrV C name a) fun f => match f with
  | .ref lf => St.bind As fun args => G lf args
  | _ => St.fail
noncomputable def CallL (c : Cx) (d : Nat) (G : Nat → List AV → St AV) : Prop :=
  ∀ A θ σ s lf args vs v σ', Ok d A → R c θ σ s.heap → All2 (VR σ.length θ) args vs → G lf args σ = some (v, σ') → (∃ o fd, s.heap.get? (θ lf) = some o ∧ o.data = .func fd) ∧ Sat c A (call (.ref (θ lf)) vs []) VR θ σ s v σ'
section
variable {c : Cx}
theorem lamF_some {sp : FnSpec} {x : Str} {names tbl : List Str} {k : Nat} {E : Nat → Nat → St AV} {lf : Nat} {args : List AV} {σ σ' : List AO} {v : AV} (h : lamF sp x names tbl k E lf args σ = some (v, σ')) :
    ∃ code l, σ[lf]? = some (.fn sp code [(x, l)]) ∧ args.length = names.length ∧ σ[code]? = some (.code sp.qual) ∧ E σ.length l (σ ++ [.ns k (tbl.map fun z => (names.zip args).lookup z)]) = some (v, σ') := by
  unfold lamF at h
  cases e : σ[lf]? with
  | none => simp [e] at h
  | some o =>
    cases o with
    | fn sp' code cl =>
      cases cl with
      | nil => simp [e] at h
      | cons p r =>
        cases r with
        | nil =>
          obtain ⟨y, l⟩ := p
          simp only [e] at h
          obtain ⟨⟨h1, h2, h3, h5⟩, h4⟩ := onlyIf_some h
          subst h1 h2
          exact ⟨code, l, rfl, h3, h5, h4⟩
        | cons _ _ => simp [e] at h
    | _ => simp [e] at h
theorem lam_call (g : Gnd c) {sp : FnSpec} {body : Expr} (hb : sp.body = .expr body) {x : Str} {names : List Str} {k : Nat} {E : Nat → Nat → St AV} (hnd : names.Nodup) (htn : (c.tbl k).Nodup) (hcell : ∀ y ∈ sp.scope.names, y.2 ≠ .cell) (hloc : ∀ y ∈ names, sp.scope.names.lookup y = some .local)
    (hco : sp.scope.isCoroutine = false) (hgen : sp.scope.isGenerator = false) (hkind : sp.scope.kind = .function)
    (hbind : ∀ (fd : FuncData) (vs : List Value), fd.params = sp.params → fd.defaults = .none → fd.kwdefaults = .none → vs.length = names.length → bindArgs fd ⟨vs, []⟩ = pure (names.zip vs)) {d : Nat}
    (hE : ∀ fr l cd q, RefE c d sp.scope ⟨fr, [(x, l)], cd, q⟩ body (E fr l)) :
    CallL c (d + 1) (lamF sp x names (c.tbl k) k E) := by
  intro A θ σ s lf args vs v σ' ok rr ha h
  obtain ⟨code, l, e, hlen, ecode, h⟩ := lamF_some h
  obtain ⟨o, fd, ho, _, hfd, hq, hp, hbd, hsc, hgl, hbi, hdf, hkd, hcl, hcode', hcl2, hclo⟩ := rr.get e
  obtain ⟨co, cvs, ct, hco', hcd, hcv⟩ := rr.get ecode
  refine ⟨⟨o, fd, ho, hfd⟩, ?_⟩
  have hvl : vs.length = names.length := by rw [← ha.length]; exact hlen
  have hl : l < σ.length := hcl2 (x, l) (by simp)
  refine wpAny_call (kla_callFunE (by have := ok.depth; omega) ho hfd (by rw [hsc]; exact hco) (by rw [hsc]; exact hgen) (by rw [hbd]; exact hb) ⟨θ code, co, cvs, ct, hcode', hco', hcd, by rw [hq]; exact hcv⟩ ?_)
  rw [hbind fd vs hp hdf hkd hvl]
  refine wpAny_pure ?_
  have hkn : (names.zip vs).map (·.1) = names := zip_keys names vs hvl
  refine wpAny_newFunctionEnv (by rw [hsc]; exact hcell) (fun y hy => ?_) (fun h₁ hns hsb => ?_) (by rw [hsc]; exact hkind)
  · have := List.mem_map_of_mem (f := (·.1)) hy
    rw [hkn] at this
    rw [hsc]; exact hloc y.1 this
  · have hk1 : ∀ b o, s.heap.get? b = some o → h₁.get? b = some o := fun b o eb => hsb.extBut b o (Nat.ne_of_lt (Heap.lt_size eb)) (Heap.get?_push_of_some _ eb)
    refine ⟨(g.nolimit.keeps rr.keep).fresh _ hsb, ?_⟩
    have hnd' : ((names.zip vs).map (·.1)).Nodup := by rw [hkn]; exact hnd
    have har : All2 (VR (σ.length + 1) (ext1 θ σ.length s.heap.objs.size)) args vs := ha.mono fun _ _ => vr_ext1
    have hrev : ∀ (l : List (Str × Value)), (l.map (·.1)).Nodup → ∀ y, l.reverse.lookup y = l.lookup y := by
      intro l hl y
      cases e1 : l.lookup y with
      | none =>
        cases e2 : l.reverse.lookup y with
        | none => rfl
        | some u =>
          have hm := List.mem_reverse.mp (mem_of_lookup e2)
          have := lookup_of_mem hm (fun v' hv' => by
            obtain ⟨i, hi⟩ := List.getElem?_of_mem hm
            obtain ⟨j, hj⟩ := List.getElem?_of_mem hv'
            have := nodup_idx hl (x := y) (i := i) (j := j) (by simp [hi]) (by simp [hj])
            subst this
            rw [hi] at hj; cases hj; rfl)
          rw [this] at e1; cases e1
      | some u =>
        have hm := mem_of_lookup e1
        refine lookup_of_mem (List.mem_reverse.mpr hm) fun v' hv' => ?_
        obtain ⟨i, hi⟩ := List.getElem?_of_mem hm
        obtain ⟨j, hj⟩ := List.getElem?_of_mem (List.mem_reverse.mp hv')
        have := nodup_idx hl (x := y) (i := i) (j := j) (by simp [hi]) (by simp [hj])
        subst this
        rw [hi] at hj; cases hj; rfl
    obtain ⟨r1, x1⟩ := rr.push (h' := h₁) (a := s.heap.objs.size) (o' := .ns k ((c.tbl k).map fun z => (names.zip args).lookup z)) hk1 (get_size_none _) ⟨by simp, htn, _, hns, fun i y w h1 h2 => by
      rw [List.getElem?_map, h1] at h2
      simp only [Option.map_some, Option.some.injEq] at h2
      subst h2
      rw [hrev _ hnd']
      exact zip_lookup names har y⟩
    have p1 : Post c θ σ s _ _ { s with heap := h₁, toks := s.toks + (names.zip vs).length } := ⟨⟨_, _, rfl⟩, x1, r1⟩
    refine kla_codeExpr ?_
    have ev : EnvR sp.scope (σ ++ [AO.ns k ((c.tbl k).map fun z => (names.zip args).lookup z)]).length (ext1 θ σ.length s.heap.objs.size) ⟨σ.length, [(x, l)], fd.code, fd.qualname ++ ".<locals>."⟩
        (newEnv fd.scope s.heap.objs.size fd.globals fd.closure (fd.qualname ++ ".<locals>.") (some (θ lf)) fd.code none fd.builtins) := by
      refine ⟨hsc, ?_, by simp, ?_, fun p hp => ?_, hgl, hbi, hkind, rfl, rfl⟩
      · show s.heap.objs.size = _
        rw [ext1_new]
      · show fd.closure = [(x, l)].map _
        rw [hclo]
        show [(x, θ l)] = [(x, _)]
        rw [ext1_old hl]
      · rw [List.mem_singleton.mp hp]
        simp; omega
    exact wpAny_mono (hE σ.length l fd.code _ _ _ _ _ _ v σ' ok.deeper r1 ev h) (fun u s₂ ⟨θ₂, p₂, r₂⟩ => ⟨θ₂, p1.trans p₂, r₂⟩) fun _ _ x => x.elim
theorem ref_methF {K : Frag} {C : Addr} (k : Kit c K C) {name : Str} (hf : findIn K (.ref C) name = some none) {d : Nat} {sc : Scope} {ae : AEnv} {o : Expr} {apos pos : Pos} {es : List Expr} {P : St AV} {As : St (List AV)} {G : Nat → List AV → St AV} {pl : Env → Sem Bool}
    (hP : RefE c d sc ae o P) (hA : RefArgs c d sc ae es As) (hG : CallL c d G)
    (he : ∀ env, eval (.Call (.Attribute o name apos) es [] pos) env = (do
      let ov ← eval o env
      standAt apos.atName
      let (f, first) ← holding [ov] (getMethod ov name (pl env))
      callWith pos f first (backTo pos (starEach es env)) [])) :
    RefE c d sc ae (.Call (.Attribute o name apos) es [] pos) (methFM C name P As G) := by
  intro A θ σ s env v σ' ok rr ev h
  obtain ⟨a, σ₁, h1, h⟩ := St.bind_some h
  obtain ⟨f, σ₂, h2, h⟩ := St.bind_some h
  refine MethodCall_ (pl := pl env) (wpAny_mono (hP A θ σ s env a σ₁ ok rr ev h1) (fun vo s₁ ⟨θ₁, p₁, r₁⟩ => ?_) fun _ _ x => x) (he env)
  cases f with
  | ref lf =>
    obtain ⟨args, σ₃, h3, h4⟩ := St.bind_some h
    have h2' := h2
    unfold attrV at h2
    split at h2
    · rename_i d' es' hi
      obtain ⟨xx, rfl, e1, e2⟩ := instOf_some hi
      have r₁' := r₁
      obtain ⟨_, rfl⟩ := r₁
      obtain ⟨ds, n, hd, I, q⟩ := inst_at p₁.r e1 e2
      refine method_usual (k.x.keeps p₁.r.keep) I (plainGet_of k.get).1 (plainGet_of k.get).2 hf rfl (wpAny_mono (attr_ok k hf (A := A) p₁.r r₁' h2') (fun vf s₂ ⟨θ₂, p₂, r₂⟩ => ?_) fun _ _ x => x)
      obtain ⟨hlf, rfl⟩ := r₂
      have p := p₁.trans p₂
      obtain ⟨h5, h6⟩ := hA A θ₂ σ₂ s₂ env args σ₃ pos (.ref (θ₂ lf)) ok p₂.r (ev.mono p.ext.le p.ext.same) h3
      refine callWith_of (P := fun h => ∃ o fd, h.get? (θ₂ lf) = some o ∧ o.data = .func fd) (by simp only [h6]; rfl) (fun h ⟨o, fd, ho, hfd⟩ => ⟨.frame, .inl rfl, ?_⟩) (wpAny_mono h5 (fun ar s₃ ⟨θ₃, p₃, kw, r₃⟩ => ?_) fun _ _ x => x)
      · obtain ⟨_, _, _, _⟩ := o
        subst hfd
        exact (Looks.ld (part := none) ho).andThen .now
      · rw [kw]
        have hθ : θ₃ lf = θ₂ lf := p₃.ext.same lf hlf
        obtain ⟨h7, h8⟩ := hG A θ₃ σ₃ s₃ lf args ar.pos v σ' ok p₃.r r₃ h4
        rw [hθ] at h7 h8
        exact ⟨h7, wpAny_mono h8 (fun _ _ ⟨θ₄, p₄, r₄⟩ => ⟨θ₄, (p.trans p₃).trans p₄, r₄⟩) fun _ _ x => x⟩
    · cases h2
  | _ => cases h
theorem CallL.cut {d : Nat} {F G : Nat → List AV → St AV} (hF : CallL c d F) (h : ∀ lf args σ v σ', G lf args σ = some (v, σ') → ∃ v₁ σ₁, F lf args σ = some (v₁, σ₁) ∧ Cut σ σ₁ v₁ v σ') : CallL c d G := by
  intro A θ σ s lf args vs v σ' ok rr ha e
  obtain ⟨v₁, σ₁, e1, hc⟩ := h lf args σ v σ' e
  obtain ⟨h1, h2⟩ := hF A θ σ s lf args vs v₁ σ₁ ok rr ha e1
  exact ⟨h1, wpAny_mono h2 (fun u s₁ ⟨θ₁, p, r⟩ => cut_post rr p r hc) fun _ _ x => x⟩
noncomputable def pickI {α : Type} (xs : List α) (lo hi st : Option Int) : List α := (sliceRange (sliceBounds lo hi st xs.length).1 (sliceBounds lo hi st xs.length).2.1 (sliceBounds lo hi st xs.length).2.2).filterMap (xs[·]?)
noncomputable def stepM (sa : Addr) (ns : List Int) (P L : St AV) (hi st : Int) : St AV := St.bind P fun o => match o with
  | .val (.ref a) => match a == sa with
    | true => St.bind L fun l => match l with
      | .int lo => allocM (.list ((pickI ns (some lo) (some hi) (some st)).map .int))
      | _ => St.fail
    | false => St.fail
  | _ => St.fail
theorem pick_ints {n : Nat} {θ : Th} {vs : List Value} {ns : List Int} (h : IntsAre vs ns) (l : List Nat) : All2 (VR n θ) ((l.filterMap (ns[·]?)).map .int) (l.filterMap (vs[·]?)) := by
  have at' : ∀ {vs : List Value} {ns : List Int}, IntsAre vs ns → ∀ i : Nat, (∃ k t, ns[i]? = some k ∧ vs[i]? = some (Value.int k t)) ∨ (ns[i]? = none ∧ vs[i]? = none) := by
    intro vs ns h
    induction h with
    | nil => intro i; exact .inr ⟨rfl, rfl⟩
    | cons k t r ih =>
      intro i
      cases i with
      | zero => exact .inl ⟨k, t, rfl, rfl⟩
      | succ i => simpa using ih i
  induction l with
  | nil => exact .nil
  | cons i r ih =>
    rcases at' h i with ⟨k, t, e1, e2⟩ | ⟨e1, e2⟩
    · simp only [List.filterMap_cons, e1, e2, List.map_cons]; exact .cons ⟨t, rfl⟩ ih
    · simp only [List.filterMap_cons, e1, e2]; exact ih
theorem ref_step {d : Nat} {sc : Scope} {ae : AEnv} {e : Expr} {a : Addr} {vs : List Value} {ns : List Int} {lo : Expr} {hi st : Int} {k1 k2 : Nat} {q1 q2 p pos : Pos} {P L : St AV} (he : RefE c d sc ae e P) (hl : c.base.IsList a vs.toArray) (hI : IntsAre vs ns) (hz : ns.length ≤ 63) (h0 : st ≠ 0)
    (hL : RefE c d sc ae lo L) (ht : ∀ o r, letTemporaryGo e o r = pure ()) :
    RefE c d sc ae (.Subscript e (.Slice (some lo) (some (.Constant (.int hi) k1 q1)) (some (.Constant (.int st) k2 q2)) p) pos) (stepM a ns P L hi st) := by
  intro A θ σ s env v σ' ok rr ev h
  obtain ⟨o, σ₀, he0, h⟩ := St.bind_some h
  have ho : o = .val (.ref a) ∧ St.bind L (fun l => match l with
      | .int lo => allocM (.list ((pickI ns (some lo) (some hi) (some st)).map .int))
      | _ => St.fail) σ₀ = some (v, σ') := by
    cases o with
    | val u =>
      cases u with
      | ref a' =>
        cases e1 : a' == a with
        | true => simp only [e1] at h; rw [beq_iff_eq.mp e1]; exact ⟨rfl, h⟩
        | false => simp only [e1] at h; cases h
      | _ => cases h
    | _ => cases h
  obtain ⟨rfl, h9⟩ := ho
  clear h
  obtain ⟨l, σ₁, h1, h⟩ := St.bind_some h9
  cases l with
  | int l =>
    cases h
    refine wpAny_Subscript_Slice_step (T := "list") slot_list_getitem.lookup (wpAny_mono (he A θ σ s env _ σ₀ ok rr ev he0) (fun vo s₁ ⟨θ₁, p₁, r₁⟩ => ?_) fun _ _ x => x) ht
    cases r₁
    refine wpAny_Slice (wpAny_evalPart_some (wpAny_mono (hL A θ₁ σ₀ s₁ env _ σ₁ ok p₁.r (ev.mono p₁.ext.le p₁.ext.same) h1) (fun vl s₂ ⟨θ₂, p₂, r₂⟩ => ?_) fun _ _ x => x))
    obtain ⟨tl, rfl⟩ := r₂
    refine wpAny_evalPart_some (wpAny_Constant_int (wpAny_evalPart_some (wpAny_Constant_int ?_)))
    have g0 : Post c θ₂ σ₁ s₂ θ₂ σ₁ { s₂ with heap := s₂.heap.push { cls := .type "slice", data := .fields #[.int l tl, .int hi s₂.toks, .int st (s₂.toks + 1)] }, toks := s₂.toks + 1 + 1 } := Post.grown p₂.r _ _ fun b o eb => Heap.get?_push_of_some _ eb
    have hl' : (s₂.heap.push { cls := .type "slice", data := .fields #[.int l tl, .int hi s₂.toks, .int st (s₂.toks + 1)] }).IsList a vs.toArray := let ⟨o, ho, r⟩ := hl; ⟨o, g0.r.keep _ _ ho, r⟩
    refine ⟨hl'.typeIs, wpAny_getItem_list_slice hl' (Heap.IsSliceOf.new ..) (.int _ _) (.int _ _) (.int _ _) (by simpa using h0) ?_ (by simp [hI.length, sizeLine_eq]; omega)⟩
    have hall : All2 (VR σ₁.length θ₂) ((pickI ns (some l) (some hi) (some st)).map .int) (pickI vs (some l) (some hi) (some st)) := by
      unfold pickI
      rw [hI.length]
      exact pick_ints hI _
    have hpk : slicePick vs.toArray (some l) (some hi) (some st) = (pickI vs (some l) (some hi) (some st)).toArray := by
      unfold slicePick pickI
      simp
    rw [hpk]
    obtain ⟨θ', p', r'⟩ := sat_push_list g0.r hall
    exact ⟨θ', ((p₁.trans p₂).trans g0).trans p', r'⟩
  | _ => cases h
noncomputable def iextP (a b : AV) : St AV := fun σ => match a, b with
  | .ref l, .ref m => match getList l σ, getList m σ with
    | some xs, some ys => guardM (okSz (xs.length + ys.length) && !(l == m)) (fun σ => some (.ref l, σ.set l (.list (xs ++ ys)))) σ
    | _, _ => none
  | _, _ => none
end
end Mine
end
section
namespace Mine
open PySem PySem.Spec PySem.Calls PyProof.Rows PySem.W
structure Base (c : Cx) (K : Frag) (mg mb : Str → Option Value) : Prop where
  x : K.In c.base
  g : c.base.Ns mainGlobals mg
  b : c.base.Ns builtinsNs mb
  boot : ∀ x : Str, x ≠ "__name__" → mb x = bootBuiltins x
  gnd : Gnd c
section
variable {c : Cx} {K : Frag} {mg mb : Str → Option Value}
theorem gl (B : Base c K mg mb) {d : Nat} {sc : Scope} {ae : AEnv} {x : Str} {pos : Pos} {v : Value} (e : nsIn K mainGlobals x = some (some v)) (hl : sc.names.lookup x = some .globalImplicit) (hd : (x == ("__debug__" : Str)) = false) :
    RefE c d sc ae (.Name x pos) (St.pure (.val v)) := ref_glob (.inl ⟨mg, B.g, mg_of B.x B.g e⟩) hl hd
noncomputable def gintIs (K : Frag) (x : Str) (i : Int) : Bool := match nsIn K mainGlobals x with
  | some (some (.int j _)) => decide (j = i)
  | _ => false
set_option tactic.hygienic true in
theorem gli (B : Base c K mg mb) {d : Nat} {sc : Scope} {ae : AEnv} {x : Str} {pos : Pos} {i : Int} (e : gintIs K x i = true) (hl : sc.names.lookup x = some .globalImplicit) (hd : (x == ("__debug__" : Str)) = false) :
    RefE c d sc ae (.Name x pos) (St.pure (.int i)) := by
  unfold gintIs at e
  split at e
  · rename_i j t e'
    have := of_decide_eq_true e
    subst this
    intro A θ σ s env v σ' ok rr ev h
    cases h
    exact wpAny_mono (gl B e' hl hd (d := d) A θ σ s env (.val (.int j t)) σ ok rr ev rfl) (fun u s₁ ⟨θ₁, p₁, r₁⟩ => ⟨θ₁, p₁, t, r₁⟩) fun _ _ x => x
  · cases e
theorem fnObj (B : Base c K mg mb) {f : Addr} (h : fnIn K f = true) : ∃ o fd, c.base.get? f = some o ∧ o.data = .func fd := by
  unfold fnIn at h
  split at h
  · rename_i e; exact ⟨_, _, B.x _ _ e, rfl⟩
  · cases h
theorem inter_fn {env : Env} (h : env.scope.kind = .function) : interactive env = false := by
  unfold interactive
  simp [h]
theorem glb (B : Base c K mg mb) {d : Nat} {sc : Scope} {ae : AEnv} {x : Str} {pos : Pos} {v : Value} (e : nsIn K mainGlobals x = some none) (hv : bootBuiltins x = some v) (hn : x ≠ "__name__") (hl : sc.names.lookup x = some .globalImplicit) (hd : (x == ("__debug__" : Str)) = false) :
    RefE c d sc ae (.Name x pos) (St.pure (.val v)) := ref_glob (.inr ⟨mg, mb, B.g, mg_none_of B.x B.g e, B.b, by rw [B.boot x hn]; exact hv⟩) hl hd
theorem CallR.le {d d' : Nat} {f : Value} {F : List AV → St AV} (h : CallR c d f F) (hd : d ≤ d') : CallR c d' f F := fun A θ σ s args vs v σ' ok rr ha e => h A θ σ s args vs v σ' (ok.le hd) rr ha e
theorem CallL.le {d d' : Nat} {G : Nat → List AV → St AV} (h : CallL c d G) (hd : d ≤ d') : CallL c d' G := fun A θ σ s lf args vs v σ' ok rr ha e => h A θ σ s lf args vs v σ' (ok.le hd) rr ha e
noncomputable def strAt1 (vs : Array Value) : Option Str := match vs[1]? with
  | some (Value.str q _) => some q
  | _ => none
noncomputable def fnOk (K : Frag) (fd : FuncData) : Bool := match fd.code with
  | .ref c => match K.lookup c with
    | some (o : Obj) => match o.data with
      | Data.fields vs => decide (strAt1 vs = some fd.qualname)
      | _ => false
    | none => false
  | _ => false
set_option tactic.hygienic true in
theorem fn_of (B : Base c K mg mb) {a : Addr} {o : Obj} {fd : FuncData} {body : List Stmt} {sc : Scope} {names : List Str} {cd : Value} {q : Str} (h : K.lookup a = some o) (hd : o.data = .func fd) (hbody : fd.body = .stmts body) (hsc : fd.scope = sc) (hcl : fd.closure = []) (hgl : fd.globals = mainGlobals) (hbi : fd.builtins = builtinsNs)
    (hcode : fnOk K fd = true) (hcd : fd.code = cd) (hq : fd.qualname ++ ".<locals>." = q) (hbind : ∀ vs : List Value, vs.length = names.length → bindArgs fd ⟨vs, []⟩ = pure (names.zip vs)) (hco : sc.isCoroutine = false) (hgen : sc.isGenerator = false) (hk : sc.kind = .function) : FnIs c a names body sc cd q := by
  refine ⟨⟨o, fd, B.x _ _ h, hd, ?_, hbody, hcl, hsc, hgl, hbi, hcd, hq, hbind⟩, hco, hgen, hk⟩
  unfold fnOk at hcode
  split at hcode
  · rename_i cc hcc
    split at hcode
    · rename_i co hco'
      split at hcode
      · rename_i vs hvs
        have := of_decide_eq_true hcode
        unfold strAt1 at this
        split at this
        · rename_i q' t hq'
          cases this
          exact ⟨cc, co, vs, t, hcc, B.x _ _ hco', hvs, hq'⟩
        · cases this
      · cases hcode
    · cases hcode
  · cases hcode
theorem keepK (B : Base c K mg mb) {f : Value} (e : keepIn K f = true) : KeepOk c f := keep_of B.x e
theorem callC_of (B : Base c K mg mb) {a : Addr} {names : List Str} {body : List Stmt} {sc : Scope} {cd : Value} {q : Str} (F : FnIs c a names body sc cd q) {k : Nat} {tb : List Str} (htb : c.tbl k = tb) {cs : List Str} (hcs : cellNames sc.names = cs) (hnd : names.Nodup) (htl : ∀ x ∈ tb, sc.names.lookup x = some .local) (htn : tb.Nodup)
    (hcn : cs.Nodup) (hck : ∀ x ∈ cs, sc.names.lookup x = some .cell) (hpk : ∀ x ∈ names, sc.names.lookup x = some .local ∨ sc.names.lookup x = some .cell ∧ x ∈ cs) {d : Nat} {P : Nat → St AF}
    (hB : ∀ fr, RefB c d sc ⟨fr, cellsFrom (fr + 1) sc.names [], cd, q⟩ body (P fr)) : CallC c (d + 1) (.ref a) (fnM names tb k cs P) := by
  subst htb hcs
  exact callC_fn B.gnd F hnd htl htn hcn hck hpk hB
theorem clos_get {env : Env} {θ : Th} : ∀ {cl : List (Str × Nat)}, env.cells = cl.map (fun p => (p.1, θ p.2)) → ∀ {x : Str} {l : Nat}, cl.lookup x = some l → cellOf env x = pure (θ l) := by
  intro cl h x l hx
  unfold cellOf
  rw [h, lookup_map hx]
noncomputable def freeNames : List (Str × NameKind) → List Str
  | [] => []
  | (x, k) :: r => match k == .free with
    | true => x :: freeNames r
    | false => freeNames r
theorem clos_loop {env : Env} {θ : Th} {cl : List (Str × Nat)} (h : env.cells = cl.map (fun p => (p.1, θ p.2))) : ∀ (names : List (Str × NameKind)) (acc : List (Str × Addr)), (∀ x ∈ freeNames names, ∃ l, cl.lookup x = some l) →
    (forIn names acc fun (x : Str × NameKind) (r : List (Str × Addr)) => if (x.2 == .free) = true then (do let a ← cellOf env x.1; pure (ForInStep.yield ((x.1, a) :: r))) else pure (ForInStep.yield r) : Sem (List (Str × Addr))) =
      pure (((freeNames names).reverse.map fun x => (x, θ ((cl.lookup x).getD 0))) ++ acc)
  | [], acc, _ => by simp [freeNames]
  | (x, k) :: r, acc, hf => by
    rw [List.forIn_cons]
    cases hk : k == NameKind.free with
    | true =>
      have hf' : ∀ y ∈ x :: freeNames r, ∃ l, cl.lookup y = some l := by simpa [freeNames, hk] using hf
      obtain ⟨l, hl⟩ := hf' x List.mem_cons_self
      simp only [if_true]
      rw [clos_get h hl]
      simp only [pure_bind]
      rw [clos_loop h r _ fun y hy => hf' y (List.mem_cons_of_mem _ hy)]
      simp [freeNames, hk, hl]
    | false =>
      have hf' : ∀ y ∈ freeNames r, ∃ l, cl.lookup y = some l := by simpa [freeNames, hk] using hf
      simp only [Bool.false_eq_true, if_false, pure_bind]
      rw [clos_loop h r acc hf']
      simp [freeNames, hk]
theorem clos_is {csc sc : Scope} {cl cl' : List (Str × Nat)} {fs : List Str} (hfs : freeNames csc.names = fs) (hf : ∀ x ∈ fs, ∃ l, cl.lookup x = some l) (hcl : (fs.reverse.map fun x => (x, (cl.lookup x).getD 0)) = cl') : ClosIs csc sc cl cl' := by
  subst hfs hcl
  refine ⟨fun env θ _ h => ?_, fun p hp => ?_⟩
  · unfold closureFor
    have := clos_loop h csc.names [] hf
    rw [List.append_nil] at this
    rw [List.map_map]
    refine Eq.trans ?_ (congrArg (fun t => t >>= pure) this |>.trans (by simp; rfl))
    rfl
  · obtain ⟨x, hx, rfl⟩ := List.mem_map.mp hp
    obtain ⟨l, hl⟩ := hf x (List.mem_reverse.mp hx)
    rw [hl]
    exact mem_of_lookup hl
noncomputable def bodyOf (K : Frag) (a : Addr) : List Stmt := match K.lookup a with
  | some ⟨_, _, .func fd, _⟩ => match fd.body with
    | .stmts b => b
    | _ => []
  | _ => []
noncomputable def scopeOf (K : Frag) (a : Addr) : Scope := match K.lookup a with
  | some ⟨_, _, .func fd, _⟩ => fd.scope
  | _ => { kind := .module, names := [], isGenerator := false, isCoroutine := false }
noncomputable def plOf (o : Expr) (env : Env) : Sem Bool := do return (← importBound o env).getD true
theorem ref_methK {d : Nat} {sc : Scope} {ae : AEnv} {o : Expr} {name : Str} {apos pos : Pos} {es : List Expr} {P : St AV} {As : St (List AV)} {f : Value} {F : List AV → St AV} {sel : AV → List AO → Option (List AV)}
    (hP : RefE c d sc ae o P) (hg : GetM c name f sel) (hk : KeepOk c f) (hA : RefArgs c d sc ae es As) (hc : CallR c d f F)
    (he : ∀ env, eval (.Call (.Attribute o name apos) es [] pos) env = (do
      let ov ← eval o env
      standAt apos.atName
      let (f, first) ← holding [ov] (getMethod ov name (plOf o env))
      callWith pos f first (backTo pos (starEach es env)) [])) :
    RefE c d sc ae (.Call (.Attribute o name apos) es [] pos) (methM P sel F As) := ref_meth (pl := plOf o) hP hg hk hA hc he
theorem ref_methFK {C : Addr} (k : Kit c K C) {name : Str} (hf : findIn K (.ref C) name = some none) {d : Nat} {sc : Scope} {ae : AEnv} {o : Expr} {apos pos : Pos} {es : List Expr} {P : St AV} {As : St (List AV)} {G : Nat → List AV → St AV}
    (hP : RefE c d sc ae o P) (hA : RefArgs c d sc ae es As) (hG : CallL c d G)
    (he : ∀ env, eval (.Call (.Attribute o name apos) es [] pos) env = (do
      let ov ← eval o env
      standAt apos.atName
      let (f, first) ← holding [ov] (getMethod ov name (plOf o env))
      callWith pos f first (backTo pos (starEach es env)) [])) :
    RefE c d sc ae (.Call (.Attribute o name apos) es [] pos) (methFM C name P As G) := ref_methF (pl := plOf o) k hf hP hA hG he
noncomputable def noPos : Pos := ⟨0, 0, 0, 0⟩
noncomputable def stAt (K : Frag) (a : Addr) (i : Nat) : Stmt := match (bodyOf K a)[i]? with
  | some s => s
  | none => .Pass noPos
noncomputable def innerOf : Stmt → List Stmt
  | .For _ _ b _ _ => b
  | .While _ b _ _ => b
  | _ => []
theorem body_eta {K : Frag} {a : Addr} {n : Nat} (h : (bodyOf K a).length = n) : bodyOf K a = (List.range n).map (stAt K a) := by
  apply List.ext_getElem?
  intro i
  subst h
  by_cases hi : i < (bodyOf K a).length
  · rw [List.getElem?_map, List.getElem?_range hi]
    unfold stAt
    simp [List.getElem?_eq_getElem hi]
  · rw [List.getElem?_eq_none (by omega), List.getElem?_eq_none (by simpa using hi)]
noncomputable def noArgs : Arguments := ⟨[], [], none, [], [], none, []⟩
noncomputable def lamOf (K : Frag) (a : Addr) : FnSpec := match K.lookup a with
  | some ⟨_, _, .func fd, _⟩ => match fd.body with
    | .stmts [_, _, .Assign [_] (.Lambda params body sc _) _, _] => ⟨fd.qualname ++ ".<locals>." ++ "<lambda>", params, .expr body, sc⟩
    | _ => ⟨"", noArgs, .stmts [], scopeOf [] 0⟩
  | _ => ⟨"", noArgs, .stmts [], scopeOf [] 0⟩
end
end Mine
end
section
namespace Mine
open PySem PySem.Spec PySem.Calls PyProof.Rows PySem.W
noncomputable def st0 (m : Nat) (cs : List (Option Value)) (PT : Addr) : List AO :=
  .ns 30 (List.replicate m none) :: (cs.map fun v => .cell (v.map .val)) ++ [.raw PT (tabObj #[])]
theorem head_run {c : Cx} {K : Frag} {mg mb : Str → Option Value} (_ : Base c K mg mb) {sc : Scope} {A : Around} {d : Nat} (ok : Ok d A) {L PT : Nat} {m : Str → Option Value} {s : Shared} (F : Fr c.base L s.heap m)
    (hm : ∀ x ∈ c.tbl 30, m x = none) (hnd : (c.tbl 30).Nodup) {cs : List (Option Value)} (hcs : ∀ j v, cs[j]? = some v → s.heap.IsCell (L + 1 + j) v) (hP : s.heap.get? PT = some (tabObj #[])) (hPb : c.base.get? PT = none) (hPL : PT < L)
    {env : Env} {cl : List (Str × Nat)} {cd : Value} {q : Str} (hsc : env.scope = sc) (hL : env.locals = L) (hcl : env.cells = cl.map fun p => (p.1, L + p.2)) (hc2 : ∀ p ∈ cl, p.2 ≤ cs.length) (hg : env.globals = mainGlobals) (hb : env.builtins = builtinsNs)
    (hk : sc.kind = .function) (hcd : env.code = cd) (hq : env.qual = q) {body : List Stmt} {P : St AF} (hP' : RefB c d sc ⟨0, cl, cd, q⟩ body P) {σ' : List AO} (h : P (st0 (c.tbl 30).length cs PT) = some (.ret (.bool true), σ')) (hT : σ'[cs.length + 1]? = some .tab)
    {Q : Flow → Shared → Prop} {E : Value → Shared → Prop}
    (hQ : ∀ s', (∀ b o, c.base.get? b = some o → s'.heap.get? b = some o) → (∃ ps, s'.heap.get? PT = some (tabObj ps)) → s'.os = s.os → s'.gens = s.gens → Q (.ret (.bool true)) s') :
    wpAny (model c.prog c.w) A (execs body env) Q E s := by
  let θ : Nat → Nat := fun l => if l ≤ cs.length then L + l else PT
  have hlen : (st0 (c.tbl 30).length cs PT).length = cs.length + 2 := by simp [st0]
  have t0 : ∀ l, l ≤ cs.length → θ l = L + l := fun l hl => if_pos hl
  have t1 : θ (cs.length + 1) = PT := if_neg (by omega)
  have r0 : R c θ (st0 (c.tbl 30).length cs PT) s.heap := by
    refine ⟨F.keep, fun l o e => ?_, ?_, ?_⟩
    · have hl : l < cs.length + 2 := hlen ▸ lt_of_get e
      rcases (by omega : l = 0 ∨ (1 ≤ l ∧ l ≤ cs.length) ∨ l = cs.length + 1) with rfl | ⟨h1, h2⟩ | rfl
      · simp only [st0, List.cons_append, List.getElem?_cons_zero] at e
        cases e
        rw [t0 0 (by omega)]
        refine ⟨by simp, hnd, m, F.ns, fun i x v h1 h2 => ?_⟩
        have : v = none := by
          rw [List.getElem?_replicate] at h2
          split at h2
          · cases h2; rfl
          · cases h2
        subst this
        rw [hm x (List.mem_of_getElem? h1)]; trivial
      · obtain ⟨j, rfl⟩ : ∃ j, l = j + 1 := ⟨l - 1, by omega⟩
        simp only [st0, List.cons_append, List.getElem?_cons_succ] at e
        rw [List.getElem?_append_left (by simp; omega), List.getElem?_map] at e
        cases hv : cs[j]? with
        | none => rw [hv] at e; cases e
        | some v =>
          rw [hv] at e; cases e
          rw [t0 _ h2, show L + (j + 1) = L + 1 + j from by omega]
          obtain ⟨o, ho, hd⟩ := hcs j v hv
          exact ⟨o, v, ho, hd, by cases v with | none => trivial | some v => exact rfl⟩
      · simp only [st0, List.cons_append, List.getElem?_cons_succ] at e
        rw [List.getElem?_append_right (by simp)] at e
        simp at e
        subst e
        rw [t1]; exact ⟨rfl, hP⟩
    · rw [hlen]
      intro l l' h1 h2 e
      rcases (by omega : l ≤ cs.length ∨ l = cs.length + 1) with a | rfl <;> rcases (by omega : l' ≤ cs.length ∨ l' = cs.length + 1) with a' | rfl
      · rw [t0 l a, t0 l' a'] at e; exact Nat.add_left_cancel e
      · rw [t0 l a, t1] at e; exact absurd (show L + l = PT from e) (by omega)
      · rw [t0 l' a', t1] at e; exact absurd (show PT = L + l' from e) (by omega)
      · rfl
    · rw [hlen]
      intro l h1
      rcases (by omega : l ≤ cs.length ∨ l = cs.length + 1) with a | rfl
      · rw [t0 l a]; exact Heap.get?_none_of_le (Nat.le_trans F.above (by omega))
      · rw [t1]; exact hPb
  have ev : EnvR sc (st0 (c.tbl 30).length cs PT).length θ ⟨0, cl, cd, q⟩ env := by
    refine ⟨hsc, by rw [hL, t0 0 (by omega)]; rfl, by rw [hlen]; show 0 < _; omega, ?_, fun p hp => by rw [hlen]; have := hc2 p hp; omega, hg, hb, hk, hcd, hq⟩
    rw [hcl]
    exact List.map_congr_left fun p hp => by rw [t0 p.2 (hc2 p hp)]
  refine wpAny_mono (hP' A θ _ s env _ σ' ok r0 ev h) ?_ ?_
  · rintro f s' ⟨θ', p, u, rfl, hu⟩
    cases hu
    obtain ⟨h', tk, rfl⟩ := p.st
    refine hQ _ p.r.keep ?_ rfl rfl
    obtain ⟨ps, e⟩ := p.r.get hT
    rw [p.ext.same _ (by rw [hlen]; omega), t1] at e
    exact ⟨ps, e⟩
  · intro e s' x; exact x.elim
structure WS (c : Cx) (d : Nat) (sc : Scope) (ae : AEnv) (st : Stmt) (P : St AF) : Prop where
  h : RefS c d sc ae st P
structure WB (c : Cx) (d : Nat) (sc : Scope) (ae : AEnv) (sts : List Stmt) (P : St AF) : Prop where
  h : RefB c d sc ae sts P
theorem WB.one {c : Cx} {d : Nat} {sc : Scope} {ae : AEnv} {st : Stmt} {P : St AF} (h : WS c d sc ae st P) : WB c d sc ae [st] P := ⟨b_one h.h⟩
theorem WB.cons {c : Cx} {d : Nat} {sc : Scope} {ae : AEnv} {st : Stmt} {sts : List Stmt} {P Q : St AF} (h : WS c d sc ae st P) (t : WB c d sc ae sts Q) : WB c d sc ae (st :: sts) (seqM P Q) := ⟨b_cons h.h t.h⟩
noncomputable def mkc : Nat → List (Option Value) → List (Option Value × Nat)
  | _, [] => []
  | n, v :: r => mkc (n + 1) r ++ [(v, n)]
theorem mkc_mem : ∀ {cs : List (Option Value)} {n j : Nat} {v : Option Value}, cs[j]? = some v → (v, n + j) ∈ mkc n cs
  | [], _, _, _, h => by simp at h
  | u :: r, n, 0, v, h => by simp at h; subst h; simp [mkc]
  | u :: r, n, j + 1, v, h => by
    have := mkc_mem (n := n + 1) (j := j) (cs := r) (v := v) (by simpa using h)
    rw [show n + (j + 1) = n + 1 + j from by omega]
    simp [mkc, this]
theorem cells_at {cm : Str → Option Value} {base h : Heap} {L : Addr} {tabs : List (Addr × Obj)} {cs : List (Str × Addr)} {cells : List (Addr × Obj)} (q : CellsAre cm cs cells) (N : News base L h (cells ++ tabs)) : ∀ p ∈ cs, h.IsCell p.2 (cm p.1) := by
  induction q with
  | nil => intro p hp; cases hp
  | @cons _ _ o _ _ hd r ih =>
    exact List.forall_mem_cons.mpr ⟨⟨o, (N _ (List.mem_append_left _ List.mem_cons_self)).1, hd⟩, ih fun q hq => N q (List.mem_cons_of_mem _ hq)⟩
theorem head_law {c : Cx} {K : Frag} {mg mb : Str → Option Value} (B : Base c K mg mb) {D : DefRec} {L PT : Nat} {fa : Addr} {cd : Value} {m cm : Str → Option Value} {cells : List (Addr × Obj)} {s : Shared} (F : Fr c.base L s.heap m)
    (N : News c.base L s.heap (cells ++ [(PT, tabObj #[])])) (X0 : CellsAre cm (cellsFrom (L + 1) D.scope.names []) cells) (l0 : PT < L) {sc : Scope} (hsc : D.scope = sc) (hm : (c.tbl 30).all (fun x => (m x).isNone) = true) (hnd : (c.tbl 30).Nodup)
    {cs : List (Option Value)} (hcs : (cellsFrom (L + 1) D.scope.names []).map (fun p => (cm p.1, p.2)) = mkc (L + 1) cs) {cl : List (Str × Nat)} (hcl : cellsFrom (L + 1) D.scope.names [] = cl.map fun p => (p.1, L + p.2)) (hc2 : (cl.all fun p => Nat.ble p.2 cs.length) = true)
    (hk : sc.kind = .function) {body : List Stmt} (hbody : D.body = body) {P : St AF} (hP : ∀ cd q, WB c 8 sc ⟨0, cl, cd, q⟩ body P) (h : ∃ σ', P (st0 (c.tbl 30).length cs PT) = some (.ret (.bool true), σ') ∧ σ'[cs.length + 1]? = some .tab)
    {Q : Flow → Shared → Prop} {E : Value → Shared → Prop}
    (hQ : ∀ s', (∀ b o, c.base.get? b = some o → s'.heap.get? b = some o) → (∃ ps, s'.heap.get? PT = some (tabObj ps)) → s'.os = s.os → s'.gens = s.gens → Q (.ret (.bool true)) s') :
    wpAny (model c.prog c.w) (callerA.deeper (envOfC D.name D.scope L fa cd)) (execs D.body (envOfC D.name D.scope L fa cd)) Q E s := by
  subst hsc; subst hbody
  obtain ⟨σ', h1, h2⟩ := h
  have NP := N (PT, tabObj #[]) (by simp)
  refine head_run B (d := 8) (cd := cd) (q := D.name ++ ".<locals>.") (cl := cl) (cs := cs) ⟨rfl, by show 1 + claimMargin + 1 + 40 * 8 < recursionLimit; decide +kernel, by show 4 + 3 + 40 * 8 < cLine; decide +kernel⟩ F (fun x hx => ?_) hnd (fun j v hv => ?_) NP.1 NP.2.2 l0 rfl rfl hcl
    (fun p hp => Nat.le_of_ble_eq_true (List.all_eq_true.mp hc2 p hp)) rfl rfl hk rfl rfl (hP _ _).h h1 h2 hQ
  · have := List.all_eq_true.mp hm x hx
    simpa using this
  · have := mkc_mem (n := L + 1) hv
    rw [← hcs] at this
    obtain ⟨p, hp, e⟩ := List.mem_map.mp this
    have h3 := cells_at X0 N p hp
    obtain ⟨e1, e2⟩ := Prod.mk.inj e
    rw [e1] at h3
    rw [← e2]; exact h3
theorem good_true {cw : ClaimW} {cl : Str → Option Addr} {mean : ExcName → Option Value} {args : List WData} {s₁ s' : Shared} (hn : ∀ cls, cw.raises args cls = false) (hp : cw.post args (.bool true) args = true)
    (hk : ∀ b o, s₁.heap.get? b = some o → s'.heap.get? b = some o) (hos : s'.os = s₁.os) (hg : s'.gens = #[]) : GoodW cw cl mean args s₁ (.ok (.ret (.bool true))) s' :=
  ⟨.inl ⟨.bool true, .bool true, [], rfl, hn, .bool true, hp, unshared_nil⟩, hk, hos, hg⟩
end Mine
end
section
namespace Mine
open PySem PySem.Spec PySem.Calls PyProof.Rows PySem.W
noncomputable def cutT (P : St Bool) : St Bool := fun σ => match P σ with
  | some (b, σ') => onlyIf (σ.length ≤ σ'.length ∧ ∀ i o, i < σ.length → σ'[i]? = some o → σ[i]? = some o ∨ o.below σ.length) (fun _ => some (b, σ'.take σ.length)) σ
  | none => none
set_option tactic.hygienic true in
theorem tst_cut {c : Cx} {d : Nat} {sc : Scope} {ae : AEnv} {e : Expr} {P : St Bool} (hP : RefT c d sc ae e P) : RefT c d sc ae e (cutT P) := by
  intro A θ σ s env v σ' ok rr ev h
  unfold cutT at h
  split at h
  · rename_i b σ₁ h1
    obtain ⟨⟨hl, hk⟩, h2⟩ := onlyIf_some h
    cases h2
    refine wpAny_mono (hP A θ σ s env _ σ₁ ok rr ev h1) (fun a s₁ ⟨θ₁, p, hb⟩ => ?_) fun _ _ x => x
    exact ⟨θ₁, p.take rr (Nat.le_refl _) hl hk, hb⟩
  · cases h
theorem cutT_ap {P : St Bool} {σ τ : List AO} {b : Bool} (h : P σ = some (b, σ ++ τ)) : cutT P σ = some (b, σ) := by
  unfold cutT
  rw [h]
  simp only []
  rw [onlyIf_pos ⟨by simp, fun i o hi e => .inl (by rwa [List.getElem?_append_left hi] at e)⟩, List.take_left]
end Mine
end
section
namespace Mine
open PySem PySem.Spec PySem.Calls PyProof.Rows PySem.W
section
variable {c : Cx}
theorem fills_list_iadd : fillsInplaceSlot (.type "list") "add" (Operator.Add == .Add) = pure false := by
  unfold fillsInplaceSlot
  show (typeLookup (.type "list") (dunderI "add") >>= fun fi => pure (fi.isSome && !isSeqSlot fi)) = pure false
  rw [F.slot_list_iadd.lookup]; kernel_rfl
theorem seq_list_iadd : seqSlot? (.type "list") (dunderI "add") = pure (some (.builtin "list.__iadd__")) := by
  unfold seqSlot?
  rw [F.slot_list_iadd.lookup]; kernel_rfl
theorem fills_list_add : fillsNumberSlot (.type "list") "add" = pure false := by kernel_rfl
set_option tactic.hygienic true in
theorem iext_ok : AugOk c .Add iextP := by
  intro A θ σ s a b va vb v σ' hh rr ha hb h
  unfold iextP at h
  split at h
  · rename_i l m
    split at h
    · rename_i xs ys e1 e2
      obtain ⟨hg, h⟩ := guardM_some h
      cases h
      simp only [Bool.and_eq_true, Bool.not_eq_true', beq_eq_false_iff_ne] at hg
      obtain ⟨hz, hne⟩ := hg
      have hz := okSz_le hz
      obtain ⟨hl, rfl⟩ := ha
      obtain ⟨hm, rfl⟩ := hb
      obtain ⟨us, ⟨n1, p1⟩, q1⟩ := plain_list rr (getList_some e1)
      obtain ⟨ws, ⟨n2, p2⟩, q2⟩ := plain_list rr (getList_some e2)
      have t1 : s.TypeIs (.ref (θ l)) "list" := ⟨_, p1, rfl⟩
      have t2 : s.TypeIs (.ref (θ m)) "list" := ⟨_, p2, rfl⟩
      refine wpAny_holding (wpAny_bind (wpAny_typeOf t1 (wpAny_bind (wpAny_of_eq fills_list_iadd ?_))))
      show wpAny (model c.prog c.w) A (if false = true then _ else _) _ _ s
      rw [if_neg Bool.false_ne_true]
      refine wpAny_bind (wpAny_binaryOp1_none (nm := "add") t1 t2 fills_list_add ?_)
      refine wpAny_bind (wpAny_of_eq seq_list_iadd ?_)
      refine wpAny_bind (wpAny_rule ?_)
      have hlen1 := q1.length
      have hlen2 := q2.length
      refine call_meets F.slot_list_iadd t1 F.entry_list_iadd (F.args_list_iadd_2 _ _) (AutoSeq1.list___iadd___list_list_0 (θ l) us.toArray n1 (θ m) ws.toArray n2 ?_ (by simp; omega) (by simp; omega)) ⟨p1, p2, ?_⟩
      · have : Builtin.List.listTooLong (us.toArray.size + ws.toArray.size) = false := by
          unfold Builtin.List.listTooLong
          simp; omega
        rw [this]; simp
      · obtain ⟨r', e'⟩ := rr.set (o' := .list (xs ++ ys)) hl (Heap.SameBut.update ..) ⟨us ++ ws, ⟨_, by simpa using IsL.update p1 (fun x => x ++ ws.toArray)⟩, q1.append q2⟩
        exact ⟨θ, ⟨⟨_, _, rfl⟩, e', r'⟩, by rw [List.length_set]; exact hl, rfl⟩
    · cases h
  · cases h
end
end Mine
end
section
namespace Mine
open PySem
section
variable {σ τ : List AO} {P Q : St AF}
@[simp↓] theorem bind_ap {α β : Type} (p : St α) (f : α → St β) : St.bind p f σ = (match p σ with | some (a, ρ) => f a ρ | none => none) := by
  unfold St.bind; cases p σ with
  | none => rfl
  | some r => rfl
@[simp↓] theorem pure_ap {α : Type} (a : α) : St.pure a σ = some (a, σ) := rfl
@[simp↓] theorem fail_ap {α : Type} : (St.fail : St α) σ = none := rfl
@[simp↓] theorem guard_ap {α : Type} (b : Bool) (p : St α) : guardM b p σ = (match b with | true => p σ | false => none) := by cases b <;> rfl
@[simp↓] theorem seqM_ap : seqM P Q σ = (match P σ with | some (.next, ρ) => Q ρ | some (.brk, ρ) => some (.brk, ρ) | some (.cont, ρ) => some (.cont, ρ) | some (.ret v, ρ) => some (.ret v, ρ) | none => none) := by
  unfold seqM; rw [bind_ap]; cases P σ with
  | none => rfl
  | some r => obtain ⟨f, ρ⟩ := r; cases f <;> rfl
@[simp↓] theorem nextM_ap (p : St Unit) : nextM p σ = (match p σ with | some (_, ρ) => some (.next, ρ) | none => none) := by
  unfold nextM; rw [bind_ap]; cases p σ with
  | none => rfl
  | some r => rfl
@[simp↓] theorem asgM_ap (p : St AV) (F : AV → St Unit) : asgM p F σ = (match p σ with | some (a, ρ) => nextM (F a) ρ | none => none) := by
  unfold asgM; rw [bind_ap]; rcases p σ with _ | ⟨a, ρ⟩ <;> rfl
@[simp↓] theorem asg2M_ap (p : St AV) (F G : AV → St Unit) : asg2M p F G σ = (match p σ with | some (a, ρ) => (match F a ρ with | some (_, ρ') => nextM (G a) ρ' | none => none) | none => none) := by
  unfold asg2M; rw [bind_ap]; rcases p σ with _ | ⟨a, ρ⟩
  · rfl
  · simp only [bind_ap]; rcases F a ρ with _ | ⟨b, ρ'⟩ <;> rfl
@[simp↓] theorem augM_ap (L p : St AV) (F : AV → AV → St AV) (S : AV → St Unit) : augM L p F S σ = (match L σ with | some (a, ρ) => (match p ρ with | some (b, ρ') => (match F a b ρ' with | some (r, ρ'') => nextM (S r) ρ'' | none => none) | none => none) | none => none) := by
  unfold augM; rw [bind_ap]; rcases L σ with _ | ⟨a, ρ⟩
  · rfl
  · simp only [bind_ap]; rcases p ρ with _ | ⟨b, ρ'⟩
    · rfl
    · simp only []; rcases F a b ρ' with _ | ⟨c, ρ''⟩ <;> rfl
@[simp↓] theorem retM_ap (p : St AV) : retM p σ = (match p σ with | some (a, ρ) => some (.ret a, ρ) | none => none) := by
  unfold retM; rw [bind_ap]; rcases p σ with _ | ⟨a, ρ⟩ <;> rfl
@[simp↓] theorem exprM_ap (p : St AV) : exprM p σ = (match p σ with | some (_, ρ) => some (.next, ρ) | none => none) := by
  unfold exprM; rw [bind_ap]; rcases p σ with _ | ⟨a, ρ⟩ <;> rfl
@[simp↓] theorem ifM_ap (T : St Bool) : ifM T P Q σ = (match T σ with | some (true, ρ) => P ρ | some (false, ρ) => Q ρ | none => none) := by
  unfold ifM; rw [bind_ap]; cases T σ with
  | none => rfl
  | some r => obtain ⟨b, ρ⟩ := r; cases b <;> rfl
@[simp↓] theorem iteM_ap {α : Type} (T : St Bool) (p q : St α) : iteM T p q σ = (match T σ with | some (true, ρ) => p ρ | some (false, ρ) => q ρ | none => none) := by
  unfold iteM; rw [bind_ap]; cases T σ with
  | none => rfl
  | some r => obtain ⟨b, ρ⟩ := r; cases b <;> rfl
@[simp↓] theorem binM_ap (F : AV → AV → St AV) (p q : St AV) : binM F p q σ = (match p σ with | some (a, ρ) => (match q ρ with | some (b, ρ') => F a b ρ' | none => none) | none => none) := by
  unfold binM; rw [bind_ap]; rcases p σ with _ | ⟨a, ρ⟩
  · rfl
  · simp only [bind_ap]; rcases q ρ with _ | ⟨b, ρ'⟩ <;> rfl
@[simp↓] theorem cmpM_ap (F : AV → AV → St AV) (p q : St AV) : cmpM F p q σ = (match p σ with | some (a, ρ) => (match q ρ with | some (b, ρ') => F a b ρ' | none => none) | none => none) := by
  unfold cmpM; rw [bind_ap]; rcases p σ with _ | ⟨a, ρ⟩
  · rfl
  · simp only [bind_ap]; rcases q ρ with _ | ⟨b, ρ'⟩ <;> rfl
@[simp↓] theorem truM_ap (p : St AV) : truM p σ = (match p σ with | some (a, ρ) => truthP a ρ | none => none) := by
  unfold truM; rw [bind_ap]; rcases p σ with _ | ⟨a, ρ⟩ <;> rfl
@[simp↓] theorem notM_ap (p : St Bool) : notM p σ = (match p σ with | some (b, ρ) => some (!b, ρ) | none => none) := by
  unfold notM; rw [bind_ap]; rcases p σ with _ | ⟨a, ρ⟩ <;> rfl
@[simp↓] theorem negM_ap (p : St AV) : negM p σ = (match p σ with | some (.int i, ρ) => some (.int (-i), ρ) | _ => none) := by
  unfold negM; rw [bind_ap]; cases p σ with
  | none => rfl
  | some r => obtain ⟨b, ρ⟩ := r; cases b <;> rfl
@[simp↓] theorem andM_ap (p q : St Bool) : andM p q σ = (match p σ with | some (true, ρ) => q ρ | some (false, ρ) => some (false, ρ) | none => none) := by
  unfold andM; rw [bind_ap]; cases p σ with
  | none => rfl
  | some r => obtain ⟨b, ρ⟩ := r; cases b <;> rfl
@[simp↓] theorem orM_ap (p q : St Bool) : orM p q σ = (match p σ with | some (true, ρ) => some (true, ρ) | some (false, ρ) => q ρ | none => none) := by
  unfold orM; rw [bind_ap]; cases p σ with
  | none => rfl
  | some r => obtain ⟨b, ρ⟩ := r; cases b <;> rfl
@[simp↓] theorem orVM_ap (p q : St AV) : orVM p q σ = (match p σ with | some (a, ρ) => (match truthP a ρ with | some (true, ρ') => some (a, ρ') | some (false, ρ') => q ρ' | none => none) | none => none) := by
  unfold orVM; rw [bind_ap]; cases p σ with
  | none => rfl
  | some r =>
    obtain ⟨a, ρ⟩ := r
    simp only [bind_ap]
    cases truthP a ρ with
    | none => rfl
    | some r => obtain ⟨b, ρ'⟩ := r; cases b <;> rfl
@[simp↓] theorem idxM_ap (p q : St AV) : idxM p q σ = (match p σ with | some (a, ρ) => (match q ρ with | some (b, ρ') => idxP a b ρ' | none => none) | none => none) := by
  unfold idxM; rw [bind_ap]; rcases p σ with _ | ⟨a, ρ⟩
  · rfl
  · simp only [bind_ap]; rcases q ρ with _ | ⟨b, ρ'⟩ <;> rfl
@[simp↓] theorem slcM_ap (p l u : St AV) : slcM p l u σ = (match p σ with | some (a, ρ) => (match l ρ with | some (b, ρ') => (match u ρ' with | some (c, ρ'') => sliceP a b c ρ'' | none => none) | none => none) | none => none) := by
  unfold slcM; rw [bind_ap]; rcases p σ with _ | ⟨a, ρ⟩
  · rfl
  · simp only [bind_ap]; rcases l ρ with _ | ⟨b, ρ'⟩
    · rfl
    · simp only []; rcases u ρ' with _ | ⟨c, ρ''⟩ <;> rfl
@[simp↓] theorem callM_ap (F : List AV → St AV) (A : St (List AV)) : callM F A σ = (match A σ with | some (vs, ρ) => F vs ρ | none => none) := by
  unfold callM; rw [bind_ap]; rcases A σ with _ | ⟨a, ρ⟩ <;> rfl
@[simp↓] theorem consM_ap (p : St AV) (q : St (List AV)) : consM p q σ = (match p σ with | some (a, ρ) => (match q ρ with | some (l, ρ') => some (a :: l, ρ') | none => none) | none => none) := by
  unfold consM; rw [bind_ap]; rcases p σ with _ | ⟨a, ρ⟩
  · rfl
  · simp only [bind_ap]; rcases q ρ with _ | ⟨b, ρ'⟩ <;> rfl
@[simp↓] theorem methM_ap (p : St AV) (sel : AV → List AO → Option (List AV)) (F : List AV → St AV) (A : St (List AV)) : methM p sel F A σ = (match p σ with | some (a, ρ) => (match sel a ρ with | some fs => (match A ρ with | some (vs, ρ') => F (fs ++ vs) ρ' | none => none) | none => none) | none => none) := by
  unfold methM; rw [bind_ap]; rcases p σ with _ | ⟨a, ρ⟩
  · rfl
  · cases h : sel a ρ with
    | none => simp [h]
    | some fs => simp only [h, bind_ap]; rcases A ρ with _ | ⟨b, ρ'⟩ <;> rfl
@[simp↓] theorem listM_ap (p : St (List AV)) : listM p σ = (match p σ with | some (xs, ρ) => (match okSz xs.length with | true => some (.ref ρ.length, ρ ++ [.list xs]) | false => none) | none => none) := by
  unfold listM; rw [bind_ap]; cases p σ with
  | none => rfl
  | some r => obtain ⟨a, ρ⟩ := r; simp only [guard_ap]; rfl
@[simp↓] theorem tupM_ap (p : St (List AV)) : tupM p σ = (match p σ with | some (xs, ρ) => (match okSz xs.length with | true => some (.ref ρ.length, ρ ++ [.tup xs]) | false => none) | none => none) := by
  unfold tupM; rw [bind_ap]; cases p σ with
  | none => rfl
  | some r => obtain ⟨a, ρ⟩ := r; simp only [guard_ap]; rfl
@[simp↓] theorem asgSubM_ap (V p I : St AV) : asgSubM V p I σ = (match V σ with | some (v, ρ) => (match p ρ with | some (a, ρ') => (match I ρ' with | some (i, ρ'') => nextM (setM v a i) ρ'' | none => none) | none => none) | none => none) := by
  unfold asgSubM; rw [bind_ap]; rcases V σ with _ | ⟨a, ρ⟩
  · rfl
  · simp only [bind_ap]; rcases p ρ with _ | ⟨b, ρ'⟩
    · rfl
    · simp only []; rcases I ρ' with _ | ⟨c, ρ''⟩ <;> rfl
@[simp↓] theorem asgTupM_ap (p : St AV) (n : Nat) (Fs : List (AV → St Unit)) : asgTupM p n Fs σ = (match p σ with | some (a, ρ) => (match getTup a ρ with | some xs => (match xs.length == n with | true => nextM (storesM Fs xs) ρ | false => none) | none => none) | none => none) := by
  unfold asgTupM; rw [bind_ap]; rcases p σ with _ | ⟨a, ρ⟩
  · rfl
  · simp only [guard_ap]
    all_goals rcases getTup a ρ with _ | xs <;> rfl
@[simp↓] theorem asgSwapM_ap (p : St AV) (n : Nat) (Fs : List (AV → St Unit)) : asgSwapM p n Fs σ = (match p σ with | some (a, ρ) => (match getTup a ρ with | some xs => (match xs.length == n with | true => nextM (storesM Fs xs.reverse) ρ | false => none) | none => none) | none => none) := by
  unfold asgSwapM; rw [bind_ap]; rcases p σ with _ | ⟨a, ρ⟩
  · rfl
  · simp only [guard_ap]
    all_goals rcases getTup a ρ with _ | xs <;> rfl
@[simp↓] theorem storesM_cons (f : AV → St Unit) (fs : List (AV → St Unit)) (x : AV) (xs : List AV) : storesM (f :: fs) (x :: xs) σ = (match f x σ with | some (_, ρ) => storesM fs xs ρ | none => none) := by
  show St.bind _ _ _ = _; rw [bind_ap]; rcases f x σ with _ | ⟨a, ρ⟩ <;> rfl
@[simp↓] theorem storesM_nil : storesM [] [] σ = some ((), σ) := rfl
@[simp↓] theorem get_at (j : Nat) : (σ ++ τ)[σ.length + j]? = τ[j]? := by rw [List.getElem?_append_right (by omega)]; congr 1; omega
@[simp↓] theorem get_at0 : (σ ++ τ)[σ.length]? = τ[0]? := get_at 0
@[simp↓] theorem get_at2 : (σ ++ τ)[σ.length + 1 + 1]? = τ[2]? := get_at 2
@[simp↓] theorem set_at (j : Nat) (o : AO) : (σ ++ τ).set (σ.length + j) o = σ ++ τ.set j o := by
  rw [List.set_append_right _ _ (by omega)]; congr 2; omega
@[simp↓] theorem set_at0 (o : AO) : (σ ++ τ).set σ.length o = σ ++ τ.set 0 o := set_at 0 o
@[simp↓] theorem set_at2 (o : AO) : (σ ++ τ).set (σ.length + 1 + 1) o = σ ++ τ.set 2 o := set_at 2 o
theorem get_old {l : Nat} {o : AO} (h : σ[l]? = some o) : (σ ++ τ)[l]? = some o := by rw [List.getElem?_append_left (lt_of_get h)]; exact h
theorem set_old {l : Nat} (h : l < σ.length) (o : AO) : (σ ++ τ).set l o = σ.set l o ++ τ := List.set_append_left _ _ h
theorem slot_ap (fr k i : Nat) : slotM fr k i σ = (match σ[fr]? with | some (.ns k' vs) => (match k' == k with | true => (match vs[i]? with | some (some v) => some (v, σ) | _ => none) | false => none) | _ => none) := rfl
@[simp↓] theorem slot_at (k i : Nat) (vs : List (Option AV)) : slotM σ.length k i (σ ++ .ns k vs :: τ) = (match vs[i]? with | some (some v) => some (v, σ ++ .ns k vs :: τ) | _ => none) := by
  rw [slot_ap, get_at0]; simp
@[simp↓] theorem put_at (k i : Nat) (v : AV) (vs : List (Option AV)) : putM σ.length k i v (σ ++ .ns k vs :: τ) = (match vs[i]? with | some _ => some ((), σ ++ .ns k (vs.set i (some v)) :: τ) | none => none) := by
  unfold putM; rw [get_at0]
  simp only [List.getElem?_cons_zero, beq_self_eq_true]
  by_cases h : i < vs.length
  · rw [List.getElem?_eq_getElem h]; simp only [decide_eq_true h, set_at0]; rfl
  · rw [List.getElem?_eq_none (Nat.not_lt.mp h)]; simp only [decide_eq_false h]
@[simp↓] theorem cell_at (j : Nat) : cellM (σ.length + j) (σ ++ τ) = (match τ[j]? with | some (.cell (some v)) => some (v, σ ++ τ) | _ => none) := by
  unfold cellM; rw [get_at]
  all_goals rcases τ[j]? with _ | o
  all_goals first | rfl | (cases o <;> rfl)
@[simp↓] theorem cell_at2 : cellM (σ.length + 1 + 1) (σ ++ τ) = (match τ[2]? with | some (AO.cell (some v)) => some (v, σ ++ τ) | _ => none) := cell_at 2
@[simp↓] theorem putc_at (j : Nat) (v : AV) : putCellM (σ.length + j) v (σ ++ τ) = (match τ[j]? with | some (.cell _) => some ((), σ ++ τ.set j (.cell (some v))) | _ => none) := by
  unfold putCellM; rw [get_at, set_at]
  all_goals rcases τ[j]? with _ | o
  all_goals first | rfl | (cases o <;> rfl)
@[simp↓] theorem tru_bool (b : Bool) : truthP (.bool b) σ = some (b, σ) := rfl
@[simp↓] theorem tru_int (i : Int) : truthP (.int i) σ = some (i != 0, σ) := rfl
@[simp↓] theorem tru_none : truthP .none σ = some (false, σ) := rfl
@[simp↓] theorem tru_str (s : List Nat) : truthP (.str s) σ = (match okSz s.length with | true => some (!s.isEmpty, σ) | false => none) := by
  show (match okSz s.length, some (!s.isEmpty) with | true, some x => some (x, σ) | _, _ => none) = _
  cases okSz s.length <;> rfl
@[simp↓] theorem eqP_str (s t : List Nat) : eqP (.str s) (.str t) σ = some (.bool (s == t), σ) := rfl
@[simp↓] theorem eqP_int (s t : Int) : eqP (.int s) (.int t) σ = some (.bool (s == t), σ) := rfl
@[simp↓] theorem eqP_none (t : List Nat) : eqP .none (.str t) σ = some (.bool false, σ) := rfl
@[simp↓] theorem neP_str (s t : List Nat) : neP (.str s) (.str t) σ = some (.bool (!(s == t)), σ) := rfl
@[simp↓] theorem neP_bytes (s t : List Nat) : neP (.bytes s) (.bytes t) σ = some (.bool (!(s == t)), σ) := rfl
@[simp↓] theorem neP_int (s t : Int) : neP (.int s) (.int t) σ = some (.bool (!(s == t)), σ) := rfl
@[simp↓] theorem ltP_int (s t : Int) : ltP (.int s) (.int t) σ = some (.bool (decide (s < t)), σ) := rfl
@[simp↓] theorem leP_int (s t : Int) : leP (.int s) (.int t) σ = some (.bool (decide (s ≤ t)), σ) := rfl
@[simp↓] theorem gtP_int (s t : Int) : gtP (.int s) (.int t) σ = some (.bool (decide (t < s)), σ) := rfl
@[simp↓] theorem geP_int (s t : Int) : geP (.int s) (.int t) σ = some (.bool (decide (t ≤ s)), σ) := rfl
@[simp↓] theorem addP_int (s t : Int) : addP (.int s) (.int t) σ = some (.int (s + t), σ) := rfl
@[simp↓] theorem addP_str (s t : List Nat) : addP (.str s) (.str t) σ = (match okSz (s.length + t.length) with | true => some (.str (s ++ t), σ) | false => none) := by
  show guardM _ _ _ = _; rw [guard_ap]; rfl
@[simp↓] theorem addP_bytes (s t : List Nat) : addP (.bytes s) (.bytes t) σ = (match okSz (s.length + t.length) with | true => some (.bytes (s ++ t), σ) | false => none) := by
  show guardM _ _ _ = _; rw [guard_ap]; rfl
@[simp↓] theorem subP_int (s t : Int) : subP (.int s) (.int t) σ = some (.int (s - t), σ) := rfl
theorem mulP_int (s t : Int) : mulP (.int s) (.int t) σ = (match small64 t || small64 s with | true => some (.int (s * t), σ) | false => none) := by
  show guardM _ _ _ = _; rw [guard_ap]; rfl
theorem divP_int (s t : Int) : divP (.int s) (.int t) σ = (match Nat.blt (Nat.log2 t.natAbs) 9000 && !(t == 0) with | true => some (.int (Int.fdiv s t), σ) | false => none) := by
  show guardM _ _ _ = _; rw [guard_ap]; rfl
theorem modP_int (s t : Int) : modP (.int s) (.int t) σ = (match !(t == 0) with | true => some (.int (Int.fmod s t), σ) | false => none) := by
  show guardM _ _ _ = _; rw [guard_ap]; rfl
@[simp↓] theorem iaddP_int (s t : Int) : iaddP (.int s) (.int t) σ = some (.int (s + t), σ) := rfl
@[simp↓] theorem isubP_int (s t : Int) : isubP (.int s) (.int t) σ = some (.int (s - t), σ) := rfl
@[simp↓] theorem iaddP_str (s t : List Nat) : iaddP (.str s) (.str t) σ = (match okSz (s.length + t.length) with | true => some (.str (s ++ t), σ) | false => none) := by
  show guardM _ _ _ = _; rw [guard_ap]; rfl
@[simp↓] theorem lowerF_ap {x : Nat} : lowerF [.str [x]] σ = (match Nat.blt x 128 with | true => some (.str [lowA x], σ) | false => none) := by
  show guardM _ _ _ = _; rw [guard_ap]; rfl
@[simp↓] theorem selStr_ap {s : List Nat} : selStr (.str s) σ = some [.str s] := rfl
@[simp↓] theorem intF_ap {i : Int} : intF [.int i] σ = some (.int i, σ) := rfl
@[simp↓] theorem absF_ap {i : Int} : absF [.int i] σ = some (.int (i.natAbs : Nat), σ) := rfl
@[simp↓] theorem lenF_str (s : List Nat) : lenF [.str s] σ = (match okSz s.length with | true => some (.int (s.length : Nat), σ) | false => none) := by
  show guardM _ _ _ = _; rw [guard_ap]; rfl
@[simp↓] theorem divmodF_ap (a b : Int) : divmodF [.int a, .int b] σ = (match Nat.blt (Nat.log2 b.natAbs) 9000 && !(b == 0) with | true => some (.ref σ.length, σ ++ [.tup [.int (Int.fdiv a b), .int (Int.fmod a b)]]) | false => none) := by
  show guardM _ _ _ = _; rw [guard_ap]; rfl
@[simp↓] theorem minF_ap (a b : Int) : minF [.int a, .int b] σ = some (.int (if b < a then b else a), σ) := rfl
@[simp↓] theorem maxF_ap (a b : Int) : maxF [.int a, .int b] σ = some (.int (if b > a then b else a), σ) := rfl
@[simp↓] theorem chrF_ap (i : Int) : chrF [.int i] σ = (match decide (0 ≤ i) && decide (i ≤ 1114111) with | true => some (.str [i.toNat], σ) | false => none) := by
  show guardM _ _ _ = _; rw [guard_ap]; rfl
@[simp↓] theorem ordF_ap (x : Nat) : ordF [.str [x]] σ = some (.int x, σ) := rfl
@[simp↓] theorem slice_str (s : List Nat) (l u : AV) : sliceP (.str s) l u σ = (match partV l, partV u with | some lo, some hi => (match okSz s.length with | true => some (.str (sliceL s lo hi), σ) | false => none) | _, _ => none) := by
  unfold sliceP
  rcases partV l with _ | lo
  · rfl
  · rcases partV u with _ | hi
    · rfl
    · show guardM _ _ _ = _; rw [guard_ap]; rfl
@[simp↓] theorem slice_bytes (s : List Nat) (l u : AV) : sliceP (.bytes s) l u σ = (match partV l, partV u with | some lo, some hi => (match okSz s.length with | true => some (.bytes (sliceL s lo hi), σ) | false => none) | _, _ => none) := by
  unfold sliceP
  rcases partV l with _ | lo
  · rfl
  · rcases partV u with _ | hi
    · rfl
    · show guardM _ _ _ = _; rw [guard_ap]; rfl
@[simp↓] theorem part_int (i : Int) : partV (.int i) = some (some i) := rfl
@[simp↓] theorem part_none' : partV .none = some none := rfl
@[simp↓] theorem idx_str (s : List Nat) (k : Int) : idxP (.str s) (.int k) σ = (match okSz s.length with | true => (match getAt s k with | some x => some (.str [x], σ) | none => none) | false => none) := by
  unfold idxP idxV
  cases h1 : okSz s.length <;> cases h2 : getAt s k <;> simp [h1, h2]
theorem idx_list (l : Nat) (k : Int) (xs : List AV) (h : σ[l]? = some (.list xs)) : idxP (.ref l) (.int k) σ = (match okSz xs.length with | true => (match getAt xs k with | some x => some (x, σ) | none => none) | false => none) := by
  unfold idxP idxV getList
  simp only [h]
  cases okSz xs.length
  · rfl
  · cases getAt xs k <;> rfl
theorem while_ap (T : St Bool) (B : St AF) (n : Nat) : whileM T B (n + 1) σ = (match T σ with
    | some (false, ρ) => some (.next, ρ)
    | some (true, ρ) => (match B ρ with | some (.next, ρ') => whileM T B n ρ' | some (.cont, ρ') => whileM T B n ρ' | some (.brk, ρ') => some (.next, ρ') | some (.ret v, ρ') => some (.ret v, ρ') | none => none)
    | none => none) := by
  show St.bind _ _ _ = _; rw [bind_ap]; rcases T σ with _ | ⟨b, ρ⟩
  · rfl
  · cases b
    · rfl
    · simp only [bind_ap]; rcases B ρ with _ | ⟨f, ρ'⟩
      · rfl
      · cases f <;> rfl
theorem for_nil (W : AV → St Unit) (B : St AF) : forL always W B [] σ = some (.next, σ) := by
  unfold forL; rw [onlyIf_pos (show always σ from trivial)]; rfl
theorem for_cons (W : AV → St Unit) (B : St AF) (v : AV) (vs : List AV) : forL always W B (v :: vs) σ = (match W v σ with
    | some (_, ρ) => (match B ρ with | some (.next, ρ') => forL always W B vs ρ' | some (.cont, ρ') => forL always W B vs ρ' | some (.brk, ρ') => some (.next, ρ') | some (.ret u, ρ') => some (.ret u, ρ') | none => none)
    | none => none) := by
  conv => lhs; unfold forL
  rw [onlyIf_pos (show always σ from trivial), bind_ap]; rcases W v σ with _ | ⟨b, ρ⟩
  · rfl
  · simp only [bind_ap]; rcases B ρ with _ | ⟨f, ρ'⟩
    · rfl
    · cases f <;> rfl
@[simp↓] theorem forM_ap (N : St (List AV × Live)) (W : AV → St Unit) (B : St AF) : forM N W B σ = (match N σ with | some (p, ρ) => forL p.2 W B p.1 ρ | none => none) := by
  unfold forM; rw [bind_ap]; rcases N σ with _ | ⟨p, ρ⟩ <;> rfl
@[simp↓] theorem itM_ap (p : St AV) : itM p σ = (match p σ with | some (a, ρ) => itV a ρ | none => none) := by
  unfold itM; rw [bind_ap]; rcases p σ with _ | ⟨a, ρ⟩ <;> rfl
@[simp↓] theorem itV_str (s : List Nat) : itV (.str s) σ = some ((strItems s, always), σ) := rfl
@[simp↓] theorem itV_bytes (s : List Nat) : itV (.bytes s) σ = some ((bytesItems s, always), σ) := rfl
theorem itV_list (l : Nat) (xs : List AV) (h : σ[l]? = some (.list xs)) : itV (.ref l) σ = some ((xs, liveOf l xs), σ) := by
  unfold itV getList; simp only [h]
@[simp↓] theorem rangeIt_ap (A : St (List AV)) : rangeIt A σ = (match A σ with | some (vs, ρ) => (match rangeArgs vs with | some (a, b, k) => some (((rangeI a b k).map .int, always), ρ) | none => none) | none => none) := by
  unfold rangeIt; rw [bind_ap]; rcases A σ with _ | ⟨vs, ρ⟩
  · rfl
  · simp only []
    all_goals rcases rangeArgs vs with _ | ⟨a, b, k⟩ <;> rfl
theorem getTup_end {ρ : List AO} (xs : List AV) : getTup (.ref ρ.length) (ρ ++ [.tup xs]) = some xs := by
  unfold getTup; simp only []; rw [get_at0]; rfl
theorem getTup_end' {ρ junk : List AO} (o : AO) (xs : List AV) : getTup (.ref (ρ ++ o :: junk).length) (ρ ++ o :: (junk ++ [.tup xs])) = some xs := by
  have := getTup_end (ρ := ρ ++ o :: junk) xs
  simpa using this
theorem fdiv_nat (a b : Nat) : Int.fdiv (a : Int) (b : Int) = ((a / b : Nat) : Int) := by
  rw [Int.fdiv_eq_ediv_of_nonneg _ (by omega)]; exact (Int.natCast_ediv a b).symm
theorem fmod_nat (a b : Nat) : Int.fmod (a : Int) (b : Int) = ((a % b : Nat) : Int) := by
  rw [Int.fmod_eq_emod_of_nonneg _ (by omega)]; exact (Int.natCast_emod a b).symm
theorem div_nat (a b : Nat) (h : 0 < b) (hl : Nat.blt (Nat.log2 b) 9000 = true) : divP (.int a) (.int b) σ = some (.int (a / b : Nat), σ) := by
  rw [divP_int, fdiv_nat, show ((b : Int) == 0) = false from by simp; omega, show (b : Int).natAbs = b from rfl, hl]; rfl
theorem mod_nat (a b : Nat) (h : 0 < b) : modP (.int a) (.int b) σ = some (.int (a % b : Nat), σ) := by
  rw [modP_int, fmod_nat, show ((b : Int) == 0) = false from by simp; omega]; rfl
@[simp↓] theorem div_2 (a : Nat) : divP (.int a) (.int 2) σ = some (.int (a / 2 : Nat), σ) := div_nat a 2 (by decide) (by decide +kernel)
@[simp↓] theorem div_4 (a : Nat) : divP (.int a) (.int 4) σ = some (.int (a / 4 : Nat), σ) := div_nat a 4 (by decide) (by decide +kernel)
@[simp↓] theorem div_8 (a : Nat) : divP (.int a) (.int 8) σ = some (.int (a / 8 : Nat), σ) := div_nat a 8 (by decide) (by decide +kernel)
@[simp↓] theorem div_14 (a : Nat) : divP (.int a) (.int 14) σ = some (.int (a / 14 : Nat), σ) := div_nat a 14 (by decide) (by decide +kernel)
@[simp↓] theorem div_16 (a : Nat) : divP (.int a) (.int 16) σ = some (.int (a / 16 : Nat), σ) := div_nat a 16 (by decide) (by decide +kernel)
@[simp↓] theorem div_256 (a : Nat) : divP (.int a) (.int 256) σ = some (.int (a / 256 : Nat), σ) := div_nat a 256 (by decide) (by decide +kernel)
@[simp↓] theorem mod_2 (a : Nat) : modP (.int a) (.int 2) σ = some (.int (a % 2 : Nat), σ) := mod_nat a 2 (by decide)
@[simp↓] theorem mod_4 (a : Nat) : modP (.int a) (.int 4) σ = some (.int (a % 4 : Nat), σ) := mod_nat a 4 (by decide)
@[simp↓] theorem mod_5 (a : Nat) : modP (.int a) (.int 5) σ = some (.int (a % 5 : Nat), σ) := mod_nat a 5 (by decide)
@[simp↓] theorem mod_7 (a : Nat) : modP (.int a) (.int 7) σ = some (.int (a % 7 : Nat), σ) := mod_nat a 7 (by decide)
@[simp↓] theorem mod_14 (a : Nat) : modP (.int a) (.int 14) σ = some (.int (a % 14 : Nat), σ) := mod_nat a 14 (by decide)
@[simp↓] theorem mod_16 (a : Nat) : modP (.int a) (.int 16) σ = some (.int (a % 16 : Nat), σ) := mod_nat a 16 (by decide)
@[simp↓] theorem mod_26 (a : Nat) : modP (.int a) (.int 26) σ = some (.int (a % 26 : Nat), σ) := mod_nat a 26 (by decide)
theorem fn_run {names tbl : List Str} {k : Nat} {cells : List Str} {B : Nat → St AF} {args : List AV} {v : AV} {σ₁ : List AO} (he : entryO names tbl k cells args = τ) (hl : (args.length == names.length) = true) (hB : B σ.length (σ ++ τ) = some (.ret v, σ₁)) :
    fnM names tbl k cells B args σ = some (v, σ₁) := by
  unfold fnM; rw [hl, he]; simp only [hB]; rfl
theorem fn_run0 {names tbl : List Str} {k : Nat} {cells : List Str} {B : Nat → St AF} {args : List AV} {σ₁ : List AO} (he : entryO names tbl k cells args = τ) (hl : (args.length == names.length) = true) (hB : B σ.length (σ ++ τ) = some (.next, σ₁)) :
    fnM names tbl k cells B args σ = some (.none, σ₁) := by
  unfold fnM; rw [hl, he]; simp only [hB]; rfl
theorem okSz_of {n : Nat} (h : n ≤ 1000000) : okSz n = true := Nat.ble_eq_true_of_le h
end
end Mine
end
section
namespace Mine
open PySem
noncomputable def subI (x y : Nat) : Int := match x == y with
  | true => 0
  | false => match lowA x == lowA y with
    | true => 1
    | false => 2
noncomputable def subG : List AV → St AV
  | [.str [x], .str [y]] => guardM (Nat.blt x 128 && Nat.blt y 128) (St.pure (.int (subI x y)))
  | _ => St.fail
noncomputable def P_sub (fr : Nat) : St AF :=
  (seqM
  (ifM (truM (cmpM eqP (slotM fr 0 0) (slotM fr 0 1))) (retM (St.pure (.int 0))) (St.pure .next))
  (seqM
  (ifM (truM (cmpM eqP (methM (slotM fr 0 0) selStr lowerF (St.pure [])) (methM (slotM fr 0 1) selStr lowerF (St.pure [])))) (retM (St.pure (.int 1))) (St.pure .next))
  (retM (St.pure (.int 2)))))
theorem x_sub {σ : List AO} {x y : Nat} (hx : Nat.blt x 128 = true) (hy : Nat.blt y 128 = true) : P_sub σ.length (σ ++ [.ns 0 [some (.str [x]), some (.str [y])]]) = some (.ret (.int (subI x y)), σ ++ [.ns 0 [some (.str [x]), some (.str [y])]]) := by
  unfold P_sub subI
  cases h1 : x == y
  · cases h2 : lowA x == lowA y
    · simp [h1, h2, hx, hy, -beq_eq_false_iff_ne]
    · simp [h1, h2, hx, hy, -beq_eq_false_iff_ne, -beq_iff_eq]
  · simp [h1, -beq_iff_eq]
set_option tactic.hygienic true in
theorem m_sub : ∀ args σ v σ', subG args σ = some (v, σ') → ∃ v₁ σ₁, fnM ["ch_a", "ch_b"] ["ch_a", "ch_b"] 0 [] P_sub args σ = some (v₁, σ₁) ∧ Cut σ σ₁ v₁ v σ' := by
  intro args σ v σ' h
  unfold subG at h
  split at h
  · rename_i x y
    obtain ⟨hg, h⟩ := guardM_some h
    cases h
    simp only [Bool.and_eq_true] at hg
    exact ⟨_, _, fn_run (τ := [.ns 0 [some (.str [x]), some (.str [y])]]) (by kernel_rfl) rfl (x_sub hg.1 hg.2), .pure trivial⟩
  · cases h
noncomputable def apN : Nat → Nat → List Nat → List Nat
  | 0, _, acc => acc
  | f + 1, n, acc => match n == 0 with
    | true => acc
    | false => apN f (n / 16) ((65 + n % 16) :: acc)
noncomputable def apB (n : Nat) : List Nat := apN 100 n []
noncomputable def apG : List AV → St AV
  | [.int n] => guardM (Nat.blt n.natAbs (16 ^ 100)) (St.pure (.bytes (apB n.natAbs)))
  | _ => St.fail
noncomputable def P_ap (fr : Nat) : St AF :=
  (seqM
  (asgM (St.pure (.bytes [])) (putM fr 2 1))
  (seqM
  (asgM (St.pure (.bytes [65, 66, 67, 68, 69, 70, 71, 72, 73, 74, 75, 76, 77, 78, 79, 80])) (putM fr 2 2))
  (seqM
  (asgM (callM intF (consM (callM absF (consM (slotM fr 2 0) (St.pure []))) (St.pure []))) (putM fr 2 0))
  (seqM
  (whileM (truM (slotM fr 2 0)) (seqM
  (asgTupM (callM divmodF (consM (slotM fr 2 0) (consM (St.pure (.int 16)) (St.pure [])))) 2 [(putM fr 2 0), (putM fr 2 3)])
  (asgM (binM addP (slcM (slotM fr 2 2) (slotM fr 2 3) (binM addP (slotM fr 2 3) (St.pure (.int 1)))) (slotM fr 2 1)) (putM fr 2 1))) 1000)
  (retM (slotM fr 2 1))))))
noncomputable def APs : List Nat := [65, 66, 67, 68, 69, 70, 71, 72, 73, 74, 75, 76, 77, 78, 79, 80]
theorem ap_slice : ∀ m : Nat, m < 16 → sliceL APs (some (m : Int)) (some ((m : Int) + 1)) = [65 + m] := by decide
theorem ap_loop {σ : List AO} : ∀ (f n : Nat) (acc : List Nat) (m : Option AV) (junk : List AO) (fuel : Nat), n < 16 ^ f → f < fuel → acc.length + f ≤ 1000 → ∃ m' junk',
    whileM (truM (slotM σ.length 2 0)) (seqM
      (asgTupM (callM divmodF (consM (slotM σ.length 2 0) (consM (St.pure (.int 16)) (St.pure [])))) 2 [(putM σ.length 2 0), (putM σ.length 2 3)])
      (asgM (binM addP (slcM (slotM σ.length 2 2) (slotM σ.length 2 3) (binM addP (slotM σ.length 2 3) (St.pure (.int 1)))) (slotM σ.length 2 1)) (putM σ.length 2 1))) fuel
      (σ ++ .ns 2 [some (.int (n : Nat)), some (.bytes acc), some (.bytes APs), m] :: junk) = some (.next, σ ++ .ns 2 [some (.int 0), some (.bytes (apN f n acc)), some (.bytes APs), m'] :: junk')
  | 0, n, acc, m, junk, fuel, h, hf, hl => by
    obtain ⟨k, rfl⟩ : ∃ k, fuel = k + 1 := ⟨fuel - 1, by omega⟩
    have : n = 0 := by simpa using h
    subst this
    exact ⟨m, junk, by rw [while_ap]; simp [apN]⟩
  | f + 1, n, acc, m, junk, fuel, h, hf, hl => by
    obtain ⟨k, rfl⟩ : ∃ k, fuel = k + 1 := ⟨fuel - 1, by omega⟩
    by_cases hn : n = 0
    · subst hn
      exact ⟨m, junk, by rw [while_ap]; simp [apN]⟩
    · have h2 : n / 16 < 16 ^ f := by
        rw [Nat.div_lt_iff_lt_mul (by decide)]; rwa [Nat.pow_succ] at h
      obtain ⟨m', junk', e⟩ := ap_loop f (n / 16) ((65 + n % 16) :: acc) (some (.int (n % 16 : Nat))) (junk ++ [.tup [.int (n / 16 : Nat), .int (n % 16 : Nat)]]) k h2 (by omega) (by simp; omega)
      refine ⟨m', junk', ?_⟩
      have hb : (n == 0) = false := by simpa using hn
      have hi : ((n : Int) != 0) = true := by simpa using hn
      have hok : okSz (1 + acc.length) = true := okSz_of (by omega)
      have hok' : okSz APs.length = true := by decide
      have hsl := ap_slice (n % 16) (Nat.mod_lt _ (by decide))
      rw [while_ap]
      unfold apN
      simp only [hb]
      rw [← e]
      have hfd := fdiv_nat n 16
      have hfm := fmod_nat n 16
      simp only [Int.cast_ofNat_Int] at hfd hfm
      have hd : (Nat.blt (Nat.log2 (16 : Int).natAbs) 9000 && !((16 : Int) == 0)) = true := by decide +kernel
      simp only [truM_ap, slot_at, List.getElem?_cons_zero, List.getElem?_cons_succ, tru_int, hi, seqM_ap, asgTupM_ap, callM_ap, consM_ap, pure_ap, divmodF_ap, hd, hfd, hfm, getTup_end', List.length_cons, List.length_nil, Nat.zero_add, Nat.reduceAdd, BEq.rfl, nextM_ap, storesM_cons,
        List.append_assoc, List.cons_append, List.nil_append, put_at, storesM_nil, asgM_ap, binM_ap, slcM_ap, addP_int, slice_bytes, part_int, hok', hsl, addP_bytes, hok, List.set_cons_zero, List.set_cons_succ, Nat.reduceBEq, Nat.blt_eq, Nat.reduceLT]
theorem x_ap {σ : List AO} {n : Int} (h : Nat.blt n.natAbs (16 ^ 100) = true) : ∃ junk, P_ap σ.length (σ ++ [.ns 2 [some (.int n), none, none, none]]) = some (.ret (.bytes (apB n.natAbs)), σ ++ junk) := by
  obtain ⟨m', junk', e⟩ := ap_loop (σ := σ) 100 n.natAbs [] none [] 1000 (Nat.blt_eq.mp h) (by decide) (by decide)
  refine ⟨.ns 2 [some (.int 0), some (.bytes (apB n.natAbs)), some (.bytes APs), m'] :: junk', ?_⟩
  unfold P_ap
  unfold APs at e
  simp only [seqM_ap, asgM_ap, pure_ap, nextM_ap, put_at, List.length_cons, List.length_nil, Nat.zero_add, Nat.reduceAdd, List.set_cons_zero, List.set_cons_succ, callM_ap, consM_ap, slot_at,
    List.getElem?_cons_zero, List.getElem?_cons_succ, absF_ap, intF_ap, e, retM_ap]
  rfl
set_option tactic.hygienic true in
theorem m_ap : ∀ args σ v σ', apG args σ = some (v, σ') → ∃ v₁ σ₁, fnM ["num"] ["num", "val", "AP", "mod"] 2 [] P_ap args σ = some (v₁, σ₁) ∧ Cut σ σ₁ v₁ v σ' := by
  intro args σ v σ' h
  unfold apG at h
  split at h
  · rename_i n
    obtain ⟨hg, h⟩ := guardM_some h
    cases h
    obtain ⟨junk, e⟩ := x_ap (σ := σ) hg
    exact ⟨_, _, fn_run (τ := [.ns 2 [some (.int n), none, none, none]]) (by kernel_rfl) rfl e, .pure trivial⟩
  · cases h
end Mine
end
section
namespace Mine
open PySem
noncomputable def esc : List Nat → Nat → List Nat
  | [], _ => []
  | c :: r, d => match d % 2 == 1 with
    | true => 92 :: c :: esc r (d / 2)
    | false => c :: esc r (d / 2)
noncomputable def quoteOf (d : Nat) : List Nat := match d % 2 == 1 with
  | true => [34]
  | false => []
noncomputable def blankOf (d : Nat) : Nat := match d / 2 % 4 with
  | 0 => 32
  | 1 => 9
  | 2 => 10
  | _ => 13
noncomputable def written (w : List Nat) (d : Nat) : List Nat := quoteOf d ++ esc w (d / 8) ++ (quoteOf d ++ [blankOf d])
noncomputable def writtenG : List AV → St AV
  | [.str w, .int d] => guardM (Nat.ble w.length 100 && decide (0 ≤ d)) (St.pure (.str (written w d.toNat)))
  | _ => St.fail
noncomputable def B_written (fr : Nat) : St AF := (seqM
  (augM (slotM fr 9 2) (iteM (truM (binM modP (slotM fr 9 1) (St.pure (.int 2)))) (binM addP (St.pure (.str [92])) (slotM fr 9 4)) (slotM fr 9 4)) iaddP (putM fr 9 2))
  (asgM (binM divP (slotM fr 9 1) (St.pure (.int 2))) (putM fr 9 1)))
noncomputable def P_written (fr : Nat) : St AF :=
  (seqM
  (asgM (iteM (truM (binM modP (slotM fr 9 1) (St.pure (.int 2)))) (St.pure (.str [34])) (St.pure (.str []))) (putM fr 9 2))
  (seqM
  (asgM (binM addP (slotM fr 9 2) (idxM (St.pure (.str [32, 9, 10, 13])) (binM modP (binM divP (slotM fr 9 1) (St.pure (.int 2))) (St.pure (.int 4))))) (putM fr 9 3))
  (seqM
  (asgM (binM divP (slotM fr 9 1) (St.pure (.int 8))) (putM fr 9 1))
  (seqM
  (forM (itM (slotM fr 9 0)) (putM fr 9 4) (B_written fr))
  (retM (binM addP (slotM fr 9 2) (slotM fr 9 3)))))))
theorem mod2_ne (d : Nat) : (((d % 2 : Nat) : Int) != 0) = (d % 2 == 1) := by
  rcases (by omega : d % 2 = 0 ∨ d % 2 = 1) with h | h <;> rw [h] <;> rfl
theorem esc_len : ∀ (w : List Nat) (d : Nat), (esc w d).length ≤ 2 * w.length
  | [], _ => by simp [esc]
  | c :: r, d => by
    unfold esc
    have := esc_len r (d / 2)
    cases d % 2 == 1 <;> simp <;> omega
theorem written_loop {σ : List AO} {w0 cl : Option AV} : ∀ (w : List Nat) (d : Nat) (t : List Nat) (s : Option AV), t.length + 2 * w.length ≤ 1000 → ∃ d' s',
    forL always (putM σ.length 9 4) (B_written σ.length) (strItems w) (σ ++ [.ns 9 [w0, some (.int (d : Nat)), some (.str t), cl, s]]) = some (.next, σ ++ [.ns 9 [w0, some (.int (d' : Nat)), some (.str (t ++ esc w d)), cl, s']])
  | [], d, t, s, h => ⟨d, s, by show forL always _ _ [] _ = _; rw [for_nil]; simp [esc]⟩
  | c :: r, d, t, s, h => by
    simp only [List.length_cons] at h
    show ∃ d' s', forL always _ _ (.str [c] :: strItems r) _ = _
    cases hb : d % 2 == 1 with
    | true =>
      obtain ⟨d', s', e⟩ := written_loop r (d / 2) (t ++ [92, c]) (some (.str [c])) (by simp; omega)
      refine ⟨d', s', ?_⟩
      rw [for_cons]
      unfold esc
      simp only [hb]
      rw [show t ++ 92 :: c :: esc r (d / 2) = t ++ [92, c] ++ esc r (d / 2) from by simp, ← e]
      simp only [B_written, put_at, List.length_cons, List.length_nil, Nat.zero_add, Nat.reduceAdd, List.set_cons_zero, List.set_cons_succ, seqM_ap, augM_ap, slot_at, List.getElem?_cons_zero, List.getElem?_cons_succ,
        iteM_ap, truM_ap, binM_ap, pure_ap, mod_2, tru_int, mod2_ne, hb, addP_str, show okSz (1 + 1) = true from rfl, List.cons_append, List.nil_append, iaddP_str, okSz_of (show t.length + 2 ≤ 1000000 by omega), nextM_ap, asgM_ap,
        div_2]
    | false =>
      obtain ⟨d', s', e⟩ := written_loop r (d / 2) (t ++ [c]) (some (.str [c])) (by simp; omega)
      refine ⟨d', s', ?_⟩
      rw [for_cons]
      unfold esc
      simp only [hb]
      rw [show t ++ c :: esc r (d / 2) = t ++ [c] ++ esc r (d / 2) from by simp, ← e]
      simp only [B_written, put_at, List.length_cons, List.length_nil, Nat.zero_add, Nat.reduceAdd, List.set_cons_zero, List.set_cons_succ, seqM_ap, augM_ap, slot_at, List.getElem?_cons_zero, List.getElem?_cons_succ,
        iteM_ap, truM_ap, binM_ap, pure_ap, mod_2, tru_int, mod2_ne, hb, addP_str, show okSz (1 + 1) = true from rfl, List.cons_append, List.nil_append, iaddP_str, okSz_of (show t.length + 1 ≤ 1000000 by omega), nextM_ap, asgM_ap,
        div_2]
theorem blank_at (d : Nat) : getAt [32, 9, 10, 13] ((d / 2 % 4 : Nat) : Int) = some (blankOf d) := by
  unfold blankOf
  have := Nat.mod_lt (d / 2) (show 4 > 0 by decide)
  rcases (by omega : d / 2 % 4 = 0 ∨ d / 2 % 4 = 1 ∨ d / 2 % 4 = 2 ∨ d / 2 % 4 = 3) with h | h | h | h <;> rw [h] <;> rfl
theorem x_written {σ : List AO} {w : List Nat} {d : Nat} (hw : w.length ≤ 100) : ∃ τ, P_written σ.length (σ ++ [.ns 9 [some (.str w), some (.int (d : Nat)), none, none, none]]) = some (.ret (.str (written w d)), σ ++ τ) := by
  have hq : (quoteOf d).length ≤ 1 := by unfold quoteOf; cases d % 2 == 1 <;> simp
  have hl := esc_len w (d / 8)
  obtain ⟨d', s', e⟩ := written_loop (σ := σ) (w0 := some (.str w)) (cl := some (.str (quoteOf d ++ [blankOf d]))) w (d / 8) (quoteOf d) none (by omega)
  refine ⟨[AO.ns 9 [some (AV.str w), some (AV.int (d' : Nat)), some (AV.str (quoteOf d ++ esc w (d / 8))), some (AV.str (quoteOf d ++ [blankOf d])), s']], ?_⟩
  have h1 : iteM (α := AV) (truM (binM modP (slotM σ.length 9 1) (St.pure (.int 2)))) (St.pure (.str [34])) (St.pure (.str [])) (σ ++ [.ns 9 [some (.str w), some (.int (d : Nat)), none, none, none]]) = some (.str (quoteOf d), (σ ++ [.ns 9 [some (.str w), some (.int (d : Nat)), none, none, none]])) := by
    unfold quoteOf
    cases hb : d % 2 == 1 <;> simp only [iteM_ap, truM_ap, binM_ap, slot_at, List.getElem?_cons_zero, List.getElem?_cons_succ, pure_ap, mod_2, tru_int, mod2_ne, hb]
  unfold P_written
  simp only [seqM_ap, asgM_ap, h1, nextM_ap, put_at, List.length_cons, List.length_nil, Nat.zero_add, Nat.reduceAdd, List.set_cons_zero, List.set_cons_succ,
    binM_ap, slot_at, List.getElem?_cons_zero, List.getElem?_cons_succ, idxM_ap, pure_ap, div_2, div_8, mod_4,
     idx_str, show okSz 4 = true from rfl, blank_at, addP_str, okSz_of (show (quoteOf d).length + 1 ≤ 1000000 by omega), forM_ap, itM_ap, itV_str, e, retM_ap,
    List.length_append, okSz_of (show (quoteOf d).length + (esc w (d / 8)).length + ((quoteOf d).length + 1) ≤ 1000000 by omega)]
  rfl
set_option tactic.hygienic true in
theorem m_written : ∀ args σ v σ', writtenG args σ = some (v, σ') → ∃ v₁ σ₁, fnM ["word", "draw"] ["word", "draw", "text", "closing", "sign"] 9 [] P_written args σ = some (v₁, σ₁) ∧ Cut σ σ₁ v₁ v σ' := by
  intro args σ v σ' h
  unfold writtenG at h
  split at h
  · rename_i w d
    obtain ⟨hg, h⟩ := guardM_some h
    cases h
    simp only [Bool.and_eq_true, decide_eq_true_eq] at hg
    obtain ⟨n, rfl⟩ := Int.eq_ofNat_of_zero_le hg.2
    obtain ⟨junk, e⟩ := x_written (σ := σ) (d := n) (Nat.le_of_ble_eq_true hg.1)
    exact ⟨_, _, fn_run (τ := [.ns 9 [some (.str w), some (.int (n : Nat)), none, none, none]]) (by kernel_rfl) rfl e, .pure trivial⟩
  · cases h
end Mine
end
section
namespace Mine
open PySem
noncomputable def nmin (a b : Nat) : Nat := match Nat.blt b a with
  | true => b
  | false => a
section
variable {α : Type} (eq : α → α → Bool) (sub : α → α → Nat)
noncomputable def stripG : List α → List α → List α × List α
  | a :: l, b :: m => match eq a b with
    | true => stripG l m
    | false => (a :: l, b :: m)
  | [], m => ([], m)
  | a :: l, [] => (a :: l, [])
noncomputable def rowG (c : α) : List α → List Nat → Nat → Nat → Nat → List Nat × Nat × Nat
  | a :: l, d :: row, dist, res, mn => match nmin (nmin res d + 2) (dist + sub c a) with
    | res' => match rowG c l row d res' (nmin mn res') with
      | (w, r) => (res' :: w, r)
  | [], _, _, res, mn => ([], res, mn)
  | _ :: _, [], _, res, mn => ([], res, mn)
noncomputable def rowsG (mx : Nat) (a : List α) : List α → Nat → List Nat → Nat → Nat
  | [], _, _, res => res
  | c :: r, i, row, _ => match rowG sub c a row (i * 2) (i * 2) 9223372036854775807 with
    | (w, res', mn) => match Nat.blt mx mn with
      | true => mx + 1
      | false => rowsG mx a r (i + 1) w res'
noncomputable def firstRow (n : Nat) : List Nat := (List.range n).map fun i => 2 + i * 2
noncomputable def levD (a b : List α) (mx : Nat) : Nat := match Nat.blt mx ((b.length - a.length) * 2) with
  | true => mx + 1
  | false => rowsG sub mx a b 0 (firstRow a.length) 0
noncomputable def levC (a b : List α) (mx : Nat) : Nat := match a.isEmpty || b.isEmpty with
  | true => 2 * (a.length + b.length)
  | false => match Nat.blt b.length a.length with
    | true => levD sub b a mx
    | false => levD sub a b mx
noncomputable def levA (a b : List α) (mx : Nat) : Nat := match stripG eq a b with
  | (a1, b1) => match stripG eq a1.reverse b1.reverse with
    | (a2, b2) => levC sub a2.reverse b2.reverse mx
end
noncomputable def eqN (x y : Nat) : Bool := x == y
noncomputable def subN (x y : Nat) : Nat := match x == y with
  | true => 0
  | false => match lowA x == lowA y with
    | true => 1
    | false => 2
theorem subI_eq (x y : Nat) : subI x y = (subN x y : Nat) := by
  unfold subI subN; cases x == y
  · cases lowA x == lowA y <;> rfl
  · rfl
noncomputable def levG : List AV → St AV
  | [.str a, .str b, .int m] => guardM (Nat.ble a.length 30 && Nat.ble b.length 30 && (a.all fun x => Nat.blt x 128) && (b.all fun x => Nat.blt x 128) && decide (0 ≤ m)) (St.pure (.int (levA eqN subN a b m.toNat : Nat)))
  | _ => St.fail
theorem slice_from {α : Type} (xs : List α) (p : Nat) : sliceL xs (some (p : Int)) none = xs.drop p := by
  show (xs.drop (min p xs.length)).take (xs.length - min p xs.length) = _
  by_cases h : p ≤ xs.length
  · rw [Nat.min_eq_left h, ← List.length_drop]; exact List.take_length
  · rw [Nat.min_eq_right (by omega), List.drop_eq_nil_of_le (Nat.le_refl _), List.drop_eq_nil_of_le (by omega)]; exact List.take_nil
theorem getAt_drop {α : Type} {xs : List α} {p : Nat} {x : α} {l : List α} (h : xs.drop p = x :: l) : getAt xs (p : Int) = some x := by
  show xs[p]? = some x
  have := List.getElem?_drop (xs := xs) (i := p) (j := 0)
  rw [h] at this; simpa using this.symm
noncomputable def partQ (q : Nat) : AV := match q with
  | 0 => .none
  | k + 1 => .int (Int.negSucc k)
noncomputable def partO (q : Nat) : Option Int := match q with
  | 0 => none
  | k + 1 => some (Int.negSucc k)
theorem part_Q (q : Nat) : partV (partQ q) = some (partO q) := by cases q <;> rfl
theorem slice_upto {α : Type} (xs : List α) (q : Nat) : sliceL xs none (partO q) = xs.take (xs.length - q) := by
  cases q with
  | zero => show (xs.drop 0).take (xs.length - 0) = _; rfl
  | succ k => show (xs.drop 0).take (xs.length - (k + 1) - 0) = _; rfl
theorem take_last {α : Type} {xs : List α} {q : Nat} {x : α} {l : List α} (h : xs.take (xs.length - q) = (x :: l).reverse) : getAt xs (Int.negSucc q) = some x ∧ xs.take (xs.length - (q + 1)) = l.reverse ∧ q + 1 ≤ xs.length := by
  have hl := congrArg List.length h
  simp only [List.length_take, List.length_reverse, List.length_cons] at hl
  have hq : q + 1 ≤ xs.length := by omega
  refine ⟨?_, ?_, hq⟩
  · show (match Nat.blt q xs.length with | true => xs[xs.length - (q + 1)]? | false => none) = _
    rw [Nat.blt_eq.mpr (by omega)]
    have h1 : (xs.take (xs.length - q))[xs.length - (q + 1)]? = xs[xs.length - (q + 1)]? := by rw [List.getElem?_take]; simp; omega
    show xs[xs.length - (q + 1)]? = some x
    rw [← h1, h, List.reverse_cons, List.getElem?_append_right (by simp; omega)]
    simp only [List.length_reverse]
    rw [show xs.length - (q + 1) - l.length = 0 from by omega]; rfl
  · have := congrArg (List.take (xs.length - (q + 1))) h
    rw [List.take_take, Nat.min_eq_left (by omega)] at this
    rw [this, List.reverse_cons, List.take_left' (by simp; omega)]
theorem neg_sub (q : Nat) : -(q : Int) - 1 = Int.negSucc q := by rw [Int.negSucc_eq]; omega
theorem ne_zero_neg (q : Nat) : ((-(q : Int)) != 0) = !(q == 0) := by
  cases q with
  | zero => rfl
  | succ k => rfl
noncomputable def preB : List Nat → List Nat → Bool
  | x :: _, y :: _ => x == y
  | _, _ => false
noncomputable def T_pre (fr : Nat) : St Bool := (andM (truM (slcM (slotM fr 1 0) (slotM fr 1 3) (St.pure .none))) (andM (truM (slcM (slotM fr 1 1) (slotM fr 1 3) (St.pure .none))) (andM (truM (cmpM eqP (idxM (slotM fr 1 0) (slotM fr 1 3)) (idxM (slotM fr 1 1) (slotM fr 1 3)))) (St.pure true))))
noncomputable def T_post (fr : Nat) : St Bool := (andM (truM (slcM (slotM fr 1 0) (St.pure .none) (orVM (slotM fr 1 4) (St.pure .none)))) (andM (truM (slcM (slotM fr 1 1) (St.pure .none) (orVM (slotM fr 1 4) (St.pure .none)))) (andM (truM (cmpM eqP (idxM (slotM fr 1 0) (binM subP (slotM fr 1 4) (St.pure (.int 1)))) (idxM (slotM fr 1 1) (binM subP (slotM fr 1 4) (St.pure (.int 1)))))) (St.pure true))))
theorem single_beq (x y : Nat) : ([x] == [y]) = (x == y) := by
  rw [Bool.eq_iff_iff]; simp
theorem orq_at {σ : List AO} {c0 c1 c2 c3 : Option AV} {r : List (Option AV)} (q : Nat) : orVM (slotM σ.length 1 4) (St.pure .none) (σ ++ [.ns 1 (c0 :: c1 :: c2 :: c3 :: some (.int (-(q : Int))) :: r)]) = some (partQ q, σ ++ [.ns 1 (c0 :: c1 :: c2 :: c3 :: some (.int (-(q : Int))) :: r)]) := by
  simp only [orVM_ap, slot_at, List.getElem?_cons_zero, List.getElem?_cons_succ, tru_int, ne_zero_neg]
  cases q <;> rfl
section
variable {σ : List AO} {a b : List Nat} (ha : okSz a.length = true) (hb : okSz b.length = true)
include ha hb
theorem pre_test {r : List (Option AV)} (p : Nat) : T_pre σ.length (σ ++ [.ns 1 (some (.str a) :: some (.str b) :: c2 :: some (.int (p : Nat)) :: r)]) = some (preB (a.drop p) (b.drop p), σ ++ [.ns 1 (some (.str a) :: some (.str b) :: c2 :: some (.int (p : Nat)) :: r)]) := by
  have h3 : okSz (a.drop p).length = true := okSz_of (by have := okSz_le' ha; rw [List.length_drop]; omega)
  have h4 : okSz (b.drop p).length = true := okSz_of (by have := okSz_le' hb; rw [List.length_drop]; omega)
  unfold T_pre
  rcases h1 : a.drop p with _ | ⟨x, l⟩
  · rw [h1] at h3
    simp only [pure_ap, guard_ap, seqM_ap, nextM_ap, asgM_ap, asg2M_ap, augM_ap, retM_ap, exprM_ap, ifM_ap, iteM_ap, binM_ap, cmpM_ap, truM_ap, notM_ap, negM_ap, andM_ap, orM_ap, orVM_ap, idxM_ap, slcM_ap, callM_ap, consM_ap, methM_ap, listM_ap, tupM_ap, asgSubM_ap, asgTupM_ap, asgSwapM_ap, storesM_cons, storesM_nil, slot_at, put_at, tru_bool, tru_int, tru_none, tru_str, eqP_str, eqP_int, eqP_none, neP_str, neP_bytes, neP_int, ltP_int, leP_int, gtP_int, geP_int, addP_int, addP_str, addP_bytes, subP_int, iaddP_int, isubP_int, iaddP_str, lowerF_ap, selStr_ap, intF_ap, absF_ap, lenF_str, divmodF_ap, minF_ap, maxF_ap, chrF_ap, ordF_ap, slice_str, slice_bytes, part_int, part_none', idx_str, forM_ap, itM_ap, itV_str, itV_bytes, rangeIt_ap, List.getElem?_cons_zero, List.getElem?_cons_succ, List.set_cons_zero, List.set_cons_succ, List.length_cons, List.length_nil, Nat.zero_add, Nat.reduceAdd, List.cons_append, List.nil_append, ha, hb, slice_from, h1, h3]; rfl
  · rw [h1] at h3
    rcases h2 : b.drop p with _ | ⟨y, m⟩
    · rw [h2] at h4
      simp only [pure_ap, guard_ap, seqM_ap, nextM_ap, asgM_ap, asg2M_ap, augM_ap, retM_ap, exprM_ap, ifM_ap, iteM_ap, binM_ap, cmpM_ap, truM_ap, notM_ap, negM_ap, andM_ap, orM_ap, orVM_ap, idxM_ap, slcM_ap, callM_ap, consM_ap, methM_ap, listM_ap, tupM_ap, asgSubM_ap, asgTupM_ap, asgSwapM_ap, storesM_cons, storesM_nil, slot_at, put_at, tru_bool, tru_int, tru_none, tru_str, eqP_str, eqP_int, eqP_none, neP_str, neP_bytes, neP_int, ltP_int, leP_int, gtP_int, geP_int, addP_int, addP_str, addP_bytes, subP_int, iaddP_int, isubP_int, iaddP_str, lowerF_ap, selStr_ap, intF_ap, absF_ap, lenF_str, divmodF_ap, minF_ap, maxF_ap, chrF_ap, ordF_ap, slice_str, slice_bytes, part_int, part_none', idx_str, forM_ap, itM_ap, itV_str, itV_bytes, rangeIt_ap, List.getElem?_cons_zero, List.getElem?_cons_succ, List.set_cons_zero, List.set_cons_succ, List.length_cons, List.length_nil, Nat.zero_add, Nat.reduceAdd, List.cons_append, List.nil_append, ha, hb, slice_from, h1, h3, h2, h4, List.isEmpty_cons, List.isEmpty_nil, Bool.not_false, Bool.not_true] at h3 h4 ⊢; rfl
    · rw [h2] at h4
      simp only [pure_ap, guard_ap, seqM_ap, nextM_ap, asgM_ap, asg2M_ap, augM_ap, retM_ap, exprM_ap, ifM_ap, iteM_ap, binM_ap, cmpM_ap, truM_ap, notM_ap, negM_ap, andM_ap, orM_ap, orVM_ap, idxM_ap, slcM_ap, callM_ap, consM_ap, methM_ap, listM_ap, tupM_ap, asgSubM_ap, asgTupM_ap, asgSwapM_ap, storesM_cons, storesM_nil, slot_at, put_at, tru_bool, tru_int, tru_none, tru_str, eqP_str, eqP_int, eqP_none, neP_str, neP_bytes, neP_int, ltP_int, leP_int, gtP_int, geP_int, addP_int, addP_str, addP_bytes, subP_int, iaddP_int, isubP_int, iaddP_str, lowerF_ap, selStr_ap, intF_ap, absF_ap, lenF_str, divmodF_ap, minF_ap, maxF_ap, chrF_ap, ordF_ap, slice_str, slice_bytes, part_int, part_none', idx_str, forM_ap, itM_ap, itV_str, itV_bytes, rangeIt_ap, List.getElem?_cons_zero, List.getElem?_cons_succ, List.set_cons_zero, List.set_cons_succ, List.length_cons, List.length_nil, Nat.zero_add, Nat.reduceAdd, List.cons_append, List.nil_append, ha, hb, slice_from, h1, h3, h2, h4, getAt_drop h1, getAt_drop h2, List.isEmpty_cons, Bool.not_false, single_beq, preB] at h3 h4 ⊢
      cases x == y <;> rfl
theorem pre_loop {r : List (Option AV)} : ∀ (l m : List Nat) (p fuel : Nat), a.drop p = l → b.drop p = m → l.length < fuel → ∃ p',
    whileM (T_pre σ.length) (augM (slotM σ.length 1 3) (St.pure (.int 1)) iaddP (putM σ.length 1 3)) fuel (σ ++ [.ns 1 (some (.str a) :: some (.str b) :: c2 :: some (.int (p : Nat)) :: r)]) = some (.next, σ ++ [.ns 1 (some (.str a) :: some (.str b) :: c2 :: some (.int (p' : Nat)) :: r)])
      ∧ a.drop p' = (stripG eqN l m).1 ∧ b.drop p' = (stripG eqN l m).2
  | [], m, p, fuel, h1, h2, hf => by
    obtain ⟨k, rfl⟩ : ∃ k, fuel = k + 1 := ⟨fuel - 1, by omega⟩
    refine ⟨p, ?_, by rw [h1]; rfl, by rw [h2]; rfl⟩
    rw [while_ap, pre_test ha hb, h1, h2]; rfl
  | x :: l, [], p, fuel, h1, h2, hf => by
    obtain ⟨k, rfl⟩ : ∃ k, fuel = k + 1 := ⟨fuel - 1, by omega⟩
    refine ⟨p, ?_, by rw [h1]; rfl, by rw [h2]; rfl⟩
    rw [while_ap, pre_test ha hb, h1, h2]; rfl
  | x :: l, y :: m, p, fuel, h1, h2, hf => by
    obtain ⟨k, rfl⟩ : ∃ k, fuel = k + 1 := ⟨fuel - 1, by omega⟩
    cases hxy : x == y with
    | false =>
      have e : stripG eqN (x :: l) (y :: m) = (x :: l, y :: m) := by unfold stripG; show (match x == y with | true => _ | false => _) = _; rw [hxy]
      refine ⟨p, ?_, by rw [h1, e], by rw [h2, e]⟩
      rw [while_ap, pre_test ha hb, h1, h2]
      simp only [preB, hxy]
    | true =>
      have e : stripG eqN (x :: l) (y :: m) = stripG eqN l m := by conv => lhs; unfold stripG
                                                                   show (match x == y with | true => _ | false => _) = _; rw [hxy]
      have d1 : a.drop (p + 1) = l := by rw [← List.drop_drop, h1]; rfl
      have d2 : b.drop (p + 1) = m := by rw [← List.drop_drop, h2]; rfl
      obtain ⟨p', w, q1, q2⟩ := pre_loop (r := r) l m (p + 1) k d1 d2 (by simp at hf; omega)
      refine ⟨p', ?_, by rw [e]; exact q1, by rw [e]; exact q2⟩
      rw [while_ap, pre_test ha hb, h1, h2]
      simp only [preB, hxy, pure_ap, guard_ap, seqM_ap, nextM_ap, asgM_ap, asg2M_ap, augM_ap, retM_ap, exprM_ap, ifM_ap, iteM_ap, binM_ap, cmpM_ap, truM_ap, notM_ap, negM_ap, andM_ap, orM_ap, orVM_ap, idxM_ap, slcM_ap, callM_ap, consM_ap, methM_ap, listM_ap, tupM_ap, asgSubM_ap, asgTupM_ap, asgSwapM_ap, storesM_cons, storesM_nil, slot_at, put_at, tru_bool, tru_int, tru_none, tru_str, eqP_str, eqP_int, eqP_none, neP_str, neP_bytes, neP_int, ltP_int, leP_int, gtP_int, geP_int, addP_int, addP_str, addP_bytes, subP_int, iaddP_int, isubP_int, iaddP_str, lowerF_ap, selStr_ap, intF_ap, absF_ap, lenF_str, divmodF_ap, minF_ap, maxF_ap, chrF_ap, ordF_ap, slice_str, slice_bytes, part_int, part_none', idx_str, forM_ap, itM_ap, itV_str, itV_bytes, rangeIt_ap, List.getElem?_cons_zero, List.getElem?_cons_succ, List.set_cons_zero, List.set_cons_succ, List.length_cons, List.length_nil, Nat.zero_add, Nat.reduceAdd, List.cons_append, List.nil_append]
      exact w
theorem post_test {r : List (Option AV)} (q : Nat) (l m : List Nat) (h1 : a.take (a.length - q) = l.reverse) (h2 : b.take (b.length - q) = m.reverse) :
    T_post σ.length (σ ++ [.ns 1 (some (.str a) :: some (.str b) :: c2 :: c3 :: some (.int (-(q : Int))) :: r)]) = some (preB l m, σ ++ [.ns 1 (some (.str a) :: some (.str b) :: c2 :: c3 :: some (.int (-(q : Int))) :: r)]) := by
  have h3 : okSz l.reverse.length = true := okSz_of (by have := okSz_le' ha; rw [← h1, List.length_take]; omega)
  have h4 : okSz m.reverse.length = true := okSz_of (by have := okSz_le' hb; rw [← h2, List.length_take]; omega)
  have orq : orVM (slotM σ.length 1 4) (St.pure .none) (σ ++ [.ns 1 (some (.str a) :: some (.str b) :: c2 :: c3 :: some (.int (-(q : Int))) :: r)]) = some (partQ q, σ ++ [.ns 1 (some (.str a) :: some (.str b) :: c2 :: c3 :: some (.int (-(q : Int))) :: r)]) := orq_at q
  unfold T_post
  rcases l with _ | ⟨x, l⟩
  · have h5 : (!(([] : List Nat).reverse).isEmpty) = false := rfl
    simp only [orq, andM_ap, truM_ap, slcM_ap, slot_at, pure_ap, List.getElem?_cons_zero, List.getElem?_cons_succ, slice_str, part_none', part_Q, ha, slice_upto, h1, tru_str, h3, h5]; rfl
  · have h5 : (!((x :: l).reverse).isEmpty) = true := by simp
    rcases m with _ | ⟨y, m⟩
    · have h6 : (!(([] : List Nat).reverse).isEmpty) = false := rfl
      simp only [orq, andM_ap, truM_ap, slcM_ap, slot_at, pure_ap, List.getElem?_cons_zero, List.getElem?_cons_succ, slice_str, part_none', part_Q, ha, hb, slice_upto, h1, h2, tru_str, h3, h4, h5, h6]; rfl
    · have h6 : (!((y :: m).reverse).isEmpty) = true := by simp
      simp only [orq, andM_ap, truM_ap, slcM_ap, slot_at, pure_ap, List.getElem?_cons_zero, List.getElem?_cons_succ, slice_str, part_none', part_Q, ha, hb, slice_upto, h1, h2, tru_str, h3, h4, h5, h6, cmpM_ap, idxM_ap, binM_ap, subP_int, neg_sub, idx_str, (take_last h1).1, (take_last h2).1, eqP_str, tru_bool, single_beq, preB]
      cases x == y <;> rfl
theorem post_loop {r : List (Option AV)} : ∀ (l m : List Nat) (q fuel : Nat), a.take (a.length - q) = l.reverse → b.take (b.length - q) = m.reverse → l.length < fuel → ∃ q',
    whileM (T_post σ.length) (augM (slotM σ.length 1 4) (St.pure (.int 1)) isubP (putM σ.length 1 4)) fuel (σ ++ [.ns 1 (some (.str a) :: some (.str b) :: c2 :: c3 :: some (.int (-(q : Int))) :: r)]) = some (.next, σ ++ [.ns 1 (some (.str a) :: some (.str b) :: c2 :: c3 :: some (.int (-(q' : Int))) :: r)])
      ∧ a.take (a.length - q') = (stripG eqN l m).1.reverse ∧ b.take (b.length - q') = (stripG eqN l m).2.reverse
  | [], m, q, fuel, h1, h2, hf => by
    obtain ⟨k, rfl⟩ : ∃ k, fuel = k + 1 := ⟨fuel - 1, by omega⟩
    refine ⟨q, ?_, by rw [h1]; rfl, by rw [h2]; rfl⟩
    rw [while_ap, post_test ha hb _ _ _ h1 h2]; rfl
  | x :: l, [], q, fuel, h1, h2, hf => by
    obtain ⟨k, rfl⟩ : ∃ k, fuel = k + 1 := ⟨fuel - 1, by omega⟩
    refine ⟨q, ?_, by rw [h1]; rfl, by rw [h2]; rfl⟩
    rw [while_ap, post_test ha hb _ _ _ h1 h2]; rfl
  | x :: l, y :: m, q, fuel, h1, h2, hf => by
    obtain ⟨k, rfl⟩ : ∃ k, fuel = k + 1 := ⟨fuel - 1, by omega⟩
    cases hxy : x == y with
    | false =>
      have e : stripG eqN (x :: l) (y :: m) = (x :: l, y :: m) := by unfold stripG; show (match x == y with | true => _ | false => _) = _; rw [hxy]
      refine ⟨q, ?_, by rw [h1, e], by rw [h2, e]⟩
      rw [while_ap, post_test ha hb _ _ _ h1 h2]
      simp only [preB, hxy]
    | true =>
      have e : stripG eqN (x :: l) (y :: m) = stripG eqN l m := by conv => lhs; unfold stripG
                                                                   show (match x == y with | true => _ | false => _) = _; rw [hxy]
      obtain ⟨q', w, w1, w2⟩ := post_loop (r := r) l m (q + 1) k (take_last h1).2.1 (take_last h2).2.1 (by simp at hf; omega)
      refine ⟨q', ?_, by rw [e]; exact w1, by rw [e]; exact w2⟩
      rw [while_ap, post_test ha hb _ _ _ h1 h2]
      simp only [preB, hxy, pure_ap, guard_ap, seqM_ap, nextM_ap, asgM_ap, asg2M_ap, augM_ap, retM_ap, exprM_ap, ifM_ap, iteM_ap, binM_ap, cmpM_ap, truM_ap, notM_ap, negM_ap, andM_ap, orM_ap, orVM_ap, idxM_ap, slcM_ap, callM_ap, consM_ap, methM_ap, listM_ap, tupM_ap, asgSubM_ap, asgTupM_ap, asgSwapM_ap, storesM_cons, storesM_nil, slot_at, put_at, tru_bool, tru_int, tru_none, tru_str, eqP_str, eqP_int, eqP_none, neP_str, neP_bytes, neP_int, ltP_int, leP_int, gtP_int, geP_int, addP_int, addP_str, addP_bytes, subP_int, iaddP_int, isubP_int, iaddP_str, lowerF_ap, selStr_ap, intF_ap, absF_ap, lenF_str, divmodF_ap, minF_ap, maxF_ap, chrF_ap, ordF_ap, slice_str, slice_bytes, part_int, part_none', idx_str, forM_ap, itM_ap, itV_str, itV_bytes, rangeIt_ap, List.getElem?_cons_zero, List.getElem?_cons_succ, List.set_cons_zero, List.set_cons_succ, List.length_cons, List.length_nil, Nat.zero_add, Nat.reduceAdd, List.cons_append, List.nil_append]
      rw [show -(q : Int) - 1 = -((q + 1 : Nat) : Int) from by omega]
      exact w
end
end Mine
end
section
namespace Mine
open PySem
noncomputable def ai (n : Nat) : AV := .int (n : Int)
theorem imin_nat (a b : Nat) : (if (b : Int) < (a : Int) then (b : Int) else (a : Int)) = ((nmin a b : Nat) : Int) := by
  unfold nmin
  by_cases h : b < a
  · rw [Nat.blt_eq.mpr h, if_pos (by omega)]
  · rw [show Nat.blt b a = false from by rw [Bool.eq_false_iff]; exact fun q => h (Nat.blt_eq.mp q), if_neg (by omega)]
theorem dlt_nat (a b : Nat) : decide ((a : Int) < (b : Int)) = Nat.blt a b := by
  rw [Bool.eq_iff_iff, decide_eq_true_eq, Nat.blt_eq]; omega
section
variable {σ τ : List AO} {sl : List (Option AV)}
theorem getL (xs : List AV) : (σ ++ AO.ns 1 sl :: (τ ++ [AO.list xs]))[σ.length + 1 + τ.length]? = some (.list xs) := by
  rw [Nat.add_assoc, get_at, Nat.add_comm 1, List.getElem?_cons_succ, get_at0]; rfl
theorem setL (xs : List AV) (o : AO) : (σ ++ AO.ns 1 sl :: (τ ++ [AO.list xs])).set (σ.length + 1 + τ.length) o = σ ++ .ns 1 sl :: (τ ++ [o]) := by
  rw [Nat.add_assoc, set_at, Nat.add_comm 1, List.set_cons_succ, set_at0]; rfl
theorem setM_at (v : AV) (k : Nat) (xs : List AV) (h : k < xs.length) (hz : okSz xs.length = true) : setM v (.ref (σ.length + 1 + τ.length)) (.int (k : Int)) (σ ++ .ns 1 sl :: (τ ++ [.list xs])) = some ((), σ ++ .ns 1 sl :: (τ ++ [.list (xs.set k v)])) := by
  unfold setM; simp only [getL]
  rw [guard_ap, hz, show decide (0 ≤ (k : Int)) = true from by simp, show Nat.blt (k : Int).toNat xs.length = true from Nat.blt_eq.mpr h]
  simp only [Bool.and_true]
  show some ((), (σ ++ AO.ns 1 sl :: (τ ++ [AO.list xs])).set (σ.length + 1 + τ.length) (AO.list (xs.set k v))) = _
  rw [setL]
theorem idxL (k : Nat) (xs : List AV) (x : AV) (h : xs[k]? = some x) (hz : okSz xs.length = true) : idxP (.ref (σ.length + 1 + τ.length)) (.int (k : Int)) (σ ++ .ns 1 sl :: (τ ++ [.list xs])) = some (x, σ ++ .ns 1 sl :: (τ ++ [.list xs])) := by
  rw [idx_list _ _ xs (getL xs), hz, show getAt xs (k : Int) = some x from h]
end
theorem subG_ap {σ : List AO} {x y : Nat} (hx : x < 128) (hy : y < 128) : subG [.str [x], .str [y]] σ = some (.int (subN x y : Nat), σ) := by
  show guardM _ _ _ = _
  rw [guard_ap, Nat.blt_eq.mpr hx, Nat.blt_eq.mpr hy, subI_eq]; rfl
noncomputable def B_in (fr : Nat) : St AF := (seqM
  (asgM (binM addP (slotM fr 1 9) (callM subG (consM (slotM fr 1 8) (consM (idxM (slotM fr 1 0) (slotM fr 1 11)) (St.pure []))))) (putM fr 1 12))
  (seqM
  (asgM (idxM (slotM fr 1 5) (slotM fr 1 11)) (putM fr 1 9))
  (seqM
  (asgM (binM addP (callM minF (consM (slotM fr 1 6) (consM (slotM fr 1 9) (St.pure [])))) (St.pure (.int 2))) (putM fr 1 13))
  (seqM
  (asgM (callM minF (consM (slotM fr 1 13) (consM (slotM fr 1 12) (St.pure [])))) (putM fr 1 6))
  (seqM
  (asgSubM (slotM fr 1 6) (slotM fr 1 5) (slotM fr 1 11))
  (ifM (truM (cmpM ltP (slotM fr 1 6) (slotM fr 1 10))) (asgM (slotM fr 1 6) (putM fr 1 10)) (St.pure .next)))))))
noncomputable def B_out (fr : Nat) : St AF := (seqM
  (asgM (idxM (slotM fr 1 1) (slotM fr 1 7)) (putM fr 1 8))
  (seqM
  (asg2M (binM mulP (slotM fr 1 7) (St.pure (.int 2))) (putM fr 1 9) (putM fr 1 6))
  (seqM
  (asgM (St.pure (.int 9223372036854775807)) (putM fr 1 10))
  (seqM
  (forM (rangeIt (consM (callM lenF (consM (slotM fr 1 0) (St.pure []))) (St.pure []))) (putM fr 1 11) (B_in fr))
  (ifM (truM (cmpM gtP (slotM fr 1 10) (slotM fr 1 2))) (retM (binM addP (slotM fr 1 2) (St.pure (.int 1)))) (St.pure .next))))))
theorem add2 (n : Nat) : (n : Int) + 2 = ((n + 2 : Nat) : Int) := rfl
theorem addN (n m : Nat) : (n : Int) + (m : Int) = ((n + m : Nat) : Int) := rfl
theorem rowG_len {α : Type} (sub : α → α → Nat) (c : α) : ∀ (l : List α) (row : List Nat) (d r m : Nat), row.length = l.length → (rowG sub c l row d r m).1.length = l.length
  | [], _, _, _, _, _ => rfl
  | a :: l, [], _, _, _, h => by simp at h
  | a :: l, d :: row, dist, res, mn, h => by
    unfold rowG; simp only [List.length_cons]; rw [rowG_len sub c l row _ _ _ (by simpa using h)]
section
variable {σ τ : List AO} {a : List Nat} {c : Nat} {s1 s2 s3 s4 s7 : Option AV} (ha : a.length ≤ 30) (ha8 : ∀ x ∈ a, x < 128) (hc : c < 128)
include ha ha8 hc
theorem in_loop : ∀ (as rem done : List Nat) (dist res mn : Nat) (s11 s12 s13 : Option AV), rem.length = as.length → a.drop done.length = as → ∃ s9 s11' s12' s13',
    forL always (putM σ.length 1 11) (B_in σ.length) ((List.range' done.length as.length).map ai)
      (σ ++ .ns 1 [some (.str a), s1, s2, s3, s4, some (.ref (σ.length + 1 + τ.length)), some (ai res), s7, some (.str [c]), some (ai dist), some (ai mn), s11, s12, s13] :: (τ ++ [.list ((done ++ rem).map ai)]))
    = some (.next, σ ++ .ns 1 [some (.str a), s1, s2, s3, s4, some (.ref (σ.length + 1 + τ.length)), some (ai (rowG subN c as rem dist res mn).2.1), s7, some (.str [c]), s9, some (ai (rowG subN c as rem dist res mn).2.2), s11', s12', s13'] :: (τ ++ [.list ((done ++ (rowG subN c as rem dist res mn).1).map ai)]))
  | [], [], done, dist, res, mn, s11, s12, s13, _, _ => ⟨_, _, _, _, for_nil ..⟩
  | [], _ :: _, _, _, _, _, _, _, _, h, _ => by simp at h
  | _ :: _, [], _, _, _, _, _, _, _, h, _ => by simp at h
  | x :: as, d :: rem, done, dist, res, mn, s11, s12, s13, h, hd => by
    have hx : x < 128 := ha8 x (List.mem_of_mem_drop (hd ▸ List.mem_cons_self))
    have hlen := congrArg List.length hd
    simp only [List.length_drop, List.length_cons] at hlen h
    have hga := getAt_drop hd
    have hz : okSz a.length = true := okSz_of (by omega)
    have hrow : ((done ++ d :: rem).map ai)[done.length]? = some (ai d) := by simp
    have hrl : done.length < ((done ++ d :: rem).map ai).length := by simp
    have hrz : okSz ((done ++ d :: rem).map ai).length = true := okSz_of (by simp only [List.length_map, List.length_append, List.length_cons]; omega)
    have hset : ∀ v : Nat, ((done ++ d :: rem).map ai).set done.length (ai v) = ((done ++ [v]) ++ rem).map ai := fun v => by
      rw [List.map_append, show done.length = (done.map ai).length from by simp, List.set_append_right _ _ (Nat.le_refl _), Nat.sub_self]; simp
    have hd' : a.drop (done ++ [nmin (nmin res d + 2) (dist + subN c x)]).length = as := by
      rw [List.length_append, List.length_cons, List.length_nil, ← List.drop_drop, hd]; rfl
    obtain ⟨s9, t11, t12, t13, e⟩ := in_loop as rem (done ++ [nmin (nmin res d + 2) (dist + subN c x)]) d (nmin (nmin res d + 2) (dist + subN c x)) (nmin mn (nmin (nmin res d + 2) (dist + subN c x))) (some (ai done.length)) (some (ai (dist + subN c x))) (some (ai (nmin res d + 2))) (by omega) hd'
    refine ⟨s9, t11, t12, t13, ?_⟩
    have hr' : rowG subN c (x :: as) (d :: rem) dist res mn = ((nmin (nmin res d + 2) (dist + subN c x)) :: (rowG subN c as rem d (nmin (nmin res d + 2) (dist + subN c x)) (nmin mn (nmin (nmin res d + 2) (dist + subN c x)))).1, (rowG subN c as rem d (nmin (nmin res d + 2) (dist + subN c x)) (nmin mn (nmin (nmin res d + 2) (dist + subN c x)))).2) := rfl
    rw [hr']
    simp only [List.append_assoc, List.cons_append, List.nil_append] at e ⊢
    rw [← e, List.length_cons, List.range'_succ, List.map_cons, for_cons]
    generalize hN : nmin (nmin res d + 2) (dist + subN c x) = N at *
    have hmn : nmin mn N = (match Nat.blt N mn with | true => N | false => mn) := rfl
    unfold B_in
    simp only [pure_ap, guard_ap, seqM_ap, nextM_ap, asgM_ap, asg2M_ap, augM_ap, retM_ap, exprM_ap, ifM_ap, iteM_ap, binM_ap, cmpM_ap, truM_ap, notM_ap, negM_ap, andM_ap, orM_ap, orVM_ap, idxM_ap, slcM_ap, callM_ap, consM_ap, methM_ap, listM_ap, tupM_ap, asgSubM_ap, asgTupM_ap, asgSwapM_ap, storesM_cons, storesM_nil, slot_at, put_at, tru_bool, tru_int, tru_none, tru_str, eqP_str, eqP_int, eqP_none, neP_str, neP_bytes, neP_int, ltP_int, leP_int, gtP_int, geP_int, addP_int, addP_str, addP_bytes, subP_int, iaddP_int, isubP_int, iaddP_str, lowerF_ap, selStr_ap, intF_ap, absF_ap, lenF_str, divmodF_ap, minF_ap, maxF_ap, chrF_ap, ordF_ap, slice_str, slice_bytes, part_int, part_none', idx_str, forM_ap, itM_ap, itV_str, itV_bytes, rangeIt_ap, List.getElem?_cons_zero, List.getElem?_cons_succ, List.set_cons_zero, List.set_cons_succ, List.length_cons, List.length_nil, Nat.zero_add, Nat.reduceAdd, List.cons_append, List.nil_append, ai, addN, add2] at hrow hset ⊢
    simp only [pure_ap, guard_ap, seqM_ap, nextM_ap, asgM_ap, asg2M_ap, augM_ap, retM_ap, exprM_ap, ifM_ap, iteM_ap, binM_ap, cmpM_ap, truM_ap, notM_ap, negM_ap, andM_ap, orM_ap, orVM_ap, idxM_ap, slcM_ap, callM_ap, consM_ap, methM_ap, listM_ap, tupM_ap, asgSubM_ap, asgTupM_ap, asgSwapM_ap, storesM_cons, storesM_nil, slot_at, put_at, tru_bool, tru_int, tru_none, tru_str, eqP_str, eqP_int, eqP_none, neP_str, neP_bytes, neP_int, ltP_int, leP_int, gtP_int, geP_int, addP_int, addP_str, addP_bytes, subP_int, iaddP_int, isubP_int, iaddP_str, lowerF_ap, selStr_ap, intF_ap, absF_ap, lenF_str, divmodF_ap, minF_ap, maxF_ap, chrF_ap, ordF_ap, slice_str, slice_bytes, part_int, part_none', idx_str, forM_ap, itM_ap, itV_str, itV_bytes, rangeIt_ap, List.getElem?_cons_zero, List.getElem?_cons_succ, List.set_cons_zero, List.set_cons_succ, List.length_cons, List.length_nil, Nat.zero_add, Nat.reduceAdd, List.cons_append, List.nil_append, hz, hga, subG_ap hc hx, addN, add2, idxL done.length _ _ hrow hrz, imin_nat, hN, setM_at _ _ _ hrl hrz, dlt_nat, hset]
    cases hb : Nat.blt N mn <;> simp only [hmn, hb, pure_ap, guard_ap, seqM_ap, nextM_ap, asgM_ap, asg2M_ap, augM_ap, retM_ap, exprM_ap, ifM_ap, iteM_ap, binM_ap, cmpM_ap, truM_ap, notM_ap, negM_ap, andM_ap, orM_ap, orVM_ap, idxM_ap, slcM_ap, callM_ap, consM_ap, methM_ap, listM_ap, tupM_ap, asgSubM_ap, asgTupM_ap, asgSwapM_ap, storesM_cons, storesM_nil, slot_at, put_at, tru_bool, tru_int, tru_none, tru_str, eqP_str, eqP_int, eqP_none, neP_str, neP_bytes, neP_int, ltP_int, leP_int, gtP_int, geP_int, addP_int, addP_str, addP_bytes, subP_int, iaddP_int, isubP_int, iaddP_str, lowerF_ap, selStr_ap, intF_ap, absF_ap, lenF_str, divmodF_ap, minF_ap, maxF_ap, chrF_ap, ordF_ap, slice_str, slice_bytes, part_int, part_none', idx_str, forM_ap, itM_ap, itV_str, itV_bytes, rangeIt_ap, List.getElem?_cons_zero, List.getElem?_cons_succ, List.set_cons_zero, List.set_cons_succ, List.length_cons, List.length_nil, Nat.zero_add, Nat.reduceAdd, List.cons_append, List.nil_append, List.length_append, List.append_assoc]
end
theorem rangeSize1 (n : Nat) : (Builtin.Range.rangeSize 0 (n : Int) 1).toNat = n := by
  unfold Builtin.Range.rangeSize
  split
  · split <;> omega
  · split <;> omega
theorem rangeI_nat (n : Nat) : (rangeI 0 (n : Int) 1).map AV.int = (List.range' 0 n).map ai := by
  unfold rangeI
  rw [rangeSize1, List.map_map, List.range_eq_range']
  exact List.map_congr_left fun i _ => by show AV.int (0 + (i : Int) * 1) = AV.int (i : Int); congr 1; omega
theorem rangeArgs_nat {n : Nat} (h : n ≤ 1000) : rangeArgs [.int (n : Int)] = some (0, (n : Int), 1) := by
  have hs : smallI (n : Int) = true := Nat.ble_eq_true_of_le (by show n ≤ _; omega)
  simp only [rangeArgs, hs]
theorem mul2 {σ : List AO} (i : Nat) : mulP (.int (i : Int)) (.int 2) σ = some (.int ((i * 2 : Nat) : Int), σ) := by
  rw [mulP_int, show small64 2 = true from by decide]; rfl
section
variable {σ τ : List AO} {a b : List Nat} {mx : Nat} {s3 s4 : Option AV} (ha : a.length ≤ 30) (hb : b.length ≤ 30) (ha8 : ∀ x ∈ a, x < 128) (hb8 : ∀ x ∈ b, x < 128)
include ha hb ha8 hb8
theorem out_loop : ∀ (bs : List Nat) (i : Nat) (row : List Nat) (res : Nat) (s7 s8 s9 s10 s11 s12 s13 : Option AV), row.length = a.length → b.drop i = bs → ∃ f sl' row',
    forL always (putM σ.length 1 7) (B_out σ.length) ((List.range' i bs.length).map ai)
      (σ ++ .ns 1 [some (.str a), some (.str b), some (ai mx), s3, s4, some (.ref (σ.length + 1 + τ.length)), some (ai res), s7, s8, s9, s10, s11, s12, s13] :: (τ ++ [.list (row.map ai)]))
    = some (f, σ ++ .ns 1 sl' :: (τ ++ [.list row'])) ∧ ((f = .ret (ai (rowsG subN mx a bs i row res))) ∨ (f = .next ∧ sl'[6]? = some (some (ai (rowsG subN mx a bs i row res)))))
  | [], i, row, res, s7, s8, s9, s10, s11, s12, s13, _, _ => ⟨_, _, _, for_nil .., .inr ⟨rfl, rfl⟩⟩
  | c :: bs, i, row, res, s7, s8, s9, s10, s11, s12, s13, hr, hd => by
    have hc : c < 128 := hb8 c (List.mem_of_mem_drop (hd ▸ List.mem_cons_self))
    have hga := getAt_drop hd
    have hz : okSz a.length = true := okSz_of (by omega)
    have hz' : okSz b.length = true := okSz_of (by omega)
    have hd' : b.drop (i + 1) = bs := by rw [← List.drop_drop, hd]; rfl
    obtain ⟨s9', t11, t12, t13, e⟩ := in_loop (σ := σ) (τ := τ) (s1 := some (.str b)) (s2 := some (ai mx)) (s3 := s3) (s4 := s4) (s7 := some (ai i)) ha ha8 hc a row [] (i * 2) (i * 2) 9223372036854775807 s11 s12 s13 hr rfl
    simp only [List.nil_append, List.length_nil] at e
    have hrl := rowG_len subN c a row (i * 2) (i * 2) 9223372036854775807 hr
    have hrows : rowsG subN mx a (c :: bs) i row res = (match Nat.blt mx (rowG subN c a row (i * 2) (i * 2) 9223372036854775807).2.2 with
      | true => mx + 1
      | false => rowsG subN mx a bs (i + 1) (rowG subN c a row (i * 2) (i * 2) 9223372036854775807).1 (rowG subN c a row (i * 2) (i * 2) 9223372036854775807).2.1) := rfl
    have hbody : ∀ f ρ, (match Nat.blt mx (rowG subN c a row (i * 2) (i * 2) 9223372036854775807).2.2 with
        | true => f = AF.ret (ai (mx + 1))
        | false => f = .next) → ρ = σ ++ .ns 1 [some (.str a), some (.str b), some (ai mx), s3, s4, some (.ref (σ.length + 1 + τ.length)), some (ai (rowG subN c a row (i * 2) (i * 2) 9223372036854775807).2.1), some (ai i), some (.str [c]), s9', some (ai (rowG subN c a row (i * 2) (i * 2) 9223372036854775807).2.2), t11, t12, t13] :: (τ ++ [.list ((rowG subN c a row (i * 2) (i * 2) 9223372036854775807).1.map ai)]) →
        B_out σ.length (σ ++ .ns 1 [some (.str a), some (.str b), some (ai mx), s3, s4, some (.ref (σ.length + 1 + τ.length)), some (ai res), some (ai i), s8, s9, s10, s11, s12, s13] :: (τ ++ [.list (row.map ai)])) = some (f, ρ) := by
      intro f ρ hf hρ
      subst hρ
      unfold B_out
      simp only [ai] at e ⊢
      have e' := e
      simp only [pure_ap, guard_ap, seqM_ap, nextM_ap, asgM_ap, asg2M_ap, augM_ap, retM_ap, exprM_ap, ifM_ap, iteM_ap, binM_ap, cmpM_ap, truM_ap, notM_ap, negM_ap, andM_ap, orM_ap, orVM_ap, idxM_ap, slcM_ap, callM_ap, consM_ap, methM_ap, listM_ap, tupM_ap, asgSubM_ap, asgTupM_ap, asgSwapM_ap, storesM_cons, storesM_nil, slot_at, put_at, tru_bool, tru_int, tru_none, tru_str, eqP_str, eqP_int, eqP_none, neP_str, neP_bytes, neP_int, ltP_int, leP_int, gtP_int, geP_int, addP_int, addP_str, addP_bytes, subP_int, iaddP_int, isubP_int, iaddP_str, lowerF_ap, selStr_ap, intF_ap, absF_ap, lenF_str, divmodF_ap, minF_ap, maxF_ap, chrF_ap, ordF_ap, slice_str, slice_bytes, part_int, part_none', idx_str, forM_ap, itM_ap, itV_str, itV_bytes, rangeIt_ap, List.getElem?_cons_zero, List.getElem?_cons_succ, List.set_cons_zero, List.set_cons_succ, List.length_cons, List.length_nil, Nat.zero_add, Nat.reduceAdd, List.cons_append, List.nil_append, hga, hz, hz', mul2, rangeArgs_nat (show a.length ≤ 1000 by omega), rangeI_nat, ai] at e ⊢
      rw [show ((9223372036854775807 : Nat) : Int) = 9223372036854775807 from rfl] at e
      simp only [e, pure_ap, guard_ap, seqM_ap, nextM_ap, asgM_ap, asg2M_ap, augM_ap, retM_ap, exprM_ap, ifM_ap, iteM_ap, binM_ap, cmpM_ap, truM_ap, notM_ap, negM_ap, andM_ap, orM_ap, orVM_ap, idxM_ap, slcM_ap, callM_ap, consM_ap, methM_ap, listM_ap, tupM_ap, asgSubM_ap, asgTupM_ap, asgSwapM_ap, storesM_cons, storesM_nil, slot_at, put_at, tru_bool, tru_int, tru_none, tru_str, eqP_str, eqP_int, eqP_none, neP_str, neP_bytes, neP_int, ltP_int, leP_int, gtP_int, geP_int, addP_int, addP_str, addP_bytes, subP_int, iaddP_int, isubP_int, iaddP_str, lowerF_ap, selStr_ap, intF_ap, absF_ap, lenF_str, divmodF_ap, minF_ap, maxF_ap, chrF_ap, ordF_ap, slice_str, slice_bytes, part_int, part_none', idx_str, forM_ap, itM_ap, itV_str, itV_bytes, rangeIt_ap, List.getElem?_cons_zero, List.getElem?_cons_succ, List.set_cons_zero, List.set_cons_succ, List.length_cons, List.length_nil, Nat.zero_add, Nat.reduceAdd, List.cons_append, List.nil_append, dlt_nat]
      cases hm : Nat.blt mx (rowG subN c a row (i * 2) (i * 2) 9223372036854775807).2.2 <;> rw [hm] at hf <;> simp only [hf, ai, pure_ap, guard_ap, seqM_ap, nextM_ap, asgM_ap, asg2M_ap, augM_ap, retM_ap, exprM_ap, ifM_ap, iteM_ap, binM_ap, cmpM_ap, truM_ap, notM_ap, negM_ap, andM_ap, orM_ap, orVM_ap, idxM_ap, slcM_ap, callM_ap, consM_ap, methM_ap, listM_ap, tupM_ap, asgSubM_ap, asgTupM_ap, asgSwapM_ap, storesM_cons, storesM_nil, slot_at, put_at, tru_bool, tru_int, tru_none, tru_str, eqP_str, eqP_int, eqP_none, neP_str, neP_bytes, neP_int, ltP_int, leP_int, gtP_int, geP_int, addP_int, addP_str, addP_bytes, subP_int, iaddP_int, isubP_int, iaddP_str, lowerF_ap, selStr_ap, intF_ap, absF_ap, lenF_str, divmodF_ap, minF_ap, maxF_ap, chrF_ap, ordF_ap, slice_str, slice_bytes, part_int, part_none', idx_str, forM_ap, itM_ap, itV_str, itV_bytes, rangeIt_ap, List.getElem?_cons_zero, List.getElem?_cons_succ, List.set_cons_zero, List.set_cons_succ, List.length_cons, List.length_nil, Nat.zero_add, Nat.reduceAdd, List.cons_append, List.nil_append] <;> rfl
    rw [hrows]
    cases hm : Nat.blt mx (rowG subN c a row (i * 2) (i * 2) 9223372036854775807).2.2 with
    | true =>
      have e2 := hbody (.ret (ai (mx + 1))) _ (by rw [hm]) rfl
      have e3 : ∀ v ρ, B_out σ.length (σ ++ .ns 1 [some (.str a), some (.str b), some (ai mx), s3, s4, some (.ref (σ.length + 1 + τ.length)), some (ai res), some (ai i), s8, s9, s10, s11, s12, s13] :: (τ ++ [.list (row.map ai)])) = some (.ret v, ρ) →
          forL always (putM σ.length 1 7) (B_out σ.length) ((List.range' i (c :: bs).length).map ai) (σ ++ .ns 1 [some (.str a), some (.str b), some (ai mx), s3, s4, some (.ref (σ.length + 1 + τ.length)), some (ai res), s7, s8, s9, s10, s11, s12, s13] :: (τ ++ [.list (row.map ai)])) = some (.ret v, ρ) := fun v ρ h => by
        rw [List.length_cons, List.range'_succ, List.map_cons, for_cons]
        simp only [pure_ap, guard_ap, seqM_ap, nextM_ap, asgM_ap, asg2M_ap, augM_ap, retM_ap, exprM_ap, ifM_ap, iteM_ap, binM_ap, cmpM_ap, truM_ap, notM_ap, negM_ap, andM_ap, orM_ap, orVM_ap, idxM_ap, slcM_ap, callM_ap, consM_ap, methM_ap, listM_ap, tupM_ap, asgSubM_ap, asgTupM_ap, asgSwapM_ap, storesM_cons, storesM_nil, slot_at, put_at, tru_bool, tru_int, tru_none, tru_str, eqP_str, eqP_int, eqP_none, neP_str, neP_bytes, neP_int, ltP_int, leP_int, gtP_int, geP_int, addP_int, addP_str, addP_bytes, subP_int, iaddP_int, isubP_int, iaddP_str, lowerF_ap, selStr_ap, intF_ap, absF_ap, lenF_str, divmodF_ap, minF_ap, maxF_ap, chrF_ap, ordF_ap, slice_str, slice_bytes, part_int, part_none', idx_str, forM_ap, itM_ap, itV_str, itV_bytes, rangeIt_ap, List.getElem?_cons_zero, List.getElem?_cons_succ, List.set_cons_zero, List.set_cons_succ, List.length_cons, List.length_nil, Nat.zero_add, Nat.reduceAdd, List.cons_append, List.nil_append, h]
      exact ⟨_, _, _, e3 _ _ e2, .inl rfl⟩
    | false =>
      have e2 := hbody .next _ (by rw [hm]) rfl
      obtain ⟨f, sl', row', e3, h3⟩ := out_loop bs (i + 1) (rowG subN c a row (i * 2) (i * 2) 9223372036854775807).1 (rowG subN c a row (i * 2) (i * 2) 9223372036854775807).2.1 (some (ai i)) (some (.str [c])) s9' (some (ai (rowG subN c a row (i * 2) (i * 2) 9223372036854775807).2.2)) t11 t12 t13 hrl hd'
      refine ⟨f, sl', row', ?_, h3⟩
      rw [List.length_cons, List.range'_succ, List.map_cons, for_cons]
      simp only [pure_ap, guard_ap, seqM_ap, nextM_ap, asgM_ap, asg2M_ap, augM_ap, retM_ap, exprM_ap, ifM_ap, iteM_ap, binM_ap, cmpM_ap, truM_ap, notM_ap, negM_ap, andM_ap, orM_ap, orVM_ap, idxM_ap, slcM_ap, callM_ap, consM_ap, methM_ap, listM_ap, tupM_ap, asgSubM_ap, asgTupM_ap, asgSwapM_ap, storesM_cons, storesM_nil, slot_at, put_at, tru_bool, tru_int, tru_none, tru_str, eqP_str, eqP_int, eqP_none, neP_str, neP_bytes, neP_int, ltP_int, leP_int, gtP_int, geP_int, addP_int, addP_str, addP_bytes, subP_int, iaddP_int, isubP_int, iaddP_str, lowerF_ap, selStr_ap, intF_ap, absF_ap, lenF_str, divmodF_ap, minF_ap, maxF_ap, chrF_ap, ordF_ap, slice_str, slice_bytes, part_int, part_none', idx_str, forM_ap, itM_ap, itV_str, itV_bytes, rangeIt_ap, List.getElem?_cons_zero, List.getElem?_cons_succ, List.set_cons_zero, List.set_cons_succ, List.length_cons, List.length_nil, Nat.zero_add, Nat.reduceAdd, List.cons_append, List.nil_append, e2]
      exact e3
end
end Mine
end
section
namespace Mine
open PySem
noncomputable def P_levD (fr : Nat) : St AF :=
  (seqM
  (ifM (truM (cmpM gtP (binM mulP (binM subP (callM lenF (consM (slotM fr 1 1) (St.pure []))) (callM lenF (consM (slotM fr 1 0) (St.pure [])))) (St.pure (.int 2))) (slotM fr 1 2))) (retM (binM addP (slotM fr 1 2) (St.pure (.int 1)))) (St.pure .next))
  (seqM
  (asgM (callM listRF (consM (callM rangeF (consM (St.pure (.int 2)) (consM (binM mulP (St.pure (.int 2)) (binM addP (callM lenF (consM (slotM fr 1 0) (St.pure []))) (St.pure (.int 1)))) (consM (St.pure (.int 2)) (St.pure []))))) (St.pure []))) (putM fr 1 5))
  (seqM
  (asgM (St.pure (.int 0)) (putM fr 1 6))
  (seqM
  (forM (rangeIt (consM (callM lenF (consM (slotM fr 1 1) (St.pure []))) (St.pure []))) (putM fr 1 7) (B_out fr))
  (retM (slotM fr 1 6))))))
noncomputable def P_levC (fr : Nat) : St AF :=
  (seqM
  (ifM (orM (notM (truM (slotM fr 1 0))) (orM (notM (truM (slotM fr 1 1))) (St.pure false))) (retM (binM mulP (St.pure (.int 2)) (binM addP (callM lenF (consM (slotM fr 1 0) (St.pure []))) (callM lenF (consM (slotM fr 1 1) (St.pure [])))))) (St.pure .next))
  (seqM
  (ifM (orM (truM (cmpM gtP (callM lenF (consM (slotM fr 1 0) (St.pure []))) (St.pure (.int 40)))) (orM (truM (cmpM gtP (callM lenF (consM (slotM fr 1 1) (St.pure []))) (St.pure (.int 40)))) (St.pure false))) (retM (binM addP (slotM fr 1 2) (St.pure (.int 1)))) (St.pure .next))
  (seqM
  (ifM (truM (cmpM ltP (callM lenF (consM (slotM fr 1 1) (St.pure []))) (callM lenF (consM (slotM fr 1 0) (St.pure []))))) (asgSwapM (tupM (consM (slotM fr 1 1) (consM (slotM fr 1 0) (St.pure [])))) 2 [(putM fr 1 1), (putM fr 1 0)]) (St.pure .next))
  (P_levD fr))))
noncomputable def P_lev (fr : Nat) : St AF :=
  (seqM
  (ifM (truM (cmpM eqP (slotM fr 1 0) (slotM fr 1 1))) (retM (St.pure (.int 0))) (St.pure .next))
  (seqM
  (asgM (St.pure (.int 0)) (putM fr 1 3))
  (seqM
  (whileM (T_pre fr) (augM (slotM fr 1 3) (St.pure (.int 1)) iaddP (putM fr 1 3)) 1000)
  (seqM
  (asgM (slcM (slotM fr 1 0) (slotM fr 1 3) (St.pure .none)) (putM fr 1 0))
  (seqM
  (asgM (slcM (slotM fr 1 1) (slotM fr 1 3) (St.pure .none)) (putM fr 1 1))
  (seqM
  (asgM (St.pure (.int 0)) (putM fr 1 4))
  (seqM
  (whileM (T_post fr) (augM (slotM fr 1 4) (St.pure (.int 1)) isubP (putM fr 1 4)) 1000)
  (seqM
  (asgM (slcM (slotM fr 1 0) (St.pure .none) (orVM (slotM fr 1 4) (St.pure .none))) (putM fr 1 0))
  (seqM
  (asgM (slcM (slotM fr 1 1) (St.pure .none) (orVM (slotM fr 1 4) (St.pure .none))) (putM fr 1 1))
  (P_levC fr))))))))))
theorem rangeSize2 (n : Nat) : (Builtin.Range.rangeSize 2 (2 * ((n : Int) + 1)) 2).toNat = n := by
  unfold Builtin.Range.rangeSize
  split
  · split <;> omega
  · split <;> omega
theorem mul2' {σ : List AO} (i : Nat) : mulP (.int 2) (.int (i : Int)) σ = some (.int ((2 * i : Nat) : Int), σ) := by
  rw [mulP_int, show small64 2 = true from by decide, Bool.or_true]; rfl
theorem rangeI_2 (n : Nat) : (rangeI 2 ((2 * (n + 1) : Nat) : Int) 2).map AV.int = (firstRow n).map ai := by
  unfold rangeI firstRow
  rw [show ((2 * (n + 1) : Nat) : Int) = 2 * ((n : Int) + 1) from by omega, rangeSize2, List.map_map, List.map_map]
  exact List.map_congr_left fun i _ => by show AV.int (2 + (i : Int) * 2) = AV.int ((2 + i * 2 : Nat) : Int); congr 1
theorem row_make {σ τ : List AO} {sl : List (Option AV)} {n : Nat} (h : n ≤ 1000) : (match rangeF [.int 2, .int ((2 * (n + 1) : Nat) : Int), .int 2] (σ ++ .ns 1 sl :: τ) with | some (r, ρ) => listRF [r] ρ | none => none)
    = some (.ref (σ.length + 1 + (τ ++ [AO.range 2 ((2 * (n + 1) : Nat) : Int) 2]).length), σ ++ .ns 1 sl :: ((τ ++ [.range 2 ((2 * (n + 1) : Nat) : Int) 2]) ++ [.list ((firstRow n).map ai)])) := by
  have h1 : smallI ((2 * (n + 1) : Nat) : Int) = true := Nat.ble_eq_true_of_le (by show 2 * (n + 1) ≤ _; omega)
  have h2 : smallI 2 = true := by decide
  have hr : rangeF [.int 2, .int ((2 * (n + 1) : Nat) : Int), .int 2] (σ ++ .ns 1 sl :: τ) = some (.ref (σ ++ .ns 1 sl :: τ).length, (σ ++ .ns 1 sl :: τ) ++ [.range 2 ((2 * (n + 1) : Nat) : Int) 2]) := by
    unfold rangeF
    simp only [rangeArgs, h1, h2]; rfl
  rw [hr]
  unfold listRF
  simp only [get_at0, List.getElem?_cons_zero]
  rw [guard_ap, h1, h2, rangeI_2]
  simp only [Bool.true_and, beq_self_eq_true, Bool.or_true]
  congr 1
  simp [Nat.add_assoc, Nat.add_comm]
section
variable {σ : List AO} {mx : Nat}
theorem x_levD {τ : List AO} {a b : List Nat} {s3 s4 : Option AV} (ha : a.length ≤ 30) (hb : b.length ≤ 30) (hab : a.length ≤ b.length) (ha8 : ∀ x ∈ a, x < 128) (hb8 : ∀ x ∈ b, x < 128) :
    ∃ junk, P_levD σ.length (σ ++ .ns 1 [some (.str a), some (.str b), some (ai mx), s3, s4, none, none, none, none, none, none, none, none, none] :: τ) = some (.ret (ai (levD subN a b mx)), σ ++ junk) := by
  have hz : okSz a.length = true := okSz_of (by omega)
  have hz' : okSz b.length = true := okSz_of (by omega)
  have hsub : (b.length : Int) - (a.length : Int) = ((b.length - a.length : Nat) : Int) := by omega
  unfold levD
  cases hm : Nat.blt mx ((b.length - a.length) * 2) with
  | true =>
    refine ⟨.ns 1 [some (.str a), some (.str b), some (ai mx), s3, s4, none, none, none, none, none, none, none, none, none] :: τ, ?_⟩
    unfold P_levD
    simp only [ai, pure_ap, guard_ap, seqM_ap, nextM_ap, asgM_ap, asg2M_ap, augM_ap, retM_ap, exprM_ap, ifM_ap, iteM_ap, binM_ap, cmpM_ap, truM_ap, notM_ap, negM_ap, andM_ap, orM_ap, orVM_ap, idxM_ap, slcM_ap, callM_ap, consM_ap, methM_ap, listM_ap, tupM_ap, asgSubM_ap, asgTupM_ap, asgSwapM_ap, storesM_cons, storesM_nil, slot_at, put_at, tru_bool, tru_int, tru_none, tru_str, eqP_str, eqP_int, eqP_none, neP_str, neP_bytes, neP_int, ltP_int, leP_int, gtP_int, geP_int, addP_int, addP_str, addP_bytes, subP_int, iaddP_int, isubP_int, iaddP_str, lowerF_ap, selStr_ap, intF_ap, absF_ap, lenF_str, divmodF_ap, minF_ap, maxF_ap, chrF_ap, ordF_ap, slice_str, slice_bytes, part_int, part_none', idx_str, forM_ap, itM_ap, itV_str, itV_bytes, rangeIt_ap, List.getElem?_cons_zero, List.getElem?_cons_succ, List.set_cons_zero, List.set_cons_succ, List.length_cons, List.length_nil, Nat.zero_add, Nat.reduceAdd, List.cons_append, List.nil_append, hz, hz', hsub, mul2, dlt_nat, hm]; rfl
  | false =>
    obtain ⟨f, sl', row', e, h⟩ := out_loop (σ := σ) (τ := τ ++ [.range 2 ((2 * (a.length + 1) : Nat) : Int) 2]) (mx := mx) (s3 := s3) (s4 := s4) ha hb ha8 hb8 b 0 (firstRow a.length) 0 none none none none none none none (by simp [firstRow]) rfl
    refine ⟨.ns 1 sl' :: ((τ ++ [.range 2 ((2 * (a.length + 1) : Nat) : Int) 2]) ++ [.list row']), ?_⟩
    have hrm := row_make (σ := σ) (τ := τ) (sl := [some (.str a), some (.str b), some (ai mx), s3, s4, none, none, none, none, none, none, none, none, none]) (n := a.length) (by omega)
    rcases hr : rangeF [.int 2, .int ((2 * (a.length + 1) : Nat) : Int), .int 2] (σ ++ .ns 1 [some (.str a), some (.str b), some (ai mx), s3, s4, none, none, none, none, none, none, none, none, none] :: τ) with _ | ⟨r, ρ⟩
    · rw [hr] at hrm; cases hrm
    rw [hr] at hrm
    simp only [] at hrm
    unfold P_levD
    have h1 : (a.length : Int) + 1 = ((a.length + 1 : Nat) : Int) := rfl
    have h0 : ((0 : Nat) : Int) = 0 := rfl
    simp only [ai, h0] at hr hrm e h ⊢
    simp only [pure_ap, guard_ap, seqM_ap, nextM_ap, asgM_ap, asg2M_ap, augM_ap, retM_ap, exprM_ap, ifM_ap, iteM_ap, binM_ap, cmpM_ap, truM_ap, notM_ap, negM_ap, andM_ap, orM_ap, orVM_ap, idxM_ap, slcM_ap, callM_ap, consM_ap, methM_ap, listM_ap, tupM_ap, asgSubM_ap, asgTupM_ap, asgSwapM_ap, storesM_cons, storesM_nil, slot_at, put_at, tru_bool, tru_int, tru_none, tru_str, eqP_str, eqP_int, eqP_none, neP_str, neP_bytes, neP_int, ltP_int, leP_int, gtP_int, geP_int, addP_int, addP_str, addP_bytes, subP_int, iaddP_int, isubP_int, iaddP_str, lowerF_ap, selStr_ap, intF_ap, absF_ap, lenF_str, divmodF_ap, minF_ap, maxF_ap, chrF_ap, ordF_ap, slice_str, slice_bytes, part_int, part_none', idx_str, forM_ap, itM_ap, itV_str, itV_bytes, rangeIt_ap, List.getElem?_cons_zero, List.getElem?_cons_succ, List.set_cons_zero, List.set_cons_succ, List.length_cons, List.length_nil, Nat.zero_add, Nat.reduceAdd, List.cons_append, List.nil_append, hz, hz', hsub, mul2, mul2', dlt_nat, hm, h1, hr, hrm, rangeArgs_nat (show b.length ≤ 1000 by omega), rangeI_nat, e]
    rcases h with rfl | ⟨rfl, h⟩
    · simp only []
    · simp only [pure_ap, guard_ap, seqM_ap, nextM_ap, asgM_ap, asg2M_ap, augM_ap, retM_ap, exprM_ap, ifM_ap, iteM_ap, binM_ap, cmpM_ap, truM_ap, notM_ap, negM_ap, andM_ap, orM_ap, orVM_ap, idxM_ap, slcM_ap, callM_ap, consM_ap, methM_ap, listM_ap, tupM_ap, asgSubM_ap, asgTupM_ap, asgSwapM_ap, storesM_cons, storesM_nil, slot_at, put_at, tru_bool, tru_int, tru_none, tru_str, eqP_str, eqP_int, eqP_none, neP_str, neP_bytes, neP_int, ltP_int, leP_int, gtP_int, geP_int, addP_int, addP_str, addP_bytes, subP_int, iaddP_int, isubP_int, iaddP_str, lowerF_ap, selStr_ap, intF_ap, absF_ap, lenF_str, divmodF_ap, minF_ap, maxF_ap, chrF_ap, ordF_ap, slice_str, slice_bytes, part_int, part_none', idx_str, forM_ap, itM_ap, itV_str, itV_bytes, rangeIt_ap, List.getElem?_cons_zero, List.getElem?_cons_succ, List.set_cons_zero, List.set_cons_succ, List.length_cons, List.length_nil, Nat.zero_add, Nat.reduceAdd, List.cons_append, List.nil_append, h]
theorem x_levC {a b : List Nat} {s3 s4 : Option AV} (ha : a.length ≤ 30) (hb : b.length ≤ 30) (ha8 : ∀ x ∈ a, x < 128) (hb8 : ∀ x ∈ b, x < 128) :
    ∃ junk, P_levC σ.length (σ ++ [.ns 1 [some (.str a), some (.str b), some (ai mx), s3, s4, none, none, none, none, none, none, none, none, none]]) = some (.ret (ai (levC subN a b mx)), σ ++ junk) := by
  have hz : okSz a.length = true := okSz_of (by omega)
  have hz' : okSz b.length = true := okSz_of (by omega)
  have g1 : decide ((40 : Int) < (a.length : Int)) = false := decide_eq_false (by omega)
  have g2 : decide ((40 : Int) < (b.length : Int)) = false := decide_eq_false (by omega)
  unfold levC
  cases he : a.isEmpty || b.isEmpty with
  | true =>
    refine ⟨[.ns 1 [some (.str a), some (.str b), some (ai mx), s3, s4, none, none, none, none, none, none, none, none, none]], ?_⟩
    unfold P_levC
    have hab : (a.length : Int) + (b.length : Int) = ((a.length + b.length : Nat) : Int) := rfl
    rcases Bool.or_eq_true_iff.mp he with h | h
    · simp only [pure_ap, guard_ap, seqM_ap, nextM_ap, asgM_ap, asg2M_ap, augM_ap, retM_ap, exprM_ap, ifM_ap, iteM_ap, binM_ap, cmpM_ap, truM_ap, notM_ap, negM_ap, andM_ap, orM_ap, orVM_ap, idxM_ap, slcM_ap, callM_ap, consM_ap, methM_ap, listM_ap, tupM_ap, asgSubM_ap, asgTupM_ap, asgSwapM_ap, storesM_cons, storesM_nil, slot_at, put_at, tru_bool, tru_int, tru_none, tru_str, eqP_str, eqP_int, eqP_none, neP_str, neP_bytes, neP_int, ltP_int, leP_int, gtP_int, geP_int, addP_int, addP_str, addP_bytes, subP_int, iaddP_int, isubP_int, iaddP_str, lowerF_ap, selStr_ap, intF_ap, absF_ap, lenF_str, divmodF_ap, minF_ap, maxF_ap, chrF_ap, ordF_ap, slice_str, slice_bytes, part_int, part_none', idx_str, forM_ap, itM_ap, itV_str, itV_bytes, rangeIt_ap, List.getElem?_cons_zero, List.getElem?_cons_succ, List.set_cons_zero, List.set_cons_succ, List.length_cons, List.length_nil, Nat.zero_add, Nat.reduceAdd, List.cons_append, List.nil_append, hz, hz', h, Bool.not_true, Bool.not_false, hab, mul2', ai]
    · cases h2 : a.isEmpty <;> simp only [pure_ap, guard_ap, seqM_ap, nextM_ap, asgM_ap, asg2M_ap, augM_ap, retM_ap, exprM_ap, ifM_ap, iteM_ap, binM_ap, cmpM_ap, truM_ap, notM_ap, negM_ap, andM_ap, orM_ap, orVM_ap, idxM_ap, slcM_ap, callM_ap, consM_ap, methM_ap, listM_ap, tupM_ap, asgSubM_ap, asgTupM_ap, asgSwapM_ap, storesM_cons, storesM_nil, slot_at, put_at, tru_bool, tru_int, tru_none, tru_str, eqP_str, eqP_int, eqP_none, neP_str, neP_bytes, neP_int, ltP_int, leP_int, gtP_int, geP_int, addP_int, addP_str, addP_bytes, subP_int, iaddP_int, isubP_int, iaddP_str, lowerF_ap, selStr_ap, intF_ap, absF_ap, lenF_str, divmodF_ap, minF_ap, maxF_ap, chrF_ap, ordF_ap, slice_str, slice_bytes, part_int, part_none', idx_str, forM_ap, itM_ap, itV_str, itV_bytes, rangeIt_ap, List.getElem?_cons_zero, List.getElem?_cons_succ, List.set_cons_zero, List.set_cons_succ, List.length_cons, List.length_nil, Nat.zero_add, Nat.reduceAdd, List.cons_append, List.nil_append, hz, hz', h, h2, Bool.not_true, Bool.not_false, hab, mul2', ai]
  | false =>
    obtain ⟨e1, e2⟩ := Bool.or_eq_false_iff.mp he
    cases hs : Nat.blt b.length a.length with
    | true =>
      have hlt : b.length < a.length := Nat.blt_eq.mp hs
      obtain ⟨junk, e⟩ := x_levD (σ := σ) (mx := mx) (τ := [.tup [.str b, .str a]]) (s3 := s3) (s4 := s4) hb ha (by omega) hb8 ha8
      refine ⟨junk, ?_⟩
      rw [← e]
      unfold P_levC
      have ht := getTup_end (ρ := σ ++ [.ns 1 [some (.str a), some (.str b), some (ai mx), s3, s4, none, none, none, none, none, none, none, none, none]]) [.str b, .str a]
      simp only [List.append_assoc, List.cons_append, List.nil_append] at ht
      simp only [pure_ap, guard_ap, seqM_ap, nextM_ap, asgM_ap, asg2M_ap, augM_ap, retM_ap, exprM_ap, ifM_ap, iteM_ap, binM_ap, cmpM_ap, truM_ap, notM_ap, negM_ap, andM_ap, orM_ap, orVM_ap, idxM_ap, slcM_ap, callM_ap, consM_ap, methM_ap, listM_ap, tupM_ap, asgSubM_ap, asgTupM_ap, asgSwapM_ap, storesM_cons, storesM_nil, slot_at, put_at, tru_bool, tru_int, tru_none, tru_str, eqP_str, eqP_int, eqP_none, neP_str, neP_bytes, neP_int, ltP_int, leP_int, gtP_int, geP_int, addP_int, addP_str, addP_bytes, subP_int, iaddP_int, isubP_int, iaddP_str, lowerF_ap, selStr_ap, intF_ap, absF_ap, lenF_str, divmodF_ap, minF_ap, maxF_ap, chrF_ap, ordF_ap, slice_str, slice_bytes, part_int, part_none', idx_str, forM_ap, itM_ap, itV_str, itV_bytes, rangeIt_ap, List.getElem?_cons_zero, List.getElem?_cons_succ, List.set_cons_zero, List.set_cons_succ, List.length_cons, List.length_nil, Nat.zero_add, Nat.reduceAdd, List.cons_append, List.nil_append, hz, hz', e1, e2, Bool.not_true, Bool.not_false, g1, g2, dlt_nat, hs, show okSz 2 = true from rfl, List.append_assoc, ht, BEq.rfl, List.reverse_cons, List.reverse_nil]
    | false =>
      have hlt : a.length ≤ b.length := Nat.not_lt.mp fun q => by rw [Nat.blt_eq.mpr q] at hs; cases hs
      obtain ⟨junk, e⟩ := x_levD (σ := σ) (mx := mx) (τ := []) (s3 := s3) (s4 := s4) ha hb (by omega) ha8 hb8
      refine ⟨junk, ?_⟩
      rw [← e]
      unfold P_levC
      simp only [pure_ap, guard_ap, seqM_ap, nextM_ap, asgM_ap, asg2M_ap, augM_ap, retM_ap, exprM_ap, ifM_ap, iteM_ap, binM_ap, cmpM_ap, truM_ap, notM_ap, negM_ap, andM_ap, orM_ap, orVM_ap, idxM_ap, slcM_ap, callM_ap, consM_ap, methM_ap, listM_ap, tupM_ap, asgSubM_ap, asgTupM_ap, asgSwapM_ap, storesM_cons, storesM_nil, slot_at, put_at, tru_bool, tru_int, tru_none, tru_str, eqP_str, eqP_int, eqP_none, neP_str, neP_bytes, neP_int, ltP_int, leP_int, gtP_int, geP_int, addP_int, addP_str, addP_bytes, subP_int, iaddP_int, isubP_int, iaddP_str, lowerF_ap, selStr_ap, intF_ap, absF_ap, lenF_str, divmodF_ap, minF_ap, maxF_ap, chrF_ap, ordF_ap, slice_str, slice_bytes, part_int, part_none', idx_str, forM_ap, itM_ap, itV_str, itV_bytes, rangeIt_ap, List.getElem?_cons_zero, List.getElem?_cons_succ, List.set_cons_zero, List.set_cons_succ, List.length_cons, List.length_nil, Nat.zero_add, Nat.reduceAdd, List.cons_append, List.nil_append, hz, hz', e1, e2, Bool.not_true, Bool.not_false, g1, g2, dlt_nat, hs]
theorem strip_self : ∀ a : List Nat, stripG eqN a a = ([], [])
  | [] => rfl
  | x :: a => by
    unfold stripG
    show (match x == x with | true => _ | false => _) = _
    rw [beq_self_eq_true]; exact strip_self a
theorem strip_sub : ∀ a b : List Nat, (∃ p, a.drop p = (stripG eqN a b).1) ∧ (∃ p, b.drop p = (stripG eqN a b).2)
  | [], b => ⟨⟨0, rfl⟩, ⟨0, rfl⟩⟩
  | x :: a, [] => ⟨⟨0, rfl⟩, ⟨0, rfl⟩⟩
  | x :: a, y :: b => by
    obtain ⟨⟨p, hp⟩, ⟨q, hq⟩⟩ := strip_sub a b
    unfold stripG
    cases eqN x y with
    | true => exact ⟨⟨p + 1, hp⟩, ⟨q + 1, hq⟩⟩
    | false => exact ⟨⟨0, rfl⟩, ⟨0, rfl⟩⟩
theorem x_lev {a b : List Nat} (ha : a.length ≤ 30) (hb : b.length ≤ 30) (ha8 : ∀ x ∈ a, x < 128) (hb8 : ∀ x ∈ b, x < 128) :
    ∃ junk, P_lev σ.length (σ ++ [.ns 1 [some (.str a), some (.str b), some (ai mx), none, none, none, none, none, none, none, none, none, none, none]]) = some (.ret (ai (levA eqN subN a b mx)), σ ++ junk) := by
  have hz : okSz a.length = true := okSz_of (by omega)
  have hz' : okSz b.length = true := okSz_of (by omega)
  cases hab : a == b with
  | true =>
    have : a = b := eq_of_beq hab
    subst this
    refine ⟨[.ns 1 [some (.str a), some (.str a), some (ai mx), none, none, none, none, none, none, none, none, none, none, none]], ?_⟩
    have h0 : levA eqN subN a a mx = 0 := by unfold levA; rw [strip_self]; rfl
    rw [h0]
    unfold P_lev
    simp only [pure_ap, guard_ap, seqM_ap, nextM_ap, asgM_ap, asg2M_ap, augM_ap, retM_ap, exprM_ap, ifM_ap, iteM_ap, binM_ap, cmpM_ap, truM_ap, notM_ap, negM_ap, andM_ap, orM_ap, orVM_ap, idxM_ap, slcM_ap, callM_ap, consM_ap, methM_ap, listM_ap, tupM_ap, asgSubM_ap, asgTupM_ap, asgSwapM_ap, storesM_cons, storesM_nil, slot_at, put_at, tru_bool, tru_int, tru_none, tru_str, eqP_str, eqP_int, eqP_none, neP_str, neP_bytes, neP_int, ltP_int, leP_int, gtP_int, geP_int, addP_int, addP_str, addP_bytes, subP_int, iaddP_int, isubP_int, iaddP_str, lowerF_ap, selStr_ap, intF_ap, absF_ap, lenF_str, divmodF_ap, minF_ap, maxF_ap, chrF_ap, ordF_ap, slice_str, slice_bytes, part_int, part_none', idx_str, forM_ap, itM_ap, itV_str, itV_bytes, rangeIt_ap, List.getElem?_cons_zero, List.getElem?_cons_succ, List.set_cons_zero, List.set_cons_succ, List.length_cons, List.length_nil, Nat.zero_add, Nat.reduceAdd, List.cons_append, List.nil_append, hab, ai]; rfl
  | false =>
    obtain ⟨p, w, q1, q2⟩ := pre_loop (σ := σ) (c2 := some (ai mx)) (r := [none, none, none, none, none, none, none, none, none, none]) hz hz' a b 0 1000 rfl rfl (by omega)
    obtain ⟨⟨p1, hp1⟩, ⟨p2, hp2⟩⟩ := strip_sub a b
    have l1 : (stripG eqN a b).1.length ≤ 30 := by rw [← hp1, List.length_drop]; omega
    have l2 : (stripG eqN a b).2.length ≤ 30 := by rw [← hp2, List.length_drop]; omega
    have m1 : ∀ x ∈ (stripG eqN a b).1, x < 128 := fun x hx => ha8 x (List.mem_of_mem_drop (hp1 ▸ hx))
    have m2 : ∀ x ∈ (stripG eqN a b).2, x < 128 := fun x hx => hb8 x (List.mem_of_mem_drop (hp2 ▸ hx))
    unfold levA
    rcases hs : stripG eqN a b with ⟨a1, b1⟩
    rw [hs] at q1 q2 l1 l2 m1 m2
    simp only [] at q1 q2 l1 l2 m1 m2 ⊢
    have hz1 : okSz a1.length = true := okSz_of (by omega)
    have hz1' : okSz b1.length = true := okSz_of (by omega)
    obtain ⟨q, w2, t1, t2⟩ := post_loop (σ := σ) (c2 := some (ai mx)) (c3 := some (.int (p : Nat))) (r := [none, none, none, none, none, none, none, none, none]) hz1 hz1' a1.reverse b1.reverse 0 1000 (by simp) (by simp) (by simp; omega)
    obtain ⟨⟨p3, hp3⟩, ⟨p4, hp4⟩⟩ := strip_sub a1.reverse b1.reverse
    rcases hs2 : stripG eqN a1.reverse b1.reverse with ⟨a2, b2⟩
    rw [hs2] at t1 t2 hp3 hp4
    simp only [] at t1 t2 hp3 hp4 ⊢
    have la2 : a2.reverse.length ≤ 30 := by rw [← t1, List.length_take]; omega
    have lb2 : b2.reverse.length ≤ 30 := by rw [← t2, List.length_take]; omega
    obtain ⟨junk, e⟩ := x_levC (σ := σ) (mx := mx) (s3 := some (.int (p : Nat))) (s4 := some (.int (-(q : Int)))) la2 lb2 (fun x hx => m1 x (List.mem_of_mem_take (t1 ▸ hx))) (fun x hx => m2 x (List.mem_of_mem_take (t2 ▸ hx)))
    refine ⟨junk, ?_⟩
    rw [← e]
    unfold P_lev
    have h0 : ((0 : Nat) : Int) = 0 := rfl
    have h0' : -(0 : Int) = 0 := rfl
    simp only [h0, h0'] at w w2
    have o1 := orq_at (σ := σ) (c0 := some (.str a1)) (c1 := some (.str b1)) (c2 := some (ai mx)) (c3 := some (.int (p : Nat))) (r := [none, none, none, none, none, none, none, none, none]) q
    have o2 := orq_at (σ := σ) (c0 := some (.str a2.reverse)) (c1 := some (.str b1)) (c2 := some (ai mx)) (c3 := some (.int (p : Nat))) (r := [none, none, none, none, none, none, none, none, none]) q
    simp only [seqM_ap, ifM_ap, truM_ap, cmpM_ap, slot_at, List.getElem?_cons_zero, List.getElem?_cons_succ, eqP_str, hab, tru_bool, pure_ap, asgM_ap, nextM_ap, put_at, List.set_cons_zero, List.set_cons_succ, w, slcM_ap, slice_str, part_int, part_none', hz, hz', slice_from, q1, q2, w2, o1, o2, part_Q, slice_upto, t1, t2, hz1, hz1']
end
set_option tactic.hygienic true in
theorem m_lev : ∀ args σ v σ', levG args σ = some (v, σ') → ∃ v₁ σ₁, fnM ["a", "b", "max_cost"] ["a", "b", "max_cost", "pre", "post", "row", "result", "bindex", "bchar", "distance", "minimum", "index", "substitute", "insert_delete"] 1 [] P_lev args σ = some (v₁, σ₁) ∧ Cut σ σ₁ v₁ v σ' := by
  intro args σ v σ' h
  unfold levG at h
  split at h
  · rename_i a b m
    obtain ⟨hg, h⟩ := guardM_some h
    cases h
    simp only [Bool.and_eq_true, decide_eq_true_eq, List.all_eq_true, Nat.blt_eq] at hg
    obtain ⟨⟨⟨⟨h1, h2⟩, h3⟩, h4⟩, h5⟩ := hg
    obtain ⟨n, rfl⟩ := Int.eq_ofNat_of_zero_le h5
    obtain ⟨junk, e⟩ := x_lev (σ := σ) (mx := n) (Nat.le_of_ble_eq_true h1) (Nat.le_of_ble_eq_true h2) h3 h4
    exact ⟨_, _, fn_run (τ := [.ns 1 [some (.str a), some (.str b), some (ai n), none, none, none, none, none, none, none, none, none, none, none]]) (by kernel_rfl) rfl e, .pure trivial⟩
  · cases h
end Mine
end
section
namespace Mine
open PySem PySem.W
structure Gh where
  x : Nat
  d : Nat
  y : Nat
  d2 : Nat
  f : Nat
  code : Nat
  c : Nat
  L : Nat
  pb : Nat
noncomputable def wsL : List Nat := [10, 9, 13, 32]
noncomputable def atL (ln : Int) (g : Gh) : List (Str × AV) := [("lineno", .int ln), ("instream", .ref g.y), ("whitespace", .str wsL), ("pushback", .ref g.pb)]
structure LexInv (C : Addr) (sp : FnSpec) (g : Gh) (σ : List AO) (ln : Int) (signs : List Nat) (pbs : List (List Nat)) : Prop where
  x : σ[g.x]? = some (.inst C g.d)
  d : σ[g.d]? = some (.attrs (atL ln g))
  y : σ[g.y]? = some (.inst C g.d2)
  d2 : ∃ es, σ[g.d2]? = some (.attrs es) ∧ lookA "read" es = some (.ref g.f)
  f : σ[g.f]? = some (.fn sp g.code [("signs", g.c)])
  code : σ[g.code]? = some (.code sp.qual)
  c : σ[g.c]? = some (.cell (some (.ref g.L)))
  L : σ[g.L]? = some (.list (strItems signs))
  pb : σ[g.pb]? = some (.list (pbs.map .str))
  ne : g.L ≠ g.pb
  ne2 : g.d ≠ g.d2
  sz : signs.length ≤ 900
  sz2 : pbs.length ≤ 900
noncomputable def lexPut (g : Gh) (ln : Int) (signs : List Nat) (pbs : List (List Nat)) (σ : List AO) : List AO :=
  ((σ.set g.d (.attrs (atL ln g))).set g.L (.list (strItems signs))).set g.pb (.list (pbs.map .str))
theorem put_len {g : Gh} {ln : Int} {s : List Nat} {p : List (List Nat)} {σ : List AO} : (lexPut g ln s p σ).length = σ.length := by simp [lexPut]
theorem ne_of_get {σ : List AO} {i j : Nat} {a b : AO} (h1 : σ[i]? = some a) (h2 : σ[j]? = some b) (h : a ≠ b) : i ≠ j := fun e => h (by rw [e, h2] at h1; exact (Option.some.inj h1).symm)
section
variable {C : Addr} {sp : FnSpec} {g : Gh} {σ τ : List AO} {ln ln' : Int} {s s' : List Nat} {p p' : List (List Nat)}
theorem LexInv.app (h : LexInv C sp g σ ln s p) : LexInv C sp g (σ ++ τ) ln s p where
  x := get_old h.x
  d := get_old h.d
  y := get_old h.y
  d2 := let ⟨es, a, b⟩ := h.d2; ⟨es, get_old a, b⟩
  f := get_old h.f
  code := get_old h.code
  c := get_old h.c
  L := get_old h.L
  pb := get_old h.pb
  ne := h.ne
  ne2 := h.ne2
  sz := h.sz
  sz2 := h.sz2
theorem LexInv.apart (h : LexInv C sp g σ ln s p) : g.d ≠ g.L ∧ g.d ≠ g.pb ∧ g.L ≠ g.pb :=
  ⟨ne_of_get h.d h.L nofun, ne_of_get h.d h.pb nofun, h.ne⟩
theorem put_other {i : Nat} {o : AO} (h : LexInv C sp g σ ln s p) (hi : σ[i]? = some o) (h1 : i ≠ g.d) (h2 : i ≠ g.L) (h3 : i ≠ g.pb) : (lexPut g ln' s' p' σ)[i]? = some o := by
  unfold lexPut
  rw [List.getElem?_set_ne (Ne.symm h3), List.getElem?_set_ne (Ne.symm h2), List.getElem?_set_ne (Ne.symm h1)]; exact hi
theorem LexInv.put (h : LexInv C sp g σ ln s p) (hs : s'.length ≤ 900) (hp : p'.length ≤ 900) : LexInv C sp g (lexPut g ln' s' p' σ) ln' s' p' := by
  obtain ⟨a1, a2, a3⟩ := h.apart
  obtain ⟨es, e1, e2⟩ := h.d2
  refine ⟨put_other h h.x (ne_of_get h.x h.d nofun) (ne_of_get h.x h.L nofun) (ne_of_get h.x h.pb nofun), ?_, put_other h h.y (ne_of_get h.y h.d nofun) (ne_of_get h.y h.L nofun) (ne_of_get h.y h.pb nofun),
    ⟨es, put_other h e1 (Ne.symm h.ne2) (ne_of_get e1 h.L nofun) (ne_of_get e1 h.pb nofun), e2⟩, put_other h h.f (ne_of_get h.f h.d nofun) (ne_of_get h.f h.L nofun) (ne_of_get h.f h.pb nofun),
    put_other h h.code (ne_of_get h.code h.d nofun) (ne_of_get h.code h.L nofun) (ne_of_get h.code h.pb nofun), put_other h h.c (ne_of_get h.c h.d nofun) (ne_of_get h.c h.L nofun) (ne_of_get h.c h.pb nofun), ?_, ?_, h.ne, h.ne2, hs, hp⟩
  · unfold lexPut
    rw [List.getElem?_set_ne (Ne.symm a2), List.getElem?_set_ne (Ne.symm a1), List.getElem?_set_self (lt_of_get h.d)]
  · unfold lexPut
    rw [List.getElem?_set_ne (Ne.symm a3), List.getElem?_set_self (by simpa using lt_of_get h.L)]
  · unfold lexPut
    rw [List.getElem?_set_self (by simpa using lt_of_get h.pb)]
theorem set_get {i : Nat} {o : AO} (h : σ[i]? = some o) : σ.set i o = σ := by
  apply List.ext_getElem?
  intro j
  by_cases e : i = j
  · subst e; rw [List.getElem?_set_self (lt_of_get h), h]
  · rw [List.getElem?_set_ne e]
theorem LexInv.self (h : LexInv C sp g σ ln s p) : lexPut g ln s p σ = σ := by
  unfold lexPut; rw [set_get h.d, set_get h.L, set_get h.pb]
theorem put_put (h : LexInv C sp g σ ln s p) {ln1 ln2 : Int} {s1 s2 : List Nat} {p1 p2 : List (List Nat)} : lexPut g ln2 s2 p2 (lexPut g ln1 s1 p1 σ) = lexPut g ln2 s2 p2 σ := by
  obtain ⟨a1, a2, a3⟩ := h.apart
  apply List.ext_getElem?
  intro j
  unfold lexPut
  by_cases e3 : g.pb = j
  · subst e3
    rw [List.getElem?_set_self (by simpa using lt_of_get h.pb), List.getElem?_set_self (by simpa using lt_of_get h.pb)]
  · rw [List.getElem?_set_ne e3, List.getElem?_set_ne e3]
    by_cases e2 : g.L = j
    · subst e2
      rw [List.getElem?_set_self (by simpa using lt_of_get h.L), List.getElem?_set_self (by simpa using lt_of_get h.L)]
    · rw [List.getElem?_set_ne e2, List.getElem?_set_ne e2]
      by_cases e1 : g.d = j
      · subst e1
        rw [List.getElem?_set_self (by simpa using lt_of_get h.d), List.getElem?_set_self (by simpa using lt_of_get h.d)]
      · rw [List.getElem?_set_ne e1, List.getElem?_set_ne e1, List.getElem?_set_ne e3, List.getElem?_set_ne e2, List.getElem?_set_ne e1]
theorem put_app (h : LexInv C sp g σ ln s p) : lexPut g ln' s' p' (σ ++ τ) = lexPut g ln' s' p' σ ++ τ := by
  unfold lexPut
  rw [set_old (lt_of_get h.d), set_old (by simpa using lt_of_get h.L), set_old (by simpa using lt_of_get h.pb)]
theorem put_kept (h : LexInv C sp g σ ln s p) : ∀ (i : Nat) (o : AO), (lexPut g ln' s' p' σ)[i]? = some o → σ[i]? = some o ∨ o.below σ.length := by
  intro i o e
  unfold lexPut at e
  by_cases e3 : g.pb = i
  · subst e3
    rw [List.getElem?_set_self (by simpa using lt_of_get h.pb)] at e
    cases e
    right; intro v hv; obtain ⟨w, _, rfl⟩ := List.mem_map.mp hv; trivial
  · rw [List.getElem?_set_ne e3] at e
    by_cases e2 : g.L = i
    · subst e2
      rw [List.getElem?_set_self (by simpa using lt_of_get h.L)] at e
      cases e
      right; intro v hv; obtain ⟨w, _, rfl⟩ := List.mem_map.mp hv; trivial
    · rw [List.getElem?_set_ne e2] at e
      by_cases e1 : g.d = i
      · subst e1
        rw [List.getElem?_set_self (by simpa using lt_of_get h.d)] at e
        cases e
        right; intro v hv
        simp only [atL, List.mem_cons, List.not_mem_nil, or_false] at hv
        rcases hv with rfl | rfl | rfl | rfl
        · trivial
        · exact lt_of_get h.y
        · trivial
        · exact lt_of_get h.pb
      · rw [List.getElem?_set_ne e1] at e; exact .inl e
theorem put_cut (h : LexInv C sp g σ ln s p) {v : AV} (hv : v.below σ.length) : Cut σ (lexPut g ln' s' p' σ ++ τ) v v (lexPut g ln' s' p' σ) := by
  refine ⟨σ.length, Nat.le_refl _, by simp [put_len], fun i o hi e => ?_, .inl ⟨rfl, hv, ?_⟩⟩
  · rw [List.getElem?_append_left (by rw [put_len]; exact hi)] at e
    exact put_kept h i o e
  · rw [← put_len (g := g) (ln := ln') (s := s') (p := p') (σ := σ), List.take_left]
end
noncomputable def charOf : AV → Nat
  | .str [c] => c
  | _ => 0
noncomputable def wordOf : AV → List Nat
  | .str c => c
  | _ => []
noncomputable def lnOf (g : Gh) (σ : List AO) : Int := match σ[g.d]? with
  | some (.attrs ((_, .int ln) :: _)) => ln
  | _ => 0
noncomputable def sgOf (g : Gh) (σ : List AO) : List Nat := match σ[g.L]? with
  | some (.list xs) => xs.map charOf
  | _ => []
noncomputable def pbOf (g : Gh) (σ : List AO) : List (List Nat) := match σ[g.pb]? with
  | some (.list xs) => xs.map wordOf
  | _ => []
section
variable {C : Addr} {sp : FnSpec} {g : Gh} {σ τ : List AO} {ln ln' : Int} {s s' : List Nat} {p p' : List (List Nat)}
theorem LexInv.of (h : LexInv C sp g σ ln s p) : lnOf g σ = ln ∧ sgOf g σ = s ∧ pbOf g σ = p := by
  refine ⟨?_, ?_, ?_⟩
  · unfold lnOf; rw [h.d]; rfl
  · unfold sgOf; rw [h.L]; simp [strItems, charOf, Function.comp_def]
  · unfold pbOf; rw [h.pb]; simp [wordOf, Function.comp_def]
noncomputable def nl (c : Nat) : Int := match c == 10 with
  | true => 1
  | false => 0
noncomputable def lexF (C : Addr) (sp : FnSpec) (g : Gh) (first : AV) (F : List AV → Int → List Nat → List (List Nat) → Option (AV × Int × List Nat × List (List Nat))) (args : List AV) : St AV := fun σ => match args with
  | a :: rest => onlyIf (a = first ∧ LexInv C sp g σ (lnOf g σ) (sgOf g σ) (pbOf g σ)) (fun σ => match F rest (lnOf g σ) (sgOf g σ) (pbOf g σ) with
    | some (v, ln, s, p) => some (v, lexPut g ln s p σ)
    | none => none) σ
  | [] => none
theorem lexF_ap {first : AV} {F : List AV → Int → List Nat → List (List Nat) → Option (AV × Int × List Nat × List (List Nat))} {rest : List AV} {v : AV} (h : LexInv C sp g σ ln s p) (e : F rest ln s p = some (v, ln', s', p')) :
    lexF C sp g first F (first :: rest) σ = some (v, lexPut g ln' s' p' σ) := by
  unfold lexF
  simp only [h.of.1, h.of.2.1, h.of.2.2]
  rw [onlyIf_pos (by exact ⟨by first | rfl | trivial, h⟩)]
  simp only [e, h.of.1, h.of.2.1, h.of.2.2]
set_option tactic.hygienic true in
theorem lexF_some {first : AV} {F : List AV → Int → List Nat → List (List Nat) → Option (AV × Int × List Nat × List (List Nat))} {args : List AV} {v : AV} {σ' : List AO} (h : lexF C sp g first F args σ = some (v, σ')) :
    ∃ rest ln s p ln' s' p', args = first :: rest ∧ LexInv C sp g σ ln s p ∧ F rest ln s p = some (v, ln', s', p') ∧ σ' = lexPut g ln' s' p' σ := by
  unfold lexF at h
  split at h
  · rename_i a rest
    obtain ⟨⟨rfl, h1⟩, h2⟩ := onlyIf_some h
    split at h2
    · rename_i e
      cases h2
      exact ⟨_, _, _, _, _, _, _, rfl, h1, e, rfl⟩
    · cases h2
  · cases h
noncomputable def readP : List AV → Int → List Nat → List (List Nat) → Option (AV × Int × List Nat × List (List Nat))
  | [], ln, [], p => some (.str [], ln, [], p)
  | [], ln, c :: r, p => some (.str [c], ln + nl c, r, p)
  | _, _, _, _ => none
noncomputable def readG (C : Addr) (sp : FnSpec) (g : Gh) : List AV → St AV := lexF C sp g (.ref g.x) readP
noncomputable def pushP : List AV → Int → List Nat → List (List Nat) → Option (AV × Int × List Nat × List (List Nat))
  | [.str w], ln, s, p => match Nat.blt p.length 900 with
    | true => some (.none, ln, s, p ++ [w])
    | false => none
  | _, _, _, _ => none
noncomputable def pushG (C : Addr) (sp : FnSpec) (g : Gh) : List AV → St AV := lexF C sp g (.ref g.x) pushP
noncomputable def lamP : List AV → Int → List Nat → List (List Nat) → Option (AV × Int × List Nat × List (List Nat))
  | [_], ln, [], p => some (.str [], ln, [], p)
  | [_], ln, c :: r, p => some (.str [c], ln, r, p)
  | _, _, _, _ => none
noncomputable def lamG (C : Addr) (sp : FnSpec) (g : Gh) (lf : Nat) (args : List AV) : St AV := lexF C sp g (.ref g.f) lamP (.ref lf :: args)
noncomputable def isWs (c : Nat) : Bool := wsL.contains c
noncomputable def quo : List Nat → List Nat → Int → Option (List Nat × Int × List Nat)
  | [], _, _ => none
  | c :: r, t, ln => match c == 34 with
    | true => some (t, ln + nl c, r)
    | false => match c == 92 with
      | true => match r with
        | [] => none
        | e :: r' => quo r' (t ++ [e]) (ln + nl c + nl e)
      | false => quo r (t ++ [c]) (ln + nl c)
noncomputable def unq : List Nat → List Nat → Int → Option (List Nat × Int × List Nat)
  | [], _, _ => none
  | c :: r, t, ln => match isWs c with
    | true => some (t, ln + nl c, r)
    | false => match c == 92 with
      | true => match r with
        | [] => none
        | e :: r' => unq r' (t ++ [e]) (ln + nl c + nl e)
      | false => unq r (t ++ [c]) (ln + nl c)
noncomputable def lexW : List Nat → Int → Option (List Nat × Int × List Nat)
  | [], ln => some ([], ln, [])
  | c :: r, ln => match isWs c with
    | true => lexW r (ln + nl c)
    | false => match c == 34 with
      | true => quo r [] (ln + nl c)
      | false => match c == 92 with
        | true => match r with
          | [] => none
          | e :: r' => unq r' [e] (ln + nl c + nl e)
        | false => unq r [c] (ln + nl c)
noncomputable def tokP : List AV → Int → List Nat → List (List Nat) → Option (AV × Int × List Nat × List (List Nat))
  | [], ln, s, w :: p => some (.str w, ln, s, p)
  | [], ln, s, [] => match lexW s ln with
    | some (w, ln', s') => some (.str w, ln', s', [])
    | none => none
  | _, _, _, _ => none
noncomputable def tokG (C : Addr) (sp : FnSpec) (g : Gh) : List AV → St AV := lexF C sp g (.ref g.x) tokP
theorem attr_at {name : Str} {v : AV} (h : LexInv C sp g σ ln s p) (hn : lookA name (atL ln g) = some v) (hv : plainV v = true) : attrV C name (.ref g.x) σ = some (v, σ) := by
  unfold attrV instOf
  simp only [h.x, beq_self_eq_true, h.d, hn]
  rw [guard_ap, hv]; rfl
theorem attr_read (h : LexInv C sp g σ ln s p) : attrV C "read" (.ref g.y) σ = some (.ref g.f, σ) := by
  obtain ⟨es, e1, e2⟩ := h.d2
  unfold attrV instOf
  simp only [h.y, beq_self_eq_true, e1, e2]
  rw [guard_ap]; rfl
theorem look_stream : lookA "instream" (atL ln g) = some (.ref g.y) := by kernel_rfl
theorem look_line : lookA "lineno" (atL ln g) = some (.int ln) := by kernel_rfl
theorem look_white : lookA "whitespace" (atL ln g) = some (.str wsL) := by kernel_rfl
theorem look_back : lookA "pushback" (atL ln g) = some (.ref g.pb) := by kernel_rfl
theorem look_rc : lookA "_read_char" (atL ln g) = none := by kernel_rfl
theorem look_gt : lookA "get_token" (atL ln g) = none := by kernel_rfl
theorem look_pt : lookA "push_token" (atL ln g) = none := by kernel_rfl
theorem store_line (i : Int) : storeA "lineno" (.int i) (atL ln g) = atL i g := by kernel_rfl
theorem sel_at {name : Str} (h : LexInv C sp g σ ln s p) (hn : lookA name (atL ln g) = none) : selInst C name (.ref g.x) σ = some [.ref g.x] := by
  unfold selInst instOf
  simp only [h.x, beq_self_eq_true, h.d, hn]
end
end Mine
end
section
namespace Mine
open PySem PySem.W
section
variable {σ τ : List AO}
theorem attrM_ap (C : Addr) (name : Str) (P : St AV) : attrM C name P σ = (match P σ with | some (a, ρ) => attrV C name a ρ | none => none) := by
  unfold attrM; rw [bind_ap]; rcases P σ with _ | ⟨a, ρ⟩ <;> rfl
theorem methFM_ap (C : Addr) (name : Str) (P : St AV) (As : St (List AV)) (G : Nat → List AV → St AV) : methFM C name P As G σ = (match P σ with | some (a, ρ) => (match attrV C name a ρ with | some (.ref lf, ρ') => (match As ρ' with | some (args, ρ'') => G lf args ρ'' | none => none) | _ => none) | none => none) := by
  unfold methFM; rw [bind_ap]; rcases P σ with _ | ⟨a, ρ⟩
  · rfl
  · simp only [bind_ap]; rcases attrV C name a ρ with _ | ⟨f, ρ'⟩
    · rfl
    · cases f <;> try rfl
      simp only [bind_ap]
      rcases As ρ' with _ | ⟨b, ρ''⟩ <;> rfl
theorem augAttrM_ap (C : Addr) (name : Str) (P V : St AV) (F : AV → AV → St AV) : augAttrM C name P V F σ = (match P σ with | some (a, ρ) => (match attrV C name a ρ with | some (old, ρ') => (match V ρ' with | some (v, ρ'') => (match F old v ρ'' with | some (r, ρ3) => nextM (setA C name r a) ρ3 | none => none) | none => none) | none => none) | none => none) := by
  unfold augAttrM; rw [bind_ap]; rcases P σ with _ | ⟨a, ρ⟩
  · rfl
  · simp only [bind_ap]; rcases attrV C name a ρ with _ | ⟨f, ρ'⟩
    · rfl
    · simp only []; rcases V ρ' with _ | ⟨v, ρ''⟩
      · rfl
      · simp only []; rcases F f v ρ'' with _ | ⟨r, ρ3⟩ <;> rfl
theorem asgAttrM_ap (C : Addr) (name : Str) (V P : St AV) : asgAttrM C name V P σ = (match V σ with | some (v, ρ) => (match P ρ with | some (a, ρ') => nextM (setA C name v a) ρ' | none => none) | none => none) := by
  unfold asgAttrM; rw [bind_ap]; rcases V σ with _ | ⟨v, ρ⟩
  · rfl
  · simp only [bind_ap]; rcases P ρ with _ | ⟨a, ρ'⟩ <;> rfl
theorem forC_ap (f : Addr) (F : List AV → St AV) (l : Nat) (W : AV → St Unit) (B : St AF) (n : Nat) : forC f F l W B (n + 1) σ = (match citNext f F l σ with
    | some (none, ρ) => some (.next, ρ)
    | some (some v, ρ) => (match W v ρ with
      | some (_, ρ') => (match B ρ' with | some (.next, ρ'') => forC f F l W B n ρ'' | some (.cont, ρ'') => forC f F l W B n ρ'' | some (.brk, ρ'') => some (.next, ρ'') | some (.ret u, ρ'') => some (.ret u, ρ'') | none => none)
      | none => none)
    | none => none) := by
  show St.bind _ _ _ = _
  rw [bind_ap]; rcases citNext f F l σ with _ | ⟨x, ρ⟩
  · rfl
  · cases x with
    | none => rfl
    | some v =>
      simp only [bind_ap]; rcases W v ρ with _ | ⟨u, ρ'⟩
      · rfl
      · simp only []; rcases B ρ' with _ | ⟨g, ρ''⟩
        · rfl
        · cases g <;> rfl
theorem forCM_ap (f : Addr) (F : List AV → St AV) (P : St AV) (W : AV → St Unit) (B : St AF) (n : Nat) : forCM f F P W B n σ = (match P σ with | some (.ref l, ρ) => (match citAt f l ρ with | some _ => forC f F l W B n ρ | none => none) | _ => none) := by
  unfold forCM; rw [bind_ap]; rcases P σ with _ | ⟨a, ρ⟩
  · rfl
  · cases a <;> rfl
theorem tru_list {l : Nat} {xs : List AV} (h : σ[l]? = some (.list xs)) (hz : okSz xs.length = true) : truthP (.ref l) σ = some (!xs.isEmpty, σ) := by
  have hg : getList l σ = some xs := by unfold getList; rw [h]
  unfold truthP
  have h1 : truthP.okLen σ (.ref l) = true := by unfold truthP.okLen; simp only [hg, hz]
  have h2 : truthV σ (.ref l) = some (!xs.isEmpty) := by unfold truthV; simp only [hg]
  rw [h1, h2]
theorem selList_at {l : Nat} {xs : List AV} (h : σ[l]? = some (.list xs)) : selList (.ref l) σ = some [.ref l] := by
  have hg : getList l σ = some xs := by unfold getList; rw [h]
  unfold selList; simp only [hg]
theorem popF_at {l : Nat} {x : AV} {xs : List AV} (h : σ[l]? = some (.list (x :: xs))) (hz : okSz (xs.length + 1) = true) : popF [.ref l, .int 0] σ = some (x, σ.set l (.list xs)) := by
  have hg : getList l σ = some (x :: xs) := by unfold getList; rw [h]
  unfold popF
  simp only [hg]
  show guardM (okSz (xs.length + 1)) (fun σ => some (x, σ.set l (.list xs))) σ = _
  rw [guard_ap, hz]
theorem appendF_at {l : Nat} {y : AV} {xs : List AV} (h : σ[l]? = some (.list xs)) (hz : okSz xs.length = true) : appendF [.ref l, y] σ = some (.none, σ.set l (.list (xs ++ [y]))) := by
  have hg : getList l σ = some xs := by unfold getList; rw [h]
  show St.bind (pushL l y) _ σ = _
  rw [bind_ap]
  have : pushL l y σ = some ((), σ.set l (.list (xs ++ [y]))) := by
    unfold pushL; simp only [hg]; rw [guard_ap, hz]
  rw [this]; rfl
theorem slot_atE {fr : Nat} (h : σ.length = fr) (k i : Nat) (vs : List (Option AV)) : slotM fr k i (σ ++ .ns k vs :: τ) = (match vs[i]? with | some (some v) => some (v, σ ++ .ns k vs :: τ) | _ => none) := by
  subst h; exact slot_at ..
theorem put_atE {fr : Nat} (h : σ.length = fr) (k i : Nat) (v : AV) (vs : List (Option AV)) : putM fr k i v (σ ++ .ns k vs :: τ) = (match vs[i]? with | some _ => some ((), σ ++ .ns k (vs.set i (some v)) :: τ) | none => none) := by
  subst h; exact put_at ..
end
section
variable {C : Addr} {sp : FnSpec} {g : Gh} {σ τ : List AO} {ln ln' : Int} {s s' : List Nat} {p p' : List (List Nat)}
theorem setA_line (h : LexInv C sp g σ ln s p) (i : Int) : setA C "lineno" (.int i) (.ref g.x) σ = some ((), lexPut g i s p σ) := by
  have hi : instOf C (.ref g.x) σ = some (g.d, atL ln g) := by unfold instOf; simp only [h.x, beq_self_eq_true, h.d]
  obtain ⟨a1, a2, a3⟩ := h.apart
  unfold setA
  simp only [hi]
  rw [guard_ap, show Nat.ble (atL ln g).length 100 = true from rfl, store_line]
  unfold lexPut
  rw [set_get (σ := σ.set g.d (.attrs (atL i g))) (i := g.L), set_get (σ := σ.set g.d (.attrs (atL i g))) (i := g.pb)]
  · rw [List.getElem?_set_ne a2]; exact h.pb
  · rw [List.getElem?_set_ne a1]; exact h.L
theorem put_L (h : LexInv C sp g σ ln s p) (s' : List Nat) : σ.set g.L (.list (strItems s')) = lexPut g ln s' p σ := by
  obtain ⟨a1, a2, a3⟩ := h.apart
  unfold lexPut
  rw [set_get h.d, set_get (i := g.pb)]
  rw [List.getElem?_set_ne a3]; exact h.pb
theorem put_P (h : LexInv C sp g σ ln s p) (p' : List (List Nat)) : σ.set g.pb (.list (p'.map .str)) = lexPut g ln s p' σ := by
  unfold lexPut
  rw [set_get h.d, set_get h.L]
noncomputable def E_lam (fr l : Nat) : St AV := iteM (truM (cellM l)) (methM (cellM l) selList popF (consM (St.pure (.int 0)) (St.pure []))) (St.pure (.str []))
theorem x_lam (h : LexInv C sp g σ ln s p) {o : AO} : E_lam σ.length g.c (σ ++ [o]) = (match s with
    | [] => some (.str [], σ ++ [o])
    | c :: r => some (.str [c], lexPut g ln r p σ ++ [o])) := by
  have ha := h.app (τ := [o])
  have hc : cellM g.c (σ ++ [o]) = some (.ref g.L, σ ++ [o]) := by unfold cellM; rw [ha.c]
  have hz : okSz (strItems s).length = true := okSz_of (by have := h.sz; simp [strItems]; omega)
  have ht := tru_list ha.L hz
  unfold E_lam
  rcases s with _ | ⟨c, r⟩
  · simp only [iteM_ap, truM_ap, hc, ht]; rfl
  · have hp := popF_at (x := .str [c]) (xs := strItems r) ha.L (by simpa [strItems] using hz)
    simp only [iteM_ap, truM_ap, hc, ht, methM_ap, selList_at ha.L, consM_ap, pure_ap, show (!(strItems (c :: r)).isEmpty) = true from rfl, List.cons_append, List.nil_append, hp]
    rw [put_L ha, put_app h]
theorem m_lam : ∀ lf args σ v σ', lamG C sp g lf args σ = some (v, σ') → ∃ v₁ σ₁, lamF sp "signs" ["size"] ["size"] 8 E_lam lf args σ = some (v₁, σ₁) ∧ Cut σ σ₁ v₁ v σ' := by
  intro lf args σ v σ' h
  obtain ⟨rest, ln, s, p, ln', s', p', e1, hi, e2, rfl⟩ := lexF_some h
  injection e1 with e1 e3
  injection e1 with e1
  subst e1; subst e3
  have hl : args.length = 1 := by
    rcases args with _ | ⟨a, _ | ⟨b, r⟩⟩
    · simp [lamP] at e2
    · rfl
    · simp [lamP] at e2
  obtain ⟨a, rfl⟩ : ∃ a, args = [a] := by
    rcases args with _ | ⟨a, _ | ⟨b, r⟩⟩
    · simp at hl
    · exact ⟨a, rfl⟩
    · simp at hl
  have hf : ∀ w ρ, E_lam σ.length g.c (σ ++ [.ns 8 [some a]]) = some (w, ρ) → lamF sp "signs" ["size"] ["size"] 8 E_lam g.f [a] σ = some (w, ρ) := fun w ρ e => by
    unfold lamF
    simp only [hi.f]
    rw [onlyIf_pos ⟨by first | rfl | trivial, by first | rfl | trivial, by first | rfl | trivial, hi.code⟩]
    have : (["size"] : List Str).map (fun z => ((["size"] : List Str).zip [a]).lookup z) = [some a] := by kernel_rfl
    rw [this]; exact e
  have hx := x_lam hi (o := .ns 8 [some a])
  rcases s with _ | ⟨c, r⟩
  · simp only [lamP, Option.some.injEq, Prod.mk.injEq] at e2
    obtain ⟨rfl, rfl, rfl, rfl⟩ := e2
    refine ⟨_, _, hf _ _ hx, ?_⟩
    have := put_cut (τ := [AO.ns 8 [some a]]) hi (ln' := ln) (s' := []) (p' := p) (v := .str []) trivial
    rw [hi.self] at this ⊢; exact this
  · simp only [lamP, Option.some.injEq, Prod.mk.injEq] at e2
    obtain ⟨rfl, rfl, rfl, rfl⟩ := e2
    exact ⟨_, _, hf _ _ hx, put_cut hi trivial⟩
noncomputable def P_read (C : Addr) (sp : FnSpec) (g : Gh) (fr : Nat) : St AF :=
  (seqM
  (asgM (methFM C "read" (attrM C "instream" (slotM fr 4 0)) (consM (St.pure (.int 1)) (St.pure [])) (lamG C sp g)) (putM fr 4 1))
  (seqM
  (ifM (truM (cmpM eqP (slotM fr 4 1) (St.pure (.str [10])))) (augAttrM C "lineno" (slotM fr 4 0) (St.pure (.int 1)) iaddP) (St.pure .next))
  (retM (slotM fr 4 1))))
theorem x_read {v : AV} (h : LexInv C sp g σ ln s p) (e : readP [] ln s p = some (v, ln', s', p')) : ∃ junk, P_read C sp g σ.length (σ ++ [.ns 4 [some (.ref g.x), none]]) = some (.ret v, lexPut g ln' s' p' σ ++ junk) := by
  have ha := h.app (τ := [.ns 4 [some (.ref g.x), none]])
  have h1 := attr_at ha look_stream rfl
  have h2 := attr_read ha
  have hlen : ∀ {l t q}, (lexPut g l t q σ).length = σ.length := put_len
  unfold P_read
  rcases s with _ | ⟨c, r⟩
  · simp only [readP, Option.some.injEq, Prod.mk.injEq] at e
    obtain ⟨rfl, rfl, rfl, rfl⟩ := e
    have h3 : lamG C sp g g.f [.int 1] (σ ++ [.ns 4 [some (.ref g.x), none]]) = some (.str [], lexPut g ln [] p (σ ++ [.ns 4 [some (.ref g.x), none]])) := lexF_ap ha rfl
    rw [put_app h, h.self] at h3
    refine ⟨[.ns 4 [some (.ref g.x), some (.str [])]], ?_⟩
    rw [h.self]
    simp only [pure_ap, guard_ap, seqM_ap, nextM_ap, asgM_ap, asg2M_ap, augM_ap, retM_ap, exprM_ap, ifM_ap, iteM_ap, binM_ap, cmpM_ap, truM_ap, notM_ap, negM_ap, andM_ap, orM_ap, orVM_ap, idxM_ap, slcM_ap, callM_ap, consM_ap, methM_ap, listM_ap, tupM_ap, asgSubM_ap, asgTupM_ap, asgSwapM_ap, storesM_cons, storesM_nil, slot_at, put_at, tru_bool, tru_int, tru_none, tru_str, eqP_str, eqP_int, eqP_none, neP_str, neP_bytes, neP_int, ltP_int, leP_int, gtP_int, geP_int, addP_int, addP_str, addP_bytes, subP_int, iaddP_int, isubP_int, iaddP_str, lowerF_ap, selStr_ap, intF_ap, absF_ap, lenF_str, divmodF_ap, minF_ap, maxF_ap, chrF_ap, ordF_ap, slice_str, slice_bytes, part_int, part_none', idx_str, forM_ap, itM_ap, itV_str, itV_bytes, rangeIt_ap, List.getElem?_cons_zero, List.getElem?_cons_succ, List.set_cons_zero, List.set_cons_succ, List.length_cons, List.length_nil, Nat.zero_add, Nat.reduceAdd, List.cons_append, List.nil_append, methFM_ap, attrM_ap, h1, h2, h3, show (([] : List Nat) == [10]) = false from rfl]
  · simp only [readP, Option.some.injEq, Prod.mk.injEq] at e
    obtain ⟨rfl, rfl, rfl, rfl⟩ := e
    have hr : r.length ≤ 900 := by have := h.sz; simp at this; omega
    have h3 : lamG C sp g g.f [.int 1] (σ ++ [.ns 4 [some (.ref g.x), none]]) = some (.str [c], lexPut g ln r p (σ ++ [.ns 4 [some (.ref g.x), none]])) := lexF_ap ha rfl
    rw [put_app h] at h3
    refine ⟨[.ns 4 [some (.ref g.x), some (.str [c])]], ?_⟩
    have S := fun τ => slot_atE (σ := lexPut g ln r p σ) (τ := τ) hlen
    have S' := fun τ => slot_atE (σ := lexPut g (ln + 1) r p σ) (τ := τ) hlen
    have W := fun τ => put_atE (σ := lexPut g ln r p σ) (τ := τ) hlen
    have hp := h.put (ln' := ln) hr h.sz2
    have hb := hp.app (τ := [.ns 4 [some (.ref g.x), some (.str [c])]])
    have h4 := attr_at hb look_line rfl
    have h5 := setA_line hb (ln + 1)
    rw [put_app hp, put_put h] at h5
    cases hc : c == 10 with
    | true =>
      simp only [pure_ap, guard_ap, seqM_ap, nextM_ap, asgM_ap, asg2M_ap, augM_ap, retM_ap, exprM_ap, ifM_ap, iteM_ap, binM_ap, cmpM_ap, truM_ap, notM_ap, negM_ap, andM_ap, orM_ap, orVM_ap, idxM_ap, slcM_ap, callM_ap, consM_ap, methM_ap, listM_ap, tupM_ap, asgSubM_ap, asgTupM_ap, asgSwapM_ap, storesM_cons, storesM_nil, slot_at, put_at, tru_bool, tru_int, tru_none, tru_str, eqP_str, eqP_int, eqP_none, neP_str, neP_bytes, neP_int, ltP_int, leP_int, gtP_int, geP_int, addP_int, addP_str, addP_bytes, subP_int, iaddP_int, isubP_int, iaddP_str, lowerF_ap, selStr_ap, intF_ap, absF_ap, lenF_str, divmodF_ap, minF_ap, maxF_ap, chrF_ap, ordF_ap, slice_str, slice_bytes, part_int, part_none', idx_str, forM_ap, itM_ap, itV_str, itV_bytes, rangeIt_ap, List.getElem?_cons_zero, List.getElem?_cons_succ, List.set_cons_zero, List.set_cons_succ, List.length_cons, List.length_nil, Nat.zero_add, Nat.reduceAdd, List.cons_append, List.nil_append, methFM_ap, attrM_ap, h1, h2, h3, S, S', W, single_beq, hc, augAttrM_ap, h4, h5, nl]
    | false =>
      simp only [pure_ap, guard_ap, seqM_ap, nextM_ap, asgM_ap, asg2M_ap, augM_ap, retM_ap, exprM_ap, ifM_ap, iteM_ap, binM_ap, cmpM_ap, truM_ap, notM_ap, negM_ap, andM_ap, orM_ap, orVM_ap, idxM_ap, slcM_ap, callM_ap, consM_ap, methM_ap, listM_ap, tupM_ap, asgSubM_ap, asgTupM_ap, asgSwapM_ap, storesM_cons, storesM_nil, slot_at, put_at, tru_bool, tru_int, tru_none, tru_str, eqP_str, eqP_int, eqP_none, neP_str, neP_bytes, neP_int, ltP_int, leP_int, gtP_int, geP_int, addP_int, addP_str, addP_bytes, subP_int, iaddP_int, isubP_int, iaddP_str, lowerF_ap, selStr_ap, intF_ap, absF_ap, lenF_str, divmodF_ap, minF_ap, maxF_ap, chrF_ap, ordF_ap, slice_str, slice_bytes, part_int, part_none', idx_str, forM_ap, itM_ap, itV_str, itV_bytes, rangeIt_ap, List.getElem?_cons_zero, List.getElem?_cons_succ, List.set_cons_zero, List.set_cons_succ, List.length_cons, List.length_nil, Nat.zero_add, Nat.reduceAdd, List.cons_append, List.nil_append, methFM_ap, attrM_ap, h1, h2, h3, S, S', W, single_beq, hc, augAttrM_ap, h4, h5, nl, Int.add_zero]
theorem m_read : ∀ args σ v σ', readG C sp g args σ = some (v, σ') → ∃ v₁ σ₁, fnM ["self"] ["self", "ch"] 4 [] (P_read C sp g) args σ = some (v₁, σ₁) ∧ Cut σ σ₁ v₁ v σ' := by
  intro args σ v σ' h
  obtain ⟨rest, ln, s, p, ln', s', p', rfl, hi, e2, rfl⟩ := lexF_some h
  have hr : rest = [] ∧ AV.below σ.length v := by
    rcases rest with _ | ⟨a, r⟩
    · rcases s with _ | ⟨c, s⟩ <;> · simp only [readP, Option.some.injEq, Prod.mk.injEq] at e2; obtain ⟨rfl, _⟩ := e2; exact ⟨rfl, trivial⟩
    · simp [readP] at e2
  obtain ⟨rfl, hv⟩ := hr
  obtain ⟨junk, e⟩ := x_read hi e2
  exact ⟨_, _, fn_run (τ := [.ns 4 [some (.ref g.x), none]]) (by kernel_rfl) rfl e, put_cut hi hv⟩
noncomputable def P_push (C : Addr) (fr : Nat) : St AF :=
  (exprM (methM (attrM C "pushback" (slotM fr 6 0)) selList appendF (consM (slotM fr 6 1) (St.pure []))))
theorem x_push {w : List Nat} (h : LexInv C sp g σ ln s p) : P_push C σ.length (σ ++ [.ns 6 [some (.ref g.x), some (.str w)]]) = some (.next, lexPut g ln s (p ++ [w]) σ ++ [.ns 6 [some (.ref g.x), some (.str w)]]) := by
  have ha := h.app (τ := [.ns 6 [some (.ref g.x), some (.str w)]])
  have h1 := attr_at ha look_back rfl
  have h2 := appendF_at (y := .str w) ha.pb (okSz_of (by have := h.sz2; simp; omega))
  have h3 := put_P ha (p ++ [w])
  rw [put_app h, List.map_append] at h3
  rw [show List.map AV.str p ++ [AV.str w] = List.map AV.str p ++ List.map AV.str [w] from rfl, h3] at h2
  unfold P_push
  simp only [pure_ap, guard_ap, seqM_ap, nextM_ap, asgM_ap, asg2M_ap, augM_ap, retM_ap, exprM_ap, ifM_ap, iteM_ap, binM_ap, cmpM_ap, truM_ap, notM_ap, negM_ap, andM_ap, orM_ap, orVM_ap, idxM_ap, slcM_ap, callM_ap, consM_ap, methM_ap, listM_ap, tupM_ap, asgSubM_ap, asgTupM_ap, asgSwapM_ap, storesM_cons, storesM_nil, slot_at, put_at, tru_bool, tru_int, tru_none, tru_str, eqP_str, eqP_int, eqP_none, neP_str, neP_bytes, neP_int, ltP_int, leP_int, gtP_int, geP_int, addP_int, addP_str, addP_bytes, subP_int, iaddP_int, isubP_int, iaddP_str, lowerF_ap, selStr_ap, intF_ap, absF_ap, lenF_str, divmodF_ap, minF_ap, maxF_ap, chrF_ap, ordF_ap, slice_str, slice_bytes, part_int, part_none', idx_str, forM_ap, itM_ap, itV_str, itV_bytes, rangeIt_ap, List.getElem?_cons_zero, List.getElem?_cons_succ, List.set_cons_zero, List.set_cons_succ, List.length_cons, List.length_nil, Nat.zero_add, Nat.reduceAdd, List.cons_append, List.nil_append, attrM_ap, h1, selList_at ha.pb, h2]
theorem m_push : ∀ args σ v σ', pushG C sp g args σ = some (v, σ') → ∃ v₁ σ₁, fnM ["self", "token"] ["self", "token"] 6 [] (P_push C) args σ = some (v₁, σ₁) ∧ Cut σ σ₁ v₁ v σ' := by
  intro args σ v σ' h
  obtain ⟨rest, ln, s, p, ln', s', p', rfl, hi, e2, rfl⟩ := lexF_some h
  rcases rest with _ | ⟨a, _ | ⟨b, r⟩⟩
  · simp [pushP] at e2
  · cases a with
    | str w =>
      simp only [pushP] at e2
      split at e2
      · cases e2
        exact ⟨_, _, fn_run0 (τ := [.ns 6 [some (.ref g.x), some (.str w)]]) (by kernel_rfl) rfl (x_push hi), put_cut hi trivial⟩
      · cases e2
    | _ => simp [pushP] at e2
  · simp [pushP] at e2
end
end Mine
end
section
namespace Mine
open PySem PySem.W
noncomputable def rdM (C : Addr) (sp : FnSpec) (g : Gh) (fr : Nat) : St AF := asgM (methM (slotM fr 5 0) (selInst C "_read_char") (readG C sp g) (St.pure [])) (putM fr 5 3)
noncomputable def B_quo (C : Addr) (sp : FnSpec) (g : Gh) (fr : Nat) : St AF := (seqM
  (ifM (truM (cmpM eqP (slotM fr 5 3) (St.pure (.str [34])))) (retM (slotM fr 5 1)) (ifM (truM (cmpM eqP (slotM fr 5 3) (St.pure (.str [92])))) (rdM C sp g fr) (St.pure .next)))
  (augM (slotM fr 5 1) (slotM fr 5 3) iaddP (putM fr 5 1)))
noncomputable def B_unq (C : Addr) (sp : FnSpec) (g : Gh) (fr : Nat) : St AF := (seqM
  (ifM (truM (cmpM inP (slotM fr 5 3) (attrM C "whitespace" (slotM fr 5 0)))) (retM (slotM fr 5 1)) (ifM (truM (cmpM eqP (slotM fr 5 3) (St.pure (.str [92])))) (rdM C sp g fr) (St.pure .next)))
  (augM (slotM fr 5 1) (slotM fr 5 3) iaddP (putM fr 5 1)))
noncomputable def B_tok (C rf : Addr) (sp : FnSpec) (g : Gh) (fr : Nat) : St AF := (seqM
  (ifM (truM (cmpM inP (slotM fr 5 3) (attrM C "whitespace" (slotM fr 5 0)))) (St.pure .cont) (St.pure .next))
  (ifM (truM (cmpM eqP (slotM fr 5 3) (St.pure (.str [34])))) (forCM rf (readG C sp g) (slotM fr 5 2) (putM fr 5 3) (B_quo C sp g fr) 1000) (seqM
  (ifM (truM (cmpM eqP (slotM fr 5 3) (St.pure (.str [92])))) (rdM C sp g fr) (St.pure .next))
  (seqM
  (augM (slotM fr 5 1) (slotM fr 5 3) iaddP (putM fr 5 1))
  (forCM rf (readG C sp g) (slotM fr 5 2) (putM fr 5 3) (B_unq C sp g fr) 1000)))))
noncomputable def P_tok (C rf : Addr) (sp : FnSpec) (g : Gh) (fr : Nat) : St AF :=
  (seqM
  (ifM (truM (attrM C "pushback" (slotM fr 5 0))) (retM (methM (attrM C "pushback" (slotM fr 5 0)) selList popF (consM (St.pure (.int 0)) (St.pure [])))) (St.pure .next))
  (seqM
  (asgM (St.pure (.str [])) (putM fr 5 1))
  (seqM
  (asgM (callM iterF (consM (boundM C rf "_read_char" (slotM fr 5 0)) (consM (St.pure (.str [])) (St.pure [])))) (putM fr 5 2))
  (seqM
  (forCM rf (readG C sp g) (slotM fr 5 2) (putM fr 5 3) (B_tok C rf sp g fr) 1000)
  (retM (slotM fr 5 1))))))
noncomputable def tokF (rf : Addr) (g : Gh) (fr : Nat) (t c : Option AV) : List AO := [.ns 5 [some (.ref g.x), t, some (.ref (fr + 2)), c], .meth (.ref rf) (.ref g.x), .citer (.ref (fr + 1)) (.str [])]
section
variable {C rf : Addr} {sp : FnSpec} {g : Gh} {p : List (List Nat)}
theorem cit_at {σ : List AO} {fr : Nat} (hf : σ.length = fr) (t c : Option AV) : citAt rf (fr + 2) (σ ++ tokF rf g fr t c) = some (.ref g.x, []) := by
  subst hf
  unfold citAt tokF
  simp only [get_at, List.getElem?_cons_succ, List.getElem?_cons_zero, beq_self_eq_true]
theorem cit_next {σ : List AO} {fr : Nat} {ln : Int} {s : List Nat} (h : LexInv C sp g σ ln s p) (hf : σ.length = fr) (t c : Option AV) : citNext rf (readG C sp g) (fr + 2) (σ ++ tokF rf g fr t c) = (match s with
    | [] => some (none, σ ++ [.ns 5 [some (.ref g.x), t, some (.ref (fr + 2)), c], .meth (.ref rf) (.ref g.x), .dead])
    | x :: r => some (some (.str [x]), lexPut g (ln + nl x) r p σ ++ tokF rf g fr t c)) := by
  have ha := h.app (τ := tokF rf g fr t c)
  unfold citNext
  rw [cit_at hf]
  rcases s with _ | ⟨x, r⟩
  · have e : readG C sp g [.ref g.x] (σ ++ tokF rf g fr t c) = some (.str [], lexPut g ln [] p (σ ++ tokF rf g fr t c)) := lexF_ap ha rfl
    rw [ha.self] at e
    simp only [e, cit_at hf, BEq.rfl]
    subst hf
    rw [set_at]; rfl
  · have e : readG C sp g [.ref g.x] (σ ++ tokF rf g fr t c) = some (.str [x], lexPut g (ln + nl x) r p (σ ++ tokF rf g fr t c)) := lexF_ap ha rfl
    rw [put_app h] at e
    simp only [e, cit_at (put_len.trans hf), show (([x] : List Nat) == []) = false from rfl]
theorem rd_at {σ : List AO} {fr : Nat} {ln : Int} {x : Nat} {r : List Nat} (h : LexInv C sp g σ ln (x :: r) p) (hf : σ.length = fr) (t c : Option AV) : rdM C sp g fr (σ ++ tokF rf g fr t c) = some (.next, lexPut g (ln + nl x) r p σ ++ tokF rf g fr t (some (.str [x]))) := by
  have ha := h.app (τ := tokF rf g fr t c)
  have e : readG C sp g [.ref g.x] (σ ++ tokF rf g fr t c) = some (.str [x], lexPut g (ln + nl x) r p (σ ++ tokF rf g fr t c)) := lexF_ap ha rfl
  rw [put_app h] at e
  have hs := sel_at ha look_rc
  have S := fun τ => slot_atE (σ := σ) (τ := τ) hf
  have W := fun τ => put_atE (σ := lexPut g (ln + nl x) r p σ) (τ := τ) (put_len.trans hf)
  unfold rdM
  unfold tokF at e hs ⊢
  simp only [pure_ap, guard_ap, seqM_ap, nextM_ap, asgM_ap, asg2M_ap, augM_ap, retM_ap, exprM_ap, ifM_ap, iteM_ap, binM_ap, cmpM_ap, truM_ap, notM_ap, negM_ap, andM_ap, orM_ap, orVM_ap, idxM_ap, slcM_ap, callM_ap, consM_ap, methM_ap, listM_ap, tupM_ap, asgSubM_ap, asgTupM_ap, asgSwapM_ap, storesM_cons, storesM_nil, slot_at, put_at, tru_bool, tru_int, tru_none, tru_str, eqP_str, eqP_int, eqP_none, neP_str, neP_bytes, neP_int, ltP_int, leP_int, gtP_int, geP_int, addP_int, addP_str, addP_bytes, subP_int, iaddP_int, isubP_int, iaddP_str, lowerF_ap, selStr_ap, intF_ap, absF_ap, lenF_str, divmodF_ap, minF_ap, maxF_ap, chrF_ap, ordF_ap, slice_str, slice_bytes, part_int, part_none', idx_str, forM_ap, itM_ap, itV_str, itV_bytes, rangeIt_ap, List.getElem?_cons_zero, List.getElem?_cons_succ, List.set_cons_zero, List.set_cons_succ, List.length_cons, List.length_nil, Nat.zero_add, Nat.reduceAdd, List.cons_append, List.nil_append, S, hs, e, W]
theorem white_at {σ : List AO} {fr : Nat} {ln : Int} {s : List Nat} (h : LexInv C sp g σ ln s p) (hf : σ.length = fr) (t : Option AV) (x : Nat) : truM (cmpM inP (slotM fr 5 3) (attrM C "whitespace" (slotM fr 5 0))) (σ ++ tokF rf g fr t (some (.str [x]))) = some (isWs x, σ ++ tokF rf g fr t (some (.str [x]))) := by
  have ha := attr_at (h.app (τ := tokF rf g fr t (some (.str [x])))) look_white rfl
  have S := fun τ => slot_atE (σ := σ) (τ := τ) hf
  have hi : ∀ ρ, inP (.str [x]) (.str wsL) ρ = some (.bool (isWs x), ρ) := fun ρ => rfl
  unfold tokF at ha ⊢
  simp only [pure_ap, guard_ap, seqM_ap, nextM_ap, asgM_ap, asg2M_ap, augM_ap, retM_ap, exprM_ap, ifM_ap, iteM_ap, binM_ap, cmpM_ap, truM_ap, notM_ap, negM_ap, andM_ap, orM_ap, orVM_ap, idxM_ap, slcM_ap, callM_ap, consM_ap, methM_ap, listM_ap, tupM_ap, asgSubM_ap, asgTupM_ap, asgSwapM_ap, storesM_cons, storesM_nil, slot_at, put_at, tru_bool, tru_int, tru_none, tru_str, eqP_str, eqP_int, eqP_none, neP_str, neP_bytes, neP_int, ltP_int, leP_int, gtP_int, geP_int, addP_int, addP_str, addP_bytes, subP_int, iaddP_int, isubP_int, iaddP_str, lowerF_ap, selStr_ap, intF_ap, absF_ap, lenF_str, divmodF_ap, minF_ap, maxF_ap, chrF_ap, ordF_ap, slice_str, slice_bytes, part_int, part_none', idx_str, forM_ap, itM_ap, itV_str, itV_bytes, rangeIt_ap, List.getElem?_cons_zero, List.getElem?_cons_succ, List.set_cons_zero, List.set_cons_succ, List.length_cons, List.length_nil, Nat.zero_add, Nat.reduceAdd, List.cons_append, List.nil_append, S, attrM_ap, ha, hi]
theorem eq_at {σ : List AO} {fr : Nat} (hf : σ.length = fr) (t : Option AV) (x y : Nat) : truM (cmpM eqP (slotM fr 5 3) (St.pure (.str [y]))) (σ ++ tokF rf g fr t (some (.str [x]))) = some (x == y, σ ++ tokF rf g fr t (some (.str [x]))) := by
  have S := fun τ => slot_atE (σ := σ) (τ := τ) hf
  unfold tokF
  simp only [pure_ap, guard_ap, seqM_ap, nextM_ap, asgM_ap, asg2M_ap, augM_ap, retM_ap, exprM_ap, ifM_ap, iteM_ap, binM_ap, cmpM_ap, truM_ap, notM_ap, negM_ap, andM_ap, orM_ap, orVM_ap, idxM_ap, slcM_ap, callM_ap, consM_ap, methM_ap, listM_ap, tupM_ap, asgSubM_ap, asgTupM_ap, asgSwapM_ap, storesM_cons, storesM_nil, slot_at, put_at, tru_bool, tru_int, tru_none, tru_str, eqP_str, eqP_int, eqP_none, neP_str, neP_bytes, neP_int, ltP_int, leP_int, gtP_int, geP_int, addP_int, addP_str, addP_bytes, subP_int, iaddP_int, isubP_int, iaddP_str, lowerF_ap, selStr_ap, intF_ap, absF_ap, lenF_str, divmodF_ap, minF_ap, maxF_ap, chrF_ap, ordF_ap, slice_str, slice_bytes, part_int, part_none', idx_str, forM_ap, itM_ap, itV_str, itV_bytes, rangeIt_ap, List.getElem?_cons_zero, List.getElem?_cons_succ, List.set_cons_zero, List.set_cons_succ, List.length_cons, List.length_nil, Nat.zero_add, Nat.reduceAdd, List.cons_append, List.nil_append, S, single_beq]
theorem tok_at {σ : List AO} {fr : Nat} (hf : σ.length = fr) (t : AV) (c : Option AV) : retM (slotM fr 5 1) (σ ++ tokF rf g fr (some t) c) = some (.ret t, σ ++ tokF rf g fr (some t) c) := by
  have S := fun τ => slot_atE (σ := σ) (τ := τ) hf
  unfold tokF
  simp only [pure_ap, guard_ap, seqM_ap, nextM_ap, asgM_ap, asg2M_ap, augM_ap, retM_ap, exprM_ap, ifM_ap, iteM_ap, binM_ap, cmpM_ap, truM_ap, notM_ap, negM_ap, andM_ap, orM_ap, orVM_ap, idxM_ap, slcM_ap, callM_ap, consM_ap, methM_ap, listM_ap, tupM_ap, asgSubM_ap, asgTupM_ap, asgSwapM_ap, storesM_cons, storesM_nil, slot_at, put_at, tru_bool, tru_int, tru_none, tru_str, eqP_str, eqP_int, eqP_none, neP_str, neP_bytes, neP_int, ltP_int, leP_int, gtP_int, geP_int, addP_int, addP_str, addP_bytes, subP_int, iaddP_int, isubP_int, iaddP_str, lowerF_ap, selStr_ap, intF_ap, absF_ap, lenF_str, divmodF_ap, minF_ap, maxF_ap, chrF_ap, ordF_ap, slice_str, slice_bytes, part_int, part_none', idx_str, forM_ap, itM_ap, itV_str, itV_bytes, rangeIt_ap, List.getElem?_cons_zero, List.getElem?_cons_succ, List.set_cons_zero, List.set_cons_succ, List.length_cons, List.length_nil, Nat.zero_add, Nat.reduceAdd, List.cons_append, List.nil_append, S]
theorem aug_at {σ : List AO} {fr : Nat} (hf : σ.length = fr) (t : List Nat) (x : Nat) (hz : okSz (t.length + 1) = true) : augM (slotM fr 5 1) (slotM fr 5 3) iaddP (putM fr 5 1) (σ ++ tokF rf g fr (some (.str t)) (some (.str [x]))) = some (.next, σ ++ tokF rf g fr (some (.str (t ++ [x]))) (some (.str [x]))) := by
  have S := fun τ => slot_atE (σ := σ) (τ := τ) hf
  have W := fun τ => put_atE (σ := σ) (τ := τ) hf
  unfold tokF
  simp only [pure_ap, guard_ap, seqM_ap, nextM_ap, asgM_ap, asg2M_ap, augM_ap, retM_ap, exprM_ap, ifM_ap, iteM_ap, binM_ap, cmpM_ap, truM_ap, notM_ap, negM_ap, andM_ap, orM_ap, orVM_ap, idxM_ap, slcM_ap, callM_ap, consM_ap, methM_ap, listM_ap, tupM_ap, asgSubM_ap, asgTupM_ap, asgSwapM_ap, storesM_cons, storesM_nil, slot_at, put_at, tru_bool, tru_int, tru_none, tru_str, eqP_str, eqP_int, eqP_none, neP_str, neP_bytes, neP_int, ltP_int, leP_int, gtP_int, geP_int, addP_int, addP_str, addP_bytes, subP_int, iaddP_int, isubP_int, iaddP_str, lowerF_ap, selStr_ap, intF_ap, absF_ap, lenF_str, divmodF_ap, minF_ap, maxF_ap, chrF_ap, ordF_ap, slice_str, slice_bytes, part_int, part_none', idx_str, forM_ap, itM_ap, itV_str, itV_bytes, rangeIt_ap, List.getElem?_cons_zero, List.getElem?_cons_succ, List.set_cons_zero, List.set_cons_succ, List.length_cons, List.length_nil, Nat.zero_add, Nat.reduceAdd, List.cons_append, List.nil_append, S, W, hz]
theorem putc {σ : List AO} {fr : Nat} (hf : σ.length = fr) (t c : Option AV) (v : AV) : putM fr 5 3 v (σ ++ tokF rf g fr t c) = some ((), σ ++ tokF rf g fr t (some v)) := by
  have W := fun τ => put_atE (σ := σ) (τ := τ) hf
  unfold tokF
  simp only [pure_ap, guard_ap, seqM_ap, nextM_ap, asgM_ap, asg2M_ap, augM_ap, retM_ap, exprM_ap, ifM_ap, iteM_ap, binM_ap, cmpM_ap, truM_ap, notM_ap, negM_ap, andM_ap, orM_ap, orVM_ap, idxM_ap, slcM_ap, callM_ap, consM_ap, methM_ap, listM_ap, tupM_ap, asgSubM_ap, asgTupM_ap, asgSwapM_ap, storesM_cons, storesM_nil, slot_at, put_at, tru_bool, tru_int, tru_none, tru_str, eqP_str, eqP_int, eqP_none, neP_str, neP_bytes, neP_int, ltP_int, leP_int, gtP_int, geP_int, addP_int, addP_str, addP_bytes, subP_int, iaddP_int, isubP_int, iaddP_str, lowerF_ap, selStr_ap, intF_ap, absF_ap, lenF_str, divmodF_ap, minF_ap, maxF_ap, chrF_ap, ordF_ap, slice_str, slice_bytes, part_int, part_none', idx_str, forM_ap, itM_ap, itV_str, itV_bytes, rangeIt_ap, List.getElem?_cons_zero, List.getElem?_cons_succ, List.set_cons_zero, List.set_cons_succ, List.length_cons, List.length_nil, Nat.zero_add, Nat.reduceAdd, List.cons_append, List.nil_append, W]
theorem fiter_at {σ : List AO} {fr : Nat} (hf : σ.length = fr) (t c : Option AV) : slotM fr 5 2 (σ ++ tokF rf g fr t c) = some (.ref (fr + 2), σ ++ tokF rf g fr t c) := by
  have S := fun τ => slot_atE (σ := σ) (τ := τ) hf
  unfold tokF
  simp only [pure_ap, guard_ap, seqM_ap, nextM_ap, asgM_ap, asg2M_ap, augM_ap, retM_ap, exprM_ap, ifM_ap, iteM_ap, binM_ap, cmpM_ap, truM_ap, notM_ap, negM_ap, andM_ap, orM_ap, orVM_ap, idxM_ap, slcM_ap, callM_ap, consM_ap, methM_ap, listM_ap, tupM_ap, asgSubM_ap, asgTupM_ap, asgSwapM_ap, storesM_cons, storesM_nil, slot_at, put_at, tru_bool, tru_int, tru_none, tru_str, eqP_str, eqP_int, eqP_none, neP_str, neP_bytes, neP_int, ltP_int, leP_int, gtP_int, geP_int, addP_int, addP_str, addP_bytes, subP_int, iaddP_int, isubP_int, iaddP_str, lowerF_ap, selStr_ap, intF_ap, absF_ap, lenF_str, divmodF_ap, minF_ap, maxF_ap, chrF_ap, ordF_ap, slice_str, slice_bytes, part_int, part_none', idx_str, forM_ap, itM_ap, itV_str, itV_bytes, rangeIt_ap, List.getElem?_cons_zero, List.getElem?_cons_succ, List.set_cons_zero, List.set_cons_succ, List.length_cons, List.length_nil, Nat.zero_add, Nat.reduceAdd, List.cons_append, List.nil_append, S]
theorem quo_loop : ∀ (n : Nat) {σ : List AO} {fr : Nat} {ln ln' : Int} {s s' t w : List Nat} (c : Option AV), LexInv C sp g σ ln s p → σ.length = fr → s.length < n → t.length + s.length ≤ 2000 → quo s t ln = some (w, ln', s') → ∃ c',
    forC rf (readG C sp g) (fr + 2) (putM fr 5 3) (B_quo C sp g fr) n (σ ++ tokF rf g fr (some (.str t)) c) = some (.ret (.str w), lexPut g ln' s' p σ ++ tokF rf g fr (some (.str w)) c') ∧ s'.length ≤ 900
  | 0, σ, fr, ln, ln', s, s', t, w, c, h, hf, hn, hl, e => by omega
  | n + 1, σ, fr, ln, ln', s, s', t, w, c, h, hf, hn, hl, e => by
    rcases s with _ | ⟨x, r⟩
    · cases e
    have hsz := h.sz
    simp only [List.length_cons] at hn hl hsz
    have h1 := h.put (ln' := ln + nl x) (s' := r) (by omega) h.sz2
    have hf1 : (lexPut g (ln + nl x) r p σ).length = fr := put_len.trans hf
    rw [forC_ap, cit_next h hf]
    simp only [putc hf1]
    unfold B_quo
    simp only [seqM_ap, ifM_ap, eq_at hf1]
    unfold quo at e
    cases h34 : x == 34 with
    | true =>
      rw [h34] at e
      cases e
      simp only [tok_at hf1]
      exact ⟨_, rfl, by omega⟩
    | false =>
      rw [h34] at e
      simp only [] at e ⊢
      cases h92 : x == 92 with
      | true =>
        rw [h92] at e
        simp only [] at e
        simp only [seqM_ap, ifM_ap, eq_at hf1, h92]
        rcases r with _ | ⟨y, r⟩
        · cases e
        simp only [List.length_cons] at hn hl hsz e
        have h2 := h.put (ln' := ln + nl x + nl y) (s' := r) (by omega) h.sz2
        have hf2 : (lexPut g (ln + nl x + nl y) r p σ).length = fr := put_len.trans hf
        rw [rd_at h1 hf1, put_put h]
        simp only [aug_at hf2 _ _ (okSz_of (show t.length + 1 ≤ 1000000 by omega))]
        obtain ⟨c', e2, e3⟩ := quo_loop n (some (.str [y])) h2 hf2 (by omega) (by simp; omega) e
        rw [put_put h] at e2
        unfold B_quo at e2
        exact ⟨c', e2, e3⟩
      | false =>
        rw [h92] at e
        simp only [] at e
        simp only [seqM_ap, ifM_ap, eq_at hf1, h92]
        simp only [pure_ap, aug_at hf1 _ _ (okSz_of (show t.length + 1 ≤ 1000000 by omega))]
        obtain ⟨c', e2, e3⟩ := quo_loop n (some (.str [x])) h1 hf1 (by omega) (by simp; omega) e
        rw [put_put h] at e2
        unfold B_quo at e2
        exact ⟨c', e2, e3⟩
theorem unq_loop : ∀ (n : Nat) {σ : List AO} {fr : Nat} {ln ln' : Int} {s s' t w : List Nat} (c : Option AV), LexInv C sp g σ ln s p → σ.length = fr → s.length < n → t.length + s.length ≤ 2000 → unq s t ln = some (w, ln', s') → ∃ c',
    forC rf (readG C sp g) (fr + 2) (putM fr 5 3) (B_unq C sp g fr) n (σ ++ tokF rf g fr (some (.str t)) c) = some (.ret (.str w), lexPut g ln' s' p σ ++ tokF rf g fr (some (.str w)) c') ∧ s'.length ≤ 900
  | 0, σ, fr, ln, ln', s, s', t, w, c, h, hf, hn, hl, e => by omega
  | n + 1, σ, fr, ln, ln', s, s', t, w, c, h, hf, hn, hl, e => by
    rcases s with _ | ⟨x, r⟩
    · cases e
    have hsz := h.sz
    simp only [List.length_cons] at hn hl hsz
    have h1 := h.put (ln' := ln + nl x) (s' := r) (by omega) h.sz2
    have hf1 : (lexPut g (ln + nl x) r p σ).length = fr := put_len.trans hf
    rw [forC_ap, cit_next h hf]
    simp only [putc hf1]
    unfold B_unq
    simp only [seqM_ap, ifM_ap, eq_at hf1, white_at h1 hf1]
    unfold unq at e
    cases h34 : isWs x with
    | true =>
      rw [h34] at e
      cases e
      simp only [tok_at hf1]
      exact ⟨_, rfl, by omega⟩
    | false =>
      rw [h34] at e
      simp only [] at e ⊢
      cases h92 : x == 92 with
      | true =>
        rw [h92] at e
        simp only [] at e
        simp only [seqM_ap, ifM_ap, eq_at hf1, h92]
        rcases r with _ | ⟨y, r⟩
        · cases e
        simp only [List.length_cons] at hn hl hsz e
        have h2 := h.put (ln' := ln + nl x + nl y) (s' := r) (by omega) h.sz2
        have hf2 : (lexPut g (ln + nl x + nl y) r p σ).length = fr := put_len.trans hf
        rw [rd_at h1 hf1, put_put h]
        simp only [aug_at hf2 _ _ (okSz_of (show t.length + 1 ≤ 1000000 by omega))]
        obtain ⟨c', e2, e3⟩ := unq_loop n (some (.str [y])) h2 hf2 (by omega) (by simp; omega) e
        rw [put_put h] at e2
        unfold B_unq at e2
        exact ⟨c', e2, e3⟩
      | false =>
        rw [h92] at e
        simp only [] at e
        simp only [seqM_ap, ifM_ap, eq_at hf1, h92]
        simp only [pure_ap, aug_at hf1 _ _ (okSz_of (show t.length + 1 ≤ 1000000 by omega))]
        obtain ⟨c', e2, e3⟩ := unq_loop n (some (.str [x])) h1 hf1 (by omega) (by simp; omega) e
        rw [put_put h] at e2
        unfold B_unq at e2
        exact ⟨c', e2, e3⟩
theorem tok_loop : ∀ (n : Nat) {σ : List AO} {fr : Nat} {ln ln' : Int} {s s' w : List Nat} (c : Option AV), LexInv C sp g σ ln s p → σ.length = fr → s.length < n → lexW s ln = some (w, ln', s') → ∃ f junk,
    forC rf (readG C sp g) (fr + 2) (putM fr 5 3) (B_tok C rf sp g fr) n (σ ++ tokF rf g fr (some (.str [])) c) = some (f, lexPut g ln' s' p σ ++ junk) ∧ (f = .ret (.str w) ∨ (f = .next ∧ w = [] ∧ ∃ c' τ, junk = .ns 5 [some (.ref g.x), some (.str []), some (.ref (fr + 2)), c'] :: τ)) ∧ s'.length ≤ 900
  | 0, σ, fr, ln, ln', s, s', w, c, h, hf, hn, e => by omega
  | n + 1, σ, fr, ln, ln', s, s', w, c, h, hf, hn, e => by
    rcases s with _ | ⟨x, r⟩
    · cases e
      refine ⟨.next, [.ns 5 [some (.ref g.x), some (.str []), some (.ref (fr + 2)), c], .meth (.ref rf) (.ref g.x), .dead], ?_, .inr ⟨rfl, rfl, c, _, rfl⟩, by simp⟩
      rw [forC_ap, cit_next h hf, h.self]
    have hsz := h.sz
    simp only [List.length_cons] at hn hsz
    have h1 := h.put (ln' := ln + nl x) (s' := r) (by omega) h.sz2
    have hf1 : (lexPut g (ln + nl x) r p σ).length = fr := put_len.trans hf
    rw [forC_ap, cit_next h hf]
    simp only [putc hf1]
    unfold B_tok
    simp only [seqM_ap, ifM_ap, eq_at hf1, white_at h1 hf1]
    unfold lexW at e
    cases hw : isWs x with
    | true =>
      rw [hw] at e
      simp only [pure_ap] at e ⊢
      obtain ⟨f, junk, e2, e3⟩ := tok_loop n (some (.str [x])) h1 hf1 (by omega) e
      rw [put_put h] at e2
      unfold B_tok at e2
      exact ⟨f, junk, e2, e3⟩
    | false =>
      rw [hw] at e
      simp only [pure_ap] at e ⊢
      cases h34 : x == 34 with
      | true =>
        rw [h34] at e
        simp only [] at e
        simp only [seqM_ap, ifM_ap, eq_at hf1, h34]
        obtain ⟨c', e2, e3⟩ := quo_loop (rf := rf) 1000 (some (.str [x])) h1 hf1 (by omega) (by simp; omega) e
        rw [put_put h] at e2
        simp only [forCM_ap, fiter_at hf1, cit_at hf1, e2]
        exact ⟨_, _, rfl, .inl rfl, e3⟩
      | false =>
        rw [h34] at e
        simp only [] at e
        simp only [seqM_ap, ifM_ap, eq_at hf1, h34]
        cases h92 : x == 92 with
        | true =>
          rw [h92] at e
          simp only [] at e
          simp only [seqM_ap, ifM_ap, eq_at hf1, h92]
          rcases r with _ | ⟨y, r⟩
          · cases e
          simp only [List.length_cons] at hn hsz e
          have h2 := h.put (ln' := ln + nl x + nl y) (s' := r) (by omega) h.sz2
          have hf2 : (lexPut g (ln + nl x + nl y) r p σ).length = fr := put_len.trans hf
          rw [rd_at h1 hf1, put_put h]
          simp only [aug_at hf2 [] y rfl]
          obtain ⟨c', e2, e3⟩ := unq_loop (rf := rf) 1000 (some (.str [y])) h2 hf2 (by omega) (by simp; omega) e
          rw [put_put h] at e2
          simp only [List.nil_append, forCM_ap, fiter_at hf2, cit_at hf2, e2]
          exact ⟨_, _, rfl, .inl rfl, e3⟩
        | false =>
          rw [h92] at e
          simp only [] at e
          simp only [seqM_ap, ifM_ap, eq_at hf1, h92]
          simp only [pure_ap, aug_at hf1 [] x rfl]
          obtain ⟨c', e2, e3⟩ := unq_loop (rf := rf) 1000 (some (.str [x])) h1 hf1 (by omega) (by simp; omega) e
          rw [put_put h] at e2
          simp only [List.nil_append, forCM_ap, fiter_at hf1, cit_at hf1, e2]
          exact ⟨_, _, rfl, .inl rfl, e3⟩
theorem x_tok {σ : List AO} {ln ln' : Int} {s s' : List Nat} {p p' : List (List Nat)} {v : AV} (h : LexInv C sp g σ ln s p) (e : tokP [] ln s p = some (v, ln', s', p')) : ∃ junk, P_tok C rf sp g σ.length (σ ++ [.ns 5 [some (.ref g.x), none, none, none]]) = some (.ret v, lexPut g ln' s' p' σ ++ junk) ∧ v.below σ.length := by
  have ha := h.app (τ := [.ns 5 [some (.ref g.x), none, none, none]])
  have h1 := attr_at ha look_back rfl
  have hz : okSz (p.map AV.str).length = true := okSz_of (by have := h.sz2; simp; omega)
  have h2 := tru_list ha.pb hz
  unfold P_tok
  rcases p with _ | ⟨w, p⟩
  · have hb : boundM C rf "_read_char" (slotM σ.length 5 0) (σ ++ [.ns 5 [some (.ref g.x), some (.str []), none, none]]) = some (.ref (σ.length + 1), σ ++ [.ns 5 [some (.ref g.x), some (.str []), none, none], .meth (.ref rf) (.ref g.x)]) := by
      have ha2 := h.app (τ := [.ns 5 [some (.ref g.x), some (.str []), none, none]])
      have hi : instOf C (.ref g.x) (σ ++ [.ns 5 [some (.ref g.x), some (.str []), none, none]]) = some (g.d, atL ln g) := by unfold instOf; simp only [ha2.x, beq_self_eq_true, ha2.d]
      unfold boundM
      rw [bind_ap]
      simp only [pure_ap, guard_ap, seqM_ap, nextM_ap, asgM_ap, asg2M_ap, augM_ap, retM_ap, exprM_ap, ifM_ap, iteM_ap, binM_ap, cmpM_ap, truM_ap, notM_ap, negM_ap, andM_ap, orM_ap, orVM_ap, idxM_ap, slcM_ap, callM_ap, consM_ap, methM_ap, listM_ap, tupM_ap, asgSubM_ap, asgTupM_ap, asgSwapM_ap, storesM_cons, storesM_nil, slot_at, put_at, tru_bool, tru_int, tru_none, tru_str, eqP_str, eqP_int, eqP_none, neP_str, neP_bytes, neP_int, ltP_int, leP_int, gtP_int, geP_int, addP_int, addP_str, addP_bytes, subP_int, iaddP_int, isubP_int, iaddP_str, lowerF_ap, selStr_ap, intF_ap, absF_ap, lenF_str, divmodF_ap, minF_ap, maxF_ap, chrF_ap, ordF_ap, slice_str, slice_bytes, part_int, part_none', idx_str, forM_ap, itM_ap, itV_str, itV_bytes, rangeIt_ap, List.getElem?_cons_zero, List.getElem?_cons_succ, List.set_cons_zero, List.set_cons_succ, List.length_cons, List.length_nil, Nat.zero_add, Nat.reduceAdd, List.cons_append, List.nil_append, hi, look_rc, List.length_append, List.append_assoc]
    have hit : iterF [.ref (σ.length + 1), .str []] (σ ++ [.ns 5 [some (.ref g.x), some (.str []), none, none], .meth (.ref rf) (.ref g.x)]) = some (.ref (σ.length + 2), σ ++ [.ns 5 [some (.ref g.x), some (.str []), none, none], .meth (.ref rf) (.ref g.x), .citer (.ref (σ.length + 1)) (.str [])]) := by
      unfold iterF
      simp only [get_at, List.getElem?_cons_succ, List.getElem?_cons_zero]
      unfold allocM
      simp
    simp only [tokP] at e
    cases hw : lexW s ln with
    | none => rw [hw] at e; cases e
    | some r =>
      obtain ⟨w, ln1, s1⟩ := r
      rw [hw] at e
      cases e
      obtain ⟨f, junk, e2, e3, e4⟩ := tok_loop (rf := rf) 1000 none h rfl (by have := h.sz; omega) hw
      have hc := cit_at (rf := rf) (g := g) (σ := σ) rfl (some (.str [])) none
      unfold tokF at e2 hc
      rcases e3 with rfl | ⟨rfl, rfl, c', τ, rfl⟩
      · refine ⟨junk, ?_, trivial⟩
        simp only [pure_ap, guard_ap, seqM_ap, nextM_ap, asgM_ap, asg2M_ap, augM_ap, retM_ap, exprM_ap, ifM_ap, iteM_ap, binM_ap, cmpM_ap, truM_ap, notM_ap, negM_ap, andM_ap, orM_ap, orVM_ap, idxM_ap, slcM_ap, callM_ap, consM_ap, methM_ap, listM_ap, tupM_ap, asgSubM_ap, asgTupM_ap, asgSwapM_ap, storesM_cons, storesM_nil, slot_at, put_at, tru_bool, tru_int, tru_none, tru_str, eqP_str, eqP_int, eqP_none, neP_str, neP_bytes, neP_int, ltP_int, leP_int, gtP_int, geP_int, addP_int, addP_str, addP_bytes, subP_int, iaddP_int, isubP_int, iaddP_str, lowerF_ap, selStr_ap, intF_ap, absF_ap, lenF_str, divmodF_ap, minF_ap, maxF_ap, chrF_ap, ordF_ap, slice_str, slice_bytes, part_int, part_none', idx_str, forM_ap, itM_ap, itV_str, itV_bytes, rangeIt_ap, List.getElem?_cons_zero, List.getElem?_cons_succ, List.set_cons_zero, List.set_cons_succ, List.length_cons, List.length_nil, Nat.zero_add, Nat.reduceAdd, List.cons_append, List.nil_append, attrM_ap, h1, h2, List.map_nil, List.isEmpty_nil, Bool.not_true, hb, hit, forCM_ap, hc, e2]
      · refine ⟨.ns 5 [some (.ref g.x), some (.str []), some (.ref (σ.length + 2)), c'] :: τ, ?_, trivial⟩
        have S := fun τ => slot_atE (σ := lexPut g ln' s' [] σ) (τ := τ) put_len
        simp only [pure_ap, guard_ap, seqM_ap, nextM_ap, asgM_ap, asg2M_ap, augM_ap, retM_ap, exprM_ap, ifM_ap, iteM_ap, binM_ap, cmpM_ap, truM_ap, notM_ap, negM_ap, andM_ap, orM_ap, orVM_ap, idxM_ap, slcM_ap, callM_ap, consM_ap, methM_ap, listM_ap, tupM_ap, asgSubM_ap, asgTupM_ap, asgSwapM_ap, storesM_cons, storesM_nil, slot_at, put_at, tru_bool, tru_int, tru_none, tru_str, eqP_str, eqP_int, eqP_none, neP_str, neP_bytes, neP_int, ltP_int, leP_int, gtP_int, geP_int, addP_int, addP_str, addP_bytes, subP_int, iaddP_int, isubP_int, iaddP_str, lowerF_ap, selStr_ap, intF_ap, absF_ap, lenF_str, divmodF_ap, minF_ap, maxF_ap, chrF_ap, ordF_ap, slice_str, slice_bytes, part_int, part_none', idx_str, forM_ap, itM_ap, itV_str, itV_bytes, rangeIt_ap, List.getElem?_cons_zero, List.getElem?_cons_succ, List.set_cons_zero, List.set_cons_succ, List.length_cons, List.length_nil, Nat.zero_add, Nat.reduceAdd, List.cons_append, List.nil_append, attrM_ap, h1, h2, List.map_nil, List.isEmpty_nil, Bool.not_true, hb, hit, forCM_ap, hc, e2, S]
  · cases e
    have h3 := popF_at (x := .str w) (xs := p'.map .str) ha.pb (by simpa using hz)
    have h4 := put_P ha p'
    rw [put_app h] at h4
    rw [h4] at h3
    refine ⟨[.ns 5 [some (.ref g.x), none, none, none]], ?_, trivial⟩
    have hemp : (!((w :: p').map AV.str).isEmpty) = true := rfl
    simp only [pure_ap, guard_ap, seqM_ap, nextM_ap, asgM_ap, asg2M_ap, augM_ap, retM_ap, exprM_ap, ifM_ap, iteM_ap, binM_ap, cmpM_ap, truM_ap, notM_ap, negM_ap, andM_ap, orM_ap, orVM_ap, idxM_ap, slcM_ap, callM_ap, consM_ap, methM_ap, listM_ap, tupM_ap, asgSubM_ap, asgTupM_ap, asgSwapM_ap, storesM_cons, storesM_nil, slot_at, put_at, tru_bool, tru_int, tru_none, tru_str, eqP_str, eqP_int, eqP_none, neP_str, neP_bytes, neP_int, ltP_int, leP_int, gtP_int, geP_int, addP_int, addP_str, addP_bytes, subP_int, iaddP_int, isubP_int, iaddP_str, lowerF_ap, selStr_ap, intF_ap, absF_ap, lenF_str, divmodF_ap, minF_ap, maxF_ap, chrF_ap, ordF_ap, slice_str, slice_bytes, part_int, part_none', idx_str, forM_ap, itM_ap, itV_str, itV_bytes, rangeIt_ap, List.getElem?_cons_zero, List.getElem?_cons_succ, List.set_cons_zero, List.set_cons_succ, List.length_cons, List.length_nil, Nat.zero_add, Nat.reduceAdd, List.cons_append, List.nil_append, attrM_ap, h1, h2, hemp, selList_at ha.pb, h3]
theorem m_tok : ∀ args σ v σ', tokG C sp g args σ = some (v, σ') → ∃ v₁ σ₁, fnM ["self"] ["self", "token", "fiter", "ch"] 5 [] (P_tok C rf sp g) args σ = some (v₁, σ₁) ∧ Cut σ σ₁ v₁ v σ' := by
  intro args σ v σ' h
  obtain ⟨rest, ln, s, p, ln', s', p', rfl, hi, e2, rfl⟩ := lexF_some h
  have hr : rest = [] := by
    rcases rest with _ | ⟨a, r⟩
    · rfl
    · simp [tokP] at e2
  subst hr
  obtain ⟨junk, e, hv⟩ := x_tok (rf := rf) hi e2
  exact ⟨_, _, fn_run (τ := [.ns 5 [some (.ref g.x), none, none, none]]) (by kernel_rfl) rfl e, put_cut hi hv⟩
end
end Mine
end
section
namespace Mine
open PySem PySem.W
noncomputable def aA (ins pb : AV) : List (Str × AV) := [("lineno", .int 1), ("instream", ins), ("whitespace", .str wsL), ("pushback", pb)]
noncomputable def aH (pb f : Nat) : List (Str × AV) := [("lineno", .int 1), ("instream", .none), ("whitespace", .str wsL), ("pushback", .ref pb), ("read", .ref f)]
noncomputable def a1 : List (Str × AV) := [("lineno", .int 1)]
noncomputable def a2 (v : AV) : List (Str × AV) := [("lineno", .int 1), ("instream", v)]
noncomputable def a3 (v : AV) : List (Str × AV) := [("lineno", .int 1), ("instream", v), ("whitespace", .str wsL)]
noncomputable def P_init (C : Addr) (fr : Nat) : St AF :=
  (seqM
  (asgAttrM C "lineno" (St.pure (.int 1)) (slotM fr 3 0))
  (seqM
  (asgAttrM C "instream" (slotM fr 3 1) (slotM fr 3 0))
  (seqM
  (asgAttrM C "whitespace" (St.pure (.str [10, 9, 13, 32])) (slotM fr 3 0))
  (asgAttrM C "pushback" (listM (St.pure [])) (slotM fr 3 0)))))
noncomputable def initG (C : Addr) : List AV → St AV := fnM ["self", "fp"] ["self", "fp"] 3 [] (P_init C)
section
variable {C : Addr} {sp : FnSpec} {σ τ : List AO}
theorem slot2 (a b : AO) (k i : Nat) (vs : List (Option AV)) : slotM (σ.length + 2) k i (σ ++ a :: b :: .ns k vs :: τ) = (match vs[i]? with | some (some v) => some (v, σ ++ a :: b :: .ns k vs :: τ) | _ => none) := by
  rw [show σ ++ a :: b :: AO.ns k vs :: τ = (σ ++ [a, b]) ++ AO.ns k vs :: τ from by simp, slot_atE (σ := σ ++ [a, b]) (τ := τ) (fr := σ.length + 2) (by simp) k i vs]
  all_goals rcases vs[i]? with _ | _ | v <;> rfl
theorem setA_gen {x d : Nat} {es : List (Str × AV)} (h1 : σ[x]? = some (.inst C d)) (h2 : σ[d]? = some (.attrs es)) (name : Str) (v : AV) : setA C name v (.ref x) σ = (match Nat.ble es.length 100 with | true => some ((), σ.set d (.attrs (storeA name v es))) | false => none) := by
  have hi : instOf C (.ref x) σ = some (d, es) := by unfold instOf; simp only [h1, beq_self_eq_true, h2]
  unfold setA
  simp only [hi]
  rw [guard_ap]
  all_goals cases Nat.ble es.length 100 <;> rfl
theorem setA2 (es : List (Str × AV)) (name : Str) (v : AV) : setA C name v (.ref (σ.length + 1)) (σ ++ .attrs es :: .inst C σ.length :: τ) = (match Nat.ble es.length 100 with | true => some ((), σ ++ .attrs (storeA name v es) :: .inst C σ.length :: τ) | false => none) := by
  rw [setA_gen (x := σ.length + 1) (d := σ.length) (es := es) (by rw [get_at]; rfl) (by rw [get_at0]; rfl)]
  cases Nat.ble es.length 100
  · rfl
  · simp only [set_at0]; rfl
theorem x_make (v : AV) : makeF C (initG C) [v] σ = some (.ref (σ.length + 1), σ ++ [.attrs (aA v (.ref (σ.length + 3))), .inst C σ.length, .ns 3 [some (.ref (σ.length + 1)), some v], .list []]) := by
  have he : entryO ["self", "fp"] ["self", "fp"] 3 [] [.ref (σ.length + 1), v] = [AO.ns 3 [some (.ref (σ.length + 1)), some v]] := by kernel_rfl
  have e1 : storeA "lineno" (.int 1) [] = a1 := by kernel_rfl
  have e2 : storeA "instream" v a1 = a2 v := by kernel_rfl
  have e3 : storeA "whitespace" (.str [10, 9, 13, 32]) (a2 v) = a3 v := by kernel_rfl
  have e4 : storeA "pushback" (.ref (σ.length + 3)) (a3 v) = aA v (.ref (σ.length + 3)) := by kernel_rfl
  have hr : initG C [.ref (σ.length + 1), v] (σ ++ [.attrs [], .inst C σ.length]) = some (.none, σ ++ [.attrs (aA v (.ref (σ.length + 3))), .inst C σ.length, .ns 3 [some (.ref (σ.length + 1)), some v], .list []]) := by
    refine fn_run0 he rfl ?_
    unfold P_init
    rw [show (σ ++ [AO.attrs [], AO.inst C σ.length]).length = σ.length + 2 from by simp]
    simp only [pure_ap, guard_ap, seqM_ap, nextM_ap, asgM_ap, asg2M_ap, augM_ap, retM_ap, exprM_ap, ifM_ap, iteM_ap, binM_ap, cmpM_ap, truM_ap, notM_ap, negM_ap, andM_ap, orM_ap, orVM_ap, idxM_ap, slcM_ap, callM_ap, consM_ap, methM_ap, listM_ap, tupM_ap, asgSubM_ap, asgTupM_ap, asgSwapM_ap, storesM_cons, storesM_nil, slot_at, put_at, tru_bool, tru_int, tru_none, tru_str, eqP_str, eqP_int, eqP_none, neP_str, neP_bytes, neP_int, ltP_int, leP_int, gtP_int, geP_int, addP_int, addP_str, addP_bytes, subP_int, iaddP_int, isubP_int, iaddP_str, lowerF_ap, selStr_ap, intF_ap, absF_ap, lenF_str, divmodF_ap, minF_ap, maxF_ap, chrF_ap, ordF_ap, slice_str, slice_bytes, part_int, part_none', idx_str, forM_ap, itM_ap, itV_str, itV_bytes, rangeIt_ap, List.getElem?_cons_zero, List.getElem?_cons_succ, List.set_cons_zero, List.set_cons_succ, List.length_cons, List.length_nil, Nat.zero_add, Nat.reduceAdd, List.cons_append, List.nil_append, asgAttrM_ap, slot2, setA2, List.append_assoc, e1, e2, e3, e4, show Nat.ble 0 100 = true from rfl, show Nat.ble a1.length 100 = true from rfl, show Nat.ble (a2 v).length 100 = true from rfl, show Nat.ble (a3 v).length 100 = true from rfl, show okSz 0 = true from rfl, List.length_append]
  unfold makeF
  rw [hr]
noncomputable def P_file (C : Addr) (PL : Nat) (PT : Addr) (sp : FnSpec) (fr : Nat) : St AF :=
  (seqM
  (asgM (callM listF (consM (slotM fr 7 0) (St.pure []))) (putCellM (fr + 1)))
  (seqM
  (asgM (callM (makeF C (initG C)) (consM (St.pure .none) (St.pure []))) (putM fr 7 1))
  (seqM
  (asgAttrM C "read" (lamM PL PT sp [("signs", (fr + 1))]) (slotM fr 7 1))
  (retM (slotM fr 7 1)))))
noncomputable def fileG (C : Addr) (PL : Nat) (PT : Addr) (sp : FnSpec) : List AV → St AV := fnM ["text"] ["text", "holder"] 7 ["signs"] (P_file C PL PT sp)
noncomputable def fileO (C : Addr) (sp : FnSpec) (n : Nat) (s : List Nat) : List AO := [.ns 7 [some (.str s), some (.ref (n + 4))], .cell (some (.ref (n + 2))), .list (strItems s), .attrs (aH (n + 6) (n + 8)), .inst C (n + 3), .ns 3 [some (.ref (n + 4)), some .none], .list [], .code sp.qual, .fn sp (n + 7) [("signs", n + 1)]]
theorem x_file {PL : Nat} {PT : Addr} {s : List Nat} (hT : σ[PL]? = some (.raw PT (tabObj #[]))) (hs : okSz s.length = true) : fileG C PL PT sp [.str s] σ = some (.ref (σ.length + 4), σ.set PL .tab ++ fileO C sp σ.length s) := by
  have he : entryO ["text"] ["text", "holder"] 7 ["signs"] [.str s] = [AO.ns 7 [some (.str s), none], .cell none] := by kernel_rfl
  have e5 : storeA "read" (.ref (σ.length + 8)) (aA .none (.ref (σ.length + 6))) = aH (σ.length + 6) (σ.length + 8) := by kernel_rfl
  have hl : ∀ ρ : List AO, listF [.str s] ρ = some (.ref ρ.length, ρ ++ [.list (strItems s)]) := fun ρ => by
    show guardM _ _ _ = _; rw [guard_ap, hs]; rfl
  refine fn_run he rfl ?_
  have hm := x_make (C := C) (σ := σ ++ [.ns 7 [some (.str s), none], .cell (some (.ref (σ.length + 2))), .list (strItems s)]) .none
  simp only [List.length_append, List.length_cons, List.length_nil, Nat.zero_add, Nat.reduceAdd, List.append_assoc, List.cons_append, List.nil_append, Nat.add_assoc] at hm
  have hlam : lamM PL PT sp [("signs", σ.length + 1)] (σ ++ [.ns 7 [some (.str s), some (.ref (σ.length + 4))], .cell (some (.ref (σ.length + 2))), .list (strItems s), .attrs (aA .none (.ref (σ.length + 6))), .inst C (σ.length + 3), .ns 3 [some (.ref (σ.length + 4)), some .none], .list []])
      = some (.ref (σ.length + 8), σ.set PL .tab ++ [.ns 7 [some (.str s), some (.ref (σ.length + 4))], .cell (some (.ref (σ.length + 2))), .list (strItems s), .attrs (aA .none (.ref (σ.length + 6))), .inst C (σ.length + 3), .ns 3 [some (.ref (σ.length + 4)), some .none], .list [], .code sp.qual, .fn sp (σ.length + 7) [("signs", σ.length + 1)]]) := by
    unfold lamM
    rw [get_old hT]
    simp only []
    rw [onlyIf_pos ⟨⟨by first | rfl | trivial, by first | rfl | trivial⟩, by intro q hq; simp at hq; subst hq; simp⟩, set_old (lt_of_get hT)]
    simp
  have S := fun τ => slot_atE (σ := σ.set PL .tab) (τ := τ) (fr := σ.length) (by simp)
  have hset : ∀ v, setA C "read" v (.ref (σ.length + 4)) (σ.set PL .tab ++ [.ns 7 [some (.str s), some (.ref (σ.length + 4))], .cell (some (.ref (σ.length + 2))), .list (strItems s), .attrs (aA .none (.ref (σ.length + 6))), .inst C (σ.length + 3), .ns 3 [some (.ref (σ.length + 4)), some .none], .list [], .code sp.qual, .fn sp (σ.length + 7) [("signs", σ.length + 1)]])
      = some ((), σ.set PL .tab ++ [.ns 7 [some (.str s), some (.ref (σ.length + 4))], .cell (some (.ref (σ.length + 2))), .list (strItems s), .attrs (storeA "read" v (aA .none (.ref (σ.length + 6)))), .inst C (σ.length + 3), .ns 3 [some (.ref (σ.length + 4)), some .none], .list [], .code sp.qual, .fn sp (σ.length + 7) [("signs", σ.length + 1)]]) := fun v => by
    have hlen : (σ.set PL AO.tab).length = σ.length := List.length_set ..
    rw [setA_gen (x := σ.length + 4) (d := σ.length + 3) (es := aA .none (.ref (σ.length + 6))) (by rw [← hlen, get_at]; rfl) (by rw [← hlen, get_at]; rfl), show Nat.ble (aA .none (.ref (σ.length + 6))).length 100 = true from rfl]
    simp only [← hlen, set_at]
    simp
  unfold P_file fileO
  simp only [pure_ap, guard_ap, seqM_ap, nextM_ap, asgM_ap, asg2M_ap, augM_ap, retM_ap, exprM_ap, ifM_ap, iteM_ap, binM_ap, cmpM_ap, truM_ap, notM_ap, negM_ap, andM_ap, orM_ap, orVM_ap, idxM_ap, slcM_ap, callM_ap, consM_ap, methM_ap, listM_ap, tupM_ap, asgSubM_ap, asgTupM_ap, asgSwapM_ap, storesM_cons, storesM_nil, slot_at, put_at, tru_bool, tru_int, tru_none, tru_str, eqP_str, eqP_int, eqP_none, neP_str, neP_bytes, neP_int, ltP_int, leP_int, gtP_int, geP_int, addP_int, addP_str, addP_bytes, subP_int, iaddP_int, isubP_int, iaddP_str, lowerF_ap, selStr_ap, intF_ap, absF_ap, lenF_str, divmodF_ap, minF_ap, maxF_ap, chrF_ap, ordF_ap, slice_str, slice_bytes, part_int, part_none', idx_str, forM_ap, itM_ap, itV_str, itV_bytes, rangeIt_ap, List.getElem?_cons_zero, List.getElem?_cons_succ, List.set_cons_zero, List.set_cons_succ, List.length_cons, List.length_nil, Nat.zero_add, Nat.reduceAdd, List.cons_append, List.nil_append, hl, putc_at, List.length_append, List.append_assoc, hm, asgAttrM_ap, hlam, S, hset, e5]
theorem x_line {PL : Nat} {PT : Addr} {s : List Nat} {n : Nat} (hT : σ[PL]? = some (.raw PT (tabObj #[]))) (hs : s.length ≤ 900) (hn : σ.length = n) {σ' : List AO} (hσ : (σ.set PL .tab ++ fileO C sp n s) ++ [.attrs (aA (.ref (n + 4)) (.ref (n + 12))), .inst C (n + 9), .ns 3 [some (.ref (n + 10)), some (.ref (n + 4))], .list []] = σ') :
    (match fileG C PL PT sp [.str s] σ with | some (v, ρ) => makeF C (initG C) [v] ρ | none => none) = some (.ref (n + 10), σ') ∧ LexInv C sp ⟨n + 10, n + 9, n + 4, n + 3, n + 8, n + 7, n + 1, n + 2, n + 12⟩ σ' 1 s [] := by
  subst hσ; subst hn
  have hlen : (σ.set PL AO.tab).length = σ.length := List.length_set ..
  have hl2 : (σ.set PL AO.tab ++ fileO C sp σ.length s).length = σ.length + 9 := by simp [fileO]
  refine ⟨?_, ?_⟩
  · rw [x_file hT (okSz_of (by omega))]
    simp only [x_make, hl2]
  · have G : ∀ j, ((σ.set PL .tab ++ fileO C sp σ.length s) ++ [.attrs (aA (.ref (σ.length + 4)) (.ref (σ.length + 12))), .inst C (σ.length + 9), .ns 3 [some (.ref (σ.length + 10)), some (.ref (σ.length + 4))], .list []])[σ.length + j]? = (fileO C sp σ.length s ++ [.attrs (aA (.ref (σ.length + 4)) (.ref (σ.length + 12))), .inst C (σ.length + 9), .ns 3 [some (.ref (σ.length + 10)), some (.ref (σ.length + 4))], .list []])[j]? := fun j => by
      rw [List.append_assoc, ← hlen, get_at]
    exact ⟨G 10, G 9, G 4, ⟨_, G 3, by kernel_rfl⟩, G 8, G 7, G 1, G 2, G 12, by simp, by simp, hs, by simp⟩
end
end Mine
end
section
namespace Mine
open PySem PySem.W
section
variable {ρ : List AO} {k : Nat} {live : Live} {T : Nat → St Bool} {E : Nat → St AV} {t : AV → Bool} {f : AV → AV}
theorem pushL_at (xs : List AV) (c : Option AV) (y : AV) (hz : okSz xs.length = true) : pushL ρ.length y (ρ ++ [.list xs, .ns k [c]]) = some ((), ρ ++ [.list (xs ++ [y]), .ns k [c]]) := by
  have hg : getList ρ.length (ρ ++ [.list xs, .ns k [c]]) = some xs := by unfold getList; rw [get_at0]; rfl
  unfold pushL
  simp only [hg]
  rw [guard_ap, hz]
  simp only [set_at0]; rfl
theorem putk_at (xs : List AV) (c : Option AV) (v : AV) : putM (ρ.length + 1) k 0 v (ρ ++ [.list xs, .ns k [c]]) = some ((), ρ ++ [.list xs, .ns k [some v]]) := by
  have := put_atE (σ := ρ ++ [.list xs]) (τ := []) (fr := ρ.length + 1) (by simp) k 0 v [c]
  simpa using this
theorem compL_gen (hlive : ∀ τ, live (ρ ++ τ)) : ∀ (vs : List AV) (xs : List AV) (c : Option AV), xs.length + vs.length ≤ 1000 →
    (∀ v ∈ vs, ∀ ys, T (ρ.length + 1) (ρ ++ [.list ys, .ns k [some v]]) = some (t v, ρ ++ [.list ys, .ns k [some v]]) ∧ (t v = true → E (ρ.length + 1) (ρ ++ [.list ys, .ns k [some v]]) = some (f v, ρ ++ [.list ys, .ns k [some v]]))) →
    ∃ c', compL live (putM (ρ.length + 1) k 0) (T (ρ.length + 1)) (E (ρ.length + 1)) ρ.length vs (ρ ++ [.list xs, .ns k [c]]) = some ((), ρ ++ [.list (xs ++ (vs.filter t).map f), .ns k [c']])
  | [], xs, c, _, _ => ⟨c, by unfold compL; rw [onlyIf_pos (hlive _)]; simp [St.pure]⟩
  | v :: vs, xs, c, hl, h => by
    obtain ⟨h1, h2⟩ := h v List.mem_cons_self xs
    simp only [List.length_cons] at hl
    cases ht : t v with
    | true =>
      obtain ⟨c', e⟩ := compL_gen hlive vs (xs ++ [f v]) (some v) (by simp; omega) fun w hw => h w (List.mem_cons_of_mem _ hw)
      refine ⟨c', ?_⟩
      unfold compL
      rw [onlyIf_pos (hlive _), bind_ap, putk_at]
      simp only [bind_ap, h1, ht, h2 ht, pushL_at xs (some v) (f v) (okSz_of (by omega)), e, List.filter_cons_of_pos ht, List.map_cons, List.append_assoc, List.cons_append, List.nil_append]
    | false =>
      obtain ⟨c', e⟩ := compL_gen hlive vs xs (some v) (by omega) fun w hw => h w (List.mem_cons_of_mem _ hw)
      refine ⟨c', ?_⟩
      unfold compL
      rw [onlyIf_pos (hlive _), bind_ap, putk_at]
      simp only [bind_ap, h1, ht, e, List.filter_cons_of_neg (show ¬t v = true from by rw [ht]; nofun)]
theorem compR_gen (hlive : ∀ τ, live (ρ ++ τ)) (vs : List AV) (hl : vs.length ≤ 1000)
    (h : ∀ v ∈ vs, ∀ ys, T (ρ.length + 1) (ρ ++ [.list ys, .ns k [some v]]) = some (t v, ρ ++ [.list ys, .ns k [some v]]) ∧ (t v = true → E (ρ.length + 1) (ρ ++ [.list ys, .ns k [some v]]) = some (f v, ρ ++ [.list ys, .ns k [some v]])))
    (hb : ∀ v ∈ vs, t v = true → (f v).below (ρ.length + 1)) : compR k 1 (fun f2 => putM f2 k 0) T E vs live ρ = some (.ref ρ.length, ρ ++ [.list ((vs.filter t).map f)]) := by
  obtain ⟨c', e⟩ := compL_gen (f := f) hlive vs [] none (by simpa using hl) h
  unfold compR
  rw [show List.replicate 1 (none : Option AV) = [none] from rfl, e]
  simp only []
  rw [onlyIf_pos]
  · rw [show ρ ++ [AO.list ([] ++ (vs.filter t).map f), AO.ns k [c']] = (ρ ++ [AO.list ((vs.filter t).map f)]) ++ [AO.ns k [c']] from by simp, List.take_left' (by simp)]
  · refine ⟨by simp, ⟨k, [c'], by rw [get_at]; rfl⟩, fun i o hi e => ?_⟩
    by_cases h1 : i < ρ.length
    · rw [List.getElem?_append_left h1] at e; exact .inl e
    · have : i = ρ.length := by omega
      subst this
      rw [get_at0] at e
      cases e
      right
      intro x hx
      simp only [List.nil_append] at hx
      obtain ⟨w, hw, rfl⟩ := List.mem_map.mp hx
      obtain ⟨w1, w2⟩ := List.mem_filter.mp hw
      exact hb w w1 w2
theorem compM_ap (I : St (List AV × Live)) (m : Nat) (W : Nat → AV → St Unit) : compM I k m W T E ρ = (match I ρ with | some (p, ρ') => compR k m W T E p.1 p.2 ρ' | none => none) := by
  unfold compM; rw [bind_ap]
  rcases I ρ with _ | ⟨p, ρ'⟩ <;> rfl
theorem comp_map (hlive : ∀ τ, live (ρ ++ τ)) (vs : List AV) (hl : vs.length ≤ 1000) (h : ∀ v ∈ vs, ∀ ys, E (ρ.length + 1) (ρ ++ [.list ys, .ns k [some v]]) = some (f v, ρ ++ [.list ys, .ns k [some v]]))
    (hb : ∀ v ∈ vs, (f v).below (ρ.length + 1)) : compR k 1 (fun f2 => putM f2 k 0) (fun _ => St.pure true) E vs live ρ = some (.ref ρ.length, ρ ++ [.list (vs.map f)]) := by
  have := compR_gen (T := fun _ => St.pure true) (E := E) (k := k) (t := fun _ => true) (f := f) hlive vs hl (fun v hv ys => ⟨rfl, fun _ => h v hv ys⟩) (fun v hv _ => hb v hv)
  rwa [List.filter_eq_self.mpr (fun _ _ => rfl)] at this
theorem slotk_at (xs : List AV) (v : AV) : slotM (ρ.length + 1) k 0 (ρ ++ [.list xs, .ns k [some v]]) = some (v, ρ ++ [.list xs, .ns k [some v]]) := by
  have := slot_atE (σ := ρ ++ [.list xs]) (τ := []) (fr := ρ.length + 1) (by simp) k 0 [some v]
  simpa using this
end
theorem apN_ok : ∀ (f n : Nat) (acc : List Nat), (∀ x ∈ acc, x < 128) → ∀ x ∈ apN f n acc, x < 128
  | 0, _, acc, h => h
  | f + 1, n, acc, h => by
    unfold apN
    cases n == 0 with
    | true => exact h
    | false =>
      refine apN_ok f _ _ ?_
      intro x hx
      rcases List.mem_cons.mp hx with rfl | hx
      · have := Nat.mod_lt n (show 16 > 0 by decide); omega
      · exact h x hx
theorem apN_len : ∀ (f n : Nat) (acc : List Nat), (apN f n acc).length ≤ f + acc.length
  | 0, _, acc => by simp [apN]
  | f + 1, n, acc => by
    unfold apN
    cases n == 0 with
    | true => simp
    | false => have := apN_len f (n / 16) ((65 + n % 16) :: acc); simp at this ⊢; omega
theorem strs_items : ∀ w : List Nat, strsOf (strItems w) = some (w.map fun x => [x])
  | [] => rfl
  | x :: w => by
    show strsOf (.str [x] :: strItems w) = _
    simp only [strsOf, strs_items w]; rfl
theorem flat_one : ∀ w : List Nat, (w.map fun x => [x]).flatten = w
  | [] => rfl
  | x :: w => by simp [flat_one w]
theorem join_at {σ : List AO} {l : Nat} {w : List Nat} (h : σ[l]? = some (.list (strItems w))) (hz : okSz w.length = true) : joinF [.str [], .ref l] σ = some (.str w, σ) := by
  have hg : getList l σ = some (strItems w) := by unfold getList; rw [h]
  unfold joinF
  simp only [hg, strs_items]
  rw [guard_ap, flat_one, hz]; rfl
theorem told_tail {ρ : List AO} {k : Nat} {n : Int} (hn : Nat.blt n.natAbs (16 ^ 100) = true) (P : St AV) (hP : P ρ = some (.int n, ρ)) :
    methM (St.pure (.str [])) selStr joinF (consM (compM (itM (callM apG (consM P (St.pure [])))) k 1 (fun f2 => (putM f2 k 0)) (fun f2 => (St.pure true)) (fun f2 => (callM chrF (consM (slotM f2 k 0) (St.pure []))))) (St.pure [])) ρ
      = some (.str (apB n.natAbs), ρ ++ [.list (strItems (apB n.natAbs))]) := by
  have h8 : ∀ x ∈ apB n.natAbs, x < 128 := apN_ok 100 n.natAbs [] (fun _ h => by cases h)
  have hl : (apB n.natAbs).length ≤ 100 := apN_len 100 n.natAbs []
  have ha : apG [.int n] ρ = some (.bytes (apB n.natAbs), ρ) := by show guardM _ _ _ = _; rw [guard_ap, hn]; rfl
  have hc := comp_map (ρ := ρ) (k := k) (live := always) (f := fun v => match v with | .int i => .str [i.toNat] | v => v) (E := fun f2 => (callM chrF (consM (slotM f2 k 0) (St.pure [])))) (fun _ => trivial) (bytesItems (apB n.natAbs)) (by simp [bytesItems]; omega)
    (fun v hv ys => by
      obtain ⟨x, hx, rfl⟩ := List.mem_map.mp hv
      have := h8 x hx
      have h1 : (decide (0 ≤ (x : Int)) && decide ((x : Int) ≤ 1114111)) = true := by simp; omega
      simp only [callM_ap, consM_ap, slotk_at, pure_ap, chrF_ap, h1]) (fun v hv => by obtain ⟨x, hx, rfl⟩ := List.mem_map.mp hv; trivial)
  have hm : (bytesItems (apB n.natAbs)).map (fun v => match v with | .int i => AV.str [i.toNat] | v => v) = strItems (apB n.natAbs) := by
    simp [bytesItems, strItems]
  rw [hm] at hc
  have hj := join_at (σ := ρ ++ [.list (strItems (apB n.natAbs))]) (l := ρ.length) (by rw [get_at0]; rfl) (okSz_of (by omega))
  simp only [methM_ap, pure_ap, selStr_ap, consM_ap, compM_ap, itM_ap, callM_ap, hP, ha, itV_bytes, hc, List.cons_append, List.nil_append, hj]
theorem forl_nil {live : Live} {σ : List AO} (h : live σ) (W : AV → St Unit) (B : St AF) : forL live W B [] σ = some (.next, σ) := by
  unfold forL; rw [onlyIf_pos h]; rfl
theorem forl_cons {live : Live} {σ : List AO} (h : live σ) (W : AV → St Unit) (B : St AF) (v : AV) (vs : List AV) : forL live W B (v :: vs) σ = (match W v σ with
    | some (_, ρ) => (match B ρ with | some (.next, ρ') => forL live W B vs ρ' | some (.cont, ρ') => forL live W B vs ρ' | some (.brk, ρ') => some (.next, ρ') | some (.ret u, ρ') => some (.ret u, ρ') | none => none)
    | none => none) := by
  conv => lhs; unfold forL
  rw [onlyIf_pos h, bind_ap]; rcases W v σ with _ | ⟨b, ρ⟩
  · rfl
  · simp only [bind_ap]; rcases B ρ with _ | ⟨f, ρ'⟩
    · rfl
    · cases f <;> rfl
end Mine
end
section
namespace Mine
open PySem PySem.W
noncomputable def natsOf : List AV → Option (List Nat)
  | [] => some []
  | .int (.ofNat n) :: r => match natsOf r with
    | some l => some (n :: l)
    | none => none
  | _ :: _ => none
set_option tactic.hygienic true in
theorem natsOf_some : ∀ {xs : List AV} {ns : List Nat}, natsOf xs = some ns → xs = ns.map ai
  | [], ns, h => by simp [natsOf] at h; subst h; rfl
  | x :: xs, ns, h => by
    unfold natsOf at h
    split at h
    · rename_i h0; cases h0
    · rename_i n r h0
      cases h0
      split at h
      · rename_i l e
        cases h
        rw [natsOf_some e]; rfl
      · cases h
    · cases h
theorem natsOf_map : ∀ ns : List Nat, natsOf (ns.map ai) = some ns
  | [] => rfl
  | n :: ns => by
    show natsOf (.int (.ofNat n) :: ns.map ai) = _
    simp only [natsOf, natsOf_map ns]
theorem mul_lit {σ : List AO} (a b : Nat) (h : small64 (b : Int) = true) : mulP (.int a) (.int b) σ = some (.int ((a * b : Nat) : Int), σ) := by
  rw [mulP_int, h]; rfl
theorem lenF_list {σ : List AO} {l : Nat} {xs : List AV} (h : σ[l]? = some (.list xs)) (hz : okSz xs.length = true) : lenF [.ref l] σ = some (.int (xs.length : Nat), σ) := by
  unfold lenF
  simp only [h]
  rw [guard_ap, hz]; rfl
noncomputable def tB (bs : List Bool) : AV → Bool
  | .int (.ofNat k) => bs.getD k false
  | _ => false
noncomputable def fW (ws : List Nat) : AV → AV
  | .int (.ofNat k) => ai (ws.getD k 0)
  | _ => .none
noncomputable def picked (bs : List Bool) (ws : List Nat) (ks : List Nat) : List Nat := (ks.filter fun k => bs.getD k false).map fun k => ws.getD k 0
theorem picked_eq (bs : List Bool) (ws : List Nat) : ∀ ks : List Nat, ((ks.map ai).filter (tB bs)).map (fW ws) = (picked bs ws ks).map ai
  | [] => rfl
  | k :: ks => by
    have ih := picked_eq bs ws ks
    unfold picked at ih ⊢
    rw [List.map_cons]
    cases hb : bs.getD k false with
    | true => rw [List.filter_cons_of_pos (show tB bs (ai k) = true from hb), List.filter_cons_of_pos (by simpa using hb), List.map_cons, List.map_cons, List.map_cons, ih]; rfl
    | false => rw [List.filter_cons_of_neg (show ¬tB bs (ai k) = true from by show ¬bs.getD k false = true; rw [hb]; nofun), List.filter_cons_of_neg (by rw [hb]; nofun), ih]
theorem sum_ai : ∀ ns : List Nat, sumI (ns.map fun (n : Nat) => (n : Int)) = (ns.sum : Nat)
  | [] => rfl
  | n :: ns => by simp [sumI, sum_ai ns]
end Mine
end
section
namespace Mine
open PySem PySem.W
theorem pow_16 {σ : List AO} {k : Nat} (h : k ≤ 1000) : powP (.int 16) (.int (k : Int)) σ = some (.int ((16 ^ k : Nat) : Int), σ) := by
  show guardM _ _ _ = _
  rw [guard_ap, show (small64 16 && decide (0 ≤ (k : Int)) && Nat.ble (k : Int).natAbs 1000) = true from by rw [show small64 16 = true from by decide, decide_eq_true (by omega), Nat.ble_eq_true_of_le (by simpa using h)]; rfl]
  show some (AV.int (16 ^ (k : Int).natAbs), σ) = _
  rw [Int.natAbs_natCast, Int.natCast_pow]; rfl
theorem eq_list {σ : List AO} {l r : Nat} {xs ys : List AV} {b : Bool} (h1 : σ[l]? = some (.list xs)) (h2 : σ[r]? = some (.list ys)) (h : eqAll xs ys = some b) : eqP (.ref l) (.ref r) σ = some (.bool b, σ) := by
  have g1 : getList l σ = some xs := by unfold getList; rw [h1]
  have g2 : getList r σ = some ys := by unfold getList; rw [h2]
  unfold eqP eqV
  simp only [g1, g2, h]
end Mine
end
section
namespace Mine
open PySem PySem.W
section
variable {α β : Type} (eq : α → α → Bool)
noncomputable def eqW : List α → List α → Bool
  | [], [] => true
  | a :: l, b :: m => match eq a b with
    | true => eqW l m
    | false => false
  | [], _ :: _ => false
  | _ :: _, [] => false
noncomputable def memW (w : List α) : List (List α) → Bool
  | [] => false
  | x :: r => match eqW eq x w with
    | true => true
    | false => memW w r
noncomputable def insW (k : Nat) (c : α) (w : List α) : List α := w.take k ++ (c :: w.drop k)
noncomputable def exp1 (k : Nat) (c : α) (w : List α) (s : List (List α) × List (List α)) : List (List α) × List (List α) := match memW eq (insW k c w) s.1 with
  | true => s
  | false => (s.1 ++ [insW k c w], s.2 ++ [insW k c w])
noncomputable def expW (a b : α) (w : List α) : List Nat → List (List α) × List (List α) → List (List α) × List (List α)
  | [], s => s
  | k :: ks, s => expW a b w ks (exp1 eq k b w (exp1 eq k a w s))
noncomputable def grow (a b : α) (size : Nat) : Nat → List α → List (List α) → List (List α) → List (List α) → Option (List (List α) × List (List α))
  | 0, _, _, _, _ => none
  | f + 1, w, met, grown, pbs => match memW eq w met with
    | false => none
    | true => match w.length == size with
      | true => match pbs with
        | [] => some (grown ++ [w], met)
        | x :: p => grow a b size f x met (grown ++ [w]) p
      | false => match grown with
        | _ :: _ => none
        | [] => match expW eq a b w (List.range' 0 (w.length + 1)) (met, pbs) with
          | (met', pbs') => match pbs' with
            | [] => some ([], met')
            | x :: p => grow a b size f x met' [] p
end
end Mine
end
section
namespace Mine
open PySem PySem.W
theorem slice_to {α : Type} (xs : List α) (p : Nat) : sliceL xs none (some (p : Int)) = xs.take p := by
  show (xs.drop 0).take (min p xs.length - 0) = _
  rw [List.drop_zero, Nat.sub_zero, ← List.take_eq_take_min]
section
variable {α : Type} (eq : α → α → Bool)
end
theorem ne_list {σ : List AO} {l r : Nat} {xs ys : List AV} {b : Bool} (h1 : σ[l]? = some (.list xs)) (h2 : σ[r]? = some (.list ys)) (h : eqAll xs ys = some b) : neP (.ref l) (.ref r) σ = some (.bool (!b), σ) := by
  have g1 : getList l σ = some xs := by unfold getList; rw [h1]
  have g2 : getList r σ = some ys := by unfold getList; rw [h2]
  unfold neP neV
  simp only [g1, g2, h]
end Mine
end
section
namespace Mine
open PySem PySem.W
noncomputable def cntN (c : Nat) : List Nat → Nat
  | [] => 0
  | x :: r => (match x == c with | true => 1 | false => 0) + cntN c r
theorem cntN_cons (c x : Nat) (r : List Nat) : cntN c (x :: r) = (match x == c with | true => 1 | false => 0) + cntN c r := rfl
theorem occ_loop (s : List Nat) (c : Nat) : ∀ (n i : Nat) (found : Array Nat) (free : Nat), i + n = s.length + 1 → free ≤ i → found.size ≤ i →
    (forIn (List.range' i n) (found, free) (StrLaws.occBody ⟨s.toArray⟩ ⟨#[c]⟩ s.length (s.length + 1))).run.fst.size = found.size + cntN c (s.drop i)
  | 0, i, found, free, h, _, _ => by
    rw [List.drop_eq_nil_of_le (by omega)]
    rfl
  | n + 1, i, found, free, h, hf, hs => by
    rw [List.range'_succ, List.forIn_cons]
    have key := StrLaws.subAt_one ⟨s.toArray⟩ c i
    have hlen : (⟨s.toArray⟩ : Str).length = s.length := by show s.toArray.size = _; simp
    rw [hlen] at key
    unfold StrLaws.occBody
    by_cases hc : s[i]? = some c
    · have hi := (List.getElem?_eq_some_iff.mp hc).1
      have hd : s.drop i = c :: s.drop (i + 1) := by
        rw [List.drop_eq_getElem_cons hi]
        congr 1
        exact (List.getElem?_eq_some_iff.mp hc).2
      have k2 := key.mpr (by simpa using hc)
      rw [if_pos ⟨⟨⟨by simp only; omega, hf⟩, k2.1⟩, k2.2⟩]
      have ih := occ_loop s c n (i + 1) (found.push i) (i + (⟨#[c]⟩ : Str).length) (by omega) (Nat.le_refl _) (by simp; omega)
      rw [hd, cntN_cons, beq_self_eq_true]
      simp only [Array.size_push] at ih
      refine Eq.trans ih ?_
      show _ = found.size + (1 + _)
      omega
    · rw [if_neg (fun q => hc (by simpa using key.mp ⟨q.1.2, q.2⟩))]
      have ih := occ_loop s c n (i + 1) found free (by omega) (by omega) (by omega)
      refine Eq.trans ih ?_
      by_cases hi : i < s.length
      · have hd : s.drop i = s[i] :: s.drop (i + 1) := List.drop_eq_getElem_cons hi
        rw [hd]
        conv => rhs; unfold cntN
        have : (s[i] == c) = false := by
          rw [beq_eq_false_iff_ne]; intro q; exact hc (by rw [List.getElem?_eq_getElem hi, q])
        rw [this]; simp
      · rw [List.drop_eq_nil_of_le (by omega), List.drop_eq_nil_of_le (by omega)]
theorem strCount_one (s : List Nat) (c : Nat) : strCount s [c] = (cntN c s : Nat) := by
  unfold strCount
  rw [StrLaws.occ_eq, Array.length_toList]
  have := occ_loop s c (s.length + 1) 0 #[] 0 (by omega) (Nat.le_refl _) (Nat.le_refl _)
  rw [Nat.sub_zero]
  rw [show (⟨[c].toArray⟩ : Str) = ⟨#[c]⟩ from rfl, this]
  simp
theorem nl_cnt (x : Nat) (r : List Nat) : (cntN 10 (x :: r) : Int) = nl x + cntN 10 r := by
  unfold nl
  conv => lhs; unfold cntN
  cases x == 10 <;> simp
theorem quo_cnt : ∀ (n : Nat) (s t : List Nat) (ln ln' : Int) (w s' : List Nat), s.length ≤ n → quo s t ln = some (w, ln', s') → ln' + cntN 10 s' = ln + cntN 10 s
  | n, [], t, ln, ln', w, s', hn, h => by cases h
  | 0, x :: r, t, ln, ln', w, s', hn, h => by simp at hn
  | n + 1, x :: r, t, ln, ln', w, s', hn, h => by
    simp only [List.length_cons] at hn
    unfold quo at h
    rw [nl_cnt]
    cases h1 : x == 34 with
    | true => rw [h1] at h; cases h; omega
    | false =>
      rw [h1] at h
      simp only [] at h
      cases h2 : x == 92 with
      | true =>
        rw [h2] at h
        rcases r with _ | ⟨y, r⟩
        · cases h
        · have := quo_cnt n r _ _ _ _ _ (by simp at hn; omega) h
          rw [nl_cnt]; omega
      | false =>
        rw [h2] at h
        have := quo_cnt n r _ _ _ _ _ (by omega) h
        omega
theorem unq_cnt : ∀ (n : Nat) (s t : List Nat) (ln ln' : Int) (w s' : List Nat), s.length ≤ n → unq s t ln = some (w, ln', s') → ln' + cntN 10 s' = ln + cntN 10 s
  | n, [], t, ln, ln', w, s', hn, h => by cases h
  | 0, x :: r, t, ln, ln', w, s', hn, h => by simp at hn
  | n + 1, x :: r, t, ln, ln', w, s', hn, h => by
    simp only [List.length_cons] at hn
    unfold unq at h
    rw [nl_cnt]
    cases h1 : isWs x with
    | true => rw [h1] at h; cases h; omega
    | false =>
      rw [h1] at h
      simp only [] at h
      cases h2 : x == 92 with
      | true =>
        rw [h2] at h
        rcases r with _ | ⟨y, r⟩
        · cases h
        · have := unq_cnt n r _ _ _ _ _ (by simp at hn; omega) h
          rw [nl_cnt]; omega
      | false =>
        rw [h2] at h
        have := unq_cnt n r _ _ _ _ _ (by omega) h
        omega
theorem lex_cnt : ∀ (s : List Nat) (ln ln' : Int) (w s' : List Nat), lexW s ln = some (w, ln', s') → ln' + cntN 10 s' = ln + cntN 10 s
  | [], ln, ln', w, s', h => by cases h; rfl
  | x :: r, ln, ln', w, s', h => by
    unfold lexW at h
    rw [nl_cnt]
    cases h0 : isWs x with
    | true =>
      rw [h0] at h
      have := lex_cnt r _ _ _ _ h
      omega
    | false =>
      rw [h0] at h
      simp only [] at h
      cases h1 : x == 34 with
      | true =>
        rw [h1] at h
        have := quo_cnt _ _ _ _ _ _ _ (Nat.le_refl _) h
        omega
      | false =>
        rw [h1] at h
        simp only [] at h
        cases h2 : x == 92 with
        | true =>
          rw [h2] at h
          rcases r with _ | ⟨y, r⟩
          · cases h
          · have := unq_cnt _ _ _ _ _ _ _ (Nat.le_refl _) h
            rw [nl_cnt]; omega
        | false =>
          rw [h2] at h
          have := unq_cnt _ _ _ _ _ _ _ (Nat.le_refl _) h
          omega
noncomputable def okL (c : Nat) : Bool := match isWs c with
  | true => false
  | false => match c == 34 with
    | true => false
    | false => !(c == 92)
theorem okL_iff {c : Nat} (h : okL c = true) : isWs c = false ∧ (c == 34) = false ∧ (c == 92) = false := by
  unfold okL at h
  cases h1 : isWs c with
  | true => rw [h1] at h; cases h
  | false =>
    rw [h1] at h
    simp only [] at h
    cases h2 : c == 34 with
    | true => rw [h2] at h; cases h
    | false =>
      rw [h2] at h
      cases h3 : c == 92 with
      | true => rw [h3] at h; cases h
      | false => exact ⟨rfl, rfl, rfl⟩
theorem quo_esc : ∀ (w : List Nat) (d : Nat) (t r : List Nat) (ln : Int), (∀ c ∈ w, okL c = true) → ∃ ln', quo (esc w d ++ 34 :: r) t ln = some (t ++ w, ln', r)
  | [], d, t, r, ln, h => ⟨_, by unfold esc; rw [List.nil_append, List.append_nil]; rfl⟩
  | c :: w, d, t, r, ln, h => by
    obtain ⟨h1, h2, h3⟩ := okL_iff (h c List.mem_cons_self)
    unfold esc
    cases d % 2 == 1 with
    | true =>
      obtain ⟨ln', e⟩ := quo_esc w (d / 2) (t ++ [c]) r (ln + nl 92 + nl c) fun x hx => h x (List.mem_cons_of_mem _ hx)
      refine ⟨ln', ?_⟩
      simp only [List.cons_append]
      unfold quo
      simp only [show ((92 : Nat) == 34) = false from rfl, show ((92 : Nat) == 92) = true from rfl]
      rw [e]; simp
    | false =>
      obtain ⟨ln', e⟩ := quo_esc w (d / 2) (t ++ [c]) r (ln + nl c) fun x hx => h x (List.mem_cons_of_mem _ hx)
      refine ⟨ln', ?_⟩
      simp only [List.cons_append]
      unfold quo
      simp only [h2, h3]
      rw [e]; simp
theorem unq_esc {b : Nat} (hb : isWs b = true) : ∀ (w : List Nat) (d : Nat) (t r : List Nat) (ln : Int), (∀ c ∈ w, okL c = true) → ∃ ln', unq (esc w d ++ b :: r) t ln = some (t ++ w, ln', r)
  | [], d, t, r, ln, h => ⟨ln + nl b, by unfold esc; rw [List.nil_append, List.append_nil]; unfold unq; rw [hb]⟩
  | c :: w, d, t, r, ln, h => by
    obtain ⟨h1, h2, h3⟩ := okL_iff (h c List.mem_cons_self)
    unfold esc
    cases d % 2 == 1 with
    | true =>
      obtain ⟨ln', e⟩ := unq_esc hb w (d / 2) (t ++ [c]) r (ln + nl 92 + nl c) fun x hx => h x (List.mem_cons_of_mem _ hx)
      refine ⟨ln', ?_⟩
      simp only [List.cons_append]
      unfold unq
      simp only [show isWs 92 = false from rfl, show ((92 : Nat) == 92) = true from rfl]
      rw [e]; simp
    | false =>
      obtain ⟨ln', e⟩ := unq_esc hb w (d / 2) (t ++ [c]) r (ln + nl c) fun x hx => h x (List.mem_cons_of_mem _ hx)
      refine ⟨ln', ?_⟩
      simp only [List.cons_append]
      unfold unq
      simp only [h1, h3]
      rw [e]; simp
theorem blank_ws (d : Nat) : isWs (blankOf d) = true := by
  unfold blankOf
  split <;> rfl
theorem lex_written {w : List Nat} (hw : w ≠ []) (h : ∀ c ∈ w, okL c = true) (d : Nat) (r : List Nat) (ln : Int) : ∃ ln' s', lexW (written w d ++ r) ln = some (w, ln', s') ∧ (s' = r ∨ s' = blankOf d :: r) := by
  unfold written quoteOf
  cases d % 2 == 1 with
  | true =>
    obtain ⟨ln', e⟩ := quo_esc w (d / 8) [] (blankOf d :: r) (ln + nl 34) h
    refine ⟨ln', _, ?_, .inr rfl⟩
    simp only [List.cons_append, List.nil_append, List.append_assoc]
    unfold lexW
    simp only [show isWs 34 = false from rfl, show ((34 : Nat) == 34) = true from rfl]
    rw [e]; rfl
  | false =>
    rcases w with _ | ⟨c, w⟩
    · exact absurd rfl hw
    obtain ⟨h1, h2, h3⟩ := okL_iff (h c List.mem_cons_self)
    simp only [List.nil_append, List.append_assoc, List.cons_append]
    unfold esc
    cases d / 8 % 2 == 1 with
    | true =>
      obtain ⟨ln', e⟩ := unq_esc (blank_ws d) w (d / 8 / 2) [c] r (ln + nl 92 + nl c) fun x hx => h x (List.mem_cons_of_mem _ hx)
      refine ⟨ln', _, ?_, .inl rfl⟩
      simp only [List.cons_append]
      unfold lexW
      simp only [show isWs 92 = false from rfl, show ((92 : Nat) == 34) = false from rfl, show ((92 : Nat) == 92) = true from rfl]
      rw [e]; rfl
    | false =>
      obtain ⟨ln', e⟩ := unq_esc (blank_ws d) w (d / 8 / 2) [c] r (ln + nl c) fun x hx => h x (List.mem_cons_of_mem _ hx)
      refine ⟨ln', _, ?_, .inl rfl⟩
      simp only [List.cons_append]
      unfold lexW
      simp only [h1, h2, h3]
      rw [e]; rfl
theorem written_len (w : List Nat) (d : Nat) : (written w d).length ≤ 2 * w.length + 3 := by
  have h1 := esc_len w (d / 8)
  have h2 : (quoteOf d).length ≤ 1 := by unfold quoteOf; cases d % 2 == 1 <;> simp
  unfold written
  simp only [List.length_append, List.length_cons, List.length_nil]; omega
end Mine
end
section
namespace Mine
open PySem PySem.W
section
variable {α β : Type} {eq : α → α → Bool} {eq' : β → β → Bool} {sub : α → α → Nat} {sub' : β → β → Nat} {f : α → β} (hf : ∀ x y, eq' (f x) (f y) = eq x y) (hs : ∀ x y, sub' (f x) (f y) = sub x y)
include hf in
include hf in
noncomputable def mp (f : α → β) (s : List (List α) × List (List α)) : List (List β) × List (List β) := (s.1.map (List.map f), s.2.map (List.map f))
include hf in
include hf in
include hf in
include hf in
include hs in
include hs in
include hs in
include hs in
include hf hs in
end
noncomputable def lf (lo hi : Nat) (b : Bool) : Nat := 65 + (match b with | true => hi | false => lo)
theorem low_up {n : Nat} (h : n ≤ 15) : lowA (65 + n) = 97 + n := by
  unfold lowA
  rw [show Nat.ble 65 (65 + n) = true from Nat.ble_eq_true_of_le (by omega), show Nat.ble (65 + n) 90 = true from Nat.ble_eq_true_of_le (by omega)]
  simp only [Bool.and_true]; omega
theorem subN_up {a b : Nat} (ha : a ≤ 15) (hb : b ≤ 15) : subN (65 + a) (65 + b) = (match a == b with | true => 0 | false => 2) := by
  unfold subN
  rw [low_up ha, low_up hb]
  have h1 : (65 + a == 65 + b) = (a == b) := by rw [Bool.eq_iff_iff]; simp
  have h2 : (97 + a == 97 + b) = (a == b) := by rw [Bool.eq_iff_iff]; simp
  rw [h1, h2]
  cases a == b <;> rfl
end Mine
end
section
namespace Mine
open PySem PySem.W
section
variable {α : Type} (eq : α → α → Bool) (sub : α → α → Nat)
noncomputable def stepOf (w : List α) : List (List α × Nat) → Option Nat
  | [] => none
  | e :: r => match eqW eq e.1 w with
    | true => some e.2
    | false => stepOf w r
end
noncomputable def eqL : List Nat → List Nat → Bool
  | [], [] => true
  | x :: a, y :: b => match x == y with
    | true => eqL a b
    | false => false
  | [], _ :: _ => false
  | _ :: _, [] => false
end Mine
end
section
namespace Mine
open PySem PySem.W
section
variable {α β : Type} {eq : α → α → Bool} {eq' : β → β → Bool} {sub : α → α → Nat} {sub' : β → β → Nat} {f : α → β} (hf : ∀ x y, eq' (f x) (f y) = eq x y) (hs : ∀ x y, sub' (f x) (f y) = sub x y)
include hf in
include hf in
include hf in
include hf in
include hf hs in
end
end Mine
end
section
namespace Mine
open PySem PySem.W
theorem eqL_eq : ∀ {a b : List Nat}, eqL a b = true → a = b
  | [], [], _ => rfl
  | [], _ :: _, h => by cases h
  | _ :: _, [], h => by cases h
  | x :: a, y :: b, h => by
    unfold eqL at h
    cases e : x == y with
    | false => rw [e] at h; cases h
    | true => rw [e] at h; rw [eqL_eq h, beq_iff_eq.mp e]
theorem ints_nat : ∀ l : List Nat, intsOf (l.map ai) = some (l.map fun (n : Nat) => (n : Int))
  | [] => rfl
  | x :: r => by
    show (match intsOf (r.map ai) with | some l => some (((x : Nat) : Int) :: l) | none => none) = _
    rw [ints_nat r]; rfl
theorem rangeI_ab (a b : Nat) : (rangeI (a : Int) (b : Int) 1).map AV.int = (List.range' a (b - a)).map ai := by
  unfold rangeI
  have h : (Builtin.Range.rangeSize (a : Int) (b : Int) 1).toNat = b - a := by
    unfold Builtin.Range.rangeSize
    simp only [show (1 : Int) > 0 by decide, if_true]
    split <;> omega
  rw [h, List.map_map, List.range_eq_range', List.range'_eq_map_range, List.range'_eq_map_range, List.map_map, List.map_map]
  exact List.map_congr_left fun i _ => by show AV.int ((a : Int) + ((0 + i : Nat) : Int) * 1) = AV.int ((a + i : Nat) : Int); congr 1; omega
theorem rangeArgs_ab {a b : Nat} (h1 : a ≤ 1000) (h : b ≤ 1000) : rangeArgs [.int (a : Int), .int (b : Int)] = some ((a : Int), (b : Int), 1) := by
  have hs : smallI (a : Int) = true := Nat.ble_eq_true_of_le (by show a ≤ _; omega)
  have ht : smallI (b : Int) = true := Nat.ble_eq_true_of_le (by show b ≤ _; omega)
  simp only [rangeArgs, hs, ht]; rfl
end Mine
end
section
namespace Mine
open PySem PySem.W
theorem isnt_int {σ : List AO} : isntP (.val (.type "int")) (.val (.type "int")) σ = some (.bool false, σ) := by kernel_rfl
theorem typeF_int {σ : List AO} (i : Int) : typeF [.int i] σ = some (.val (.type "int"), σ) := rfl
end Mine
end
section
namespace Mine
open PySem PySem.W
theorem seq_next {P Q : St AF} {σ ρ : List AO} (h : P σ = some (.next, ρ)) : seqM P Q σ = Q ρ := by rw [seqM_ap, h]
section
variable {ρ : List AO} {k : Nat} {E : Nat → St AV} {f : AV → AV}
theorem pushL_junk (xs J : List AV) (c : Option AV) (y : AV) (T : List AO) (hz : okSz xs.length = true) : pushL ρ.length y (ρ ++ .list xs :: .ns k [c] :: T) = some ((), ρ ++ .list (xs ++ [y]) :: .ns k [c] :: T) := by
  have hg : getList ρ.length (ρ ++ .list xs :: .ns k [c] :: T) = some xs := by unfold getList; rw [get_at0]; rfl
  unfold pushL
  simp only [hg]
  rw [guard_ap, hz]
  simp only [set_at0]; rfl
theorem putk_junk (xs : List AV) (c : Option AV) (v : AV) (T : List AO) : putM (ρ.length + 1) k 0 v (ρ ++ .list xs :: .ns k [c] :: T) = some ((), ρ ++ .list xs :: .ns k [some v] :: T) := by
  have := put_atE (σ := ρ ++ [.list xs]) (τ := T) (fr := ρ.length + 1) (by simp) k 0 v [c]
  simpa using this
theorem slotk_junk (xs : List AV) (v : AV) (T : List AO) : slotM (ρ.length + 1) k 0 (ρ ++ .list xs :: .ns k [some v] :: T) = some (v, ρ ++ .list xs :: .ns k [some v] :: T) := by
  have := slot_atE (σ := ρ ++ [.list xs]) (τ := T) (fr := ρ.length + 1) (by simp) k 0 [some v]
  simpa using this
theorem compL_junk : ∀ (vs : List AV) (xs : List AV) (c : Option AV) (T : List AO), xs.length + vs.length ≤ 1000 →
    (∀ v ∈ vs, ∀ ys T, ∃ T', E (ρ.length + 1) (ρ ++ .list ys :: .ns k [some v] :: T) = some (f v, ρ ++ .list ys :: .ns k [some v] :: T')) →
    ∃ c' T', compL always (putM (ρ.length + 1) k 0) (St.pure true) (E (ρ.length + 1)) ρ.length vs (ρ ++ .list xs :: .ns k [c] :: T) = some ((), ρ ++ .list (xs ++ vs.map f) :: .ns k [c'] :: T')
  | [], xs, c, T, _, _ => ⟨c, T, by unfold compL; rw [onlyIf_pos (by trivial)]; simp [St.pure]⟩
  | v :: vs, xs, c, T, hl, h => by
    simp only [List.length_cons] at hl
    obtain ⟨T1, e1⟩ := h v List.mem_cons_self xs T
    obtain ⟨c', T', e⟩ := compL_junk vs (xs ++ [f v]) (some v) T1 (by simp; omega) fun w hw => h w (List.mem_cons_of_mem _ hw)
    refine ⟨c', T', ?_⟩
    unfold compL
    rw [onlyIf_pos (by trivial), bind_ap, putk_junk]
    simp only [bind_ap, pure_ap, e1, pushL_junk xs [] (some v) (f v) T1 (okSz_of (by omega)), e, List.map_cons, List.append_assoc, List.cons_append, List.nil_append]
theorem compR_junk (vs : List AV) (hl : vs.length ≤ 1000) (h : ∀ v ∈ vs, ∀ ys T, ∃ T', E (ρ.length + 1) (ρ ++ .list ys :: .ns k [some v] :: T) = some (f v, ρ ++ .list ys :: .ns k [some v] :: T')) (hb : ∀ v ∈ vs, (f v).below (ρ.length + 1)) :
    compR k 1 (fun f2 => putM f2 k 0) (fun _ => St.pure true) E vs always ρ = some (.ref ρ.length, ρ ++ [.list (vs.map f)]) := by
  obtain ⟨c', T', e⟩ := compL_junk (f := f) vs [] none [] (by simpa using hl) h
  unfold compR
  rw [show List.replicate 1 (none : Option AV) = [none] from rfl, e]
  simp only []
  rw [onlyIf_pos]
  · rw [show ρ ++ .list ([] ++ vs.map f) :: .ns k [c'] :: T' = (ρ ++ [AO.list (vs.map f)]) ++ .ns k [c'] :: T' from by simp, List.take_left' (by simp)]
  · refine ⟨by simp, ⟨k, [c'], by rw [get_at]; rfl⟩, fun i o hi e => ?_⟩
    by_cases h1 : i < ρ.length
    · rw [List.getElem?_append_left h1] at e; exact .inl e
    · have : i = ρ.length := by omega
      subst this
      rw [get_at0] at e
      cases e
      right
      intro x hx
      simp only [List.nil_append] at hx
      obtain ⟨w, hw, rfl⟩ := List.mem_map.mp hx
      exact hb w hw
end
theorem ints_int : ∀ l : List Int, intsOf (l.map .int) = some l
  | [] => rfl
  | x :: l => by
    show intsOf (.int x :: l.map .int) = _
    simp only [intsOf, ints_int l]
theorem cells_comp {ρ : List AO} {kk cs cp ls n : Nat} {sa : Addr} {ns starts : List Int} {st md : Int} (h1 : ρ[cs]? = some (.cell (some (.ref ls)))) (h2 : ρ[ls]? = some (.list (starts.map .int))) (h3 : ρ[cp]? = some (.cell (some (.val (.ref sa))))) (hmd : 0 < md) (hn : n ≤ starts.length) (hs : starts.length ≤ 100) :
    ∃ cl : List Nat, cl.length = n ∧ (∀ c ∈ cl, (c : Int) < md) ∧ compR kk 1 (fun f2 => (putM f2 kk 0)) (fun f2 => (St.pure true)) (fun f2 => (binM modP (binM addP (idxM (cellM cs) (slotM f2 kk 0)) (callM sumF (consM (stepM sa ns (cellM cp) (slotM f2 kk 0) 60 st) (St.pure [])))) (St.pure (.int md)))) ((List.range' 0 n).map ai) always ρ = some (.ref ρ.length, ρ ++ [.list (cl.map ai)]) := by
  let val : Nat → Int := fun k => Int.fmod (starts.getD k 0 + sumI (pickI ns (some (k : Int)) (some 60) (some st))) md
  have hval : ∀ k, 0 ≤ val k ∧ val k < md := fun k => ⟨Int.fmod_nonneg_of_pos _ hmd, Int.fmod_lt_of_pos _ hmd⟩
  refine ⟨(List.range' 0 n).map fun k => (val k).toNat, by simp, fun c hc => ?_, ?_⟩
  · obtain ⟨k, _, rfl⟩ := List.mem_map.mp hc
    have := hval k; omega
  · have := compR_junk (ρ := ρ) (k := kk) (f := fun v => match v with | .int (.ofNat k) => .int (val k) | _ => .none) (E := fun f2 => (binM modP (binM addP (idxM (cellM cs) (slotM f2 kk 0)) (callM sumF (consM (stepM sa ns (cellM cp) (slotM f2 kk 0) 60 st) (St.pure [])))) (St.pure (.int md)))) ((List.range' 0 n).map ai) (by simp; omega)
      (fun v hv ys T => by
        obtain ⟨k, hk, rfl⟩ := List.mem_map.mp hv
        have hk' : k < starts.length := by simp [List.mem_range'] at hk; omega
        have c1 : ∀ o, cellM cs (ρ ++ o) = some (.ref ls, ρ ++ o) := fun o => by unfold cellM; rw [get_old h1]
        have c2 : ∀ o, cellM cp (ρ ++ o) = some (.val (.ref sa), ρ ++ o) := fun o => by unfold cellM; rw [get_old h3]
        have hga : getAt (starts.map AV.int) (k : Int) = some (.int (starts.getD k 0)) := by
          show (starts.map AV.int)[k]? = _
          rw [List.getElem?_map, List.getD_eq_getElem?_getD, List.getElem?_eq_getElem hk']; rfl
        have hix : idxP (.ref ls) (.int k) (ρ ++ .list ys :: .ns kk [some (ai k)] :: T) = some (.int (starts.getD k 0), ρ ++ .list ys :: .ns kk [some (ai k)] :: T) := by
          rw [idx_list _ _ _ (get_old h2), okSz_of (by simp; omega), hga]
        have hst : stepM sa ns (cellM cp) (slotM (ρ.length + 1) kk 0) 60 st (ρ ++ .list ys :: .ns kk [some (ai k)] :: T) = some (.ref (ρ ++ .list ys :: .ns kk [some (ai k)] :: T).length, (ρ ++ .list ys :: .ns kk [some (ai k)] :: T) ++ [.list ((pickI ns (some (k : Int)) (some 60) (some st)).map .int)]) := by
          unfold stepM
          rw [bind_ap, c2]
          simp only [beq_self_eq_true, bind_ap, slotk_junk, ai]
          rfl
        have hsum : sumF [.ref (ρ ++ .list ys :: .ns kk [some (ai k)] :: T).length] ((ρ ++ .list ys :: .ns kk [some (ai k)] :: T) ++ [.list ((pickI ns (some (k : Int)) (some 60) (some st)).map .int)]) = some (.int (sumI (pickI ns (some (k : Int)) (some 60) (some st))), (ρ ++ .list ys :: .ns kk [some (ai k)] :: T) ++ [.list ((pickI ns (some (k : Int)) (some 60) (some st)).map .int)]) := by
          have hg : getList (ρ ++ .list ys :: .ns kk [some (ai k)] :: T).length ((ρ ++ .list ys :: .ns kk [some (ai k)] :: T) ++ [.list ((pickI ns (some (k : Int)) (some 60) (some st)).map .int)]) = some ((pickI ns (some (k : Int)) (some 60) (some st)).map .int) := by unfold getList; rw [get_at0]; rfl
          unfold sumF
          simp only [hg, ints_int]
        refine ⟨T ++ [.list ((pickI ns (some (k : Int)) (some 60) (some st)).map .int)], ?_⟩
        show _ = some (AV.int (val k), _)
        have hmd' : (!(md == 0)) = true := by simp; omega
        simp only [ai, List.append_assoc, List.cons_append] at hix hst hsum ⊢
        simp only [binM_ap, idxM_ap, c1, slotk_junk, hix, callM_ap, consM_ap, hst, pure_ap, hsum, addP_int, modP_int, hmd', List.append_assoc, List.cons_append]; rfl)
      (fun v hv => by obtain ⟨k, hk, rfl⟩ := List.mem_map.mp hv; trivial)
    rw [this, List.map_map, List.map_map]
    congr 5
    refine List.map_congr_left fun k _ => ?_
    show AV.int (val k) = AV.int ((val k).toNat : Int)
    rw [Int.toNat_of_nonneg (hval k).1]
theorem writtenG_at {σ : List AO} {w : List Nat} {d : Nat} (h : w.length ≤ 100) : writtenG [.str w, .int (d : Int)] σ = some (.str (written w d), σ) := by
  show guardM _ _ _ = _
  rw [guard_ap, Nat.ble_eq_true_of_le h, decide_eq_true (by omega : (0 : Int) ≤ (d : Int))]; rfl
end Mine
end
section
set_option maxHeartbeats 4000000
namespace Mine
open PySem PySem.Spec PySem.Calls PyProof.Rows PySem.W
theorem sum_at {σ : List AO} {l : Nat} {ms : List Nat} (h : σ[l]? = some (.list (ms.map ai))) : sumF [.ref l] σ = some (.int (ms.sum : Nat), σ) := by
  have hg : getList l σ = some (ms.map ai) := by unfold getList; rw [h]
  unfold sumF
  simp only [hg, ints_nat, sum_ai]
theorem len_at {σ : List AO} {l : Nat} {ms : List Nat} (h : σ[l]? = some (.list (ms.map ai))) (hz : ms.length ≤ 1000) : lenF [.ref l] σ = some (.int (ms.length : Nat), σ) := by
  rw [lenF_list h (okSz_of (by simp; omega))]; simp
theorem idx_at {σ : List AO} {l k : Nat} {ms : List Nat} (h : σ[l]? = some (.list (ms.map ai))) (hz : ms.length ≤ 1000) (hk : k < ms.length) : idxP (.ref l) (.int (k : Int)) σ = some (.int (ms.getD k 0 : Nat), σ) := by
  have hg : getAt (ms.map ai) (k : Int) = some (ai (ms.getD k 0)) := by
    show (ms.map ai)[k]? = _
    rw [List.getElem?_map, List.getD_eq_getElem?_getD, List.getElem?_eq_getElem hk]; rfl
  rw [idx_list _ _ _ h, okSz_of (show (ms.map ai).length ≤ 1000000 by simp; omega), hg]; rfl
theorem list_of {σ : List AO} {l : Nat} {xs : List AV} {ms : List Nat} (h : getList l σ = some xs) (h2 : natsOf xs = some ms) : σ[l]? = some (.list (ms.map ai)) := by
  rw [getList_some h, natsOf_some h2]
noncomputable def num2 : List Nat → Nat → Nat
  | [], n => n
  | f :: r, n => num2 r (n * 16 + f)
noncomputable def toldG : List AV → St AV
  | [.ref l, .int sg] => fun σ => match getList l σ with
    | some xs => match natsOf xs with
      | some ms => guardM ((sg == 1 || sg == -1) && Nat.blt (num2 ms 1) (16 ^ 100)) (St.pure (.str (apB (num2 ms 1)))) σ
      | none => none
    | none => none
  | _ => St.fail
noncomputable def B_told (fr : Nat) : St AF := (asgM (binM addP (binM mulP (slotM fr 10 2) (St.pure (.int 16))) (slotM fr 10 3)) (putM fr 10 2))
noncomputable def P_told (fr : Nat) : St AF :=
  (seqM
  (asgM (St.pure (.int 1)) (putM fr 10 2))
  (seqM
  (forM (itM (slotM fr 10 0)) (putM fr 10 3) (B_told fr))
  (retM (methM (St.pure (.str [])) selStr joinF (consM (compM (itM (callM apG (consM (binM mulP (slotM fr 10 1) (slotM fr 10 2)) (St.pure [])))) 11 1 (fun f2 => (putM f2 11 0)) (fun f2 => (St.pure true)) (fun f2 => (callM chrF (consM (slotM f2 11 0) (St.pure []))))) (St.pure []))))))
theorem told_loop {σ : List AO} {l : Nat} {xs : List AV} {s0 s1 : Option AV} (h : σ[l]? = some (.list xs)) : ∀ (ms : List Nat) (n : Nat) (c : Option AV), ∃ c',
    forL (liveOf l xs) (putM σ.length 10 3) (B_told σ.length) (ms.map ai) (σ ++ [.ns 10 [s0, s1, some (ai n), c]]) = some (.next, σ ++ [.ns 10 [s0, s1, some (ai (num2 ms n)), c']])
  | [], n, c => ⟨c, forl_nil (get_old h) ..⟩
  | m :: ms, n, c => by
    obtain ⟨c', e⟩ := told_loop (s0 := s0) (s1 := s1) h ms (n * 16 + m) (some (ai m))
    refine ⟨c', ?_⟩
    rw [List.map_cons, forl_cons (get_old h)]
    have h16 := fun ρ => mul_lit (σ := ρ) n 16 (by decide)
    simp only [Int.cast_ofNat_Int] at h16
    unfold num2
    rw [← e]
    unfold B_told
    simp only [pure_ap, guard_ap, seqM_ap, nextM_ap, asgM_ap, asg2M_ap, augM_ap, retM_ap, exprM_ap, ifM_ap, iteM_ap, binM_ap, cmpM_ap, truM_ap, notM_ap, negM_ap, andM_ap, orM_ap, orVM_ap, idxM_ap, slcM_ap, callM_ap, consM_ap, methM_ap, listM_ap, tupM_ap, asgSubM_ap, asgTupM_ap, asgSwapM_ap, storesM_cons, storesM_nil, slot_at, put_at, tru_bool, tru_int, tru_none, tru_str, eqP_str, eqP_int, eqP_none, neP_str, neP_bytes, neP_int, ltP_int, leP_int, gtP_int, geP_int, addP_int, addP_str, addP_bytes, subP_int, iaddP_int, isubP_int, iaddP_str, lowerF_ap, selStr_ap, intF_ap, absF_ap, lenF_str, divmodF_ap, minF_ap, maxF_ap, chrF_ap, ordF_ap, slice_str, slice_bytes, part_int, part_none', idx_str, forM_ap, itM_ap, itV_str, itV_bytes, rangeIt_ap, List.getElem?_cons_zero, List.getElem?_cons_succ, List.set_cons_zero, List.set_cons_succ, List.length_cons, List.length_nil, Nat.zero_add, Nat.reduceAdd, List.cons_append, List.nil_append, ai, h16, addN]
theorem x_told {σ : List AO} {l : Nat} {sg : Int} {ms : List Nat} (h : σ[l]? = some (.list (ms.map ai))) (hs : sg = 1 ∨ sg = -1) (hn : num2 ms 1 < 16 ^ 100) :
    ∃ junk, P_told σ.length (σ ++ [.ns 10 [some (.ref l), some (.int sg), none, none]]) = some (.ret (.str (apB (num2 ms 1))), σ ++ junk) := by
  obtain ⟨c', e⟩ := told_loop (s0 := some (.ref l)) (s1 := some (.int sg)) h ms 1 none
  have hi' := itV_list (σ := σ ++ [.ns 10 [some (.ref l), some (.int sg), some (ai 1), none]]) l _ (get_old h)
  have hab : (sg * (num2 ms 1 : Nat)).natAbs = num2 ms 1 := by rcases hs with rfl | rfl <;> simp
  have hsm : small64 sg = true := by rcases hs with rfl | rfl <;> decide
  have ht := told_tail (k := 11) (n := sg * (num2 ms 1 : Nat)) (ρ := σ ++ [.ns 10 [some (.ref l), some (.int sg), some (ai (num2 ms 1)), c']]) (by rw [hab]; exact Nat.blt_eq.mpr hn) (binM mulP (slotM σ.length 10 1) (slotM σ.length 10 2))
    (by simp only [ai, binM_ap, slot_at, List.getElem?_cons_zero, List.getElem?_cons_succ, mulP_int, hsm, Bool.or_true])
  rw [hab] at ht
  refine ⟨[.ns 10 [some (.ref l), some (.int sg), some (ai (num2 ms 1)), c'], .list (strItems (apB (num2 ms 1)))], ?_⟩
  unfold P_told
  have h1 : ((1 : Nat) : Int) = 1 := rfl
  simp only [ai, h1] at e hi' ht ⊢
  simp only [seqM_ap, asgM_ap, pure_ap, nextM_ap, put_at, List.getElem?_cons_zero, List.getElem?_cons_succ, List.set_cons_zero, List.set_cons_succ, forM_ap, itM_ap, slot_at, hi']
  simp only [e, retM_ap, ht, List.append_assoc, List.cons_append, List.nil_append]
set_option tactic.hygienic true in
theorem m_told : ∀ args σ v σ', toldG args σ = some (v, σ') → ∃ v₁ σ₁, fnM ["row", "sign"] ["row", "sign", "number", "figure"] 10 [] P_told args σ = some (v₁, σ₁) ∧ Cut σ σ₁ v₁ v σ' := by
  intro args σ v σ' h
  unfold toldG at h
  split at h
  · rename_i l sg
    split at h
    · rename_i xs e
      split at h
      · rename_i ms e2
        obtain ⟨hg, h⟩ := guardM_some h
        cases h
        simp only [Bool.and_eq_true, Bool.or_eq_true, beq_iff_eq, Nat.blt_eq] at hg
        obtain ⟨junk, e3⟩ := x_told (list_of e e2) hg.1 hg.2
        exact ⟨_, _, fn_run (τ := [.ns 10 [some (.ref l), some (.int sg), none, none]]) (by kernel_rfl) rfl e3, .pure trivial⟩
      · cases h
    · cases h
  · cases h
noncomputable def lettersG : List AV → St AV
  | [.ref l] => fun σ => match getList l σ with
    | some xs => match natsOf xs with
      | some ms => guardM (Nat.ble ms.length 100 && ms.all (fun x => Nat.blt x 1000)) (St.pure (.str (66 :: ms.map (65 + ·)))) σ
      | none => none
    | none => none
  | _ => St.fail
noncomputable def P_letters (fr : Nat) : St AF :=
  (retM (binM addP (St.pure (.str [66])) (methM (St.pure (.str [])) selStr joinF (consM (compM (itM (slotM fr 14 0)) 15 1 (fun f2 => (putM f2 15 0)) (fun f2 => (St.pure true)) (fun f2 => (callM chrF (consM (binM addP (St.pure (.int 65)) (slotM f2 15 0)) (St.pure []))))) (St.pure [])))))
theorem x_letters {σ : List AO} {l : Nat} {ms : List Nat} (h : σ[l]? = some (.list (ms.map ai))) (hl : ms.length ≤ 100) (h3 : ∀ x ∈ ms, x < 1000) :
    ∃ junk, P_letters σ.length (σ ++ [.ns 14 [some (.ref l)]]) = some (.ret (.str (66 :: ms.map (65 + ·))), σ ++ junk) := by
  generalize hρ : σ ++ [AO.ns 14 [some (.ref l)]] = ρ
  have hl0 : ρ[l]? = some (.list (ms.map ai)) := by rw [← hρ]; exact get_old h
  have hc := comp_map (ρ := ρ) (k := 15) (live := liveOf l (ms.map ai)) (f := fun v => match v with | .int (.ofNat x) => .str [65 + x] | v => v) (E := fun f2 => (callM chrF (consM (binM addP (St.pure (.int 65)) (slotM f2 15 0)) (St.pure [])))) (fun q => get_old hl0) (ms.map ai) (by simp; omega)
    (fun v hv ys => by
      obtain ⟨x, hx, rfl⟩ := List.mem_map.mp hv
      have := h3 x hx
      have h1 : (decide (0 ≤ (65 : Int) + (x : Int)) && decide ((65 : Int) + (x : Int) ≤ 1114111)) = true := by simp; omega
      have h2 : ((65 : Int) + (x : Int)).toNat = 65 + x := by omega
      show _ = some (AV.str [65 + x], _)
      simp only [callM_ap, consM_ap, binM_ap, slotk_at, ai, pure_ap, addP_int, chrF_ap, h1, h2]) (fun v hv => by obtain ⟨x, hx, rfl⟩ := List.mem_map.mp hv; trivial)
  have hm : (ms.map ai).map (fun v => match v with | .int (.ofNat x) => AV.str [65 + x] | v => v) = strItems (ms.map (65 + ·)) := by
    unfold strItems
    rw [List.map_map, List.map_map]; rfl
  rw [hm] at hc
  have hj := join_at (σ := ρ ++ [.list (strItems (ms.map (65 + ·)))]) (l := ρ.length) (by rw [get_at0]; rfl) (okSz_of (by simp; omega))
  have hz : okSz (1 + (ms.map (65 + ·)).length) = true := okSz_of (by simp; omega)
  have hs : slotM σ.length 14 0 ρ = some (.ref l, ρ) := by
    rw [← hρ, slot_at]; rfl
  refine ⟨.ns 14 [some (.ref l)] :: [.list (strItems (ms.map (65 + ·)))], ?_⟩
  unfold P_letters
  simp only [retM_ap, binM_ap, pure_ap, methM_ap, selStr_ap, consM_ap, compM_ap, itM_ap, hs, itV_list _ _ hl0, hc, List.cons_append, List.nil_append, hj, addP_str, List.length_cons, List.length_nil, Nat.zero_add, hz]
  rw [← hρ, List.append_assoc]; rfl
set_option tactic.hygienic true in
theorem m_letters : ∀ args σ v σ', lettersG args σ = some (v, σ') → ∃ v₁ σ₁, fnM ["row"] ["row"] 14 [] P_letters args σ = some (v₁, σ₁) ∧ Cut σ σ₁ v₁ v σ' := by
  intro args σ v σ' h
  unfold lettersG at h
  split at h
  · rename_i l
    split at h
    · rename_i xs e
      split at h
      · rename_i ms e2
        obtain ⟨hg, h⟩ := guardM_some h
        cases h
        simp only [Bool.and_eq_true, List.all_eq_true, Nat.blt_eq] at hg
        obtain ⟨junk, e3⟩ := x_letters (list_of e e2) (Nat.le_of_ble_eq_true hg.1) hg.2
        exact ⟨_, _, fn_run (τ := [.ns 14 [some (.ref l)]]) (by kernel_rfl) rfl e3, .pure trivial⟩
      · cases h
    · cases h
  · cases h
noncomputable def figuresG : List AV → St AV
  | [.str w] => guardM (Nat.ble w.length 100 && w.all (fun c => Nat.ble 65 c)) (allocM (.list ((w.drop 1).map fun c => ai (c - 65))))
  | _ => St.fail
noncomputable def P_figures (fr : Nat) : St AF :=
  (retM (compM (itM (slcM (slotM fr 16 0) (St.pure (.int 1)) (St.pure .none))) 17 1 (fun f2 => (putM f2 17 0)) (fun f2 => (St.pure true)) (fun f2 => (binM subP (callM ordF (consM (slotM f2 17 0) (St.pure []))) (St.pure (.int 65))))))
theorem x_figures {σ : List AO} {w : List Nat} (hl : w.length ≤ 100) (h3 : ∀ c ∈ w, 65 ≤ c) :
    P_figures σ.length (σ ++ [.ns 16 [some (.str w)]]) = some (.ret (.ref (σ.length + 1)), σ ++ [.ns 16 [some (.str w)], .list ((w.drop 1).map fun c => ai (c - 65))]) := by
  have hc := comp_map (ρ := σ ++ [AO.ns 16 [some (.str w)]]) (k := 17) (live := always) (f := fun v => match v with | .str [x] => ai (x - 65) | v => v) (E := fun f2 => (binM subP (callM ordF (consM (slotM f2 17 0) (St.pure []))) (St.pure (.int 65)))) (fun _ => trivial) (strItems (w.drop 1)) (by simp [strItems]; omega)
    (fun v hv ys => by
      obtain ⟨x, hx, rfl⟩ := List.mem_map.mp hv
      have := h3 x (List.mem_of_mem_drop hx)
      have h2 : ((x : Int) - 65) = ((x - 65 : Nat) : Int) := by omega
      show _ = some (AV.int ((x - 65 : Nat) : Int), _)
      simp only [binM_ap, callM_ap, consM_ap, slotk_at, pure_ap, ordF_ap, subP_int, h2]) (fun v hv => by obtain ⟨x, hx, rfl⟩ := List.mem_map.mp hv; trivial)
  have hm : (strItems (w.drop 1)).map (fun v => match v with | .str [x] => ai (x - 65) | v => v) = (w.drop 1).map fun c => ai (c - 65) := by
    unfold strItems
    rw [List.map_map]; rfl
  rw [hm] at hc
  have hz : okSz w.length = true := okSz_of (by omega)
  unfold P_figures
  have hsl : slcM (slotM σ.length 16 0) (St.pure (.int 1)) (St.pure .none) (σ ++ [AO.ns 16 [some (.str w)]]) = some (.str (w.drop 1), σ ++ [AO.ns 16 [some (.str w)]]) := by
    simp only [slcM_ap, slot_at, List.getElem?_cons_zero, pure_ap, slice_str, part_int, part_none', hz]
    rw [show (1 : Int) = ((1 : Nat) : Int) from rfl, slice_from]
  simp only [retM_ap, compM_ap, itM_ap, hsl, itV_str, hc, List.append_assoc, List.cons_append, List.nil_append, List.length_append, List.length_cons, List.length_nil]
set_option tactic.hygienic true in
theorem m_figures : ∀ args σ v σ', figuresG args σ = some (v, σ') → ∃ v₁ σ₁, fnM ["word"] ["word"] 16 [] P_figures args σ = some (v₁, σ₁) ∧ Cut σ σ₁ v₁ v σ' := by
  intro args σ v σ' h
  unfold figuresG at h
  split at h
  · rename_i w
    obtain ⟨hg, h⟩ := guardM_some h
    cases h
    simp only [Bool.and_eq_true, List.all_eq_true, Nat.ble_eq] at hg
    have e3 := x_figures (σ := σ) hg.1 hg.2
    exact ⟨_, _, fn_run (τ := [.ns 16 [some (.str w)]]) (by kernel_rfl) rfl e3, Cut.list (junk := [.ns 16 [some (.str w)], .list ((w.drop 1).map fun c => ai (c - 65))]) (l := 1) rfl (fun x hx => by obtain ⟨c, _, rfl⟩ := List.mem_map.mp hx; trivial)⟩
  · cases h
noncomputable def upsP : List Nat → List Nat
  | [] => []
  | x :: r => match r with
    | [] => []
    | y :: _ => (match Nat.ble x y with | true => 1 | false => 0) :: upsP r
noncomputable def upB (ms : List Nat) (k : Nat) : Nat := match Nat.ble (ms.getD (k - 1) 0) (ms.getD k 0) with | true => 1 | false => 0
theorem ups_range : ∀ (ms pre : List Nat) (x : Nat), (List.range' (pre.length + 1) ms.length).map (upB (pre ++ x :: ms)) = upsP (x :: ms)
  | [], pre, x => rfl
  | y :: ms, pre, x => by
    have ih := ups_range ms (pre ++ [x]) y
    rw [show pre ++ [x] ++ y :: ms = pre ++ x :: y :: ms from by simp, show (pre ++ [x]).length + 1 = pre.length + 1 + 1 from by simp] at ih
    rw [List.length_cons, List.range'_succ, List.map_cons, ih]
    show _ = (match Nat.ble x y with | true => 1 | false => 0) :: upsP (y :: ms)
    congr 1
    have e1 : (pre ++ x :: y :: ms).getD pre.length 0 = x := by rw [List.getD_eq_getElem?_getD, List.getElem?_append_right (Nat.le_refl _), Nat.sub_self]; rfl
    have e2 : (pre ++ x :: y :: ms).getD (pre.length + 1) 0 = y := by rw [List.getD_eq_getElem?_getD, List.getElem?_append_right (Nat.le_succ _), show pre.length + 1 - pre.length = 1 by omega]; rfl
    unfold upB
    rw [show pre.length + 1 - 1 = pre.length from rfl, e1, e2]
theorem ups_all (ms : List Nat) : (List.range' 1 (ms.length - 1)).map (upB ms) = upsP ms := by
  cases ms with
  | nil => rfl
  | cons x ms => exact ups_range ms [] x
noncomputable def upsG : List AV → St AV
  | [.ref l] => fun σ => match getList l σ with
    | some xs => match natsOf xs with
      | some ms => guardM (Nat.ble ms.length 100) (allocM (.list ((upsP ms).map ai))) σ
      | none => none
    | none => none
  | _ => St.fail
noncomputable def P_ups (fr : Nat) : St AF :=
  (retM (compM (rangeIt (consM (St.pure (.int 1)) (consM (callM lenF (consM (cellM (fr + 1)) (St.pure []))) (St.pure [])))) 19 1 (fun f2 => (putM f2 19 0)) (fun f2 => (St.pure true)) (fun f2 => (iteM (truM (cmpM geP (idxM (cellM (fr + 1)) (slotM f2 19 0)) (idxM (cellM (fr + 1)) (binM subP (slotM f2 19 0) (St.pure (.int 1)))))) (St.pure (.int 1)) (St.pure (.int 0))))))
theorem x_ups {σ : List AO} {l : Nat} {ms : List Nat} (h : σ[l]? = some (.list (ms.map ai))) (hl : ms.length ≤ 100) :
    P_ups σ.length (σ ++ [.ns 18 [], .cell (some (.ref l))]) = some (.ret (.ref (σ.length + 2)), σ ++ [.ns 18 [], .cell (some (.ref l)), .list ((upsP ms).map ai)]) := by
  generalize hρ : σ ++ [AO.ns 18 [], AO.cell (some (.ref l))] = ρ
  have o1 : ∀ τ, (ρ ++ τ)[l]? = some (.list (ms.map ai)) := fun τ => by rw [← hρ]; exact get_old (get_old h)
  have c1 : ∀ τ, cellM (σ.length + 1) (ρ ++ τ) = some (.ref l, ρ ++ τ) := fun τ => by rw [← hρ, List.append_assoc, cell_at]; rfl
  have c1' := c1 []; have o1' := o1 []
  simp only [List.append_nil] at c1' o1'
  have hcomp := comp_map (ρ := ρ) (k := 19) (live := always) (f := fun v => match v with | .int (.ofNat k) => ai (upB ms k) | _ => .none) (E := fun f2 => (iteM (truM (cmpM geP (idxM (cellM (σ.length + 1)) (slotM f2 19 0)) (idxM (cellM (σ.length + 1)) (binM subP (slotM f2 19 0) (St.pure (.int 1)))))) (St.pure (.int 1)) (St.pure (.int 0)))) (fun _ => trivial) ((List.range' 1 (ms.length - 1)).map ai) (by simp; omega)
    (fun v hv ys => by
      obtain ⟨k, hk, rfl⟩ := List.mem_map.mp hv
      have hk' : 1 ≤ k ∧ k < ms.length := by simp [List.mem_range'_1] at hk; omega
      have hsub : (k : Int) - 1 = ((k - 1 : Nat) : Int) := by omega
      have hge : decide (((ms.getD k 0 : Nat) : Int) ≥ ((ms.getD (k - 1) 0 : Nat) : Int)) = Nat.ble (ms.getD (k - 1) 0) (ms.getD k 0) := by
        rw [Bool.eq_iff_iff, decide_eq_true_eq, Nat.ble_eq]; omega
      show _ = some (ai (upB ms k), _)
      unfold upB
      simp only [iteM_ap, truM_ap, cmpM_ap, idxM_ap, c1, slotk_at, ai, idx_at (o1 _) (by omega) hk'.2, binM_ap, pure_ap, subP_int, hsub, idx_at (o1 _) (by omega) (show k - 1 < ms.length by omega), geP_int, hge, tru_bool]
      cases Nat.ble (ms.getD (k - 1) 0) (ms.getD k 0) <;> rfl)
    (fun v hv => by obtain ⟨k, hk, rfl⟩ := List.mem_map.mp hv; trivial)
  have hmap : ((List.range' 1 (ms.length - 1)).map ai).map (fun v => match v with | .int (.ofNat k) => ai (upB ms k) | _ => AV.none) = (upsP ms).map ai := by
    rw [← ups_all, List.map_map, List.map_map]; rfl
  rw [hmap] at hcomp
  have hra := rangeArgs_ab (a := 1) (b := ms.length) (by omega) (by omega)
  have hri := rangeI_ab 1 ms.length
  simp only [Int.cast_ofNat_Int] at hra hri
  unfold P_ups
  simp only [retM_ap, compM_ap, rangeIt_ap, consM_ap, pure_ap, callM_ap, c1', len_at o1' (by omega), hra, hri, hcomp]
  rw [← hρ, List.append_assoc, List.length_append]; rfl
set_option tactic.hygienic true in
theorem m_ups : ∀ args σ v σ', upsG args σ = some (v, σ') → ∃ v₁ σ₁, fnM ["row"] [] 18 ["row"] P_ups args σ = some (v₁, σ₁) ∧ Cut σ σ₁ v₁ v σ' := by
  intro args σ v σ' h
  unfold upsG at h
  split at h
  · rename_i l
    split at h
    · rename_i xs e
      split at h
      · rename_i ms e2
        obtain ⟨hg, h⟩ := guardM_some h
        cases h
        have e3 := x_ups (list_of e e2) (Nat.le_of_ble_eq_true hg)
        exact ⟨_, _, fn_run (τ := [.ns 18 [], .cell (some (.ref l))]) (by kernel_rfl) rfl e3, Cut.list (junk := [.ns 18 [], .cell (some (.ref l)), .list ((upsP ms).map ai)]) (l := 2) rfl (fun x hx => by obtain ⟨c, _, rfl⟩ := List.mem_map.mp hx; trivial)⟩
      · cases h
    · cases h
  · cases h
end Mine
end
section
set_option maxHeartbeats 4000000
namespace Mine
open PySem PySem.Spec PySem.Calls PyProof.Rows PySem.W
theorem mulL {σ : List AO} {s t : Int} (h : small64 s = true) : mulP (.int s) (.int t) σ = some (.int (s * t), σ) := by
  rw [mulP_int, h, Bool.or_true]
theorem smallB {n : Nat} (h : n < 18446744073709551616) : small64 (n : Int) = true := Nat.blt_eq.mpr h
noncomputable def plc : Nat → List Nat → Nat
  | _, [] => 0
  | k, x :: r => (k + 1) * x + plc (k + 1) r
theorem plc_range : ∀ (ms pre : List Nat), ((List.range' pre.length ms.length).map fun k => (k + 1) * (pre ++ ms).getD k 0).sum = plc pre.length ms
  | [], pre => rfl
  | y :: ms, pre => by
    have ih := plc_range ms (pre ++ [y])
    rw [show pre ++ [y] ++ ms = pre ++ y :: ms from by simp, show (pre ++ [y]).length = pre.length + 1 from by simp] at ih
    have e1 : (pre ++ y :: ms).getD pre.length 0 = y := by rw [List.getD_eq_getElem?_getD, List.getElem?_append_right (Nat.le_refl _), Nat.sub_self]; rfl
    rw [List.length_cons, List.range'_succ, List.map_cons, List.sum_cons, ih, e1]; rfl
noncomputable def placesG : List AV → St AV
  | [.ref l] => fun σ => match getList l σ with
    | some xs => match natsOf xs with
      | some ms => guardM (Nat.ble ms.length 100) (St.pure (ai (plc 0 ms))) σ
      | none => none
    | none => none
  | _ => St.fail
noncomputable def P_places (fr : Nat) : St AF :=
  (retM (callM sumF (consM (compM (rangeIt (consM (callM lenF (consM (cellM (fr + 1)) (St.pure []))) (St.pure []))) 21 1 (fun f2 => (putM f2 21 0)) (fun f2 => (St.pure true)) (fun f2 => (binM mulP (binM addP (slotM f2 21 0) (St.pure (.int 1))) (idxM (cellM (fr + 1)) (slotM f2 21 0))))) (St.pure []))))
theorem x_places {σ : List AO} {l : Nat} {ms : List Nat} (h : σ[l]? = some (.list (ms.map ai))) (hl : ms.length ≤ 100) :
    ∃ junk, P_places σ.length (σ ++ [.ns 20 [], .cell (some (.ref l))]) = some (.ret (ai (plc 0 ms)), σ ++ junk) := by
  generalize hρ : σ ++ [AO.ns 20 [], AO.cell (some (.ref l))] = ρ
  have o1 : ∀ τ, (ρ ++ τ)[l]? = some (.list (ms.map ai)) := fun τ => by rw [← hρ]; exact get_old (get_old h)
  have c1 : ∀ τ, cellM (σ.length + 1) (ρ ++ τ) = some (.ref l, ρ ++ τ) := fun τ => by rw [← hρ, List.append_assoc, cell_at]; rfl
  have c1' := c1 []; have o1' := o1 []
  simp only [List.append_nil] at c1' o1'
  have hcomp := comp_map (ρ := ρ) (k := 21) (live := always) (f := fun v => match v with | .int (.ofNat k) => ai ((k + 1) * ms.getD k 0) | _ => .none) (E := fun f2 => (binM mulP (binM addP (slotM f2 21 0) (St.pure (.int 1))) (idxM (cellM (σ.length + 1)) (slotM f2 21 0)))) (fun _ => trivial) ((List.range' 0 ms.length).map ai) (by simp; omega)
    (fun v hv ys => by
      obtain ⟨k, hk, rfl⟩ := List.mem_map.mp hv
      have hk' : k < ms.length := by simp [List.mem_range'_1] at hk; omega
      have hadd : (k : Int) + 1 = ((k + 1 : Nat) : Int) := rfl
      show _ = some (ai ((k + 1) * ms.getD k 0), _)
      simp only [binM_ap, slotk_at, ai, pure_ap, addP_int, hadd, idxM_ap, c1, idx_at (o1 _) (by omega) hk', mulL (smallB (show k + 1 < _ by omega))]; rfl)
    (fun v hv => by obtain ⟨k, hk, rfl⟩ := List.mem_map.mp hv; trivial)
  have hmap : ((List.range' 0 ms.length).map ai).map (fun v => match v with | .int (.ofNat k) => ai ((k + 1) * ms.getD k 0) | _ => AV.none) = ((List.range' 0 ms.length).map fun k => (k + 1) * ms.getD k 0).map ai := by
    rw [List.map_map, List.map_map]; rfl
  rw [hmap] at hcomp
  have hp := plc_range ms []
  simp only [List.length_nil, List.nil_append] at hp
  have hs := sum_at (σ := ρ ++ [.list (((List.range' 0 ms.length).map fun k => (k + 1) * ms.getD k 0).map ai)]) (l := ρ.length) (by rw [get_at0]; rfl)
  rw [hp] at hs
  have hr := rangeArgs_nat (n := ms.length) (by omega)
  refine ⟨.ns 20 [] :: .cell (some (.ref l)) :: [.list (((List.range' 0 ms.length).map fun k => (k + 1) * ms.getD k 0).map ai)], ?_⟩
  unfold P_places
  simp only [retM_ap, callM_ap, consM_ap, compM_ap, rangeIt_ap, pure_ap, c1', len_at o1' (by omega), hr, rangeI_nat, hcomp, hs]
  rw [← hρ, List.append_assoc]; rfl
set_option tactic.hygienic true in
theorem m_places : ∀ args σ v σ', placesG args σ = some (v, σ') → ∃ v₁ σ₁, fnM ["ups"] [] 20 ["ups"] P_places args σ = some (v₁, σ₁) ∧ Cut σ σ₁ v₁ v σ' := by
  intro args σ v σ' h
  unfold placesG at h
  split at h
  · rename_i l
    split at h
    · rename_i xs e
      split at h
      · rename_i ms e2
        obtain ⟨hg, h⟩ := guardM_some h
        cases h
        obtain ⟨junk, e3⟩ := x_places (list_of e e2) (Nat.le_of_ble_eq_true hg)
        exact ⟨_, _, fn_run (τ := [.ns 20 [], .cell (some (.ref l))]) (by kernel_rfl) rfl e3, .pure trivial⟩
      · cases h
    · cases h
  · cases h
theorem ups_len : ∀ ms : List Nat, (upsP ms).length = ms.length - 1
  | [] => rfl
  | [x] => rfl
  | x :: y :: r => by
    show (upsP (y :: r)).length + 1 = _
    rw [ups_len (y :: r)]; rfl
theorem ups_at {σ : List AO} {l : Nat} {ms : List Nat} (h : σ[l]? = some (.list (ms.map ai))) (hl : ms.length ≤ 100) : upsG [.ref l] σ = some (.ref σ.length, σ ++ [.list ((upsP ms).map ai)]) := by
  have hg : getList l σ = some (ms.map ai) := by unfold getList; rw [h]
  show (match getList l σ with | some xs => (match natsOf xs with | some ms => guardM (Nat.ble ms.length 100) (allocM (.list ((upsP ms).map ai))) σ | none => none) | none => none) = _
  rw [hg]
  simp only [natsOf_map]
  rw [guard_ap, Nat.ble_eq_true_of_le hl]; rfl
theorem places_at {σ : List AO} {l : Nat} {ms : List Nat} (h : σ[l]? = some (.list (ms.map ai))) (hl : ms.length ≤ 100) : placesG [.ref l] σ = some (.int (plc 0 ms : Nat), σ) := by
  have hg : getList l σ = some (ms.map ai) := by unfold getList; rw [h]
  show (match getList l σ with | some xs => (match natsOf xs with | some ms => guardM (Nat.ble ms.length 100) (St.pure (ai (plc 0 ms))) σ | none => none) | none => none) = _
  rw [hg]
  simp only [natsOf_map]
  rw [guard_ap, Nat.ble_eq_true_of_le hl]; rfl
noncomputable def checksG : List AV → St AV
  | [.ref l] => fun σ => match getList l σ with
    | some xs => match natsOf xs with
      | some ms => guardM (Nat.ble ms.length 100 && Nat.ble 1 ms.length) (allocM (.list [ai (plc 0 (upsP ms) % ms.length), ai (ms.sum % 16)])) σ
      | none => none
    | none => none
  | _ => St.fail
noncomputable def P_checks (fr : Nat) : St AF :=
  (retM (listM (consM (binM modP (callM placesG (consM (callM upsG (consM (slotM fr 22 0) (St.pure []))) (St.pure []))) (callM lenF (consM (slotM fr 22 0) (St.pure [])))) (consM (binM modP (callM sumF (consM (slotM fr 22 0) (St.pure []))) (St.pure (.int 16))) (St.pure [])))))
theorem x_checks {σ : List AO} {l : Nat} {ms : List Nat} (h : σ[l]? = some (.list (ms.map ai))) (hl : ms.length ≤ 100) (h1 : 0 < ms.length) :
    P_checks σ.length (σ ++ [.ns 22 [some (.ref l)]]) = some (.ret (.ref (σ.length + 2)), σ ++ [.ns 22 [some (.ref l)], .list ((upsP ms).map ai), .list [ai (plc 0 (upsP ms) % ms.length), ai (ms.sum % 16)]]) := by
  have o1 := fun τ => get_old (τ := AO.ns 22 [some (.ref l)] :: τ) h
  have hu := ups_at (o1 []) hl
  have hp := places_at (σ := σ ++ [.ns 22 [some (.ref l)], .list ((upsP ms).map ai)]) (l := σ.length + 1) (ms := upsP ms) (by rw [get_at]; rfl) (by rw [ups_len]; omega)
  have hlen := len_at (o1 [.list ((upsP ms).map ai)]) (by omega)
  have hsum := sum_at (o1 [.list ((upsP ms).map ai)])
  have hmd := fun σ => mod_nat (σ := σ) (plc 0 (upsP ms)) ms.length h1
  unfold P_checks
  simp only [List.length_append, List.length_cons, List.length_nil, List.append_assoc, List.cons_append, List.nil_append, Nat.zero_add] at hu
  simp only [retM_ap, listM_ap, consM_ap, binM_ap, callM_ap, slot_at, List.getElem?_cons_zero, pure_ap, hu, hp, hlen, hmd, hsum, mod_16, List.length_cons, List.length_nil, Nat.zero_add, Nat.reduceAdd, show okSz 2 = true from rfl, List.length_append, List.append_assoc, List.cons_append, List.nil_append]
  rfl
set_option tactic.hygienic true in
theorem m_checks : ∀ args σ v σ', checksG args σ = some (v, σ') → ∃ v₁ σ₁, fnM ["row"] ["row"] 22 [] P_checks args σ = some (v₁, σ₁) ∧ Cut σ σ₁ v₁ v σ' := by
  intro args σ v σ' h
  unfold checksG at h
  split at h
  · rename_i l
    split at h
    · rename_i xs e
      split at h
      · rename_i ms e2
        obtain ⟨hg, h⟩ := guardM_some h
        cases h
        simp only [Bool.and_eq_true, Nat.ble_eq] at hg
        have e3 := x_checks (list_of e e2) hg.1 hg.2
        refine ⟨_, _, fn_run (τ := [.ns 22 [some (.ref l)]]) (by kernel_rfl) rfl e3, Cut.list (junk := [.ns 22 [some (.ref l)], .list ((upsP ms).map ai), .list [ai (plc 0 (upsP ms) % ms.length), ai (ms.sum % 16)]]) (l := 2) rfl (fun x hx => ?_)⟩
        simp only [List.mem_cons, List.not_mem_nil, or_false] at hx
        rcases hx with rfl | rfl <;> trivial
      · cases h
    · cases h
  · cases h
end Mine
end
section
set_option maxHeartbeats 4000000
namespace Mine
open PySem PySem.Spec PySem.Calls PyProof.Rows PySem.W
theorem from_at {σ : List AO} {l p : Nat} {ms : List Nat} (h : σ[l]? = some (.list (ms.map ai))) (hz : ms.length ≤ 1000) : sliceP (.ref l) (.int (p : Int)) .none σ = some (.ref σ.length, σ ++ [.list ((ms.drop p).map ai)]) := by
  have hg : getList l σ = some (ms.map ai) := by unfold getList; rw [h]
  unfold sliceP
  simp only [partV, hg]
  rw [guard_ap, okSz_of (show (ms.map ai).length ≤ 1000000 by simp; omega), slice_from, ← List.map_drop]; rfl
theorem to_at {σ : List AO} {l p : Nat} {ms : List Nat} (h : σ[l]? = some (.list (ms.map ai))) (hz : ms.length ≤ 1000) : sliceP (.ref l) .none (.int (p : Int)) σ = some (.ref σ.length, σ ++ [.list ((ms.take p).map ai)]) := by
  have hg : getList l σ = some (ms.map ai) := by unfold getList; rw [h]
  unfold sliceP
  simp only [partV, hg]
  rw [guard_ap, okSz_of (show (ms.map ai).length ≤ 1000000 by simp; omega), slice_to, ← List.map_take]; rfl
theorem cat_at {σ : List AO} {l k : Nat} {xs ys : List Nat} (h : σ[l]? = some (.list (xs.map ai))) (h2 : σ[k]? = some (.list (ys.map ai))) (hz : xs.length + ys.length ≤ 1000) : addP (.ref l) (.ref k) σ = some (.ref σ.length, σ ++ [.list ((xs ++ ys).map ai)]) := by
  have hg : getList l σ = some (xs.map ai) := by unfold getList; rw [h]
  have hg2 : getList k σ = some (ys.map ai) := by unfold getList; rw [h2]
  unfold addP
  simp only [hg, hg2]
  rw [guard_ap, okSz_of (show (xs.map ai).length + (ys.map ai).length ≤ 1000000 by simp; omega), List.map_append]; rfl
theorem eqAll_ai : ∀ a b : List Nat, eqAll (a.map ai) (b.map ai) = some (eqL a b)
  | [], [] => rfl
  | [], _ :: _ => rfl
  | _ :: _, [] => rfl
  | x :: a, y :: b => by
    rw [List.map_cons, List.map_cons]
    unfold eqAll eqL
    rw [eqAll_ai a b]
    have : eqFlat (ai x) (ai y) = some (x == y) := by
      show some ((x : Int) == (y : Int)) = _
      rw [show ((x : Int) == (y : Int)) = (x == y) from by rw [Bool.eq_iff_iff, beq_iff_eq, beq_iff_eq]; omega]
    rw [this]
    cases x == y <;> rfl
noncomputable def Has (σ J : List AO) (u : Nat) (o : AO) : Prop := ∀ vs X, (σ ++ AO.ns 23 vs :: (J ++ X))[u]? = some o
theorem Has.old {σ J : List AO} {u : Nat} {o : AO} (h : σ[u]? = some o) : Has σ J u o := fun _ _ => get_old h
theorem Has.new {σ J : List AO} {o : AO} : Has σ (J ++ [o]) (σ.length + (J.length + 1)) o := fun vs X => by
  rw [get_at, List.getElem?_cons_succ, List.append_assoc, get_at0]; rfl
theorem Has.app {σ J : List AO} {u : Nat} {o : AO} (h : Has σ J u o) (Y : List AO) : Has σ (J ++ Y) u o := fun vs X => by rw [List.append_assoc]; exact h vs (Y ++ X)
theorem Has.at {σ J : List AO} {u : Nat} {o : AO} (h : Has σ J u o) (vs : List (Option AV)) : (σ ++ AO.ns 23 vs :: J)[u]? = some o := by have := h vs []; rwa [List.append_nil] at this
theorem lenJ {σ J : List AO} {vs : List (Option AV)} : (σ ++ AO.ns 23 vs :: J).length = σ.length + (J.length + 1) := by rw [List.length_append, List.length_cons]
theorem appJ {σ J : List AO} {vs : List (Option AV)} {Y : List AO} : (σ ++ AO.ns 23 vs :: J) ++ Y = σ ++ AO.ns 23 vs :: (J ++ Y) := by rw [List.append_assoc, List.cons_append]
section
variable {σ J : List AO} {u p : Nat} {ms : List Nat} {vs : List (Option AV)}
theorem from_J (h : Has σ J u (.list (ms.map ai))) (hz : ms.length ≤ 1000) : sliceP (.ref u) (.int (p : Int)) .none (σ ++ .ns 23 vs :: J) = some (.ref (σ.length + (J.length + 1)), σ ++ .ns 23 vs :: (J ++ [.list ((ms.drop p).map ai)])) := by
  rw [from_at (h.at vs) hz, lenJ, appJ]
theorem to_J (h : Has σ J u (.list (ms.map ai))) (hz : ms.length ≤ 1000) : sliceP (.ref u) .none (.int (p : Int)) (σ ++ .ns 23 vs :: J) = some (.ref (σ.length + (J.length + 1)), σ ++ .ns 23 vs :: (J ++ [.list ((ms.take p).map ai)])) := by
  rw [to_at (h.at vs) hz, lenJ, appJ]
theorem sum_J (h : Has σ J u (.list (ms.map ai))) : sumF [.ref u] (σ ++ .ns 23 vs :: J) = some (.int (ms.sum : Nat), σ ++ .ns 23 vs :: J) := sum_at (h.at vs)
theorem len_J (h : Has σ J u (.list (ms.map ai))) (hz : ms.length ≤ 1000) : lenF [.ref u] (σ ++ .ns 23 vs :: J) = some (.int (ms.length : Nat), σ ++ .ns 23 vs :: J) := len_at (h.at vs) hz
theorem ups_J (h : Has σ J u (.list (ms.map ai))) (hz : ms.length ≤ 100) : upsG [.ref u] (σ ++ .ns 23 vs :: J) = some (.ref (σ.length + (J.length + 1)), σ ++ .ns 23 vs :: (J ++ [.list ((upsP ms).map ai)])) := by
  rw [ups_at (h.at vs) hz, lenJ, appJ]
theorem ins_J {e4 e7 F : St AV} {f : Nat} (h4 : ∀ X, e4 (σ ++ .ns 23 vs :: (J ++ X)) = some (.ref u, σ ++ .ns 23 vs :: (J ++ X))) (h7 : ∀ X, e7 (σ ++ .ns 23 vs :: (J ++ X)) = some (.int (p : Int), σ ++ .ns 23 vs :: (J ++ X))) (hF : ∀ X, F (σ ++ .ns 23 vs :: (J ++ X)) = some (.int (f : Int), σ ++ .ns 23 vs :: (J ++ X)))
    (h : Has σ J u (.list (ms.map ai))) (hz : ms.length ≤ 100) : ∃ Y, Y.length = 4 ∧
    binM addP (binM addP (slcM e4 (St.pure .none) e7) (listM (consM F (St.pure [])))) (slcM e4 e7 (St.pure .none)) (σ ++ .ns 23 vs :: J) = some (.ref (σ.length + ((J ++ Y).length + 1)), σ ++ .ns 23 vs :: ((J ++ Y) ++ [.list ((ms.take p ++ f :: ms.drop p).map ai)])) := by
  have a4 := h4 []; have a7 := h7 []
  rw [List.append_nil] at a4 a7
  have hF1 := hF [.list ((ms.take p).map ai)]
  have h4' := h4 ([.list ((ms.take p).map ai)] ++ [.list [.int (f : Int)]] ++ [.list ((ms.take p ++ [f]).map ai)])
  have h7' := h7 ([.list ((ms.take p).map ai)] ++ [.list [.int (f : Int)]] ++ [.list ((ms.take p ++ [f]).map ai)])
  have H1 : Has σ (J ++ [.list ((ms.take p).map ai)]) (σ.length + (J.length + 1)) (.list ((ms.take p).map ai)) := Has.new
  have H2 : Has σ ((J ++ [.list ((ms.take p).map ai)]) ++ [.list (([f] : List Nat).map ai)]) (σ.length + ((J ++ [AO.list ((ms.take p).map ai)]).length + 1)) (.list (([f] : List Nat).map ai)) := Has.new
  have c1 := cat_at ((H1.app [.list (([f] : List Nat).map ai)]).at vs) (H2.at vs) (by have := List.length_take_le p ms; simp; omega)
  rw [lenJ, appJ] at c1
  have H3 : Has σ (((J ++ [.list ((ms.take p).map ai)]) ++ [.list (([f] : List Nat).map ai)]) ++ [.list ((ms.take p ++ [f]).map ai)]) (σ.length + (((J ++ [AO.list ((ms.take p).map ai)]) ++ [AO.list (([f] : List Nat).map ai)]).length + 1)) (.list ((ms.take p ++ [f]).map ai)) := Has.new
  have s2 := from_J (p := p) (vs := vs) (((h.app [.list ((ms.take p).map ai)]).app [.list (([f] : List Nat).map ai)]).app [.list ((ms.take p ++ [f]).map ai)]) (by omega)
  have H4 : Has σ ((((J ++ [.list ((ms.take p).map ai)]) ++ [.list (([f] : List Nat).map ai)]) ++ [.list ((ms.take p ++ [f]).map ai)]) ++ [.list ((ms.drop p).map ai)]) (σ.length + ((((J ++ [AO.list ((ms.take p).map ai)]) ++ [AO.list (([f] : List Nat).map ai)]) ++ [AO.list ((ms.take p ++ [f]).map ai)]).length + 1)) (.list ((ms.drop p).map ai)) := Has.new
  have c2 := cat_at ((H3.app [.list ((ms.drop p).map ai)]).at vs) (H4.at vs) (by have := List.length_take_le p ms; have := List.length_drop (i := p) (l := ms); simp; omega)
  rw [lenJ, appJ] at c2
  refine ⟨[.list ((ms.take p).map ai), .list (([f] : List Nat).map ai), .list ((ms.take p ++ [f]).map ai), .list ((ms.drop p).map ai)], rfl, ?_⟩
  have hd : ∀ τ : List AO, listM (consM F (St.pure [])) τ = (match F τ with | some (v, ρ) => some (.ref ρ.length, ρ ++ [.list [v]]) | none => none) := fun τ => by
    simp only [listM_ap, consM_ap, pure_ap]
    rcases F τ with _ | ⟨v, ρ⟩ <;> rfl
  have e1 : (ms.take p ++ [f]) ++ ms.drop p = ms.take p ++ f :: ms.drop p := by rw [List.append_assoc]; rfl
  rw [e1] at c2
  simp only [← List.append_assoc] at h4' h7'
  simp only [binM_ap, slcM_ap, a4, a7, pure_ap, to_J h (show ms.length ≤ 1000 by omega), hd, hF1, lenJ, appJ]
  simp only [show ([AV.int (f : Int)] : List AV) = ([f] : List Nat).map ai from rfl] at h4' h7' ⊢
  simp only [c1, h4', h7', s2, c2]
  simp only [List.append_assoc, List.cons_append, List.nil_append]
end
end Mine
end
section
namespace Mine
open PySem PySem.Spec PySem.Calls PyProof.Rows PySem.W
noncomputable def downP (ups : List Nat) (lack : Nat) : Nat → Nat
  | 0 => 0
  | p + 1 => match Nat.blt (ups.drop (p + 1)).sum lack with
    | true => downP ups lack p
    | false => p + 1
noncomputable def upTest (ups : List Nat) (lack weight p : Nat) : Bool := decide ((p : Int) - ((ups.take p).sum : Nat) < (lack : Int) - (weight : Nat) - 1)
noncomputable def upP (ups : List Nat) (lack weight : Nat) : Nat → Nat → Nat
  | 0, p => p
  | f + 1, p => match upTest ups lack weight p with
    | true => upP ups lack weight f (p + 1)
    | false => p
noncomputable def bitsW (ups : List Nat) (lack : Nat) : List Nat := match Nat.ble lack ups.sum with
  | true => ups.take (downP ups lack ups.length) ++ 0 :: ups.drop (downP ups lack ups.length)
  | false => ups.take (upP ups lack ups.sum ups.length 0) ++ 1 :: ups.drop (upP ups lack ups.sum ups.length 0)
noncomputable def findW (less : List Nat) (fig : Nat) (bits : List Nat) : List Nat → Option (List Nat)
  | [] => none
  | p :: ps => match eqL (upsP (less.take p ++ fig :: less.drop p)) bits with
    | true => some (less.take p ++ fig :: less.drop p)
    | false => findW less fig bits ps
noncomputable def mendP (less : List Nat) (a b : Nat) : List Nat := (findW less ((b + 15 * less.sum) % 16) (bitsW (upsP less) ((a + less.length * plc 0 (upsP less)) % (less.length + 1))) (List.range' 0 (less.length + 1))).getD []
noncomputable def mendedG : List AV → St AV
  | [.ref l, .ref c] => fun σ => match getList l σ, getList c σ with
    | some xs, some ys => match natsOf xs, natsOf ys with
      | some less, some [a, b] => guardM (Nat.ble less.length 50 && Nat.ble 1 less.length) (allocM (.list ((mendP less a b).map ai))) σ
      | _, _ => none
    | _, _ => none
  | _ => St.fail
noncomputable def TD (fr : Nat) : St Bool := (truM (cmpM ltP (callM sumF (consM (slcM (slotM fr 23 4) (slotM fr 23 7) (St.pure .none)) (St.pure []))) (slotM fr 23 5)))
noncomputable def TU (fr : Nat) : St Bool := (truM (cmpM ltP (binM subP (slotM fr 23 7) (callM sumF (consM (slcM (slotM fr 23 4) (St.pure .none) (slotM fr 23 7)) (St.pure [])))) (binM subP (binM subP (slotM fr 23 5) (slotM fr 23 6)) (St.pure (.int 1)))))
noncomputable def BF (fr : Nat) : St AF := (seqM
  (asgM (binM addP (binM addP (slcM (slotM fr 23 0) (St.pure .none) (slotM fr 23 7)) (listM (consM (slotM fr 23 3) (St.pure [])))) (slcM (slotM fr 23 0) (slotM fr 23 7) (St.pure .none))) (putM fr 23 8))
  (ifM (truM (cmpM eqP (callM upsG (consM (slotM fr 23 8) (St.pure []))) (slotM fr 23 4))) (retM (slotM fr 23 8)) (St.pure .next)))
noncomputable def P_mended (fr : Nat) : St AF :=
  (seqM
  (asgM (binM addP (callM lenF (consM (slotM fr 23 0) (St.pure []))) (St.pure (.int 1))) (putM fr 23 2))
  (seqM
  (asgM (binM modP (binM subP (idxM (slotM fr 23 1) (St.pure (.int 1))) (callM sumF (consM (slotM fr 23 0) (St.pure [])))) (St.pure (.int 16))) (putM fr 23 3))
  (seqM
  (asgM (callM upsG (consM (slotM fr 23 0) (St.pure []))) (putM fr 23 4))
  (seqM
  (asgM (binM modP (binM subP (idxM (slotM fr 23 1) (St.pure (.int 0))) (callM placesG (consM (slotM fr 23 4) (St.pure [])))) (slotM fr 23 2)) (putM fr 23 5))
  (seqM
  (asgM (callM sumF (consM (slotM fr 23 4) (St.pure []))) (putM fr 23 6))
  (seqM
  (ifM (truM (cmpM leP (slotM fr 23 5) (slotM fr 23 6))) (seqM
  (asgM (callM lenF (consM (slotM fr 23 4) (St.pure []))) (putM fr 23 7))
  (seqM
  (whileM (TD fr) (augM (slotM fr 23 7) (St.pure (.int 1)) isubP (putM fr 23 7)) 1000)
  (asgM (binM addP (binM addP (slcM (slotM fr 23 4) (St.pure .none) (slotM fr 23 7)) (listM (consM (St.pure (.int 0)) (St.pure [])))) (slcM (slotM fr 23 4) (slotM fr 23 7) (St.pure .none))) (putM fr 23 4)))) (seqM
  (asgM (St.pure (.int 0)) (putM fr 23 7))
  (seqM
  (whileM (TU fr) (augM (slotM fr 23 7) (St.pure (.int 1)) iaddP (putM fr 23 7)) 1000)
  (asgM (binM addP (binM addP (slcM (slotM fr 23 4) (St.pure .none) (slotM fr 23 7)) (listM (consM (St.pure (.int 1)) (St.pure [])))) (slcM (slotM fr 23 4) (slotM fr 23 7) (St.pure .none))) (putM fr 23 4)))))
  (seqM
  (forM (rangeIt (consM (slotM fr 23 2) (St.pure []))) (putM fr 23 7) (BF fr))
  (retM (listM (St.pure []))))))))))
section
variable {σ : List AO} {s0 s1 s2 s3 s6 s7 s8 : Option AV} {u l lack weight fig : Nat} {ups less bits : List Nat}
theorem iblt (a b : Nat) : decide ((a : Int) < (b : Int)) = Nat.blt a b := by
  rw [Bool.eq_iff_iff, decide_eq_true_eq, Nat.blt_eq]; omega
theorem down_loop (hz : ups.length ≤ 500) (hle : lack ≤ ups.sum) : ∀ (p fuel : Nat) (J : List AO), p < fuel → Has σ J u (.list (ups.map ai)) → ∃ Y,
    whileM (TD σ.length) (augM (slotM σ.length 23 7) (St.pure (.int 1)) isubP (putM σ.length 23 7)) fuel (σ ++ .ns 23 [s0, s1, s2, s3, some (.ref u), some (ai lack), s6, some (ai p), s8] :: J)
      = some (.next, σ ++ .ns 23 [s0, s1, s2, s3, some (.ref u), some (ai lack), s6, some (ai (downP ups lack p)), s8] :: (J ++ Y)) := by
  intro p fuel
  induction fuel generalizing p with
  | zero => intro J h _; exact absurd h (Nat.not_lt_zero _)
  | succ fuel ih =>
    intro J h hu
    have hT : TD σ.length (σ ++ .ns 23 [s0, s1, s2, s3, some (.ref u), some (ai lack), s6, some (ai p), s8] :: J) = some (Nat.blt (ups.drop p).sum lack, σ ++ .ns 23 [s0, s1, s2, s3, some (.ref u), some (ai lack), s6, some (ai p), s8] :: (J ++ [.list ((ups.drop p).map ai)])) := by
      have hs := sum_J (σ := σ) (J := J ++ [.list ((ups.drop p).map ai)]) (u := σ.length + (J.length + 1)) (ms := ups.drop p) (vs := [s0, s1, s2, s3, some (.ref u), some (ai lack), s6, some (ai p), s8]) Has.new
      have hf := from_J (p := p) (vs := [s0, s1, s2, s3, some (.ref u), some (ai lack), s6, some (ai p), s8]) hu (by omega)
      unfold TD
      simp only [ai] at hs hf ⊢
      simp only [truM_ap, cmpM_ap, callM_ap, consM_ap, slcM_ap, slot_at, List.getElem?_cons_zero, List.getElem?_cons_succ, pure_ap, hf, hs, ltP_int, iblt, tru_bool]
    rw [while_ap, hT]
    cases p with
    | zero =>
      have : Nat.blt (ups.drop 0).sum lack = false := by
        rw [Bool.eq_false_iff]; intro q; have := Nat.blt_eq.mp q; rw [List.drop_zero] at this; omega
      rw [this]
      exact ⟨_, rfl⟩
    | succ p =>
      unfold downP
      cases hb : Nat.blt (ups.drop (p + 1)).sum lack with
      | false => exact ⟨_, rfl⟩
      | true =>
        obtain ⟨Y, e⟩ := ih p (J ++ [.list ((ups.drop (p + 1)).map ai)]) (by omega) (hu.app _)
        refine ⟨[.list ((ups.drop (p + 1)).map ai)] ++ Y, ?_⟩
        have hsub : ((p + 1 : Nat) : Int) - 1 = (p : Int) := by omega
        simp only [ai] at e ⊢
        simp only [augM_ap, slot_at, List.getElem?_cons_zero, List.getElem?_cons_succ, pure_ap, isubP_int, hsub, nextM_ap, put_at, List.set_cons_zero, List.set_cons_succ]
        rw [← List.append_assoc]
        exact e
theorem up_loop (hz : ups.length ≤ 500) (hend : upTest ups lack weight ups.length = false) : ∀ (f p fuel : Nat) (J : List AO), p + f = ups.length → f < fuel → Has σ J u (.list (ups.map ai)) → ∃ Y,
    whileM (TU σ.length) (augM (slotM σ.length 23 7) (St.pure (.int 1)) iaddP (putM σ.length 23 7)) fuel (σ ++ .ns 23 [s0, s1, s2, s3, some (.ref u), some (ai lack), some (ai weight), some (ai p), s8] :: J)
      = some (.next, σ ++ .ns 23 [s0, s1, s2, s3, some (.ref u), some (ai lack), some (ai weight), some (ai (upP ups lack weight f p)), s8] :: (J ++ Y)) := by
  intro f p fuel
  induction fuel generalizing f p with
  | zero => intro J _ h _; exact absurd h (Nat.not_lt_zero _)
  | succ fuel ih =>
    intro J hpf h hu
    have hT : TU σ.length (σ ++ .ns 23 [s0, s1, s2, s3, some (.ref u), some (ai lack), some (ai weight), some (ai p), s8] :: J) = some (upTest ups lack weight p, σ ++ .ns 23 [s0, s1, s2, s3, some (.ref u), some (ai lack), some (ai weight), some (ai p), s8] :: (J ++ [.list ((ups.take p).map ai)])) := by
      have hs := sum_J (σ := σ) (J := J ++ [.list ((ups.take p).map ai)]) (u := σ.length + (J.length + 1)) (ms := ups.take p) (vs := [s0, s1, s2, s3, some (.ref u), some (ai lack), some (ai weight), some (ai p), s8]) Has.new
      have hf := to_J (p := p) (vs := [s0, s1, s2, s3, some (.ref u), some (ai lack), some (ai weight), some (ai p), s8]) hu (by omega)
      unfold TU upTest
      simp only [ai] at hs hf ⊢
      simp only [truM_ap, cmpM_ap, binM_ap, callM_ap, consM_ap, slcM_ap, slot_at, List.getElem?_cons_zero, List.getElem?_cons_succ, pure_ap, hf, hs, subP_int, ltP_int, tru_bool]
    rw [while_ap, hT]
    cases f with
    | zero =>
      have hp : p = ups.length := by omega
      subst hp
      rw [hend]
      exact ⟨_, rfl⟩
    | succ f =>
      unfold upP
      cases hb : upTest ups lack weight p with
      | false => exact ⟨_, rfl⟩
      | true =>
        obtain ⟨Y, e⟩ := ih f (p + 1) (J ++ [.list ((ups.take p).map ai)]) (by omega) (by omega) (hu.app _)
        refine ⟨[.list ((ups.take p).map ai)] ++ Y, ?_⟩
        have hadd : (p : Int) + 1 = ((p + 1 : Nat) : Int) := rfl
        simp only [ai] at e ⊢
        simp only [augM_ap, slot_at, List.getElem?_cons_zero, List.getElem?_cons_succ, pure_ap, iaddP_int, hadd, nextM_ap, put_at, List.set_cons_zero, List.set_cons_succ]
        rw [← List.append_assoc]
        exact e
theorem find_loop (hz : less.length ≤ 50) (hlu : σ[l]? = some (.list (less.map ai))) : ∀ (ps : List Nat) (J : List AO) (s7 s8 : Option AV), Has σ J u (.list (bits.map ai)) → ∃ s7' s8' Y,
    (match findW less fig bits ps with
     | some wh => ∃ L, (AO.ns 23 [some (.ref l), s1, s2, some (ai fig), some (.ref u), s5, s6, s7', s8'] :: (J ++ Y))[L]? = some (.list (wh.map ai)) ∧ forL always (putM σ.length 23 7) (BF σ.length) (ps.map ai) (σ ++ .ns 23 [some (.ref l), s1, s2, some (ai fig), some (.ref u), s5, s6, s7, s8] :: J) = some (.ret (.ref (σ.length + L)), σ ++ .ns 23 [some (.ref l), s1, s2, some (ai fig), some (.ref u), s5, s6, s7', s8'] :: (J ++ Y))
     | none => forL always (putM σ.length 23 7) (BF σ.length) (ps.map ai) (σ ++ .ns 23 [some (.ref l), s1, s2, some (ai fig), some (.ref u), s5, s6, s7, s8] :: J) = some (.next, σ ++ .ns 23 [some (.ref l), s1, s2, some (ai fig), some (.ref u), s5, s6, s7', s8'] :: (J ++ Y))) := by
  intro ps
  induction ps with
  | nil => intro J s7 s8 _; exact ⟨s7, s8, [], by rw [List.append_nil]; exact for_nil ..⟩
  | cons p ps ih =>
    intro J s7 s8 hu
    have hput : putM σ.length 23 7 (ai p) (σ ++ .ns 23 [some (.ref l), s1, s2, some (ai fig), some (.ref u), s5, s6, s7, s8] :: J) = some ((), σ ++ .ns 23 [some (.ref l), s1, s2, some (ai fig), some (.ref u), s5, s6, some (ai p), s8] :: J) := by
      simp only [put_at, List.getElem?_cons_zero, List.getElem?_cons_succ, List.set_cons_zero, List.set_cons_succ]
    have hS : ∀ (i : Nat) (vs : List (Option AV)) X, slotM σ.length 23 i (σ ++ .ns 23 vs :: X) = (match vs[i]? with | some (some v) => some (v, σ ++ .ns 23 vs :: X) | _ => none) := fun i vs X => slot_at _ _ _
    obtain ⟨Y, hY, hins⟩ := ins_J (σ := σ) (J := J) (u := l) (p := p) (ms := less) (f := fig) (vs := [some (.ref l), s1, s2, some (ai fig), some (.ref u), s5, s6, some (ai p), s8]) (e4 := slotM σ.length 23 0) (e7 := slotM σ.length 23 7) (F := slotM σ.length 23 3) (fun X => hS 0 _ _) (fun X => hS 7 _ _) (fun X => hS 3 _ _) (Has.old hlu) (by omega)
    generalize hwh : less.take p ++ fig :: less.drop p = wh at hins
    have hwl : wh.length ≤ 100 := by
      have h1 := List.length_take_le p less
      have h2 := List.length_drop (i := p) (l := less)
      rw [← hwh]; simp; omega
    have H1 : Has σ ((J ++ Y) ++ [.list (wh.map ai)]) (σ.length + ((J ++ Y).length + 1)) (.list (wh.map ai)) := Has.new
    have hup := ups_J (vs := [some (.ref l), s1, s2, some (ai fig), some (.ref u), s5, s6, some (ai p), some (.ref (σ.length + ((J ++ Y).length + 1)))]) H1 hwl
    have H2 : Has σ (((J ++ Y) ++ [.list (wh.map ai)]) ++ [.list ((upsP wh).map ai)]) (σ.length + (((J ++ Y) ++ [AO.list (wh.map ai)]).length + 1)) (.list ((upsP wh).map ai)) := Has.new
    have heq := eq_list (H2.at [some (.ref l), s1, s2, some (ai fig), some (.ref u), s5, s6, some (ai p), some (.ref (σ.length + ((J ++ Y).length + 1)))]) ((((hu.app Y).app [.list (wh.map ai)]).app [.list ((upsP wh).map ai)]).at _) (eqAll_ai (upsP wh) bits)
    have hB : BF σ.length (σ ++ .ns 23 [some (.ref l), s1, s2, some (ai fig), some (.ref u), s5, s6, some (ai p), s8] :: J)
        = some ((match eqL (upsP wh) bits with | true => AF.ret (.ref (σ.length + ((J ++ Y).length + 1))) | false => AF.next), σ ++ .ns 23 [some (.ref l), s1, s2, some (ai fig), some (.ref u), s5, s6, some (ai p), some (.ref (σ.length + ((J ++ Y).length + 1)))] :: (((J ++ Y) ++ [.list (wh.map ai)]) ++ [.list ((upsP wh).map ai)])) := by
      unfold BF
      rw [seqM_ap, asgM_ap, hins]
      simp only [nextM_ap, put_at, List.getElem?_cons_zero, List.getElem?_cons_succ, List.set_cons_zero, List.set_cons_succ]
      simp only [ifM_ap, truM_ap, cmpM_ap, callM_ap, consM_ap, hS, List.getElem?_cons_zero, List.getElem?_cons_succ, pure_ap, hup, heq, tru_bool]
      cases eqL (upsP wh) bits with
      | true => simp only [retM_ap, hS, List.getElem?_cons_zero, List.getElem?_cons_succ]
      | false => rfl
    rw [List.map_cons]
    unfold findW
    rw [hwh]
    cases hb : eqL (upsP wh) bits with
    | true =>
      rw [hb] at hB
      refine ⟨some (ai p), some (.ref (σ.length + ((J ++ Y).length + 1))), Y ++ [.list (wh.map ai)] ++ [.list ((upsP wh).map ai)], (J ++ Y).length + 1, ?_, ?_⟩
      · rw [List.getElem?_cons_succ, ← List.append_assoc, ← List.append_assoc, List.getElem?_append_left (by simp), List.getElem?_append_right (Nat.le_refl _), Nat.sub_self]; rfl
      · rw [for_cons, hput]
        simp only [hB]
        rw [← List.append_assoc, ← List.append_assoc]
    | false =>
      rw [hb] at hB
      obtain ⟨s7', s8', Y2, e⟩ := ih (((J ++ Y) ++ [.list (wh.map ai)]) ++ [.list ((upsP wh).map ai)]) (some (ai p)) (some (.ref (σ.length + ((J ++ Y).length + 1)))) (((hu.app Y).app _).app _)
      refine ⟨s7', s8', Y ++ [.list (wh.map ai)] ++ [.list ((upsP wh).map ai)] ++ Y2, ?_⟩
      rw [for_cons, hput]
      simp only [hB]
      rw [← List.append_assoc, ← List.append_assoc, ← List.append_assoc]
      exact e
end
end Mine
end
section
namespace Mine
open PySem PySem.W
section
variable {σ ρ ρ' τ : List AO} {a b r v : AV} {as vs fs : List AV} {p q A' : St AV} {A : St (List AV)} {F : AV → AV → St AV} {S : AV → St Unit}
theorem o_asg (h1 : p σ = some (v, ρ)) (h2 : S v ρ = some ((), τ)) : asgM p S σ = some (.next, τ) := by rw [asgM_ap, h1]; simp only [nextM_ap, h2]
theorem o_bin (h1 : p σ = some (a, ρ)) (h2 : q ρ = some (b, ρ')) (h3 : F a b ρ' = some (r, τ)) : binM F p q σ = some (r, τ) := by rw [binM_ap, h1]; simp only [h2, h3]
theorem o_cmp (h1 : p σ = some (a, ρ)) (h2 : q ρ = some (b, ρ')) (h3 : F a b ρ' = some (r, τ)) : cmpM F p q σ = some (r, τ) := by rw [cmpM_ap, h1]; simp only [h2, h3]
theorem o_cons (h1 : p σ = some (a, ρ)) (h2 : A ρ = some (as, τ)) : consM p A σ = some (a :: as, τ) := by rw [consM_ap, h1]; simp only [h2]
theorem o_call {G : List AV → St AV} (h1 : A σ = some (as, ρ)) (h2 : G as ρ = some (r, τ)) : callM G A σ = some (r, τ) := by rw [callM_ap, h1]; exact h2
theorem o_meth {G : List AV → St AV} {sel : AV → List AO → Option (List AV)} (h1 : p σ = some (a, ρ)) (h2 : sel a ρ = some fs) (h3 : A ρ = some (as, ρ')) (h4 : G (fs ++ as) ρ' = some (r, τ)) : methM p sel G A σ = some (r, τ) := by rw [methM_ap, h1]; simp only [h2, h3, h4]
theorem o_expr (h1 : p σ = some (a, τ)) : exprM p σ = some (.next, τ) := by rw [exprM_ap, h1]
theorem o_idx (h1 : p σ = some (a, ρ)) (h2 : q ρ = some (b, ρ')) (h3 : idxP a b ρ' = some (r, τ)) : idxM p q σ = some (r, τ) := by rw [idxM_ap, h1]; simp only [h2, h3]
theorem o_aug {ρ'' : List AO} (h1 : p σ = some (a, ρ)) (h2 : q ρ = some (b, ρ')) (h3 : F a b ρ' = some (r, ρ'')) (h4 : S r ρ'' = some ((), τ)) : augM p q F S σ = some (.next, τ) := by rw [augM_ap, h1]; simp only [h2, h3, nextM_ap, h4]
theorem o_list (h1 : A σ = some (as, ρ)) (h2 : okSz as.length = true) : listM A σ = some (.ref ρ.length, ρ ++ [.list as]) := by rw [listM_ap, h1]; simp only [h2]
theorem o_tru {t : Bool} (h1 : p σ = some (.bool t, τ)) : truM p σ = some (t, τ) := by rw [truM_ap, h1]; exact tru_bool t
theorem o_iff {T : St Bool} {P Q : St AF} {r : Option (AF × List AO)} (h1 : T σ = some (false, ρ)) (h2 : Q ρ = r) : ifM T P Q σ = r := by rw [ifM_ap, h1]; exact h2
end
end Mine
end
section
namespace Mine
open PySem PySem.Spec PySem.Calls PyProof.Rows PySem.W
theorem fmod_16 (b s : Nat) : Int.fmod ((b : Int) - (s : Int)) 16 = ((b + 15 * s) % 16 : Nat) := by
  rw [Int.fmod_eq_emod_of_nonneg _ (by decide)]; omega
theorem fmod_up (a n P : Nat) : Int.fmod ((a : Int) - (P : Int)) ((n + 1 : Nat) : Int) = ((a + n * P) % (n + 1) : Nat) := by
  rw [Int.fmod_eq_emod_of_nonneg _ (by omega), ← Int.add_mul_emod_self_left _ _ (P : Int)]
  have e : (a : Int) - (P : Int) + ((n + 1 : Nat) : Int) * (P : Int) = ((a + n * P : Nat) : Int) := by
    rw [Int.natCast_add, Int.natCast_add, Int.natCast_mul, Int.add_mul]
    omega
  rw [e, Int.natCast_emod]
theorem ible (a b : Nat) : decide ((a : Int) ≤ (b : Int)) = Nat.ble a b := by
  rw [Bool.eq_iff_iff, decide_eq_true_eq, Nat.ble_eq]; omega
section
variable {σ : List AO} {l c a b : Nat} {less : List Nat}
theorem mend_bits {u lack : Nat} {ups : List Nat} {s0 s1 s2 s3 s8 : Option AV} (J : List AO) (hz : ups.length ≤ 50) (hlk : lack ≤ ups.length + 1) (hu : Has σ J u (.list (ups.map ai))) : ∃ s7 u' Y, Has σ (J ++ Y) u' (.list ((bitsW ups lack).map ai)) ∧
    (ifM (truM (cmpM leP (slotM σ.length 23 5) (slotM σ.length 23 6))) (seqM
  (asgM (callM lenF (consM (slotM σ.length 23 4) (St.pure []))) (putM σ.length 23 7))
  (seqM
  (whileM (TD σ.length) (augM (slotM σ.length 23 7) (St.pure (.int 1)) isubP (putM σ.length 23 7)) 1000)
  (asgM (binM addP (binM addP (slcM (slotM σ.length 23 4) (St.pure .none) (slotM σ.length 23 7)) (listM (consM (St.pure (.int 0)) (St.pure [])))) (slcM (slotM σ.length 23 4) (slotM σ.length 23 7) (St.pure .none))) (putM σ.length 23 4)))) (seqM
  (asgM (St.pure (.int 0)) (putM σ.length 23 7))
  (seqM
  (whileM (TU σ.length) (augM (slotM σ.length 23 7) (St.pure (.int 1)) iaddP (putM σ.length 23 7)) 1000)
  (asgM (binM addP (binM addP (slcM (slotM σ.length 23 4) (St.pure .none) (slotM σ.length 23 7)) (listM (consM (St.pure (.int 1)) (St.pure [])))) (slcM (slotM σ.length 23 4) (slotM σ.length 23 7) (St.pure .none))) (putM σ.length 23 4)))))
      (σ ++ .ns 23 [s0, s1, s2, s3, some (.ref u), some (ai lack), some (ai ups.sum), none, s8] :: J)
      = some (.next, σ ++ .ns 23 [s0, s1, s2, s3, some (.ref u'), some (ai lack), some (ai ups.sum), s7, s8] :: (J ++ Y)) := by
  have hS : ∀ (i : Nat) (vs : List (Option AV)) X, slotM σ.length 23 i (σ ++ .ns 23 vs :: X) = (match vs[i]? with | some (some v) => some (v, σ ++ .ns 23 vs :: X) | _ => none) := fun i vs X => slot_at _ _ _
  have hT : (truM (cmpM leP (slotM σ.length 23 5) (slotM σ.length 23 6))) (σ ++ .ns 23 [s0, s1, s2, s3, some (.ref u), some (ai lack), some (ai ups.sum), none, s8] :: J) = some (Nat.ble lack ups.sum, σ ++ .ns 23 [s0, s1, s2, s3, some (.ref u), some (ai lack), some (ai ups.sum), none, s8] :: J) := by
    simp only [truM_ap, cmpM_ap, hS, List.getElem?_cons_zero, List.getElem?_cons_succ, ai, leP_int, ible, tru_bool]
  rw [ifM_ap, hT]
  unfold bitsW
  cases hb : Nat.ble lack ups.sum with
  | true =>
    have hle := Nat.le_of_ble_eq_true hb
    have h1 : asgM (callM lenF (consM (slotM σ.length 23 4) (St.pure []))) (putM σ.length 23 7) (σ ++ .ns 23 [s0, s1, s2, s3, some (.ref u), some (ai lack), some (ai ups.sum), none, s8] :: J) = some (.next, σ ++ .ns 23 [s0, s1, s2, s3, some (.ref u), some (ai lack), some (ai ups.sum), some (ai ups.length), s8] :: J) := by
      have hl := len_J (vs := [s0, s1, s2, s3, some (.ref u), some (ai lack), some (ai ups.sum), none, s8]) hu (by omega)
      simp only [asgM_ap, callM_ap, consM_ap, hS, List.getElem?_cons_zero, List.getElem?_cons_succ, pure_ap, hl, nextM_ap, put_at, List.set_cons_zero, List.set_cons_succ]; rfl
    obtain ⟨Y, e⟩ := down_loop (s0 := s0) (s1 := s1) (s2 := s2) (s3 := s3) (s6 := some (ai ups.sum)) (s8 := s8) (by omega) hle ups.length 1000 J (by omega) hu
    generalize downP ups lack ups.length = p at *
    obtain ⟨Y2, hY, hins⟩ := ins_J (σ := σ) (J := J ++ Y) (u := u) (p := p) (ms := ups) (f := 0) (vs := [s0, s1, s2, s3, some (.ref u), some (ai lack), some (ai ups.sum), some (ai p), s8]) (e4 := slotM σ.length 23 4) (e7 := slotM σ.length 23 7) (F := St.pure (.int 0)) (fun X => hS 4 _ _) (fun X => hS 7 _ _) (fun X => rfl) (hu.app Y) (by omega)
    refine ⟨some (ai p), σ.length + (((J ++ Y) ++ Y2).length + 1), (Y ++ Y2) ++ [.list ((ups.take p ++ 0 :: ups.drop p).map ai)], ?_, ?_⟩
    · have := Has.new (σ := σ) (J := (J ++ Y) ++ Y2) (o := .list ((ups.take p ++ 0 :: ups.drop p).map ai))
      rwa [List.append_assoc, List.append_assoc, ← List.append_assoc Y] at this
    · simp only []
      rw [seq_next h1, seq_next e, asgM_ap, hins]
      simp only [nextM_ap, put_at, List.getElem?_cons_zero, List.getElem?_cons_succ, List.set_cons_zero, List.set_cons_succ, List.append_assoc]
  | false =>
    have hle : ups.sum < lack := by
      rcases Nat.lt_or_ge ups.sum lack with h | h
      · exact h
      · rw [Nat.ble_eq_true_of_le h] at hb; cases hb
    have hend : upTest ups lack ups.sum ups.length = false := by
      unfold upTest
      rw [List.take_length, decide_eq_false_iff_not]; omega
    have h1 : asgM (St.pure (.int 0)) (putM σ.length 23 7) (σ ++ .ns 23 [s0, s1, s2, s3, some (.ref u), some (ai lack), some (ai ups.sum), none, s8] :: J) = some (.next, σ ++ .ns 23 [s0, s1, s2, s3, some (.ref u), some (ai lack), some (ai ups.sum), some (ai 0), s8] :: J) := by
      simp only [asgM_ap, pure_ap, nextM_ap, put_at, List.getElem?_cons_zero, List.getElem?_cons_succ, List.set_cons_zero, List.set_cons_succ]; rfl
    obtain ⟨Y, e⟩ := up_loop (s0 := s0) (s1 := s1) (s2 := s2) (s3 := s3) (s8 := s8) (by omega) hend ups.length 0 1000 J (by omega) (by omega) hu
    generalize upP ups lack ups.sum ups.length 0 = p at *
    obtain ⟨Y2, hY, hins⟩ := ins_J (σ := σ) (J := J ++ Y) (u := u) (p := p) (ms := ups) (f := 1) (vs := [s0, s1, s2, s3, some (.ref u), some (ai lack), some (ai ups.sum), some (ai p), s8]) (e4 := slotM σ.length 23 4) (e7 := slotM σ.length 23 7) (F := St.pure (.int 1)) (fun X => hS 4 _ _) (fun X => hS 7 _ _) (fun X => rfl) (hu.app Y) (by omega)
    refine ⟨some (ai p), σ.length + (((J ++ Y) ++ Y2).length + 1), (Y ++ Y2) ++ [.list ((ups.take p ++ 1 :: ups.drop p).map ai)], ?_, ?_⟩
    · have := Has.new (σ := σ) (J := (J ++ Y) ++ Y2) (o := .list ((ups.take p ++ 1 :: ups.drop p).map ai))
      rwa [List.append_assoc, List.append_assoc, ← List.append_assoc Y] at this
    · simp only []
      rw [seq_next h1, seq_next e, asgM_ap, hins]
      simp only [nextM_ap, put_at, List.getElem?_cons_zero, List.getElem?_cons_succ, List.set_cons_zero, List.set_cons_succ, List.append_assoc]
theorem x_mended (h : σ[l]? = some (.list (less.map ai))) (hc : σ[c]? = some (.list (([a, b] : List Nat).map ai))) (hz : less.length ≤ 50) (h1 : 0 < less.length) :
    ∃ L junk, P_mended σ.length (σ ++ [.ns 23 [some (.ref l), some (.ref c), none, none, none, none, none, none, none]]) = some (.ret (.ref (σ.length + L)), σ ++ junk) ∧ junk[L]? = some (.list ((mendP less a b).map ai)) := by
  have hS : ∀ (i : Nat) (vs : List (Option AV)) X, slotM σ.length 23 i (σ ++ .ns 23 vs :: X) = (match vs[i]? with | some (some v) => some (v, σ ++ .ns 23 vs :: X) | _ => none) := fun i vs X => slot_at _ _ _
  have hl0 : ∀ J, Has σ J l (.list (less.map ai)) := fun J => Has.old h
  have hc0 : ∀ J, Has σ J c (.list (([a, b] : List Nat).map ai)) := fun J => Has.old hc
  have ul : (upsP less).length = less.length - 1 := ups_len less
  have t1 : asgM (binM addP (callM lenF (consM (slotM σ.length 23 0) (St.pure []))) (St.pure (.int 1))) (putM σ.length 23 2) (σ ++ .ns 23 [some (.ref l), some (.ref c), none, none, none, none, none, none, none] :: []) = some (.next, σ ++ .ns 23 [some (.ref l), some (.ref c), some (ai (less.length + 1)), none, none, none, none, none, none] :: []) := by
    have hl := len_J (vs := [some (.ref l), some (.ref c), none, none, none, none, none, none, none]) (hl0 []) (by omega)
    exact o_asg (o_bin (o_call (o_cons (hS 0 _ _) rfl) hl) rfl rfl) (put_at _ _ _ _)
  have t2 : asgM (binM modP (binM subP (idxM (slotM σ.length 23 1) (St.pure (.int 1))) (callM sumF (consM (slotM σ.length 23 0) (St.pure [])))) (St.pure (.int 16))) (putM σ.length 23 3) (σ ++ .ns 23 [some (.ref l), some (.ref c), some (ai (less.length + 1)), none, none, none, none, none, none] :: []) = some (.next, σ ++ .ns 23 [some (.ref l), some (.ref c), some (ai (less.length + 1)), some (ai ((b + 15 * less.sum) % 16)), none, none, none, none, none] :: []) := by
    have hs := sum_J (vs := [some (.ref l), some (.ref c), some (ai (less.length + 1)), none, none, none, none, none, none]) (hl0 [])
    have hi := idx_at (k := 1) ((hc0 []).at [some (.ref l), some (.ref c), some (ai (less.length + 1)), none, none, none, none, none, none]) (by simp) (by simp)
    have hm : ∀ τ : List AO, modP (.int ((b : Int) - (less.sum : Int))) (.int 16) τ = some (.int ((b + 15 * less.sum) % 16 : Nat), τ) := fun τ => by rw [modP_int, fmod_16]; rfl
    simp only [List.getD_cons_succ, List.getD_cons_zero, Int.cast_ofNat_Int] at hi
    exact o_asg (o_bin (o_bin (o_idx (hS 1 _ _) rfl hi) (o_call (o_cons (hS 0 _ _) rfl) hs) rfl) rfl (hm _)) (put_at _ _ _ _)
  generalize hfg : (b + 15 * less.sum) % 16 = fig at t2
  have t3 : asgM (callM upsG (consM (slotM σ.length 23 0) (St.pure []))) (putM σ.length 23 4) (σ ++ .ns 23 [some (.ref l), some (.ref c), some (ai (less.length + 1)), some (ai fig), none, none, none, none, none] :: []) = some (.next, σ ++ .ns 23 [some (.ref l), some (.ref c), some (ai (less.length + 1)), some (ai fig), some (.ref (σ.length + (0 + 1))), none, none, none, none] :: [.list ((upsP less).map ai)]) := by
    have hu := ups_J (vs := [some (.ref l), some (.ref c), some (ai (less.length + 1)), some (ai fig), none, none, none, none, none]) (hl0 []) (by omega)
    exact o_asg (o_call (o_cons (hS 0 _ _) rfl) hu) (put_at _ _ _ _)
  have hU : Has σ [.list ((upsP less).map ai)] (σ.length + (0 + 1)) (.list ((upsP less).map ai)) := Has.new (J := [])
  generalize σ.length + (0 + 1) = u at t3 hU
  generalize hJ : ([.list ((upsP less).map ai)] : List AO) = J at t3 hU
  have t4 : asgM (binM modP (binM subP (idxM (slotM σ.length 23 1) (St.pure (.int 0))) (callM placesG (consM (slotM σ.length 23 4) (St.pure [])))) (slotM σ.length 23 2)) (putM σ.length 23 5) (σ ++ .ns 23 [some (.ref l), some (.ref c), some (ai (less.length + 1)), some (ai fig), some (.ref u), none, none, none, none] :: J) = some (.next, σ ++ .ns 23 [some (.ref l), some (.ref c), some (ai (less.length + 1)), some (ai fig), some (.ref u), some (ai ((a + less.length * plc 0 (upsP less)) % (less.length + 1))), none, none, none] :: J) := by
    have hp := places_at (hU.at [some (.ref l), some (.ref c), some (ai (less.length + 1)), some (ai fig), some (.ref u), none, none, none, none]) (by omega)
    have hi := idx_at (k := 0) ((hc0 J).at [some (.ref l), some (.ref c), some (ai (less.length + 1)), some (ai fig), some (.ref u), none, none, none, none]) (by simp) (by simp)
    have hm : ∀ τ : List AO, modP (.int ((a : Int) - (plc 0 (upsP less) : Int))) (.int ((less.length + 1 : Nat) : Int)) τ = some (.int ((a + less.length * plc 0 (upsP less)) % (less.length + 1) : Nat), τ) := fun τ => by
      rw [modP_int, fmod_up, show (((less.length + 1 : Nat) : Int) == 0) = false from by simp; omega]; rfl
    simp only [List.getD_cons_zero, Int.cast_ofNat_Int] at hi
    simp only [ai] at hp hi ⊢
    exact o_asg (o_bin (o_bin (o_idx (hS 1 _ _) rfl hi) (o_call (o_cons (hS 4 _ _) rfl) hp) rfl) (hS 2 _ _) (hm _)) (put_at _ _ _ _)
  generalize hlk : (a + less.length * plc 0 (upsP less)) % (less.length + 1) = lack at t4
  have hlkl : lack ≤ (upsP less).length + 1 := by have := Nat.mod_lt (a + less.length * plc 0 (upsP less)) (show less.length + 1 > 0 by omega); rw [ul]; omega
  have t5 : asgM (callM sumF (consM (slotM σ.length 23 4) (St.pure []))) (putM σ.length 23 6) (σ ++ .ns 23 [some (.ref l), some (.ref c), some (ai (less.length + 1)), some (ai fig), some (.ref u), some (ai lack), none, none, none] :: J) = some (.next, σ ++ .ns 23 [some (.ref l), some (.ref c), some (ai (less.length + 1)), some (ai fig), some (.ref u), some (ai lack), some (ai (upsP less).sum), none, none] :: J) := by
    have hs := sum_J (vs := [some (.ref l), some (.ref c), some (ai (less.length + 1)), some (ai fig), some (.ref u), some (ai lack), none, none, none]) hU
    exact o_asg (o_call (o_cons (hS 4 _ _) rfl) hs) (put_at _ _ _ _)
  obtain ⟨s7, u', Y, hB, t6⟩ := mend_bits (s0 := some (.ref l)) (s1 := some (.ref c)) (s2 := some (ai (less.length + 1))) (s3 := some (ai fig)) (s8 := none) J (by omega) hlkl hU
  generalize hbw : bitsW (upsP less) lack = bits at hB
  generalize hps : List.range' 0 (less.length + 1) = ps
  obtain ⟨s7', s8', Y2, hf⟩ := find_loop (s1 := some (.ref c)) (s2 := some (ai (less.length + 1))) (fig := fig) (s5 := some (ai lack)) (s6 := some (ai (upsP less).sum)) hz h ps (J ++ Y) s7 none hB
  have hr := rangeArgs_nat (n := less.length + 1) (by omega)
  have hri := rangeI_nat (less.length + 1)
  rw [hps] at hri
  have hit : rangeIt (consM (slotM σ.length 23 2) (St.pure [])) (σ ++ .ns 23 [some (.ref l), some (.ref c), some (ai (less.length + 1)), some (ai fig), some (.ref u'), some (ai lack), some (ai (upsP less).sum), s7, none] :: (J ++ Y)) = some ((ps.map ai, always), σ ++ .ns 23 [some (.ref l), some (.ref c), some (ai (less.length + 1)), some (ai fig), some (.ref u'), some (ai lack), some (ai (upsP less).sum), s7, none] :: (J ++ Y)) := by
    rw [rangeIt_ap]
    simp only [ai] at hr hri ⊢
    simp only [consM_ap, hS, List.getElem?_cons_zero, List.getElem?_cons_succ, pure_ap, hr, hri]
  unfold mendP P_mended
  rw [hfg, hlk, hbw, hps]
  show ∃ L junk, seqM _ _ (σ ++ .ns 23 [some (.ref l), some (.ref c), none, none, none, none, none, none, none] :: []) = _ ∧ _
  rw [seq_next t1, seq_next t2, seq_next t3, seq_next t4, seq_next t5, seq_next t6, seqM_ap, forM_ap, hit]
  simp only []
  cases hw : findW less fig bits ps with
  | some wh =>
    rw [hw] at hf
    obtain ⟨L, hL, e⟩ := hf
    rw [e]
    exact ⟨L, _, rfl, hL⟩
  | none =>
    rw [hw] at hf
    simp only [] at hf
    rw [hf]
    simp only [retM_ap, listM_ap, pure_ap, List.length_nil, show okSz 0 = true from rfl, lenJ, appJ]
    exact ⟨_, _, rfl, by rw [List.getElem?_cons_succ, List.getElem?_append_right (Nat.le_refl _), Nat.sub_self]; rfl⟩
set_option tactic.hygienic true in
theorem m_mended : ∀ args σ v σ', mendedG args σ = some (v, σ') → ∃ v₁ σ₁, fnM ["less", "checks"] ["less", "checks", "size", "figure", "ups", "lack", "weight", "place", "whole"] 23 [] P_mended args σ = some (v₁, σ₁) ∧ Cut σ σ₁ v₁ v σ' := by
  intro args σ v σ' h
  unfold mendedG at h
  split at h
  · rename_i l c
    split at h
    · rename_i xs ys e1 e2
      split at h
      · rename_i less a b n1 n2
        obtain ⟨hg, h⟩ := guardM_some h
        cases h
        simp only [Bool.and_eq_true, Nat.ble_eq] at hg
        obtain ⟨L, junk, e3, e4⟩ := x_mended (list_of e1 n1) (list_of e2 n2) hg.1 hg.2
        exact ⟨_, _, fn_run (τ := [.ns 23 [some (.ref l), some (.ref c), none, none, none, none, none, none, none]]) (by kernel_rfl) rfl e3, Cut.list e4 (fun x hx => by obtain ⟨q, _, rfl⟩ := List.mem_map.mp hx; trivial)⟩
      · cases h
    · cases h
  · cases h
end
end Mine
end
section
set_option maxHeartbeats 4000000
namespace Mine
open PySem PySem.Spec PySem.Calls PyProof.Rows PySem.W
noncomputable def cutR (P : St AV) : St AV := fun σ => match P σ with
  | some (.ref l, σ') => match σ'[l]? with
    | some o => onlyIf (σ.length ≤ σ'.length ∧ σ.length ≤ l ∧ (∀ i o, i < σ.length → σ'[i]? = some o → σ[i]? = some o ∨ o.below σ.length) ∧ o.below σ.length) (fun _ => some (.ref σ.length, σ'.take σ.length ++ [o])) σ
    | none => none
  | _ => none
theorem ref_cutR {c : Cx} {d : Nat} {sc : Scope} {ae : AEnv} {e : Expr} {P : St AV} (hP : RefE c d sc ae e P) : RefE c d sc ae e (cutR P) := by
  intro A θ σ s env v σ' ok rr ev h
  have hx : ∃ l σ₁ o, P σ = some (.ref l, σ₁) ∧ σ₁[l]? = some o ∧ (σ.length ≤ σ₁.length ∧ σ.length ≤ l ∧ (∀ i o, i < σ.length → σ₁[i]? = some o → σ[i]? = some o ∨ o.below σ.length) ∧ o.below σ.length) ∧ v = .ref σ.length ∧ σ' = σ₁.take σ.length ++ [o] := by
    unfold cutR at h
    cases h1 : P σ with
    | none => rw [h1] at h; cases h
    | some q =>
      obtain ⟨a, σ₁⟩ := q
      rw [h1] at h
      cases a with
      | ref l =>
        simp only at h
        cases h2 : σ₁[l]? with
        | none => rw [h2] at h; cases h
        | some o =>
          rw [h2] at h
          obtain ⟨h3, h4⟩ := onlyIf_some h
          cases h4
          exact ⟨l, σ₁, o, rfl, h2, h3, rfl, rfl⟩
      | _ => cases h
  obtain ⟨l, σ₁, o, h1, h2, ⟨h3, h4, h5, h6⟩, rfl, rfl⟩ := hx
  exact wpAny_mono (hP A θ σ s env _ _ ok rr ev h1) (fun a s₁ x => x.elim fun θ₁ x => cut_post rr x.1 x.2 ⟨σ.length, Nat.le_refl _, h3, h5, .inr ⟨l, o, h4, rfl, h2, h6, rfl, rfl⟩⟩) fun _ _ x => x
theorem cutR_ap {P : St AV} {σ junk : List AO} {l : Nat} {o : AO} (h : P σ = some (.ref (σ.length + l), σ ++ junk)) (hj : junk[l]? = some o) (hb : o.below σ.length) : cutR P σ = some (.ref σ.length, σ ++ [o]) := by
  unfold cutR
  rw [h]
  simp only [get_at, hj]
  rw [onlyIf_pos ⟨by simp, Nat.le_add_right _ _, fun i o hi e => .inl (by rwa [List.getElem?_append_left hi] at e), hb⟩, List.take_left]
noncomputable def readW : Nat → Int → List Nat → List (List Nat) → Option (List (List Nat) × Int × List Nat × List (List Nat))
  | 0, ln, s, p => some ([], ln, s, p)
  | n + 1, ln, s, p => match tokP [] ln s p with
    | some (.str w, ln1, s1, p1) => match Nat.ble s1.length 900 && Nat.ble p1.length 900 with
      | true => match readW n ln1 s1 p1 with
        | some (ws, r) => some (w :: ws, r)
        | none => none
      | false => none
    | _ => none
theorem readW_some {n : Nat} {ln : Int} {s : List Nat} {p : List (List Nat)} {ws : List (List Nat)} {r : Int × List Nat × List (List Nat)} (h : readW (n + 1) ln s p = some (ws, r)) :
    ∃ w ln1 s1 p1 ws', tokP [] ln s p = some (.str w, ln1, s1, p1) ∧ s1.length ≤ 900 ∧ p1.length ≤ 900 ∧ readW n ln1 s1 p1 = some (ws', r) ∧ ws = w :: ws' := by
  unfold readW at h
  cases ht : tokP [] ln s p with
  | none => rw [ht] at h; cases h
  | some q =>
    obtain ⟨v, ln1, s1, p1⟩ := q
    rw [ht] at h
    cases v with
    | str w =>
      simp only at h
      cases hb : Nat.ble s1.length 900 && Nat.ble p1.length 900 with
      | false => rw [hb] at h; cases h
      | true =>
        rw [hb] at h
        simp only at h
        cases hr : readW n ln1 s1 p1 with
        | none => rw [hr] at h; cases h
        | some z =>
          obtain ⟨ws', r'⟩ := z
          rw [hr] at h
          cases h
          obtain ⟨b1, b2⟩ := Bool.and_eq_true_iff.mp hb
          exact ⟨w, ln1, s1, p1, ws', rfl, Nat.le_of_ble_eq_true b1, Nat.le_of_ble_eq_true b2, hr, rfl⟩
    | _ => cases h
section
variable {C : Addr} {sp : FnSpec} {g : Gh} {k cl : Nat}
noncomputable def getE (C : Addr) (sp : FnSpec) (g : Gh) (cl : Nat) : St AV := methM (cellM cl) (selInst C "get_token") (tokG C sp g) (St.pure [])
theorem get_tok {ρ τ : List AO} {ln ln1 : Int} {s s1 : List Nat} {p p1 : List (List Nat)} {w : List Nat} (h : LexInv C sp g ρ ln s p) (hc : ρ[cl]? = some (.cell (some (.ref g.x)))) (ht : tokP [] ln s p = some (.str w, ln1, s1, p1)) : getE C sp g cl (ρ ++ τ) = some (.str w, lexPut g ln1 s1 p1 ρ ++ τ) := by
  have hcl : cellM cl (ρ ++ τ) = some (.ref g.x, ρ ++ τ) := by unfold cellM; rw [get_old hc]
  have hs : selInst C "get_token" (.ref g.x) (ρ ++ τ) = some [.ref g.x] := sel_at h.app look_gt
  have hk : tokG C sp g [.ref g.x] (ρ ++ τ) = some (.str w, lexPut g ln1 s1 p1 (ρ ++ τ)) := lexF_ap (F := tokP) (rest := []) h.app ht
  unfold getE
  simp only [methM_ap, hcl, hs, pure_ap, List.cons_append, List.nil_append, hk, put_app h]
theorem put_self {ρ : List AO} {ln : Int} {s : List Nat} {p : List (List Nat)} (h : LexInv C sp g ρ ln s p) : lexPut g ln s p ρ = ρ := by
  have hs : ∀ (i : Nat) (o : AO), ρ[i]? = some o → ρ.set i o = ρ := fun i o e => by
    apply List.ext_getElem?
    intro j
    by_cases hj : i = j
    · subst hj; rw [List.getElem?_set_self (lt_of_get e), e]
    · rw [List.getElem?_set_ne hj]
  unfold lexPut
  rw [hs _ _ h.d, hs _ _ h.L, hs _ _ h.pb]
theorem compL_tok : ∀ (vs : List AV) (ρ : List AO) (ln : Int) (s : List Nat) (p : List (List Nat)) (ws : List (List Nat)) (r : Int × List Nat × List (List Nat)) (ys : List AV) (c : Option AV), LexInv C sp g ρ ln s p → ρ[cl]? = some (.cell (some (.ref g.x))) → readW vs.length ln s p = some (ws, r) → ys.length + vs.length ≤ 1000 →
    ∃ c', compL always (putM (ρ.length + 1) k 0) (St.pure true) (getE C sp g cl) ρ.length vs (ρ ++ .list ys :: .ns k [c] :: []) = some ((), lexPut g r.1 r.2.1 r.2.2 ρ ++ .list (ys ++ ws.map .str) :: .ns k [c'] :: []) := by
  intro vs
  induction vs with
  | nil =>
    intro ρ ln s p ws r ys c h hc hr hl
    cases hr
    refine ⟨c, ?_⟩
    unfold compL
    rw [onlyIf_pos (by trivial), put_self h]; simp [St.pure]
  | cons v vs ih =>
    intro ρ ln s p ws r ys c h hc hr hl
    simp only [List.length_cons] at hl hr
    obtain ⟨w, ln1, s1, p1, ws', ht, b1, b2, hr', rfl⟩ := readW_some hr
    have h1 := h.put (ln' := ln1) b1 b2
    have hlen : (lexPut g ln1 s1 p1 ρ).length = ρ.length := put_len
    have hc1 : (lexPut g ln1 s1 p1 ρ)[cl]? = some (.cell (some (.ref g.x))) := put_other h hc (ne_of_get hc h.d nofun) (ne_of_get hc h.L nofun) (ne_of_get hc h.pb nofun)
    obtain ⟨c', e⟩ := ih (lexPut g ln1 s1 p1 ρ) ln1 s1 p1 ws' r (ys ++ [.str w]) (some v) h1 hc1 hr' (by simp; omega)
    rw [hlen, put_put h] at e
    refine ⟨c', ?_⟩
    have hpu := pushL_junk (ρ := lexPut g ln1 s1 p1 ρ) (k := k) ys [] (some v) (.str w) [] (okSz_of (by omega))
    rw [hlen] at hpu
    unfold compL
    rw [onlyIf_pos (by trivial), bind_ap, putk_junk]
    simp only [bind_ap, pure_ap, get_tok h hc ht, hpu, e, List.map_cons, List.append_assoc, List.cons_append, List.nil_append]
theorem compR_tok {ρ : List AO} {ln : Int} {s : List Nat} {p : List (List Nat)} {ws : List (List Nat)} {r : Int × List Nat × List (List Nat)} {vs : List AV} (h : LexInv C sp g ρ ln s p) (hc : ρ[cl]? = some (.cell (some (.ref g.x)))) (hr : readW vs.length ln s p = some (ws, r)) (hl : vs.length ≤ 1000) :
    compR k 1 (fun f2 => putM f2 k 0) (fun _ => St.pure true) (fun _ => getE C sp g cl) vs always ρ = some (.ref ρ.length, lexPut g r.1 r.2.1 r.2.2 ρ ++ [.list (ws.map .str)]) := by
  obtain ⟨c', e⟩ := compL_tok (k := k) vs ρ ln s p ws r [] none h hc hr (by simpa using hl)
  have hlen : (lexPut g r.1 r.2.1 r.2.2 ρ).length = ρ.length := put_len
  unfold compR
  rw [show List.replicate 1 (none : Option AV) = [none] from rfl, e]
  simp only []
  generalize hρ' : lexPut g r.1 r.2.1 r.2.2 ρ = ρ' at *
  rw [onlyIf_pos]
  · rw [show ρ' ++ .list ([] ++ ws.map AV.str) :: .ns k [c'] :: [] = (ρ' ++ [AO.list (ws.map .str)]) ++ .ns k [c'] :: [] from by simp, List.take_left' (by simp [hlen])]
  · refine ⟨by simp [hlen], ⟨k, [c'], by rw [← hlen, get_at]; rfl⟩, fun i o hi e => ?_⟩
    by_cases h1 : i < ρ.length
    · rw [List.getElem?_append_left (by omega)] at e
      rw [← hρ'] at e
      rcases put_kept h i o e with q | q
      · exact .inl q
      · right
        have : ∀ {n n' : Nat} {o : AO}, n ≤ n' → o.below n → o.below n' := fun {n n' o} hn hb => by
          have ha : ∀ a : AV, a.below n → a.below n' := fun a h => by cases a <;> first | trivial | exact Nat.lt_of_lt_of_le h hn
          have hO : ∀ a : Option AV, OVbelow n a → OVbelow n' a := fun a h => by cases a <;> first | trivial | exact ha _ h
          cases o <;> first | trivial | exact fun v hv => hO v (hb v hv) | exact hO _ hb | exact fun v hv => ha _ (hb v hv) | exact Nat.lt_of_lt_of_le hb hn | exact ha _ hb | exact ⟨Nat.lt_of_lt_of_le hb.1 hn, fun p hp => Nat.lt_of_lt_of_le (hb.2 p hp) hn⟩ | exact ⟨ha _ hb.1, ha _ hb.2⟩
        exact this (Nat.le_succ _) q
    · have : i = ρ.length := by omega
      subst this
      rw [← hlen, get_at0] at e
      cases e
      right
      intro x hx
      obtain ⟨w, _, rfl⟩ := List.mem_map.mp hx
      trivial
end
end Mine
end
section
open PySem PySem.W PyProof.Rows
namespace Mine
noncomputable def nthS : List Stmt → Nat → Stmt
  | [], _ => .Pass default
  | s :: _, 0 => s
  | _ :: l, n + 1 => nthS l n
noncomputable def pw : Program := PySem.Challenge.pw_sc0037_02
noncomputable def topS (i : Nat) : Stmt := nthS pw.main.body i
noncomputable def metS (j : Nat) : Stmt := match topS 9 with
  | .ClassDef _ _ _ b _ _ _ _ _ _ _ => nthS b j
  | _ => .Pass default
noncomputable def fnO (s : Stmt) (q : Str) (m c : Value) : Obj := match s with
  | .FunctionDef n p b _ _ _ sc _ _ _ => { cls := Value.type "function", data := Data.func { name := n, qualname := q, params := p, body := FuncBody.stmts b, scope := sc, globals := 3, closure := [], defaults := Value.none, kwdefaults := Value.none, pyModule := m, code := c } }
  | _ => { cls := Value.none, data := Data.dict #[] }
noncomputable def vw : Program := { pw with main := { pw.main with body := [1, 2, 3, 4, 5, 7, 9, 11, 12, 13, 14, 15, 16, 17, 18, 19, 20].map topS } }
noncomputable def K : Params → Frag := fun P =>
  [(2, { cls := Value.none, data := Data.dict #[] }), (3, { cls := Value.type "dict", data := Data.dict #[{ hash := PyData.keyHash P (Str.ofString "__name__"), key := Value.str (Str.ofString "__name__") 165, val := Value.str (Str.ofString "law_sc0037_02") 295 }, { hash := PyData.keyHash P (Str.ofString "__doc__"), key := Value.str (Str.ofString "__doc__") 166, val := Value.none }, { hash := PyData.keyHash P (Str.ofString "__package__"), key := Value.str (Str.ofString "__package__") 167, val := Value.none }, { hash := PyData.keyHash P (Str.ofString "__loader__"), key := Value.str (Str.ofString "__loader__") 168, val := Value.builtin "__main__.__loader__#opaque" }, { hash := PyData.keyHash P (Str.ofString "__spec__"), key := Value.str (Str.ofString "__spec__") 169, val := Value.none }, { hash := PyData.keyHash P (Str.ofString "__annotations__"), key := Value.str (Str.ofString "__annotations__") 170, val := Value.ref 6 }, { hash := PyData.keyHash P (Str.ofString "__builtins__"), key := Value.str (Str.ofString "__builtins__") 171, val := Value.ref 4 }, { hash := PyData.keyHash P (Str.ofString "__file__"), key := Value.str (Str.ofString "__file__") 173, val := Value.str (Str.ofString "/claim/cut.py") 172 }, { hash := PyData.keyHash P (Str.ofString "__cached__"), key := Value.str (Str.ofString "__cached__") 174, val := Value.none }, { hash := PyData.keyHash P (Str.ofString "_MAX_STRING_SIZE"), key := Value.str (Str.ofString "_MAX_STRING_SIZE") 190, val := Value.int 40 189 }, { hash := PyData.keyHash P (Str.ofString "_MOVE_COST"), key := Value.str (Str.ofString "_MOVE_COST") 192, val := Value.int 2 191 }, { hash := PyData.keyHash P (Str.ofString "_CASE_COST"), key := Value.str (Str.ofString "_CASE_COST") 194, val := Value.int 1 193 }, { hash := PyData.keyHash P (Str.ofString "_substitution_cost"), key := Value.str (Str.ofString "_substitution_cost") 202, val := Value.ref 21 }, { hash := PyData.keyHash P (Str.ofString "_levenshtein_distance"), key := Value.str (Str.ofString "_levenshtein_distance") 222, val := Value.ref 28 }, { hash := PyData.keyHash P (Str.ofString "Int2AP"), key := Value.str (Str.ofString "Int2AP") 234, val := Value.ref 35 }, { hash := PyData.keyHash P (Str.ofString "_netrclex"), key := Value.str (Str.ofString "_netrclex") 294, val := Value.ref 73 }, { hash := PyData.keyHash P (Str.ofString "_law_file"), key := Value.str (Str.ofString "_law_file") 305, val := Value.ref 84 }, { hash := PyData.keyHash P (Str.ofString "_law_written"), key := Value.str (Str.ofString "_law_written") 316, val := Value.ref 91 }, { hash := PyData.keyHash P (Str.ofString "_law_told"), key := Value.str (Str.ofString "_law_told") 322, val := Value.ref 96 }, { hash := PyData.keyHash P (Str.ofString "_law_letters"), key := Value.str (Str.ofString "_law_letters") 328, val := Value.ref 101 }, { hash := PyData.keyHash P (Str.ofString "_law_figures"), key := Value.str (Str.ofString "_law_figures") 334, val := Value.ref 106 }, { hash := PyData.keyHash P (Str.ofString "_law_ups"), key := Value.str (Str.ofString "_law_ups") 340, val := Value.ref 111 }, { hash := PyData.keyHash P (Str.ofString "_law_places"), key := Value.str (Str.ofString "_law_places") 346, val := Value.ref 116 }, { hash := PyData.keyHash P (Str.ofString "_law_checks"), key := Value.str (Str.ofString "_law_checks") 353, val := Value.ref 123 }, { hash := PyData.keyHash P (Str.ofString "_law_mended"), key := Value.str (Str.ofString "_law_mended") 368, val := Value.ref 130 }, { hash := PyData.keyHash P (Str.ofString "law"), key := Value.str (Str.ofString "law") 374, val := Value.ref 135 }] 26 }), (6, { cls := Value.type "dict", data := Data.dict #[] }), (15, { cls := Value.type "tuple", data := Data.seq #[] }), (17, { cls := Value.type "tuple", data := Data.seq #[Value.str (Str.ofString "ch_a") 198, Value.str (Str.ofString "ch_b") 199] }), (18, { cls := Value.type "tuple", data := Data.seq #[] }), (20, { cls := Value.type "code", data := Data.fields #[Value.str (Str.ofString "_substitution_cost") 195, Value.str (Str.ofString "_substitution_cost") 196, Value.str (Str.ofString "/claim/cut.py") 197, Value.int 5 0, Value.int 2 0, Value.int 0 0, Value.int 0 0, Value.int 3 0, Value.ref 15, Value.bool true, Value.int 181 0, Value.ref 16, Value.none, Value.ref 17, Value.ref 18, Value.ref 19, Value.int 200 0, Value.int 5 0, Value.str (Str.ofString "/claim/cut.py") 201] }), (21, fnO (topS 4) (Str.ofString "_substitution_cost") (Value.str (Str.ofString "cpy313.traceback") 187) (Value.ref 20)), (22, { cls := Value.type "tuple", data := Data.seq #[] }), (24, { cls := Value.type "tuple", data := Data.seq #[Value.str (Str.ofString "a") 206, Value.str (Str.ofString "b") 207, Value.str (Str.ofString "max_cost") 208, Value.str (Str.ofString "pre") 209, Value.str (Str.ofString "post") 210, Value.str (Str.ofString "row") 211, Value.str (Str.ofString "result") 212, Value.str (Str.ofString "bindex") 213, Value.str (Str.ofString "bchar") 214, Value.str (Str.ofString "distance") 215, Value.str (Str.ofString "minimum") 216, Value.str (Str.ofString "index") 217, Value.str (Str.ofString "substitute") 218, Value.str (Str.ofString "insert_delete") 219] }), (25, { cls := Value.type "tuple", data := Data.seq #[] }), (27, { cls := Value.type "code", data := Data.fields #[Value.str (Str.ofString "_levenshtein_distance") 203, Value.str (Str.ofString "_levenshtein_distance") 204, Value.str (Str.ofString "/claim/cut.py") 205, Value.int 11 0, Value.int 3 0, Value.int 0 0, Value.int 0 0, Value.int 3 0, Value.ref 22, Value.bool true, Value.int 181 0, Value.ref 23, Value.none, Value.ref 24, Value.ref 25, Value.ref 26, Value.int 220 0, Value.int 11 0, Value.str (Str.ofString "/claim/cut.py") 221] }), (28, fnO (topS 5) (Str.ofString "_levenshtein_distance") (Value.str (Str.ofString "cpy313.traceback") 187) (Value.ref 27)), (29, { cls := Value.type "tuple", data := Data.seq #[] }), (31, { cls := Value.type "tuple", data := Data.seq #[Value.str (Str.ofString "num") 228, Value.str (Str.ofString "val") 229, Value.str (Str.ofString "AP") 230, Value.str (Str.ofString "mod") 231] }), (32, { cls := Value.type "tuple", data := Data.seq #[] }), (34, { cls := Value.type "code", data := Data.fields #[Value.str (Str.ofString "Int2AP") 225, Value.str (Str.ofString "Int2AP") 226, Value.str (Str.ofString "/claim/cut.py") 227, Value.int 50 0, Value.int 1 0, Value.int 0 0, Value.int 0 0, Value.int 3 0, Value.ref 29, Value.bool true, Value.int 181 0, Value.ref 30, Value.none, Value.ref 31, Value.ref 32, Value.ref 33, Value.int 232 0, Value.int 50 0, Value.str (Str.ofString "/claim/cut.py") 233] }), (35, fnO (topS 7) (Str.ofString "Int2AP") (Value.str (Str.ofString "cpy313.imaplib") 223) (Value.ref 34)), (43, { cls := Value.type "tuple", data := Data.seq #[] }), (45, { cls := Value.type "tuple", data := Data.seq #[Value.str (Str.ofString "self") 252, Value.str (Str.ofString "fp") 253] }), (46, { cls := Value.type "tuple", data := Data.seq #[] }), (48, { cls := Value.type "code", data := Data.fields #[Value.str (Str.ofString "__init__") 249, Value.str (Str.ofString "_netrclex.__init__") 250, Value.str (Str.ofString "/claim/cut.py") 251, Value.int 61 0, Value.int 2 0, Value.int 0 0, Value.int 0 0, Value.int 3 0, Value.ref 43, Value.bool true, Value.int 181 0, Value.ref 44, Value.none, Value.ref 45, Value.ref 46, Value.ref 47, Value.int 254 0, Value.int 61 0, Value.str (Str.ofString "/claim/cut.py") 255] }), (49, fnO (metS 0) (Str.ofString "_netrclex.__init__") (Value.str (Str.ofString "cpy313.netrc") 235) (Value.ref 48)), (50, { cls := Value.type "tuple", data := Data.seq #[] }), (52, { cls := Value.type "tuple", data := Data.seq #[Value.str (Str.ofString "self") 260, Value.str (Str.ofString "ch") 261] }), (53, { cls := Value.type "tuple", data := Data.seq #[] }), (55, { cls := Value.type "code", data := Data.fields #[Value.str (Str.ofString "_read_char") 257, Value.str (Str.ofString "_netrclex._read_char") 258, Value.str (Str.ofString "/claim/cut.py") 259, Value.int 67 0, Value.int 1 0, Value.int 0 0, Value.int 0 0, Value.int 3 0, Value.ref 50, Value.bool true, Value.int 181 0, Value.ref 51, Value.none, Value.ref 52, Value.ref 53, Value.ref 54, Value.int 262 0, Value.int 67 0, Value.str (Str.ofString "/claim/cut.py") 263] }), (56, fnO (metS 1) (Str.ofString "_netrclex._read_char") (Value.str (Str.ofString "cpy313.netrc") 235) (Value.ref 55)), (57, { cls := Value.type "tuple", data := Data.seq #[] }), (59, { cls := Value.type "tuple", data := Data.seq #[Value.str (Str.ofString "self") 268, Value.str (Str.ofString "token") 269, Value.str (Str.ofString "fiter") 270, Value.str (Str.ofString "ch") 271] }), (60, { cls := Value.type "tuple", data := Data.seq #[] }), (62, { cls := Value.type "code", data := Data.fields #[Value.str (Str.ofString "get_token") 265, Value.str (Str.ofString "_netrclex.get_token") 266, Value.str (Str.ofString "/claim/cut.py") 267, Value.int 73 0, Value.int 1 0, Value.int 0 0, Value.int 0 0, Value.int 3 0, Value.ref 57, Value.bool true, Value.int 181 0, Value.ref 58, Value.none, Value.ref 59, Value.ref 60, Value.ref 61, Value.int 272 0, Value.int 73 0, Value.str (Str.ofString "/claim/cut.py") 273] }), (63, fnO (metS 2) (Str.ofString "_netrclex.get_token") (Value.str (Str.ofString "cpy313.netrc") 235) (Value.ref 62)), (64, { cls := Value.type "tuple", data := Data.seq #[] }), (66, { cls := Value.type "tuple", data := Data.seq #[Value.str (Str.ofString "self") 278, Value.str (Str.ofString "token") 279] }), (67, { cls := Value.type "tuple", data := Data.seq #[] }), (69, { cls := Value.type "code", data := Data.fields #[Value.str (Str.ofString "push_token") 275, Value.str (Str.ofString "_netrclex.push_token") 276, Value.str (Str.ofString "/claim/cut.py") 277, Value.int 100 0, Value.int 2 0, Value.int 0 0, Value.int 0 0, Value.int 3 0, Value.ref 64, Value.bool true, Value.int 181 0, Value.ref 65, Value.none, Value.ref 66, Value.ref 67, Value.ref 68, Value.int 280 0, Value.int 100 0, Value.str (Str.ofString "/claim/cut.py") 281] }), (70, fnO (metS 3) (Str.ofString "_netrclex.push_token") (Value.str (Str.ofString "cpy313.netrc") 235) (Value.ref 69)), (71, { cls := Value.type "tuple", data := Data.seq #[Value.str (Str.ofString "instream") 283, Value.str (Str.ofString "lineno") 284, Value.str (Str.ofString "pushback") 285, Value.str (Str.ofString "whitespace") 286] }), (72, { cls := Value.type "dict", data := Data.dict #[{ hash := PyData.keyHash P (Str.ofString "__module__"), key := Value.str (Str.ofString "__module__") 244, val := Value.str (Str.ofString "cpy313.netrc") 235 }, { hash := PyData.keyHash P (Str.ofString "__firstlineno__"), key := Value.str (Str.ofString "__firstlineno__") 248, val := Value.int 59 247 }, { hash := PyData.keyHash P (Str.ofString "__init__"), key := Value.str (Str.ofString "__init__") 256, val := Value.ref 49 }, { hash := PyData.keyHash P (Str.ofString "_read_char"), key := Value.str (Str.ofString "_read_char") 264, val := Value.ref 56 }, { hash := PyData.keyHash P (Str.ofString "get_token"), key := Value.str (Str.ofString "get_token") 274, val := Value.ref 63 }, { hash := PyData.keyHash P (Str.ofString "push_token"), key := Value.str (Str.ofString "push_token") 282, val := Value.ref 70 }, { hash := PyData.keyHash P (Str.ofString "__static_attributes__"), key := Value.str (Str.ofString "__static_attributes__") 287, val := Value.ref 71 }, { hash := PyData.keyHash P (Str.ofString "__dict__"), key := Value.str (Str.ofString "__dict__") 289, val := Value.ref 74 }, { hash := PyData.keyHash P (Str.ofString "__weakref__"), key := Value.str (Str.ofString "__weakref__") 291, val := Value.ref 75 }, { hash := PyData.keyHash P (Str.ofString "__doc__"), key := Value.str (Str.ofString "__doc__") 292, val := Value.none }] 4 }), (73, { cls := Value.type "type", data := Data.cls { name := Str.ofString "_netrclex", bases := [Value.type "object"], mro := [Value.ref 73, Value.type "object"], ns := 72, qualname := Str.ofString "_netrclex" }, slots := #[none, none, some (Value.str (Str.ofString "_netrclex") 237), some (Value.str (Str.ofString "_netrclex") 245), some (Value.builtin "object.__new__"), some (Value.bool true)] }), (74, { cls := Value.type "getset_descriptor", data := Data.fields #[Value.str (Str.ofString "__dict__") 288, Value.ref 73, Value.builtin "function.__dict__", Value.builtin "function.__dict__#set"] }), (75, { cls := Value.type "getset_descriptor", data := Data.fields #[Value.str (Str.ofString "__weakref__") 290, Value.ref 73, Value.builtin "ExceptionGroup.__weakref__", Value.none] }), (78, { cls := Value.type "tuple", data := Data.seq #[] }), (80, { cls := Value.type "tuple", data := Data.seq #[Value.str (Str.ofString "text") 300, Value.str (Str.ofString "holder") 301] }), (81, { cls := Value.type "tuple", data := Data.seq #[Value.str (Str.ofString "signs") 302] }), (83, { cls := Value.type "code", data := Data.fields #[Value.str (Str.ofString "_law_file") 297, Value.str (Str.ofString "_law_file") 298, Value.str (Str.ofString "/claim/cut.py") 299, Value.int 103 0, Value.int 1 0, Value.int 0 0, Value.int 0 0, Value.int 3 0, Value.ref 78, Value.bool true, Value.int 181 0, Value.ref 79, Value.none, Value.ref 80, Value.ref 81, Value.ref 82, Value.int 303 0, Value.int 103 0, Value.str (Str.ofString "/claim/cut.py") 304] }), (84, fnO (topS 11) (Str.ofString "_law_file") (Value.str (Str.ofString "law_sc0037_02") 295) (Value.ref 83)), (85, { cls := Value.type "tuple", data := Data.seq #[] }), (87, { cls := Value.type "tuple", data := Data.seq #[Value.str (Str.ofString "word") 309, Value.str (Str.ofString "draw") 310, Value.str (Str.ofString "text") 311, Value.str (Str.ofString "closing") 312, Value.str (Str.ofString "sign") 313] }), (88, { cls := Value.type "tuple", data := Data.seq #[] }), (90, { cls := Value.type "code", data := Data.fields #[Value.str (Str.ofString "_law_written") 306, Value.str (Str.ofString "_law_written") 307, Value.str (Str.ofString "/claim/cut.py") 308, Value.int 108 0, Value.int 2 0, Value.int 0 0, Value.int 0 0, Value.int 3 0, Value.ref 85, Value.bool true, Value.int 181 0, Value.ref 86, Value.none, Value.ref 87, Value.ref 88, Value.ref 89, Value.int 314 0, Value.int 108 0, Value.str (Str.ofString "/claim/cut.py") 315] }), (91, fnO (topS 12) (Str.ofString "_law_written") (Value.str (Str.ofString "law_sc0037_02") 295) (Value.ref 90)), (92, { cls := Value.type "tuple", data := Data.seq #[] }), (95, { cls := Value.type "code", data := Data.fields #[Value.str (Str.ofString "_law_told") 317, Value.str (Str.ofString "_law_told") 318, Value.str (Str.ofString "/claim/cut.py") 319, Value.int 116 0, Value.int 2 0, Value.int 0 0, Value.int 0 0, Value.int 3 0, Value.ref 92, Value.bool true, Value.int 181 0, Value.ref 93, Value.none, Value.none, Value.none, Value.ref 94, Value.int 320 0, Value.int 116 0, Value.str (Str.ofString "/claim/cut.py") 321] }), (96, fnO (topS 13) (Str.ofString "_law_told") (Value.str (Str.ofString "law_sc0037_02") 295) (Value.ref 95)), (97, { cls := Value.type "tuple", data := Data.seq #[] }), (100, { cls := Value.type "code", data := Data.fields #[Value.str (Str.ofString "_law_letters") 323, Value.str (Str.ofString "_law_letters") 324, Value.str (Str.ofString "/claim/cut.py") 325, Value.int 121 0, Value.int 1 0, Value.int 0 0, Value.int 0 0, Value.int 3 0, Value.ref 97, Value.bool true, Value.int 181 0, Value.ref 98, Value.none, Value.none, Value.none, Value.ref 99, Value.int 326 0, Value.int 121 0, Value.str (Str.ofString "/claim/cut.py") 327] }), (101, fnO (topS 14) (Str.ofString "_law_letters") (Value.str (Str.ofString "law_sc0037_02") 295) (Value.ref 100)), (102, { cls := Value.type "tuple", data := Data.seq #[] }), (105, { cls := Value.type "code", data := Data.fields #[Value.str (Str.ofString "_law_figures") 329, Value.str (Str.ofString "_law_figures") 330, Value.str (Str.ofString "/claim/cut.py") 331, Value.int 123 0, Value.int 1 0, Value.int 0 0, Value.int 0 0, Value.int 3 0, Value.ref 102, Value.bool true, Value.int 181 0, Value.ref 103, Value.none, Value.none, Value.none, Value.ref 104, Value.int 332 0, Value.int 123 0, Value.str (Str.ofString "/claim/cut.py") 333] }), (106, fnO (topS 15) (Str.ofString "_law_figures") (Value.str (Str.ofString "law_sc0037_02") 295) (Value.ref 105)), (107, { cls := Value.type "tuple", data := Data.seq #[] }), (110, { cls := Value.type "code", data := Data.fields #[Value.str (Str.ofString "_law_ups") 335, Value.str (Str.ofString "_law_ups") 336, Value.str (Str.ofString "/claim/cut.py") 337, Value.int 125 0, Value.int 1 0, Value.int 0 0, Value.int 0 0, Value.int 3 0, Value.ref 107, Value.bool true, Value.int 181 0, Value.ref 108, Value.none, Value.none, Value.none, Value.ref 109, Value.int 338 0, Value.int 125 0, Value.str (Str.ofString "/claim/cut.py") 339] }), (111, fnO (topS 16) (Str.ofString "_law_ups") (Value.str (Str.ofString "law_sc0037_02") 295) (Value.ref 110)), (112, { cls := Value.type "tuple", data := Data.seq #[] }), (115, { cls := Value.type "code", data := Data.fields #[Value.str (Str.ofString "_law_places") 341, Value.str (Str.ofString "_law_places") 342, Value.str (Str.ofString "/claim/cut.py") 343, Value.int 127 0, Value.int 1 0, Value.int 0 0, Value.int 0 0, Value.int 3 0, Value.ref 112, Value.bool true, Value.int 181 0, Value.ref 113, Value.none, Value.none, Value.none, Value.ref 114, Value.int 344 0, Value.int 127 0, Value.str (Str.ofString "/claim/cut.py") 345] }), (116, fnO (topS 17) (Str.ofString "_law_places") (Value.str (Str.ofString "law_sc0037_02") 295) (Value.ref 115)), (117, { cls := Value.type "tuple", data := Data.seq #[] }), (119, { cls := Value.type "tuple", data := Data.seq #[Value.str (Str.ofString "row") 350] }), (120, { cls := Value.type "tuple", data := Data.seq #[] }), (122, { cls := Value.type "code", data := Data.fields #[Value.str (Str.ofString "_law_checks") 347, Value.str (Str.ofString "_law_checks") 348, Value.str (Str.ofString "/claim/cut.py") 349, Value.int 129 0, Value.int 1 0, Value.int 0 0, Value.int 0 0, Value.int 3 0, Value.ref 117, Value.bool true, Value.int 181 0, Value.ref 118, Value.none, Value.ref 119, Value.ref 120, Value.ref 121, Value.int 351 0, Value.int 129 0, Value.str (Str.ofString "/claim/cut.py") 352] }), (123, fnO (topS 18) (Str.ofString "_law_checks") (Value.str (Str.ofString "law_sc0037_02") 295) (Value.ref 122)), (124, { cls := Value.type "tuple", data := Data.seq #[] }), (126, { cls := Value.type "tuple", data := Data.seq #[Value.str (Str.ofString "less") 357, Value.str (Str.ofString "checks") 358, Value.str (Str.ofString "size") 359, Value.str (Str.ofString "figure") 360, Value.str (Str.ofString "ups") 361, Value.str (Str.ofString "lack") 362, Value.str (Str.ofString "weight") 363, Value.str (Str.ofString "place") 364, Value.str (Str.ofString "whole") 365] }), (127, { cls := Value.type "tuple", data := Data.seq #[] }), (129, { cls := Value.type "code", data := Data.fields #[Value.str (Str.ofString "_law_mended") 354, Value.str (Str.ofString "_law_mended") 355, Value.str (Str.ofString "/claim/cut.py") 356, Value.int 131 0, Value.int 2 0, Value.int 0 0, Value.int 0 0, Value.int 3 0, Value.ref 124, Value.bool true, Value.int 181 0, Value.ref 125, Value.none, Value.ref 126, Value.ref 127, Value.ref 128, Value.int 366 0, Value.int 131 0, Value.str (Str.ofString "/claim/cut.py") 367] }), (130, fnO (topS 19) (Str.ofString "_law_mended") (Value.str (Str.ofString "law_sc0037_02") 295) (Value.ref 129)), (131, { cls := Value.type "tuple", data := Data.seq #[] }), (134, { cls := Value.type "code", data := Data.fields #[Value.str (Str.ofString "law") 369, Value.str (Str.ofString "law") 370, Value.str (Str.ofString "/claim/cut.py") 371, Value.int 152 0, Value.int 1 0, Value.int 0 0, Value.int 0 0, Value.int 3 0, Value.ref 131, Value.bool true, Value.int 181 0, Value.ref 132, Value.none, Value.none, Value.none, Value.ref 133, Value.int 372 0, Value.int 152 0, Value.str (Str.ofString "/claim/cut.py") 373] }), (135, fnO (topS 20) (Str.ofString "law") (Value.str (Str.ofString "law_sc0037_02") 295) (Value.ref 134))]
noncomputable def asK : List Addr := [2, 3, 6, 15, 17, 18, 20, 21, 22, 24, 25, 27, 28, 29, 31, 32, 34, 35, 43, 45, 46, 48, 49, 50, 52, 53, 55, 56, 57, 59, 60, 62, 63, 64, 66, 67, 69, 70, 71, 72, 73, 74, 75, 78, 80, 81, 83, 84, 85, 87, 88, 90, 91, 92, 95, 96, 97, 100, 101, 102, 105, 106, 107, 110, 111, 112, 115, 116, 117, 119, 120, 122, 123, 124, 126, 127, 129, 130, 131, 134, 135]
end Mine
end
section
open PySem PySem.W PyProof.Rows
namespace Mine
noncomputable def dL : DefRec := match topS 20 with
  | .FunctionDef n p b _ _ _ sc _ _ pos => ⟨n, p, b, sc, pos⟩
  | _ => ⟨default, default, [], default, default⟩
theorem asK_eq (P : Params) : asK = (K P).map (·.1) := by kernel_rfl
noncomputable def hook : Hook := kmHook K asK asK_eq [79]
noncomputable def rwL : OpenLaw := PySem.Challenge.rw_sc0037_02
theorem hd_left : LeftO rwL.row.toRowW.prog vw [] (fun s => xlAt vw [] s && recOk rwL.row.toRowW.records s) hook.obs hook.val 1678 := fun w => by kernel_rfl
theorem hd_said : rwL.wellSaid = true := by decide +kernel
theorem hd (walk : WalkO vw [] (XL vw []) (kmHook K asK asK_eq [79]).says rwL.row.toRowW dL [] fun f vs => call f vs) : PySem.Challenge.rw_sc0037_02.Holds :=
  holds_law (l := rwL) hd_said fun said =>
    W.holds_open (r := rwL.row) (q := vw) (loose := []) (Xt := fun s => xlAt vw [] s && recOk (RowW.records rwL.row.toRowW) s) (XP := XL vw []) (Yf := hook.obs) (Ya := hook.val) (YP := hook.says) (N := 1678)
      hd_left hook.of hook.keeps (fun s e => xl_of s (Bool.and_eq_true_iff.mp e).1) XL.keeps (by kernel_rfl) (by kernel_rfl) (by kernel_rfl) (fun s e => recFacts_of (Bool.and_eq_true_iff.mp e).2) (by kernel_rfl) said (by decide +kernel) ⟨rfl, rfl, rfl, rfl, rfl, by decide +kernel⟩ ⟨[WData.list []], by decide +kernel, by decide +kernel⟩ walk
end Mine
end
section
namespace Mine
open PySem PySem.Spec PySem.Calls PyProof.Rows PySem.W
noncomputable abbrev KK (w : World) : Frag := K w.params
noncomputable def tbls : Nat → List Str
  | 0 => ["ch_a", "ch_b"]
  | 1 => ["a", "b", "max_cost", "pre", "post", "row", "result", "bindex", "bchar", "distance", "minimum", "index", "substitute", "insert_delete"]
  | 2 => ["num", "val", "AP", "mod"]
  | 3 => ["self", "fp"]
  | 4 => ["self", "ch"]
  | 5 => ["self", "token", "fiter", "ch"]
  | 6 => ["self", "token"]
  | 7 => ["text", "holder"]
  | 8 => ["size"]
  | 9 => ["word", "draw", "text", "closing", "sign"]
  | 10 => ["row", "sign", "number", "figure"]
  | 11 => ["octet"]
  | 14 => ["row"]
  | 15 => ["figure"]
  | 16 => ["word"]
  | 17 => ["sign"]
  | 18 => []
  | 19 => ["k"]
  | 20 => []
  | 21 => ["k"]
  | 22 => ["row"]
  | 23 => ["less", "checks", "size", "figure", "ups", "lack", "weight", "place", "whole"]
  | 30 => ["k", "size", "row", "rows", "broken", "due", "text", "cell", "out", "put", "less", "checks", "draw", "words", "whole", "bound", "i", "word", "told", "last"]
  | 31 => ["k"]
  | 32 => ["k"]
  | 33 => ["k"]
  | 34 => ["k"]
  | _ => []
noncomputable abbrev cx (w : World) (base : Heap) : Cx := ⟨PySem.Challenge.pw_sc0037_02, w, base, tbls⟩
noncomputable abbrev PL : Nat := 5
noncomputable abbrev PT : Addr := 79
noncomputable abbrev CLS : Addr := 73
noncomputable abbrev RF : Addr := 56
noncomputable abbrev SP (w : World) : FnSpec := lamOf (KK w) 84
theorem kit {w : World} {base : Heap} {mg mb : Str → Option Value} (B : Base (cx w base) (KK w) mg mb) : Kit (cx w base) (KK w) CLS := ⟨B.x, by kernel_rfl, by kernel_rfl, by kernel_rfl, by kernel_rfl⟩
noncomputable abbrev HBIp (base : Heap) (mg : Str → Option Value) : Prop := ∃ bm o, mg "__builtins__" = some (.ref bm) ∧ bm ≠ builtinsNs ∧ bm ≠ mainGlobals ∧ base.get? bm = some o ∧ o.cls = .type "module" ∧ o.dict = some builtinsNs ∧ ∀ P, base.get? P = none → base.BuiltinsAt mg P
noncomputable abbrev HCHp (w : World) (base : Heap) (c : Addr) : Prop := ∀ (θ : Th) (σ : List AO) (s : Shared), R (cx w base) θ σ s.heap → σ[PL]? = some (.raw PT (tabObj #[])) → CodeHd s.heap c (θ PL)
theorem r_sub {w : World} {base : Heap} {mg mb : Str → Option Value} (B : Base (cx w base) (KK w) mg mb) : CallC (cx w base) 3 (.ref 21) (fnM ["ch_a", "ch_b"] ["ch_a", "ch_b"] 0 [] P_sub) :=
  callC_of B (fn_of B (a := 21) (names := ["ch_a", "ch_b"]) rfl rfl rfl rfl rfl rfl rfl (by kernel_rfl) rfl rfl (fun vs h => by obtain ⟨x0, x1, rfl⟩ := len2 h; rfl) rfl rfl rfl) (k := 0) (tb := ["ch_a", "ch_b"]) rfl (cs := []) (by kernel_rfl) (by decide) (by decide +kernel) (by decide) (by decide) (by decide +kernel) (by decide +kernel) (P := P_sub) (fun fr =>
  (b_cons
  (s_if (tst_cmp eq_ok (ref_local (k := 0) (i := 0) rfl (by kernel_rfl) (by decide +kernel)) (ref_local (k := 0) (i := 1) rfl (by kernel_rfl) (by decide +kernel)) rfl) (b_one (s_ret ref_int)) b_nil)
  (b_cons
  (s_if (tst_cmp eq_ok (ref_methK (ref_local (k := 0) (i := 0) rfl (by kernel_rfl) (by decide +kernel)) (getm_str F.slot_str_lower F.plainAttrs_str F.type_str_lower) (keep_builtin "str.lower") args_nil (b_lower) (fun _ => by kernel_rfl)) (ref_methK (ref_local (k := 0) (i := 1) rfl (by kernel_rfl) (by decide +kernel)) (getm_str F.slot_str_lower F.plainAttrs_str F.type_str_lower) (keep_builtin "str.lower") args_nil (b_lower) (fun _ => by kernel_rfl)) rfl) (b_one (s_ret (gli (i := 1) B (by kernel_rfl) (by kernel_rfl) (by decide +kernel)))) b_nil)
  (b_one (s_ret (gli (i := 2) B (by kernel_rfl) (by kernel_rfl) (by decide +kernel)))))))
theorem c_subG {w : World} {base : Heap} {mg mb : Str → Option Value} (B : Base (cx w base) (KK w) mg mb) : CallC (cx w base) 3 (.ref 21) subG := (r_sub B).cut m_sub
theorem r_lev {w : World} {base : Heap} {mg mb : Str → Option Value} (B : Base (cx w base) (KK w) mg mb) : CallC (cx w base) 4 (.ref 28) (fnM ["a", "b", "max_cost"] ["a", "b", "max_cost", "pre", "post", "row", "result", "bindex", "bchar", "distance", "minimum", "index", "substitute", "insert_delete"] 1 [] P_lev) :=
  callC_of B (fn_of B (a := 28) (names := ["a", "b", "max_cost"]) rfl rfl rfl rfl rfl rfl rfl (by kernel_rfl) rfl rfl (fun vs h => by obtain ⟨x0, x1, x2, rfl⟩ := len3 h; rfl) rfl rfl rfl) (k := 1) (tb := ["a", "b", "max_cost", "pre", "post", "row", "result", "bindex", "bchar", "distance", "minimum", "index", "substitute", "insert_delete"]) rfl (cs := []) (by kernel_rfl) (by decide) (by decide +kernel) (by decide) (by decide) (by decide +kernel) (by decide +kernel) (P := P_lev) (fun fr =>
  (b_cons
  (s_if (tst_cmp eq_ok (ref_local (k := 1) (i := 0) rfl (by kernel_rfl) (by decide +kernel)) (ref_local (k := 1) (i := 1) rfl (by kernel_rfl) (by decide +kernel)) rfl) (b_one (s_ret ref_int)) b_nil)
  (b_cons
  (s_asg ref_int (w_local (k := 1) (i := 3) rfl (by kernel_rfl)) (fun _ _ => rfl))
  (b_cons
  (s_while 1000 (tst_bool (and_cons (tru_of (ref_slice (ref_local (k := 1) (i := 0) rfl (by kernel_rfl) (by decide +kernel)) (part_some (ref_local (k := 1) (i := 3) rfl (by kernel_rfl) (by decide +kernel))) part_none) (fun _ _ => rfl)) (and_cons (tru_of (ref_slice (ref_local (k := 1) (i := 1) rfl (by kernel_rfl) (by decide +kernel)) (part_some (ref_local (k := 1) (i := 3) rfl (by kernel_rfl) (by decide +kernel))) part_none) (fun _ _ => rfl)) (and_cons (tst_cmp eq_ok (ref_idx (ref_local (k := 1) (i := 0) rfl (by kernel_rfl) (by decide +kernel)) (ref_local (k := 1) (i := 3) rfl (by kernel_rfl) (by decide +kernel)) (fun _ _ => rfl)) (ref_idx (ref_local (k := 1) (i := 1) rfl (by kernel_rfl) (by decide +kernel)) (ref_local (k := 1) (i := 3) rfl (by kernel_rfl) (by decide +kernel)) (fun _ _ => rfl)) rfl) and_nil)))) (b_one (s_aug (n_local (k := 1) (i := 3) rfl (by kernel_rfl)) ref_int iadd_ok (w_local (k := 1) (i := 3) rfl (by kernel_rfl)))))
  (b_cons
  (s_asg (ref_slice (ref_local (k := 1) (i := 0) rfl (by kernel_rfl) (by decide +kernel)) (part_some (ref_local (k := 1) (i := 3) rfl (by kernel_rfl) (by decide +kernel))) part_none) (w_local (k := 1) (i := 0) rfl (by kernel_rfl)) (fun _ _ => rfl))
  (b_cons
  (s_asg (ref_slice (ref_local (k := 1) (i := 1) rfl (by kernel_rfl) (by decide +kernel)) (part_some (ref_local (k := 1) (i := 3) rfl (by kernel_rfl) (by decide +kernel))) part_none) (w_local (k := 1) (i := 1) rfl (by kernel_rfl)) (fun _ _ => rfl))
  (b_cons
  (s_asg ref_int (w_local (k := 1) (i := 4) rfl (by kernel_rfl)) (fun _ _ => rfl))
  (b_cons
  (s_while 1000 (tst_bool (and_cons (tru_of (ref_slice (ref_local (k := 1) (i := 0) rfl (by kernel_rfl) (by decide +kernel)) part_none (part_some (ref_or (ref_local (k := 1) (i := 4) rfl (by kernel_rfl) (by decide +kernel)) ref_none))) (fun _ _ => rfl)) (and_cons (tru_of (ref_slice (ref_local (k := 1) (i := 1) rfl (by kernel_rfl) (by decide +kernel)) part_none (part_some (ref_or (ref_local (k := 1) (i := 4) rfl (by kernel_rfl) (by decide +kernel)) ref_none))) (fun _ _ => rfl)) (and_cons (tst_cmp eq_ok (ref_idx (ref_local (k := 1) (i := 0) rfl (by kernel_rfl) (by decide +kernel)) (ref_bin sub_ok (ref_local (k := 1) (i := 4) rfl (by kernel_rfl) (by decide +kernel)) ref_int) (fun _ _ => rfl)) (ref_idx (ref_local (k := 1) (i := 1) rfl (by kernel_rfl) (by decide +kernel)) (ref_bin sub_ok (ref_local (k := 1) (i := 4) rfl (by kernel_rfl) (by decide +kernel)) ref_int) (fun _ _ => rfl)) rfl) and_nil)))) (b_one (s_aug (n_local (k := 1) (i := 4) rfl (by kernel_rfl)) ref_int isub_ok (w_local (k := 1) (i := 4) rfl (by kernel_rfl)))))
  (b_cons
  (s_asg (ref_slice (ref_local (k := 1) (i := 0) rfl (by kernel_rfl) (by decide +kernel)) part_none (part_some (ref_or (ref_local (k := 1) (i := 4) rfl (by kernel_rfl) (by decide +kernel)) ref_none))) (w_local (k := 1) (i := 0) rfl (by kernel_rfl)) (fun _ _ => rfl))
  (b_cons
  (s_asg (ref_slice (ref_local (k := 1) (i := 1) rfl (by kernel_rfl) (by decide +kernel)) part_none (part_some (ref_or (ref_local (k := 1) (i := 4) rfl (by kernel_rfl) (by decide +kernel)) ref_none))) (w_local (k := 1) (i := 1) rfl (by kernel_rfl)) (fun _ _ => rfl))
  (b_cons
  (s_if (tst_bool (or_cons (tst_not (tru_of (ref_local (k := 1) (i := 0) rfl (by kernel_rfl) (by decide +kernel)) (fun _ _ => rfl))) (or_cons (tst_not (tru_of (ref_local (k := 1) (i := 1) rfl (by kernel_rfl) (by decide +kernel)) (fun _ _ => rfl))) or_nil))) (b_one (s_ret (ref_bin mul_ok (gli (i := 2) B (by kernel_rfl) (by kernel_rfl) (by decide +kernel)) (ref_bin add_ok (ref_call (glb (v := (.builtin "len")) B (by kernel_rfl) (by kernel_rfl) (by decide +kernel) (by kernel_rfl) (by decide +kernel)) (keep_builtin "len") (args_cons (list_cons (ref_local (k := 1) (i := 0) rfl (by kernel_rfl) (by decide +kernel)) list_nil (fun _ => rfl)) (fun _ => rfl) (fun _ _ => rfl)) (b_len B.gnd)) (ref_call (glb (v := (.builtin "len")) B (by kernel_rfl) (by kernel_rfl) (by decide +kernel) (by kernel_rfl) (by decide +kernel)) (keep_builtin "len") (args_cons (list_cons (ref_local (k := 1) (i := 1) rfl (by kernel_rfl) (by decide +kernel)) list_nil (fun _ => rfl)) (fun _ => rfl) (fun _ _ => rfl)) (b_len B.gnd)))))) b_nil)
  (b_cons
  (s_if (tst_bool (or_cons (tst_cmp gt_ok (ref_call (glb (v := (.builtin "len")) B (by kernel_rfl) (by kernel_rfl) (by decide +kernel) (by kernel_rfl) (by decide +kernel)) (keep_builtin "len") (args_cons (list_cons (ref_local (k := 1) (i := 0) rfl (by kernel_rfl) (by decide +kernel)) list_nil (fun _ => rfl)) (fun _ => rfl) (fun _ _ => rfl)) (b_len B.gnd)) (gli (i := 40) B (by kernel_rfl) (by kernel_rfl) (by decide +kernel)) rfl) (or_cons (tst_cmp gt_ok (ref_call (glb (v := (.builtin "len")) B (by kernel_rfl) (by kernel_rfl) (by decide +kernel) (by kernel_rfl) (by decide +kernel)) (keep_builtin "len") (args_cons (list_cons (ref_local (k := 1) (i := 1) rfl (by kernel_rfl) (by decide +kernel)) list_nil (fun _ => rfl)) (fun _ => rfl) (fun _ _ => rfl)) (b_len B.gnd)) (gli (i := 40) B (by kernel_rfl) (by kernel_rfl) (by decide +kernel)) rfl) or_nil))) (b_one (s_ret (ref_bin add_ok (ref_local (k := 1) (i := 2) rfl (by kernel_rfl) (by decide +kernel)) ref_int))) b_nil)
  (b_cons
  (s_if (tst_cmp lt_ok (ref_call (glb (v := (.builtin "len")) B (by kernel_rfl) (by kernel_rfl) (by decide +kernel) (by kernel_rfl) (by decide +kernel)) (keep_builtin "len") (args_cons (list_cons (ref_local (k := 1) (i := 1) rfl (by kernel_rfl) (by decide +kernel)) list_nil (fun _ => rfl)) (fun _ => rfl) (fun _ _ => rfl)) (b_len B.gnd)) (ref_call (glb (v := (.builtin "len")) B (by kernel_rfl) (by kernel_rfl) (by decide +kernel) (by kernel_rfl) (by decide +kernel)) (keep_builtin "len") (args_cons (list_cons (ref_local (k := 1) (i := 0) rfl (by kernel_rfl) (by decide +kernel)) list_nil (fun _ => rfl)) (fun _ => rfl) (fun _ _ => rfl)) (b_len B.gnd)) rfl) (b_one (s_swap (names := ["a", "b"]) (ref_tup (list_cons (ref_local (k := 1) (i := 1) rfl (by kernel_rfl) (by decide +kernel)) (list_cons (ref_local (k := 1) (i := 0) rfl (by kernel_rfl) (by decide +kernel)) list_nil (fun _ => rfl)) (fun _ => rfl))) (in_cons (w_bind (w_local (k := 1) (i := 1) rfl (by kernel_rfl))) (in_cons (w_bind (w_local (k := 1) (i := 0) rfl (by kernel_rfl))) in_nil)) rfl (fun _ => rfl) (fun env h => by cases env; cases h; kernel_rfl))) b_nil)
  (b_cons
  (s_if (tst_cmp gt_ok (ref_bin mul_ok (ref_bin sub_ok (ref_call (glb (v := (.builtin "len")) B (by kernel_rfl) (by kernel_rfl) (by decide +kernel) (by kernel_rfl) (by decide +kernel)) (keep_builtin "len") (args_cons (list_cons (ref_local (k := 1) (i := 1) rfl (by kernel_rfl) (by decide +kernel)) list_nil (fun _ => rfl)) (fun _ => rfl) (fun _ _ => rfl)) (b_len B.gnd)) (ref_call (glb (v := (.builtin "len")) B (by kernel_rfl) (by kernel_rfl) (by decide +kernel) (by kernel_rfl) (by decide +kernel)) (keep_builtin "len") (args_cons (list_cons (ref_local (k := 1) (i := 0) rfl (by kernel_rfl) (by decide +kernel)) list_nil (fun _ => rfl)) (fun _ => rfl) (fun _ _ => rfl)) (b_len B.gnd))) (gli (i := 2) B (by kernel_rfl) (by kernel_rfl) (by decide +kernel))) (ref_local (k := 1) (i := 2) rfl (by kernel_rfl) (by decide +kernel)) rfl) (b_one (s_ret (ref_bin add_ok (ref_local (k := 1) (i := 2) rfl (by kernel_rfl) (by decide +kernel)) ref_int))) b_nil)
  (b_cons
  (s_asg (ref_call (glb (v := (.type "list")) B (by kernel_rfl) (by kernel_rfl) (by decide +kernel) (by kernel_rfl) (by decide +kernel)) (keep_type "list") (args_cons (list_cons (ref_call (glb (v := (.type "range")) B (by kernel_rfl) (by kernel_rfl) (by decide +kernel) (by kernel_rfl) (by decide +kernel)) (keep_type "range") (args_cons (list_cons (gli (i := 2) B (by kernel_rfl) (by kernel_rfl) (by decide +kernel)) (list_cons (ref_bin mul_ok (gli (i := 2) B (by kernel_rfl) (by kernel_rfl) (by decide +kernel)) (ref_bin add_ok (ref_call (glb (v := (.builtin "len")) B (by kernel_rfl) (by kernel_rfl) (by decide +kernel) (by kernel_rfl) (by decide +kernel)) (keep_builtin "len") (args_cons (list_cons (ref_local (k := 1) (i := 0) rfl (by kernel_rfl) (by decide +kernel)) list_nil (fun _ => rfl)) (fun _ => rfl) (fun _ _ => rfl)) (b_len B.gnd)) ref_int)) (list_cons (gli (i := 2) B (by kernel_rfl) (by kernel_rfl) (by decide +kernel)) list_nil (fun _ => rfl)) (fun _ => rfl)) (fun _ => rfl)) (fun _ => rfl) (fun _ _ => rfl)) (b_range)) list_nil (fun _ => rfl)) (fun _ => rfl) (fun _ _ => rfl)) b_listr) (w_local (k := 1) (i := 5) rfl (by kernel_rfl)) (fun _ _ => rfl))
  (b_cons
  (s_asg ref_int (w_local (k := 1) (i := 6) rfl (by kernel_rfl)) (fun _ _ => rfl))
  (b_cons
  (s_for (it_range (glb (v := (.type "range")) B (by kernel_rfl) (by kernel_rfl) (by decide +kernel) (by kernel_rfl) (by decide +kernel)) (args_cons (list_cons (ref_call (glb (v := (.builtin "len")) B (by kernel_rfl) (by kernel_rfl) (by decide +kernel) (by kernel_rfl) (by decide +kernel)) (keep_builtin "len") (args_cons (list_cons (ref_local (k := 1) (i := 1) rfl (by kernel_rfl) (by decide +kernel)) list_nil (fun _ => rfl)) (fun _ => rfl) (fun _ _ => rfl)) (b_len B.gnd)) list_nil (fun _ => rfl)) (fun _ => rfl) (fun _ _ => rfl))) (w_name (w_local (k := 1) (i := 7) rfl (by kernel_rfl))) (b_cons
  (s_asg (ref_idx (ref_local (k := 1) (i := 1) rfl (by kernel_rfl) (by decide +kernel)) (ref_local (k := 1) (i := 7) rfl (by kernel_rfl) (by decide +kernel)) (fun _ _ => rfl)) (w_local (k := 1) (i := 8) rfl (by kernel_rfl)) (fun _ _ => rfl))
  (b_cons
  (s_asg2 (ref_bin mul_ok (ref_local (k := 1) (i := 7) rfl (by kernel_rfl) (by decide +kernel)) (gli (i := 2) B (by kernel_rfl) (by kernel_rfl) (by decide +kernel))) (w_name (w_local (k := 1) (i := 9) rfl (by kernel_rfl))) (w_name (w_local (k := 1) (i := 6) rfl (by kernel_rfl))) (fun _ => rfl) (fun _ => rfl))
  (b_cons
  (s_asg ref_int (w_local (k := 1) (i := 10) rfl (by kernel_rfl)) (fun _ _ => rfl))
  (b_cons
  (s_for (it_range (glb (v := (.type "range")) B (by kernel_rfl) (by kernel_rfl) (by decide +kernel) (by kernel_rfl) (by decide +kernel)) (args_cons (list_cons (ref_call (glb (v := (.builtin "len")) B (by kernel_rfl) (by kernel_rfl) (by decide +kernel) (by kernel_rfl) (by decide +kernel)) (keep_builtin "len") (args_cons (list_cons (ref_local (k := 1) (i := 0) rfl (by kernel_rfl) (by decide +kernel)) list_nil (fun _ => rfl)) (fun _ => rfl) (fun _ _ => rfl)) (b_len B.gnd)) list_nil (fun _ => rfl)) (fun _ => rfl) (fun _ _ => rfl))) (w_name (w_local (k := 1) (i := 11) rfl (by kernel_rfl))) (b_cons
  (s_asg (ref_bin add_ok (ref_local (k := 1) (i := 9) rfl (by kernel_rfl) (by decide +kernel)) (ref_call (gl (v := (.ref 21)) B (by kernel_rfl) (by kernel_rfl) (by decide +kernel)) (keepK B (by kernel_rfl)) (args_cons (list_cons (ref_local (k := 1) (i := 8) rfl (by kernel_rfl) (by decide +kernel)) (list_cons (ref_idx (ref_local (k := 1) (i := 0) rfl (by kernel_rfl) (by decide +kernel)) (ref_local (k := 1) (i := 11) rfl (by kernel_rfl) (by decide +kernel)) (fun _ _ => rfl)) list_nil (fun _ => rfl)) (fun _ => rfl)) (fun _ => rfl) (fun _ _ => rfl)) ((c_subG B).r.le (by decide)))) (w_local (k := 1) (i := 12) rfl (by kernel_rfl)) (fun _ _ => rfl))
  (b_cons
  (s_asg (ref_idx (ref_local (k := 1) (i := 5) rfl (by kernel_rfl) (by decide +kernel)) (ref_local (k := 1) (i := 11) rfl (by kernel_rfl) (by decide +kernel)) (fun _ _ => rfl)) (w_local (k := 1) (i := 9) rfl (by kernel_rfl)) (fun _ _ => rfl))
  (b_cons
  (s_asg (ref_bin add_ok (ref_call (glb (v := (.builtin "min")) B (by kernel_rfl) (by kernel_rfl) (by decide +kernel) (by kernel_rfl) (by decide +kernel)) (keep_builtin "min") (args_cons (list_cons (ref_local (k := 1) (i := 6) rfl (by kernel_rfl) (by decide +kernel)) (list_cons (ref_local (k := 1) (i := 9) rfl (by kernel_rfl) (by decide +kernel)) list_nil (fun _ => rfl)) (fun _ => rfl)) (fun _ => rfl) (fun _ _ => rfl)) (b_min)) (gli (i := 2) B (by kernel_rfl) (by kernel_rfl) (by decide +kernel))) (w_local (k := 1) (i := 13) rfl (by kernel_rfl)) (fun _ _ => rfl))
  (b_cons
  (s_asg (ref_call (glb (v := (.builtin "min")) B (by kernel_rfl) (by kernel_rfl) (by decide +kernel) (by kernel_rfl) (by decide +kernel)) (keep_builtin "min") (args_cons (list_cons (ref_local (k := 1) (i := 13) rfl (by kernel_rfl) (by decide +kernel)) (list_cons (ref_local (k := 1) (i := 12) rfl (by kernel_rfl) (by decide +kernel)) list_nil (fun _ => rfl)) (fun _ => rfl)) (fun _ => rfl) (fun _ _ => rfl)) (b_min)) (w_local (k := 1) (i := 6) rfl (by kernel_rfl)) (fun _ _ => rfl))
  (b_cons
  (s_asg_sub (ref_local (k := 1) (i := 6) rfl (by kernel_rfl) (by decide +kernel)) (ref_local (k := 1) (i := 5) rfl (by kernel_rfl) (by decide +kernel)) (ref_local (k := 1) (i := 11) rfl (by kernel_rfl) (by decide +kernel)) (fun _ => rfl))
  (b_one (s_if (tst_cmp lt_ok (ref_local (k := 1) (i := 6) rfl (by kernel_rfl) (by decide +kernel)) (ref_local (k := 1) (i := 10) rfl (by kernel_rfl) (by decide +kernel)) rfl) (b_one (s_asg (ref_local (k := 1) (i := 6) rfl (by kernel_rfl) (by decide +kernel)) (w_local (k := 1) (i := 10) rfl (by kernel_rfl)) (fun _ _ => rfl))) b_nil))))))) (fun _ _ => rfl) (fun _ _ => rfl))
  (b_one (s_if (tst_cmp gt_ok (ref_local (k := 1) (i := 10) rfl (by kernel_rfl) (by decide +kernel)) (ref_local (k := 1) (i := 2) rfl (by kernel_rfl) (by decide +kernel)) rfl) (b_one (s_ret (ref_bin add_ok (ref_local (k := 1) (i := 2) rfl (by kernel_rfl) (by decide +kernel)) ref_int))) b_nil)))))) (fun _ _ => rfl) (fun _ _ => rfl))
  (b_one (s_ret (ref_local (k := 1) (i := 6) rfl (by kernel_rfl) (by decide +kernel)))))))))))))))))))))
theorem c_levG {w : World} {base : Heap} {mg mb : Str → Option Value} (B : Base (cx w base) (KK w) mg mb) : CallC (cx w base) 4 (.ref 28) levG := (r_lev B).cut m_lev
theorem r_ap {w : World} {base : Heap} {mg mb : Str → Option Value} (B : Base (cx w base) (KK w) mg mb) : CallC (cx w base) 3 (.ref 35) (fnM ["num"] ["num", "val", "AP", "mod"] 2 [] P_ap) :=
  callC_of B (fn_of B (a := 35) (names := ["num"]) rfl rfl rfl rfl rfl rfl rfl (by kernel_rfl) rfl rfl (fun vs h => by obtain ⟨x0, rfl⟩ := len1 h; rfl) rfl rfl rfl) (k := 2) (tb := ["num", "val", "AP", "mod"]) rfl (cs := []) (by kernel_rfl) (by decide) (by decide +kernel) (by decide) (by decide) (by decide +kernel) (by decide +kernel) (P := P_ap) (fun fr =>
  (b_cons
  (s_asg (ref_bytes (y := []) (by kernel_rfl)) (w_local (k := 2) (i := 1) rfl (by kernel_rfl)) (fun _ _ => rfl))
  (b_cons
  (s_asg (ref_bytes (y := [65, 66, 67, 68, 69, 70, 71, 72, 73, 74, 75, 76, 77, 78, 79, 80]) (by kernel_rfl)) (w_local (k := 2) (i := 2) rfl (by kernel_rfl)) (fun _ _ => rfl))
  (b_cons
  (s_asg (ref_call (glb (v := (.type "int")) B (by kernel_rfl) (by kernel_rfl) (by decide +kernel) (by kernel_rfl) (by decide +kernel)) (keep_type "int") (args_cons (list_cons (ref_call (glb (v := (.builtin "abs")) B (by kernel_rfl) (by kernel_rfl) (by decide +kernel) (by kernel_rfl) (by decide +kernel)) (keep_builtin "abs") (args_cons (list_cons (ref_local (k := 2) (i := 0) rfl (by kernel_rfl) (by decide +kernel)) list_nil (fun _ => rfl)) (fun _ => rfl) (fun _ _ => rfl)) (b_abs)) list_nil (fun _ => rfl)) (fun _ => rfl) (fun _ _ => rfl)) (b_int)) (w_local (k := 2) (i := 0) rfl (by kernel_rfl)) (fun _ _ => rfl))
  (b_cons
  (s_while 1000 (tru_of (ref_local (k := 2) (i := 0) rfl (by kernel_rfl) (by decide +kernel)) (fun _ _ => rfl)) (b_cons
  (s_tup (ref_call (glb (v := (.builtin "divmod")) B (by kernel_rfl) (by kernel_rfl) (by decide +kernel) (by kernel_rfl) (by decide +kernel)) (keep_builtin "divmod") (args_cons (list_cons (ref_local (k := 2) (i := 0) rfl (by kernel_rfl) (by decide +kernel)) (list_cons ref_int list_nil (fun _ => rfl)) (fun _ => rfl)) (fun _ => rfl) (fun _ _ => rfl)) (b_divmod)) (in_cons (w_name (w_local (k := 2) (i := 0) rfl (by kernel_rfl))) (in_cons (w_name (w_local (k := 2) (i := 3) rfl (by kernel_rfl))) in_nil)) (fun _ => rfl) (fun _ => by kernel_rfl) (fun _ => by kernel_rfl) (fun _ => by kernel_rfl) (fun _ => by kernel_rfl))
  (b_one (s_asg (ref_bin add_ok (ref_slice (ref_local (k := 2) (i := 2) rfl (by kernel_rfl) (by decide +kernel)) (part_some (ref_local (k := 2) (i := 3) rfl (by kernel_rfl) (by decide +kernel))) (part_some (ref_bin add_ok (ref_local (k := 2) (i := 3) rfl (by kernel_rfl) (by decide +kernel)) ref_int))) (ref_local (k := 2) (i := 1) rfl (by kernel_rfl) (by decide +kernel))) (w_local (k := 2) (i := 1) rfl (by kernel_rfl)) (fun _ _ => rfl)))))
  (b_one (s_ret (ref_local (k := 2) (i := 1) rfl (by kernel_rfl) (by decide +kernel)))))))))
theorem c_apG {w : World} {base : Heap} {mg mb : Str → Option Value} (B : Base (cx w base) (KK w) mg mb) : CallC (cx w base) 3 (.ref 35) apG := (r_ap B).cut m_ap
theorem r_init {w : World} {base : Heap} {mg mb : Str → Option Value} (B : Base (cx w base) (KK w) mg mb) : CallC (cx w base) 3 (.ref 49) (fnM ["self", "fp"] ["self", "fp"] 3 [] (P_init CLS)) :=
  callC_of B (fn_of B (a := 49) (names := ["self", "fp"]) rfl rfl rfl rfl rfl rfl rfl (by kernel_rfl) rfl rfl (fun vs h => by obtain ⟨x0, x1, rfl⟩ := len2 h; rfl) rfl rfl rfl) (k := 3) (tb := ["self", "fp"]) rfl (cs := []) (by kernel_rfl) (by decide) (by decide +kernel) (by decide) (by decide) (by decide +kernel) (by decide +kernel) (P := (P_init CLS)) (fun fr =>
  (b_cons
  (s_asg_attr (kit B) (by kernel_rfl) ref_int (ref_local (k := 3) (i := 0) rfl (by kernel_rfl) (by decide +kernel)) (fun _ => rfl))
  (b_cons
  (s_asg_attr (kit B) (by kernel_rfl) (ref_local (k := 3) (i := 1) rfl (by kernel_rfl) (by decide +kernel)) (ref_local (k := 3) (i := 0) rfl (by kernel_rfl) (by decide +kernel)) (fun _ => rfl))
  (b_cons
  (s_asg_attr (kit B) (by kernel_rfl) (ref_str (y := [10, 9, 13, 32]) (by kernel_rfl)) (ref_local (k := 3) (i := 0) rfl (by kernel_rfl) (by decide +kernel)) (fun _ => rfl))
  (b_one (s_asg_attr (kit B) (by kernel_rfl) (ref_list list_nil) (ref_local (k := 3) (i := 0) rfl (by kernel_rfl) (by decide +kernel)) (fun _ => rfl)))))))
theorem c_initG {w : World} {base : Heap} {mg mb : Str → Option Value} (B : Base (cx w base) (KK w) mg mb) : CallC (cx w base) 3 (.ref 49) (initG CLS) := r_init B
theorem c_makeG {w : World} {base : Heap} {mg mb : Str → Option Value} (B : Base (cx w base) (KK w) mg mb) : CallC (cx w base) 4 (.ref CLS) (makeF CLS (initG CLS)) := make_ok (kit B) (by kernel_rfl) (by kernel_rfl) (by kernel_rfl) (c_initG B)
theorem r_lam {w : World} {base : Heap} {mg mb : Str → Option Value} (B : Base (cx w base) (KK w) mg mb) : CallL (cx w base) 3 (lamF (SP w) "signs" ["size"] ["size"] 8 E_lam) :=
  lam_call B.gnd (sp := SP w) rfl (x := "signs") (names := ["size"]) (k := 8) (E := E_lam) (by decide) (show List.Nodup [("size" : Str)] from by decide) (fun y hy => by have h := List.all_eq_true.mp (show ((SP w).scope.names.all fun y => !(y.2 == .cell)) = true from by kernel_rfl) y hy; intro e; rw [e] at h; cases h) (fun y hy => by cases List.mem_singleton.mp hy; kernel_rfl) rfl rfl rfl (fun fd vs h1 h2 h3 h4 => by cases fd; simp only at h1 h2 h3; subst h1; subst h2; subst h3; match vs, h4 with | [x0], _ => rfl) (fun fr l cd q =>
  (ref_ite (tru_of (ref_free (l := l) (by kernel_rfl) (by kernel_rfl) (by decide +kernel) (by decide +kernel)) (fun _ _ => rfl)) (ref_methK (ref_free (l := l) (by kernel_rfl) (by kernel_rfl) (by decide +kernel) (by decide +kernel)) (getm_list F.slot_list_pop F.plainAttrs_list F.type_list_pop) (keep_builtin "list.pop") (args_cons (list_cons ref_int list_nil (fun _ => rfl)) (fun _ => rfl) (fun _ _ => rfl)) (b_pop) (fun _ => by kernel_rfl)) (ref_str (y := []) (by kernel_rfl))))
theorem c_lamG {w : World} {base : Heap} {mg mb : Str → Option Value} (B : Base (cx w base) (KK w) mg mb) (g : Gh) : CallL (cx w base) 3 (lamG CLS (SP w) g) := (r_lam B).cut m_lam
theorem r_read {w : World} {base : Heap} {mg mb : Str → Option Value} (B : Base (cx w base) (KK w) mg mb) (g : Gh) : CallC (cx w base) 4 (.ref 56) (fnM ["self"] ["self", "ch"] 4 [] (P_read CLS (SP w) g)) :=
  callC_of B (fn_of B (a := 56) (names := ["self"]) rfl rfl rfl rfl rfl rfl rfl (by kernel_rfl) rfl rfl (fun vs h => by obtain ⟨x0, rfl⟩ := len1 h; rfl) rfl rfl rfl) (k := 4) (tb := ["self", "ch"]) rfl (cs := []) (by kernel_rfl) (by decide) (by decide +kernel) (by decide) (by decide) (by decide +kernel) (by decide +kernel) (P := (P_read CLS (SP w) g)) (fun fr =>
  (b_cons
  (s_asg (ref_methFK (kit B) (by kernel_rfl) (ref_attr (kit B) (by kernel_rfl) (ref_local (k := 4) (i := 0) rfl (by kernel_rfl) (by decide +kernel)) (fun _ => rfl)) (args_cons (list_cons ref_int list_nil (fun _ => rfl)) (fun _ => rfl) (fun _ _ => rfl)) ((c_lamG B g).le (by decide)) (fun _ => by kernel_rfl)) (w_local (k := 4) (i := 1) rfl (by kernel_rfl)) (fun _ _ => rfl))
  (b_cons
  (s_if (tst_cmp eq_ok (ref_local (k := 4) (i := 1) rfl (by kernel_rfl) (by decide +kernel)) (ref_str (y := [10]) (by kernel_rfl)) rfl) (b_one (s_aug_attr (kit B) (by kernel_rfl) (by kernel_rfl) (ref_local (k := 4) (i := 0) rfl (by kernel_rfl) (by decide +kernel)) ref_int iadd_ok)) b_nil)
  (b_one (s_ret (ref_local (k := 4) (i := 1) rfl (by kernel_rfl) (by decide +kernel)))))))
theorem c_readG {w : World} {base : Heap} {mg mb : Str → Option Value} (B : Base (cx w base) (KK w) mg mb) (g : Gh) : CallC (cx w base) 4 (.ref 56) (readG CLS (SP w) g) := (r_read B g).cut m_read
theorem r_tok {w : World} {base : Heap} {mg mb : Str → Option Value} (B : Base (cx w base) (KK w) mg mb) (g : Gh) : CallC (cx w base) 7 (.ref 63) (fnM ["self"] ["self", "token", "fiter", "ch"] 5 [] (P_tok CLS RF (SP w) g)) :=
  callC_of B (fn_of B (a := 63) (names := ["self"]) rfl rfl rfl rfl rfl rfl rfl (by kernel_rfl) rfl rfl (fun vs h => by obtain ⟨x0, rfl⟩ := len1 h; rfl) rfl rfl rfl) (k := 5) (tb := ["self", "token", "fiter", "ch"]) rfl (cs := []) (by kernel_rfl) (by decide) (by decide +kernel) (by decide) (by decide) (by decide +kernel) (by decide +kernel) (P := (P_tok CLS RF (SP w) g)) (fun fr =>
  (b_cons
  (s_if (tru_of (ref_attr (kit B) (by kernel_rfl) (ref_local (k := 5) (i := 0) rfl (by kernel_rfl) (by decide +kernel)) (fun _ => rfl)) (fun _ _ => rfl)) (b_one (s_ret (ref_methK (ref_attr (kit B) (by kernel_rfl) (ref_local (k := 5) (i := 0) rfl (by kernel_rfl) (by decide +kernel)) (fun _ => rfl)) (getm_list F.slot_list_pop F.plainAttrs_list F.type_list_pop) (keep_builtin "list.pop") (args_cons (list_cons ref_int list_nil (fun _ => rfl)) (fun _ => rfl) (fun _ _ => rfl)) (b_pop) (fun _ => by kernel_rfl)))) b_nil)
  (b_cons
  (s_asg (ref_str (y := []) (by kernel_rfl)) (w_local (k := 5) (i := 1) rfl (by kernel_rfl)) (fun _ _ => rfl))
  (b_cons
  (s_asg (ref_call (glb (v := (.builtin "iter")) B (by kernel_rfl) (by kernel_rfl) (by decide +kernel) (by kernel_rfl) (by decide +kernel)) (keep_builtin "iter") (args_cons (list_cons (ref_bound (kit B) (by kernel_rfl) (by kernel_rfl) (by kernel_rfl) (by kernel_rfl) (by decide +kernel) (ref_local (k := 5) (i := 0) rfl (by kernel_rfl) (by decide +kernel)) (fun _ => rfl)) (list_cons (ref_str (y := []) (by kernel_rfl)) list_nil (fun _ => rfl)) (fun _ => rfl)) (fun _ => rfl) (fun _ _ => rfl)) (b_iter)) (w_local (k := 5) (i := 2) rfl (by kernel_rfl)) (fun _ _ => rfl))
  (b_cons
  (s_forc 1000 (c_readG B g) (fnObj B (by kernel_rfl) ) (ref_local (k := 5) (i := 2) rfl (by kernel_rfl) (by decide +kernel)) (w_name (w_local (k := 5) (i := 3) rfl (by kernel_rfl))) (b_cons
  (s_if (tst_cmp (in_ok B.gnd) (ref_local (k := 5) (i := 3) rfl (by kernel_rfl) (by decide +kernel)) (ref_attr (kit B) (by kernel_rfl) (ref_local (k := 5) (i := 0) rfl (by kernel_rfl) (by decide +kernel)) (fun _ => rfl)) rfl) (b_one s_cont) b_nil)
  (b_one (s_if (tst_cmp eq_ok (ref_local (k := 5) (i := 3) rfl (by kernel_rfl) (by decide +kernel)) (ref_str (y := [34]) (by kernel_rfl)) rfl) (b_one (s_forc 1000 (c_readG B g) (fnObj B (by kernel_rfl) ) (ref_local (k := 5) (i := 2) rfl (by kernel_rfl) (by decide +kernel)) (w_name (w_local (k := 5) (i := 3) rfl (by kernel_rfl))) (b_cons
  (s_if (tst_cmp eq_ok (ref_local (k := 5) (i := 3) rfl (by kernel_rfl) (by decide +kernel)) (ref_str (y := [34]) (by kernel_rfl)) rfl) (b_one (s_ret (ref_local (k := 5) (i := 1) rfl (by kernel_rfl) (by decide +kernel)))) (b_one (s_if (tst_cmp eq_ok (ref_local (k := 5) (i := 3) rfl (by kernel_rfl) (by decide +kernel)) (ref_str (y := [92]) (by kernel_rfl)) rfl) (b_one (s_asg (ref_methK (ref_local (k := 5) (i := 0) rfl (by kernel_rfl) (by decide +kernel)) (getm_inst (kit B) (by kernel_rfl) (by kernel_rfl)) (keepK B (by kernel_rfl)) args_nil ((c_readG B g).r.le (by decide)) (fun _ => by kernel_rfl)) (w_local (k := 5) (i := 3) rfl (by kernel_rfl)) (fun _ _ => rfl))) b_nil)))
  (b_one (s_aug (n_local (k := 5) (i := 1) rfl (by kernel_rfl)) (ref_local (k := 5) (i := 3) rfl (by kernel_rfl) (by decide +kernel)) iadd_ok (w_local (k := 5) (i := 1) rfl (by kernel_rfl))))) (fun _ _ => rfl) (fun _ _ => rfl))) (b_cons
  (s_if (tst_cmp eq_ok (ref_local (k := 5) (i := 3) rfl (by kernel_rfl) (by decide +kernel)) (ref_str (y := [92]) (by kernel_rfl)) rfl) (b_one (s_asg (ref_methK (ref_local (k := 5) (i := 0) rfl (by kernel_rfl) (by decide +kernel)) (getm_inst (kit B) (by kernel_rfl) (by kernel_rfl)) (keepK B (by kernel_rfl)) args_nil ((c_readG B g).r.le (by decide)) (fun _ => by kernel_rfl)) (w_local (k := 5) (i := 3) rfl (by kernel_rfl)) (fun _ _ => rfl))) b_nil)
  (b_cons
  (s_aug (n_local (k := 5) (i := 1) rfl (by kernel_rfl)) (ref_local (k := 5) (i := 3) rfl (by kernel_rfl) (by decide +kernel)) iadd_ok (w_local (k := 5) (i := 1) rfl (by kernel_rfl)))
  (b_one (s_forc 1000 (c_readG B g) (fnObj B (by kernel_rfl) ) (ref_local (k := 5) (i := 2) rfl (by kernel_rfl) (by decide +kernel)) (w_name (w_local (k := 5) (i := 3) rfl (by kernel_rfl))) (b_cons
  (s_if (tst_cmp (in_ok B.gnd) (ref_local (k := 5) (i := 3) rfl (by kernel_rfl) (by decide +kernel)) (ref_attr (kit B) (by kernel_rfl) (ref_local (k := 5) (i := 0) rfl (by kernel_rfl) (by decide +kernel)) (fun _ => rfl)) rfl) (b_one (s_ret (ref_local (k := 5) (i := 1) rfl (by kernel_rfl) (by decide +kernel)))) (b_one (s_if (tst_cmp eq_ok (ref_local (k := 5) (i := 3) rfl (by kernel_rfl) (by decide +kernel)) (ref_str (y := [92]) (by kernel_rfl)) rfl) (b_one (s_asg (ref_methK (ref_local (k := 5) (i := 0) rfl (by kernel_rfl) (by decide +kernel)) (getm_inst (kit B) (by kernel_rfl) (by kernel_rfl)) (keepK B (by kernel_rfl)) args_nil ((c_readG B g).r.le (by decide)) (fun _ => by kernel_rfl)) (w_local (k := 5) (i := 3) rfl (by kernel_rfl)) (fun _ _ => rfl))) b_nil)))
  (b_one (s_aug (n_local (k := 5) (i := 1) rfl (by kernel_rfl)) (ref_local (k := 5) (i := 3) rfl (by kernel_rfl) (by decide +kernel)) iadd_ok (w_local (k := 5) (i := 1) rfl (by kernel_rfl))))) (fun _ _ => rfl) (fun _ _ => rfl)))))))) (fun _ _ => rfl) (fun _ _ => rfl))
  (b_one (s_ret (ref_local (k := 5) (i := 1) rfl (by kernel_rfl) (by decide +kernel)))))))))
theorem c_tokG {w : World} {base : Heap} {mg mb : Str → Option Value} (B : Base (cx w base) (KK w) mg mb) (g : Gh) : CallC (cx w base) 7 (.ref 63) (tokG CLS (SP w) g) := (r_tok B g).cut m_tok
theorem r_push {w : World} {base : Heap} {mg mb : Str → Option Value} (B : Base (cx w base) (KK w) mg mb) (g : Gh) : CallC (cx w base) 3 (.ref 70) (fnM ["self", "token"] ["self", "token"] 6 [] (P_push CLS)) :=
  callC_of B (fn_of B (a := 70) (names := ["self", "token"]) rfl rfl rfl rfl rfl rfl rfl (by kernel_rfl) rfl rfl (fun vs h => by obtain ⟨x0, x1, rfl⟩ := len2 h; rfl) rfl rfl rfl) (k := 6) (tb := ["self", "token"]) rfl (cs := []) (by kernel_rfl) (by decide) (by decide +kernel) (by decide) (by decide) (by decide +kernel) (by decide +kernel) (P := (P_push CLS)) (fun fr =>
  (b_one (s_expr (ref_methK (ref_attr (kit B) (by kernel_rfl) (ref_local (k := 6) (i := 0) rfl (by kernel_rfl) (by decide +kernel)) (fun _ => rfl)) (getm_list F.slot_list_append F.plainAttrs_list F.type_list_append) (keep_builtin "list.append") (args_cons (list_cons (ref_local (k := 6) (i := 1) rfl (by kernel_rfl) (by decide +kernel)) list_nil (fun _ => rfl)) (fun _ => rfl) (fun _ _ => rfl)) (b_append) (fun _ => by kernel_rfl)) (fun _ h => inter_fn h) (fun _ => rfl))))
theorem c_pushG {w : World} {base : Heap} {mg mb : Str → Option Value} (B : Base (cx w base) (KK w) mg mb) (g : Gh) : CallC (cx w base) 3 (.ref 70) (pushG CLS (SP w) g) := (r_push B g).cut m_push
theorem r_file {w : World} {base : Heap} {mg mb : Str → Option Value} (B : Base (cx w base) (KK w) mg mb) (hBI : HBIp base mg) (hCH : HCHp w base 83) : CallC (cx w base) 5 (.ref 84) (fnM ["text"] ["text", "holder"] 7 ["signs"] (P_file CLS PL PT (SP w))) :=
  callC_of B (fn_of B (a := 84) (names := ["text"]) rfl rfl rfl rfl rfl rfl rfl (by kernel_rfl) rfl rfl (fun vs h => by obtain ⟨x0, rfl⟩ := len1 h; rfl) rfl rfl rfl) (k := 7) (tb := ["text", "holder"]) rfl (cs := ["signs"]) (by kernel_rfl) (by decide) (by decide +kernel) (by decide) (by decide) (by decide +kernel) (by decide +kernel) (P := (P_file CLS PL PT (SP w))) (fun fr =>
  (b_cons
  (s_asg (ref_call (glb (v := (.type "list")) B (by kernel_rfl) (by kernel_rfl) (by decide +kernel) (by kernel_rfl) (by decide +kernel)) (keep_type "list") (args_cons (list_cons (ref_local (k := 7) (i := 0) rfl (by kernel_rfl) (by decide +kernel)) list_nil (fun _ => rfl)) (fun _ => rfl) (fun _ _ => rfl)) (b_list)) (w_cell (l := (fr + 1)) (by kernel_rfl) (by kernel_rfl)) (fun _ _ => rfl))
  (b_cons
  (s_asg (ref_call (gl (v := (.ref 73)) B (by kernel_rfl) (by kernel_rfl) (by decide +kernel)) (keepK B (by kernel_rfl)) (args_cons (list_cons ref_none list_nil (fun _ => rfl)) (fun _ => rfl) (fun _ _ => rfl)) ((c_makeG B).r.le (by decide))) (w_local (k := 7) (i := 1) rfl (by kernel_rfl)) (fun _ _ => rfl))
  (b_cons
  (s_asg_attr (kit B) (by kernel_rfl) (ref_lam B.gnd (cc := 83) (PT := PT) (Pl := PL) B.g rfl hBI (cl' := [("signs", (fr + 1))]) (clos_is (fs := ["signs"]) (by kernel_rfl) (by intro x hx; simp only [List.mem_cons, List.not_mem_nil, or_false] at hx; rcases hx with rfl; exact ⟨(fr + 1), by kernel_rfl⟩) (by kernel_rfl)) (fun _ => rfl) hCH) (ref_local (k := 7) (i := 1) rfl (by kernel_rfl) (by decide +kernel)) (fun _ => rfl))
  (b_one (s_ret (ref_local (k := 7) (i := 1) rfl (by kernel_rfl) (by decide +kernel))))))))
theorem c_fileG {w : World} {base : Heap} {mg mb : Str → Option Value} (B : Base (cx w base) (KK w) mg mb) (hBI : HBIp base mg) (hCH : HCHp w base 83) : CallC (cx w base) 5 (.ref 84) (fileG CLS PL PT (SP w)) := r_file B hBI hCH
theorem r_written {w : World} {base : Heap} {mg mb : Str → Option Value} (B : Base (cx w base) (KK w) mg mb) : CallC (cx w base) 3 (.ref 91) (fnM ["word", "draw"] ["word", "draw", "text", "closing", "sign"] 9 [] P_written) :=
  callC_of B (fn_of B (a := 91) (names := ["word", "draw"]) rfl rfl rfl rfl rfl rfl rfl (by kernel_rfl) rfl rfl (fun vs h => by obtain ⟨x0, x1, rfl⟩ := len2 h; rfl) rfl rfl rfl) (k := 9) (tb := ["word", "draw", "text", "closing", "sign"]) rfl (cs := []) (by kernel_rfl) (by decide) (by decide +kernel) (by decide) (by decide) (by decide +kernel) (by decide +kernel) (P := P_written) (fun fr =>
  (b_cons
  (s_asg (ref_ite (tru_of (ref_bin mod_ok (ref_local (k := 9) (i := 1) rfl (by kernel_rfl) (by decide +kernel)) ref_int) (fun _ _ => rfl)) (ref_str (y := [34]) (by kernel_rfl)) (ref_str (y := []) (by kernel_rfl))) (w_local (k := 9) (i := 2) rfl (by kernel_rfl)) (fun _ _ => rfl))
  (b_cons
  (s_asg (ref_bin add_ok (ref_local (k := 9) (i := 2) rfl (by kernel_rfl) (by decide +kernel)) (ref_idx (ref_str (y := [32, 9, 10, 13]) (by kernel_rfl)) (ref_bin mod_ok (ref_bin div_ok (ref_local (k := 9) (i := 1) rfl (by kernel_rfl) (by decide +kernel)) ref_int) ref_int) (fun _ _ => rfl))) (w_local (k := 9) (i := 3) rfl (by kernel_rfl)) (fun _ _ => rfl))
  (b_cons
  (s_asg (ref_bin div_ok (ref_local (k := 9) (i := 1) rfl (by kernel_rfl) (by decide +kernel)) ref_int) (w_local (k := 9) (i := 1) rfl (by kernel_rfl)) (fun _ _ => rfl))
  (b_cons
  (s_for (it_val (ref_local (k := 9) (i := 0) rfl (by kernel_rfl) (by decide +kernel))) (w_name (w_local (k := 9) (i := 4) rfl (by kernel_rfl))) (b_cons
  (s_aug (n_local (k := 9) (i := 2) rfl (by kernel_rfl)) (ref_ite (tru_of (ref_bin mod_ok (ref_local (k := 9) (i := 1) rfl (by kernel_rfl) (by decide +kernel)) ref_int) (fun _ _ => rfl)) (ref_bin add_ok (ref_str (y := [92]) (by kernel_rfl)) (ref_local (k := 9) (i := 4) rfl (by kernel_rfl) (by decide +kernel))) (ref_local (k := 9) (i := 4) rfl (by kernel_rfl) (by decide +kernel))) iadd_ok (w_local (k := 9) (i := 2) rfl (by kernel_rfl)))
  (b_one (s_asg (ref_bin div_ok (ref_local (k := 9) (i := 1) rfl (by kernel_rfl) (by decide +kernel)) ref_int) (w_local (k := 9) (i := 1) rfl (by kernel_rfl)) (fun _ _ => rfl)))) (fun _ _ => rfl) (fun _ _ => rfl))
  (b_one (s_ret (ref_bin add_ok (ref_local (k := 9) (i := 2) rfl (by kernel_rfl) (by decide +kernel)) (ref_local (k := 9) (i := 3) rfl (by kernel_rfl) (by decide +kernel))))))))))
theorem c_writtenG {w : World} {base : Heap} {mg mb : Str → Option Value} (B : Base (cx w base) (KK w) mg mb) : CallC (cx w base) 3 (.ref 91) writtenG := (r_written B).cut m_written
theorem r_told {w : World} {base : Heap} {mg mb : Str → Option Value} (B : Base (cx w base) (KK w) mg mb) : CallC (cx w base) 4 (.ref 96) (fnM ["row", "sign"] ["row", "sign", "number", "figure"] 10 [] P_told) :=
  callC_of B (fn_of B (a := 96) (names := ["row", "sign"]) rfl rfl rfl rfl rfl rfl rfl (by kernel_rfl) rfl rfl (fun vs h => by obtain ⟨x0, x1, rfl⟩ := len2 h; rfl) rfl rfl rfl) (k := 10) (tb := ["row", "sign", "number", "figure"]) rfl (cs := []) (by kernel_rfl) (by decide) (by decide +kernel) (by decide) (by decide) (by decide +kernel) (by decide +kernel) (P := P_told) (fun fr =>
  (b_cons
  (s_asg ref_int (w_local (k := 10) (i := 2) rfl (by kernel_rfl)) (fun _ _ => rfl))
  (b_cons
  (s_for (it_val (ref_local (k := 10) (i := 0) rfl (by kernel_rfl) (by decide +kernel))) (w_name (w_local (k := 10) (i := 3) rfl (by kernel_rfl))) (b_one (s_asg (ref_bin add_ok (ref_bin mul_ok (ref_local (k := 10) (i := 2) rfl (by kernel_rfl) (by decide +kernel)) ref_int) (ref_local (k := 10) (i := 3) rfl (by kernel_rfl) (by decide +kernel))) (w_local (k := 10) (i := 2) rfl (by kernel_rfl)) (fun _ _ => rfl))) (fun _ _ => rfl) (fun _ _ => rfl))
  (b_one (s_ret (ref_methK (ref_str (y := []) (by kernel_rfl)) (getm_str F.slot_str_join F.plainAttrs_str F.type_str_join) (keep_builtin "str.join") (args_cons (list_cons (ref_comp (cl' := []) (it_val (ref_call (gl (v := (.ref 35)) B (by kernel_rfl) (by kernel_rfl) (by decide +kernel)) (keepK B (by kernel_rfl)) (args_cons (list_cons (ref_bin mul_ok (ref_local (k := 10) (i := 1) rfl (by kernel_rfl) (by decide +kernel)) (ref_local (k := 10) (i := 2) rfl (by kernel_rfl) (by decide +kernel))) list_nil (fun _ => rfl)) (fun _ => rfl) (fun _ _ => rfl)) ((c_apG B).r.le (by decide)))) { len := rfl, nodup := (show List.Nodup [("octet" : Str)] from by decide), clos := clos_is (fs := []) (by kernel_rfl) (by intro x hx; cases hx) (by kernel_rfl), kind := rfl, names := by decide +kernel, cell := by decide +kernel, w := fun f2 => w_name (w_local (k := 11) (i := 0) rfl (by kernel_rfl)), t := (fun f2 => f_nil), e := (fun f2 => (ref_call (glb (v := (.builtin "chr")) B (by kernel_rfl) (by kernel_rfl) (by decide +kernel) (by kernel_rfl) (by decide +kernel)) (keep_builtin "chr") (args_cons (list_cons (ref_local (k := 11) (i := 0) rfl (by kernel_rfl) (by decide +kernel)) list_nil (fun _ => rfl)) (fun _ => rfl) (fun _ _ => rfl)) (b_chr))) } (fun _ _ => rfl) (fun _ _ => rfl)) list_nil (fun _ => rfl)) (fun _ => rfl) (fun _ _ => rfl)) (b_join) (fun _ => by kernel_rfl)))))))
theorem c_toldG {w : World} {base : Heap} {mg mb : Str → Option Value} (B : Base (cx w base) (KK w) mg mb) : CallC (cx w base) 4 (.ref 96) toldG := (r_told B).cut m_told
theorem r_letters {w : World} {base : Heap} {mg mb : Str → Option Value} (B : Base (cx w base) (KK w) mg mb) : CallC (cx w base) 3 (.ref 101) (fnM ["row"] ["row"] 14 [] P_letters) :=
  callC_of B (fn_of B (a := 101) (names := ["row"]) rfl rfl rfl rfl rfl rfl rfl (by kernel_rfl) rfl rfl (fun vs h => by obtain ⟨x0, rfl⟩ := len1 h; rfl) rfl rfl rfl) (k := 14) (tb := ["row"]) rfl (cs := []) (by kernel_rfl) (by decide) (by decide +kernel) (by decide) (by decide) (by decide +kernel) (by decide +kernel) (P := P_letters) (fun fr =>
  (b_one (s_ret (ref_bin add_ok (ref_str (y := [66]) (by kernel_rfl)) (ref_methK (ref_str (y := []) (by kernel_rfl)) (getm_str F.slot_str_join F.plainAttrs_str F.type_str_join) (keep_builtin "str.join") (args_cons (list_cons (ref_comp (cl' := []) (it_val (ref_local (k := 14) (i := 0) rfl (by kernel_rfl) (by decide +kernel))) { len := rfl, nodup := (show List.Nodup [("figure" : Str)] from by decide), clos := clos_is (fs := []) (by kernel_rfl) (by intro x hx; cases hx) (by kernel_rfl), kind := rfl, names := by decide +kernel, cell := by decide +kernel, w := fun f2 => w_name (w_local (k := 15) (i := 0) rfl (by kernel_rfl)), t := (fun f2 => f_nil), e := (fun f2 => (ref_call (glb (v := (.builtin "chr")) B (by kernel_rfl) (by kernel_rfl) (by decide +kernel) (by kernel_rfl) (by decide +kernel)) (keep_builtin "chr") (args_cons (list_cons (ref_bin add_ok ref_int (ref_local (k := 15) (i := 0) rfl (by kernel_rfl) (by decide +kernel))) list_nil (fun _ => rfl)) (fun _ => rfl) (fun _ _ => rfl)) (b_chr))) } (fun _ _ => rfl) (fun _ _ => rfl)) list_nil (fun _ => rfl)) (fun _ => rfl) (fun _ _ => rfl)) (b_join) (fun _ => by kernel_rfl))))))
theorem c_lettersG {w : World} {base : Heap} {mg mb : Str → Option Value} (B : Base (cx w base) (KK w) mg mb) : CallC (cx w base) 3 (.ref 101) lettersG := (r_letters B).cut m_letters
theorem r_figures {w : World} {base : Heap} {mg mb : Str → Option Value} (B : Base (cx w base) (KK w) mg mb) : CallC (cx w base) 3 (.ref 106) (fnM ["word"] ["word"] 16 [] P_figures) :=
  callC_of B (fn_of B (a := 106) (names := ["word"]) rfl rfl rfl rfl rfl rfl rfl (by kernel_rfl) rfl rfl (fun vs h => by obtain ⟨x0, rfl⟩ := len1 h; rfl) rfl rfl rfl) (k := 16) (tb := ["word"]) rfl (cs := []) (by kernel_rfl) (by decide) (by decide +kernel) (by decide) (by decide) (by decide +kernel) (by decide +kernel) (P := P_figures) (fun fr =>
  (b_one (s_ret (ref_comp (cl' := []) (it_val (ref_slice (ref_local (k := 16) (i := 0) rfl (by kernel_rfl) (by decide +kernel)) (part_some ref_int) part_none)) { len := rfl, nodup := (show List.Nodup [("sign" : Str)] from by decide), clos := clos_is (fs := []) (by kernel_rfl) (by intro x hx; cases hx) (by kernel_rfl), kind := rfl, names := by decide +kernel, cell := by decide +kernel, w := fun f2 => w_name (w_local (k := 17) (i := 0) rfl (by kernel_rfl)), t := (fun f2 => f_nil), e := (fun f2 => (ref_bin sub_ok (ref_call (glb (v := (.builtin "ord")) B (by kernel_rfl) (by kernel_rfl) (by decide +kernel) (by kernel_rfl) (by decide +kernel)) (keep_builtin "ord") (args_cons (list_cons (ref_local (k := 17) (i := 0) rfl (by kernel_rfl) (by decide +kernel)) list_nil (fun _ => rfl)) (fun _ => rfl) (fun _ _ => rfl)) (b_ord)) ref_int)) } (fun _ _ => rfl) (fun _ _ => rfl)))))
theorem c_figuresG {w : World} {base : Heap} {mg mb : Str → Option Value} (B : Base (cx w base) (KK w) mg mb) : CallC (cx w base) 3 (.ref 106) figuresG := (r_figures B).cut m_figures
theorem r_ups {w : World} {base : Heap} {mg mb : Str → Option Value} (B : Base (cx w base) (KK w) mg mb) : CallC (cx w base) 3 (.ref 111) (fnM ["row"] [] 18 ["row"] P_ups) :=
  callC_of B (fn_of B (a := 111) (names := ["row"]) rfl rfl rfl rfl rfl rfl rfl (by kernel_rfl) rfl rfl (fun vs h => by obtain ⟨x0, rfl⟩ := len1 h; rfl) rfl rfl rfl) (k := 18) (tb := []) rfl (cs := ["row"]) (by kernel_rfl) (by decide) (by decide +kernel) (by decide) (by decide) (by decide +kernel) (by decide +kernel) (P := P_ups) (fun fr =>
  (b_one (s_ret (ref_comp (cl' := [("row", (fr + 1))]) (it_range (glb (v := (.type "range")) B (by kernel_rfl) (by kernel_rfl) (by decide +kernel) (by kernel_rfl) (by decide +kernel)) (args_cons (list_cons ref_int (list_cons (ref_call (glb (v := (.builtin "len")) B (by kernel_rfl) (by kernel_rfl) (by decide +kernel) (by kernel_rfl) (by decide +kernel)) (keep_builtin "len") (args_cons (list_cons (ref_cell (l := (fr + 1)) (by kernel_rfl) (by kernel_rfl) (by decide +kernel)) list_nil (fun _ => rfl)) (fun _ => rfl) (fun _ _ => rfl)) (b_len B.gnd)) list_nil (fun _ => rfl)) (fun _ => rfl)) (fun _ => rfl) (fun _ _ => rfl))) { len := rfl, nodup := (show List.Nodup [("k" : Str)] from by decide), clos := clos_is (fs := ["row"]) (by kernel_rfl) (by intro x hx; simp only [List.mem_cons, List.not_mem_nil, or_false] at hx; rcases hx with rfl; exact ⟨(fr + 1), by kernel_rfl⟩) (by kernel_rfl), kind := rfl, names := by decide +kernel, cell := by decide +kernel, w := fun f2 => w_name (w_local (k := 19) (i := 0) rfl (by kernel_rfl)), t := (fun f2 => f_nil), e := (fun f2 => (ref_ite (tst_cmp ge_ok (ref_idx (ref_cell (l := (fr + 1)) (by kernel_rfl) (by kernel_rfl) (by decide +kernel)) (ref_local (k := 19) (i := 0) rfl (by kernel_rfl) (by decide +kernel)) (fun _ _ => rfl)) (ref_idx (ref_cell (l := (fr + 1)) (by kernel_rfl) (by kernel_rfl) (by decide +kernel)) (ref_bin sub_ok (ref_local (k := 19) (i := 0) rfl (by kernel_rfl) (by decide +kernel)) ref_int) (fun _ _ => rfl)) rfl) ref_int ref_int)) } (fun _ _ => rfl) (fun _ _ => rfl)))))
theorem c_upsG {w : World} {base : Heap} {mg mb : Str → Option Value} (B : Base (cx w base) (KK w) mg mb) : CallC (cx w base) 3 (.ref 111) upsG := (r_ups B).cut m_ups
theorem r_places {w : World} {base : Heap} {mg mb : Str → Option Value} (B : Base (cx w base) (KK w) mg mb) : CallC (cx w base) 3 (.ref 116) (fnM ["ups"] [] 20 ["ups"] P_places) :=
  callC_of B (fn_of B (a := 116) (names := ["ups"]) rfl rfl rfl rfl rfl rfl rfl (by kernel_rfl) rfl rfl (fun vs h => by obtain ⟨x0, rfl⟩ := len1 h; rfl) rfl rfl rfl) (k := 20) (tb := []) rfl (cs := ["ups"]) (by kernel_rfl) (by decide) (by decide +kernel) (by decide) (by decide) (by decide +kernel) (by decide +kernel) (P := P_places) (fun fr =>
  (b_one (s_ret (ref_call (glb (v := (.builtin "sum")) B (by kernel_rfl) (by kernel_rfl) (by decide +kernel) (by kernel_rfl) (by decide +kernel)) (keep_builtin "sum") (args_cons (list_cons (ref_comp (cl' := [("ups", (fr + 1))]) (it_range (glb (v := (.type "range")) B (by kernel_rfl) (by kernel_rfl) (by decide +kernel) (by kernel_rfl) (by decide +kernel)) (args_cons (list_cons (ref_call (glb (v := (.builtin "len")) B (by kernel_rfl) (by kernel_rfl) (by decide +kernel) (by kernel_rfl) (by decide +kernel)) (keep_builtin "len") (args_cons (list_cons (ref_cell (l := (fr + 1)) (by kernel_rfl) (by kernel_rfl) (by decide +kernel)) list_nil (fun _ => rfl)) (fun _ => rfl) (fun _ _ => rfl)) (b_len B.gnd)) list_nil (fun _ => rfl)) (fun _ => rfl) (fun _ _ => rfl))) { len := rfl, nodup := (show List.Nodup [("k" : Str)] from by decide), clos := clos_is (fs := ["ups"]) (by kernel_rfl) (by intro x hx; simp only [List.mem_cons, List.not_mem_nil, or_false] at hx; rcases hx with rfl; exact ⟨(fr + 1), by kernel_rfl⟩) (by kernel_rfl), kind := rfl, names := by decide +kernel, cell := by decide +kernel, w := fun f2 => w_name (w_local (k := 21) (i := 0) rfl (by kernel_rfl)), t := (fun f2 => f_nil), e := (fun f2 => (ref_bin mul_ok (ref_bin add_ok (ref_local (k := 21) (i := 0) rfl (by kernel_rfl) (by decide +kernel)) ref_int) (ref_idx (ref_cell (l := (fr + 1)) (by kernel_rfl) (by kernel_rfl) (by decide +kernel)) (ref_local (k := 21) (i := 0) rfl (by kernel_rfl) (by decide +kernel)) (fun _ _ => rfl)))) } (fun _ _ => rfl) (fun _ _ => rfl)) list_nil (fun _ => rfl)) (fun _ => rfl) (fun _ _ => rfl)) (b_sum)))))
theorem c_placesG {w : World} {base : Heap} {mg mb : Str → Option Value} (B : Base (cx w base) (KK w) mg mb) : CallC (cx w base) 3 (.ref 116) placesG := (r_places B).cut m_places
theorem r_checks {w : World} {base : Heap} {mg mb : Str → Option Value} (B : Base (cx w base) (KK w) mg mb) : CallC (cx w base) 4 (.ref 123) (fnM ["row"] ["row"] 22 [] P_checks) :=
  callC_of B (fn_of B (a := 123) (names := ["row"]) rfl rfl rfl rfl rfl rfl rfl (by kernel_rfl) rfl rfl (fun vs h => by obtain ⟨x0, rfl⟩ := len1 h; rfl) rfl rfl rfl) (k := 22) (tb := ["row"]) rfl (cs := []) (by kernel_rfl) (by decide) (by decide +kernel) (by decide) (by decide) (by decide +kernel) (by decide +kernel) (P := P_checks) (fun fr =>
  (b_one (s_ret (ref_list (list_cons (ref_bin mod_ok (ref_call (gl (v := (.ref 116)) B (by kernel_rfl) (by kernel_rfl) (by decide +kernel)) (keepK B (by kernel_rfl)) (args_cons (list_cons (ref_call (gl (v := (.ref 111)) B (by kernel_rfl) (by kernel_rfl) (by decide +kernel)) (keepK B (by kernel_rfl)) (args_cons (list_cons (ref_local (k := 22) (i := 0) rfl (by kernel_rfl) (by decide +kernel)) list_nil (fun _ => rfl)) (fun _ => rfl) (fun _ _ => rfl)) ((c_upsG B).r.le (by decide))) list_nil (fun _ => rfl)) (fun _ => rfl) (fun _ _ => rfl)) ((c_placesG B).r.le (by decide))) (ref_call (glb (v := (.builtin "len")) B (by kernel_rfl) (by kernel_rfl) (by decide +kernel) (by kernel_rfl) (by decide +kernel)) (keep_builtin "len") (args_cons (list_cons (ref_local (k := 22) (i := 0) rfl (by kernel_rfl) (by decide +kernel)) list_nil (fun _ => rfl)) (fun _ => rfl) (fun _ _ => rfl)) (b_len B.gnd))) (list_cons (ref_bin mod_ok (ref_call (glb (v := (.builtin "sum")) B (by kernel_rfl) (by kernel_rfl) (by decide +kernel) (by kernel_rfl) (by decide +kernel)) (keep_builtin "sum") (args_cons (list_cons (ref_local (k := 22) (i := 0) rfl (by kernel_rfl) (by decide +kernel)) list_nil (fun _ => rfl)) (fun _ => rfl) (fun _ _ => rfl)) (b_sum)) ref_int) list_nil (fun _ => rfl)) (fun _ => rfl))))))
theorem c_checksG {w : World} {base : Heap} {mg mb : Str → Option Value} (B : Base (cx w base) (KK w) mg mb) : CallC (cx w base) 4 (.ref 123) checksG := (r_checks B).cut m_checks
theorem r_mended {w : World} {base : Heap} {mg mb : Str → Option Value} (B : Base (cx w base) (KK w) mg mb) : CallC (cx w base) 4 (.ref 130) (fnM ["less", "checks"] ["less", "checks", "size", "figure", "ups", "lack", "weight", "place", "whole"] 23 [] P_mended) :=
  callC_of B (fn_of B (a := 130) (names := ["less", "checks"]) rfl rfl rfl rfl rfl rfl rfl (by kernel_rfl) rfl rfl (fun vs h => by obtain ⟨x0, x1, rfl⟩ := len2 h; rfl) rfl rfl rfl) (k := 23) (tb := ["less", "checks", "size", "figure", "ups", "lack", "weight", "place", "whole"]) rfl (cs := []) (by kernel_rfl) (by decide) (by decide +kernel) (by decide) (by decide) (by decide +kernel) (by decide +kernel) (P := P_mended) (fun fr =>
  (b_cons
  (s_asg (ref_bin add_ok (ref_call (glb (v := (.builtin "len")) B (by kernel_rfl) (by kernel_rfl) (by decide +kernel) (by kernel_rfl) (by decide +kernel)) (keep_builtin "len") (args_cons (list_cons (ref_local (k := 23) (i := 0) rfl (by kernel_rfl) (by decide +kernel)) list_nil (fun _ => rfl)) (fun _ => rfl) (fun _ _ => rfl)) (b_len B.gnd)) ref_int) (w_local (k := 23) (i := 2) rfl (by kernel_rfl)) (fun _ _ => rfl))
  (b_cons
  (s_asg (ref_bin mod_ok (ref_bin sub_ok (ref_idx (ref_local (k := 23) (i := 1) rfl (by kernel_rfl) (by decide +kernel)) ref_int (fun _ _ => rfl)) (ref_call (glb (v := (.builtin "sum")) B (by kernel_rfl) (by kernel_rfl) (by decide +kernel) (by kernel_rfl) (by decide +kernel)) (keep_builtin "sum") (args_cons (list_cons (ref_local (k := 23) (i := 0) rfl (by kernel_rfl) (by decide +kernel)) list_nil (fun _ => rfl)) (fun _ => rfl) (fun _ _ => rfl)) (b_sum))) ref_int) (w_local (k := 23) (i := 3) rfl (by kernel_rfl)) (fun _ _ => rfl))
  (b_cons
  (s_asg (ref_call (gl (v := (.ref 111)) B (by kernel_rfl) (by kernel_rfl) (by decide +kernel)) (keepK B (by kernel_rfl)) (args_cons (list_cons (ref_local (k := 23) (i := 0) rfl (by kernel_rfl) (by decide +kernel)) list_nil (fun _ => rfl)) (fun _ => rfl) (fun _ _ => rfl)) ((c_upsG B).r.le (by decide))) (w_local (k := 23) (i := 4) rfl (by kernel_rfl)) (fun _ _ => rfl))
  (b_cons
  (s_asg (ref_bin mod_ok (ref_bin sub_ok (ref_idx (ref_local (k := 23) (i := 1) rfl (by kernel_rfl) (by decide +kernel)) ref_int (fun _ _ => rfl)) (ref_call (gl (v := (.ref 116)) B (by kernel_rfl) (by kernel_rfl) (by decide +kernel)) (keepK B (by kernel_rfl)) (args_cons (list_cons (ref_local (k := 23) (i := 4) rfl (by kernel_rfl) (by decide +kernel)) list_nil (fun _ => rfl)) (fun _ => rfl) (fun _ _ => rfl)) ((c_placesG B).r.le (by decide)))) (ref_local (k := 23) (i := 2) rfl (by kernel_rfl) (by decide +kernel))) (w_local (k := 23) (i := 5) rfl (by kernel_rfl)) (fun _ _ => rfl))
  (b_cons
  (s_asg (ref_call (glb (v := (.builtin "sum")) B (by kernel_rfl) (by kernel_rfl) (by decide +kernel) (by kernel_rfl) (by decide +kernel)) (keep_builtin "sum") (args_cons (list_cons (ref_local (k := 23) (i := 4) rfl (by kernel_rfl) (by decide +kernel)) list_nil (fun _ => rfl)) (fun _ => rfl) (fun _ _ => rfl)) (b_sum)) (w_local (k := 23) (i := 6) rfl (by kernel_rfl)) (fun _ _ => rfl))
  (b_cons
  (s_if (tst_cmp le_ok (ref_local (k := 23) (i := 5) rfl (by kernel_rfl) (by decide +kernel)) (ref_local (k := 23) (i := 6) rfl (by kernel_rfl) (by decide +kernel)) rfl) (b_cons
  (s_asg (ref_call (glb (v := (.builtin "len")) B (by kernel_rfl) (by kernel_rfl) (by decide +kernel) (by kernel_rfl) (by decide +kernel)) (keep_builtin "len") (args_cons (list_cons (ref_local (k := 23) (i := 4) rfl (by kernel_rfl) (by decide +kernel)) list_nil (fun _ => rfl)) (fun _ => rfl) (fun _ _ => rfl)) (b_len B.gnd)) (w_local (k := 23) (i := 7) rfl (by kernel_rfl)) (fun _ _ => rfl))
  (b_cons
  (s_while 1000 (tst_cmp lt_ok (ref_call (glb (v := (.builtin "sum")) B (by kernel_rfl) (by kernel_rfl) (by decide +kernel) (by kernel_rfl) (by decide +kernel)) (keep_builtin "sum") (args_cons (list_cons (ref_slice (ref_local (k := 23) (i := 4) rfl (by kernel_rfl) (by decide +kernel)) (part_some (ref_local (k := 23) (i := 7) rfl (by kernel_rfl) (by decide +kernel))) part_none) list_nil (fun _ => rfl)) (fun _ => rfl) (fun _ _ => rfl)) (b_sum)) (ref_local (k := 23) (i := 5) rfl (by kernel_rfl) (by decide +kernel)) rfl) (b_one (s_aug (n_local (k := 23) (i := 7) rfl (by kernel_rfl)) ref_int isub_ok (w_local (k := 23) (i := 7) rfl (by kernel_rfl)))))
  (b_one (s_asg (ref_bin add_ok (ref_bin add_ok (ref_slice (ref_local (k := 23) (i := 4) rfl (by kernel_rfl) (by decide +kernel)) part_none (part_some (ref_local (k := 23) (i := 7) rfl (by kernel_rfl) (by decide +kernel)))) (ref_list (list_cons ref_int list_nil (fun _ => rfl)))) (ref_slice (ref_local (k := 23) (i := 4) rfl (by kernel_rfl) (by decide +kernel)) (part_some (ref_local (k := 23) (i := 7) rfl (by kernel_rfl) (by decide +kernel))) part_none)) (w_local (k := 23) (i := 4) rfl (by kernel_rfl)) (fun _ _ => rfl))))) (b_cons
  (s_asg ref_int (w_local (k := 23) (i := 7) rfl (by kernel_rfl)) (fun _ _ => rfl))
  (b_cons
  (s_while 1000 (tst_cmp lt_ok (ref_bin sub_ok (ref_local (k := 23) (i := 7) rfl (by kernel_rfl) (by decide +kernel)) (ref_call (glb (v := (.builtin "sum")) B (by kernel_rfl) (by kernel_rfl) (by decide +kernel) (by kernel_rfl) (by decide +kernel)) (keep_builtin "sum") (args_cons (list_cons (ref_slice (ref_local (k := 23) (i := 4) rfl (by kernel_rfl) (by decide +kernel)) part_none (part_some (ref_local (k := 23) (i := 7) rfl (by kernel_rfl) (by decide +kernel)))) list_nil (fun _ => rfl)) (fun _ => rfl) (fun _ _ => rfl)) (b_sum))) (ref_bin sub_ok (ref_bin sub_ok (ref_local (k := 23) (i := 5) rfl (by kernel_rfl) (by decide +kernel)) (ref_local (k := 23) (i := 6) rfl (by kernel_rfl) (by decide +kernel))) ref_int) rfl) (b_one (s_aug (n_local (k := 23) (i := 7) rfl (by kernel_rfl)) ref_int iadd_ok (w_local (k := 23) (i := 7) rfl (by kernel_rfl)))))
  (b_one (s_asg (ref_bin add_ok (ref_bin add_ok (ref_slice (ref_local (k := 23) (i := 4) rfl (by kernel_rfl) (by decide +kernel)) part_none (part_some (ref_local (k := 23) (i := 7) rfl (by kernel_rfl) (by decide +kernel)))) (ref_list (list_cons ref_int list_nil (fun _ => rfl)))) (ref_slice (ref_local (k := 23) (i := 4) rfl (by kernel_rfl) (by decide +kernel)) (part_some (ref_local (k := 23) (i := 7) rfl (by kernel_rfl) (by decide +kernel))) part_none)) (w_local (k := 23) (i := 4) rfl (by kernel_rfl)) (fun _ _ => rfl))))))
  (b_cons
  (s_for (it_range (glb (v := (.type "range")) B (by kernel_rfl) (by kernel_rfl) (by decide +kernel) (by kernel_rfl) (by decide +kernel)) (args_cons (list_cons (ref_local (k := 23) (i := 2) rfl (by kernel_rfl) (by decide +kernel)) list_nil (fun _ => rfl)) (fun _ => rfl) (fun _ _ => rfl))) (w_name (w_local (k := 23) (i := 7) rfl (by kernel_rfl))) (b_cons
  (s_asg (ref_bin add_ok (ref_bin add_ok (ref_slice (ref_local (k := 23) (i := 0) rfl (by kernel_rfl) (by decide +kernel)) part_none (part_some (ref_local (k := 23) (i := 7) rfl (by kernel_rfl) (by decide +kernel)))) (ref_list (list_cons (ref_local (k := 23) (i := 3) rfl (by kernel_rfl) (by decide +kernel)) list_nil (fun _ => rfl)))) (ref_slice (ref_local (k := 23) (i := 0) rfl (by kernel_rfl) (by decide +kernel)) (part_some (ref_local (k := 23) (i := 7) rfl (by kernel_rfl) (by decide +kernel))) part_none)) (w_local (k := 23) (i := 8) rfl (by kernel_rfl)) (fun _ _ => rfl))
  (b_one (s_if (tst_cmp eq_ok (ref_call (gl (v := (.ref 111)) B (by kernel_rfl) (by kernel_rfl) (by decide +kernel)) (keepK B (by kernel_rfl)) (args_cons (list_cons (ref_local (k := 23) (i := 8) rfl (by kernel_rfl) (by decide +kernel)) list_nil (fun _ => rfl)) (fun _ => rfl) (fun _ _ => rfl)) ((c_upsG B).r.le (by decide))) (ref_local (k := 23) (i := 4) rfl (by kernel_rfl) (by decide +kernel)) rfl) (b_one (s_ret (ref_local (k := 23) (i := 8) rfl (by kernel_rfl) (by decide +kernel)))) b_nil))) (fun _ _ => rfl) (fun _ _ => rfl))
  (b_one (s_ret (ref_list list_nil)))))))))))
theorem c_mendedG {w : World} {base : Heap} {mg mb : Str → Option Value} (B : Base (cx w base) (KK w) mg mb) : CallC (cx w base) 4 (.ref 130) mendedG := (r_mended B).cut m_mended
end Mine
end
section
namespace Mine
open PySem PySem.Spec PySem.Calls PyProof.Rows PySem.W
noncomputable def Q_0 (w : World) (g : Gh) (sa : Addr) (ns : List Int) : St AF :=
  (asgM (listM (consM (St.pure (.int 10278)) (consM (St.pure (.int 1319768)) (consM (St.pure (.int 461469)) (consM (St.pure (.int 66562)) (St.pure [])))))) (putCellM 2))
theorem q_0 {w : World} {base : Heap} {mg mb : Str → Option Value} (B : Base (cx w base) (KK w) mg mb) (g : Gh) (hBI : HBIp base mg) (hCH : HCHp w base 83) {sa : Addr} {vs : List Value} {ns : List Int} (hList : base.IsList sa vs.toArray) (hInts : IntsAre vs ns) (hLen : ns.length ≤ 63) {cd : Value} {q : Str} : WS (cx w base) 8 (scopeOf (KK w) 135) ⟨0, [("line", 4), ("cells", 3), ("starts", 2), ("script", 1)], cd, q⟩ (stAt (KK w) 135 0) (Q_0 w g sa ns) :=
  ⟨(s_asg (ref_list (list_cons ref_int (list_cons ref_int (list_cons ref_int (list_cons ref_int list_nil (fun _ => rfl)) (fun _ => rfl)) (fun _ => rfl)) (fun _ => rfl))) (w_cell (l := 2) (by kernel_rfl) (by kernel_rfl)) (fun _ _ => rfl))⟩
noncomputable def Q_1 (w : World) (g : Gh) (sa : Addr) (ns : List Int) : St AF :=
  (asgM (compM (rangeIt (consM (St.pure (.int 4)) (St.pure []))) 31 1 (fun f2 => (putM f2 31 0)) (fun f2 => (St.pure true)) (fun f2 => (binM modP (binM addP (idxM (cellM 2) (slotM f2 31 0)) (callM sumF (consM (stepM sa ns (cellM 1) (slotM f2 31 0) 60 4) (St.pure [])))) (St.pure (.int 10000000))))) (putCellM 3))
theorem q_1 {w : World} {base : Heap} {mg mb : Str → Option Value} (B : Base (cx w base) (KK w) mg mb) (g : Gh) (hBI : HBIp base mg) (hCH : HCHp w base 83) {sa : Addr} {vs : List Value} {ns : List Int} (hList : base.IsList sa vs.toArray) (hInts : IntsAre vs ns) (hLen : ns.length ≤ 63) {cd : Value} {q : Str} : WS (cx w base) 8 (scopeOf (KK w) 135) ⟨0, [("line", 4), ("cells", 3), ("starts", 2), ("script", 1)], cd, q⟩ (stAt (KK w) 135 1) (Q_1 w g sa ns) :=
  ⟨(s_asg (ref_comp (cl' := [("starts", 2), ("script", 1)]) (it_range (glb (v := (.type "range")) B (by kernel_rfl) (by kernel_rfl) (by decide +kernel) (by kernel_rfl) (by decide +kernel)) (args_cons (list_cons ref_int list_nil (fun _ => rfl)) (fun _ => rfl) (fun _ _ => rfl))) { len := rfl, nodup := (show List.Nodup [("k" : Str)] from by decide), clos := clos_is (fs := ["script", "starts"]) (by kernel_rfl) (by intro x hx; simp only [List.mem_cons, List.not_mem_nil, or_false] at hx; rcases hx with rfl | rfl; exact ⟨1, by kernel_rfl⟩; exact ⟨2, by kernel_rfl⟩) (by kernel_rfl), kind := rfl, names := by decide +kernel, cell := by decide +kernel, w := fun f2 => w_name (w_local (k := 31) (i := 0) rfl (by kernel_rfl)), t := (fun f2 => f_nil), e := (fun f2 => (ref_bin mod_ok (ref_bin add_ok (ref_idx (ref_cell (l := 2) (by kernel_rfl) (by kernel_rfl) (by decide +kernel)) (ref_local (k := 31) (i := 0) rfl (by kernel_rfl) (by decide +kernel)) (fun _ _ => rfl)) (ref_call (glb (v := (.builtin "sum")) B (by kernel_rfl) (by kernel_rfl) (by decide +kernel) (by kernel_rfl) (by decide +kernel)) (keep_builtin "sum") (args_cons (list_cons (ref_step (hi := 60) (st := 4) (ref_cell (l := 1) (by kernel_rfl) (by kernel_rfl) (by decide +kernel)) hList hInts hLen (by decide) (ref_local (k := 31) (i := 0) rfl (by kernel_rfl) (by decide +kernel)) (fun _ _ => rfl)) list_nil (fun _ => rfl)) (fun _ => rfl) (fun _ _ => rfl)) (b_sum))) ref_int)) } (fun _ _ => rfl) (fun _ _ => rfl)) (w_cell (l := 3) (by kernel_rfl) (by kernel_rfl)) (fun env h => by cases env; cases h; kernel_rfl))⟩
noncomputable def Q_2 (w : World) (g : Gh) (sa : Addr) (ns : List Int) : St AF :=
  (asgM (binM addP (St.pure (.int 4)) (binM modP (idxM (cellM 3) (St.pure (.int 0))) (St.pure (.int 2)))) (putM 0 30 1))
theorem q_2 {w : World} {base : Heap} {mg mb : Str → Option Value} (B : Base (cx w base) (KK w) mg mb) (g : Gh) (hBI : HBIp base mg) (hCH : HCHp w base 83) {sa : Addr} {vs : List Value} {ns : List Int} (hList : base.IsList sa vs.toArray) (hInts : IntsAre vs ns) (hLen : ns.length ≤ 63) {cd : Value} {q : Str} : WS (cx w base) 8 (scopeOf (KK w) 135) ⟨0, [("line", 4), ("cells", 3), ("starts", 2), ("script", 1)], cd, q⟩ (stAt (KK w) 135 2) (Q_2 w g sa ns) :=
  ⟨(s_asg (ref_bin add_ok ref_int (ref_bin mod_ok (ref_idx (ref_cell (l := 3) (by kernel_rfl) (by kernel_rfl) (by decide +kernel)) ref_int (fun _ _ => rfl)) ref_int)) (w_local (k := 30) (i := 1) rfl (by kernel_rfl)) (fun _ _ => rfl))⟩
noncomputable def Q_3 (w : World) (g : Gh) (sa : Addr) (ns : List Int) : St AF :=
  (asgM (compM (rangeIt (consM (slotM 0 30 1) (St.pure []))) 32 1 (fun f2 => (putM f2 32 0)) (fun f2 => (St.pure true)) (fun f2 => (binM modP (binM divP (binM divP (idxM (cellM 3) (St.pure (.int 0))) (St.pure (.int 2))) (binM powP (St.pure (.int 16)) (slotM f2 32 0))) (St.pure (.int 16))))) (putM 0 30 2))
theorem q_3 {w : World} {base : Heap} {mg mb : Str → Option Value} (B : Base (cx w base) (KK w) mg mb) (g : Gh) (hBI : HBIp base mg) (hCH : HCHp w base 83) {sa : Addr} {vs : List Value} {ns : List Int} (hList : base.IsList sa vs.toArray) (hInts : IntsAre vs ns) (hLen : ns.length ≤ 63) {cd : Value} {q : Str} : WS (cx w base) 8 (scopeOf (KK w) 135) ⟨0, [("line", 4), ("cells", 3), ("starts", 2), ("script", 1)], cd, q⟩ (stAt (KK w) 135 3) (Q_3 w g sa ns) :=
  ⟨(s_comp (cl' := [("cells", 3)]) (it_range (glb (v := (.type "range")) B (by kernel_rfl) (by kernel_rfl) (by decide +kernel) (by kernel_rfl) (by decide +kernel)) (args_cons (list_cons (ref_local (k := 30) (i := 1) rfl (by kernel_rfl) (by decide +kernel)) list_nil (fun _ => rfl)) (fun _ => rfl) (fun _ _ => rfl))) { len := rfl, nodup := (show List.Nodup [("k" : Str)] from by decide), clos := clos_is (fs := ["cells"]) (by kernel_rfl) (by intro x hx; simp only [List.mem_cons, List.not_mem_nil, or_false] at hx; rcases hx with rfl; exact ⟨3, by kernel_rfl⟩) (by kernel_rfl), kind := rfl, names := by decide +kernel, cell := by decide +kernel, w := fun f2 => w_name (w_local (k := 32) (i := 0) rfl (by kernel_rfl)), t := (fun f2 => f_nil), e := (fun f2 => (ref_bin mod_ok (ref_bin div_ok (ref_bin div_ok (ref_idx (ref_cell (l := 3) (by kernel_rfl) (by kernel_rfl) (by decide +kernel)) ref_int (fun _ _ => rfl)) ref_int) (ref_bin pow_ok ref_int (ref_local (k := 32) (i := 0) rfl (by kernel_rfl) (by decide +kernel)))) ref_int)) } (fun _ _ => rfl) (fun _ _ => rfl) (w_local (k := 30) (i := 2) rfl (by kernel_rfl)) (fun env h => by cases env; cases h; kernel_rfl))⟩
noncomputable def Q_4 (w : World) (g : Gh) (sa : Addr) (ns : List Int) : St AF :=
  (asgM (listM (St.pure [])) (putM 0 30 3))
theorem q_4 {w : World} {base : Heap} {mg mb : Str → Option Value} (B : Base (cx w base) (KK w) mg mb) (g : Gh) (hBI : HBIp base mg) (hCH : HCHp w base 83) {sa : Addr} {vs : List Value} {ns : List Int} (hList : base.IsList sa vs.toArray) (hInts : IntsAre vs ns) (hLen : ns.length ≤ 63) {cd : Value} {q : Str} : WS (cx w base) 8 (scopeOf (KK w) 135) ⟨0, [("line", 4), ("cells", 3), ("starts", 2), ("script", 1)], cd, q⟩ (stAt (KK w) 135 4) (Q_4 w g sa ns) :=
  ⟨(s_asg (ref_list list_nil) (w_local (k := 30) (i := 3) rfl (by kernel_rfl)) (fun _ _ => rfl))⟩
noncomputable def Q_5 (w : World) (g : Gh) (sa : Addr) (ns : List Int) : St AF :=
  (asgM (listM (St.pure [])) (putM 0 30 4))
theorem q_5 {w : World} {base : Heap} {mg mb : Str → Option Value} (B : Base (cx w base) (KK w) mg mb) (g : Gh) (hBI : HBIp base mg) (hCH : HCHp w base 83) {sa : Addr} {vs : List Value} {ns : List Int} (hList : base.IsList sa vs.toArray) (hInts : IntsAre vs ns) (hLen : ns.length ≤ 63) {cd : Value} {q : Str} : WS (cx w base) 8 (scopeOf (KK w) 135) ⟨0, [("line", 4), ("cells", 3), ("starts", 2), ("script", 1)], cd, q⟩ (stAt (KK w) 135 5) (Q_5 w g sa ns) :=
  ⟨(s_asg (ref_list list_nil) (w_local (k := 30) (i := 4) rfl (by kernel_rfl)) (fun _ _ => rfl))⟩
noncomputable def Q_6 (w : World) (g : Gh) (sa : Addr) (ns : List Int) : St AF :=
  (asgM (listM (St.pure [])) (putM 0 30 5))
theorem q_6 {w : World} {base : Heap} {mg mb : Str → Option Value} (B : Base (cx w base) (KK w) mg mb) (g : Gh) (hBI : HBIp base mg) (hCH : HCHp w base 83) {sa : Addr} {vs : List Value} {ns : List Int} (hList : base.IsList sa vs.toArray) (hInts : IntsAre vs ns) (hLen : ns.length ≤ 63) {cd : Value} {q : Str} : WS (cx w base) 8 (scopeOf (KK w) 135) ⟨0, [("line", 4), ("cells", 3), ("starts", 2), ("script", 1)], cd, q⟩ (stAt (KK w) 135 6) (Q_6 w g sa ns) :=
  ⟨(s_asg (ref_list list_nil) (w_local (k := 30) (i := 5) rfl (by kernel_rfl)) (fun _ _ => rfl))⟩
noncomputable def Q_7 (w : World) (g : Gh) (sa : Addr) (ns : List Int) : St AF :=
  (asgM (St.pure (.str [])) (putM 0 30 6))
theorem q_7 {w : World} {base : Heap} {mg mb : Str → Option Value} (B : Base (cx w base) (KK w) mg mb) (g : Gh) (hBI : HBIp base mg) (hCH : HCHp w base 83) {sa : Addr} {vs : List Value} {ns : List Int} (hList : base.IsList sa vs.toArray) (hInts : IntsAre vs ns) (hLen : ns.length ≤ 63) {cd : Value} {q : Str} : WS (cx w base) 8 (scopeOf (KK w) 135) ⟨0, [("line", 4), ("cells", 3), ("starts", 2), ("script", 1)], cd, q⟩ (stAt (KK w) 135 7) (Q_7 w g sa ns) :=
  ⟨(s_asg (ref_str (y := []) (by kernel_rfl)) (w_local (k := 30) (i := 6) rfl (by kernel_rfl)) (fun _ _ => rfl))⟩
noncomputable def QB_8 (w : World) (g : Gh) (sa : Addr) (ns : List Int) : St AF :=
  (seqM
  (asgM (binM modP (slotM 0 30 7) (slotM 0 30 1)) (putM 0 30 8))
  (seqM
  (asgM (binM modP (binM divP (slotM 0 30 7) (slotM 0 30 1)) (slotM 0 30 1)) (putM 0 30 9))
  (seqM
  (asgM (cutR (binM addP (slcM (slotM 0 30 2) (St.pure .none) (slotM 0 30 8)) (slcM (slotM 0 30 2) (binM addP (slotM 0 30 8) (St.pure (.int 1))) (St.pure .none)))) (putM 0 30 10))
  (seqM
  (asgM (callM checksG (consM (slotM 0 30 2) (St.pure []))) (putM 0 30 11))
  (seqM
  (asgM (binM divP (slotM 0 30 7) (binM mulP (binM mulP (slotM 0 30 1) (slotM 0 30 1)) (St.pure (.int 16)))) (putM 0 30 12))
  (seqM
  (augM (slotM 0 30 6) (binM addP (callM writtenG (consM (callM toldG (consM (slotM 0 30 10) (consM (St.pure (.int 1)) (St.pure [])))) (consM (slotM 0 30 12) (St.pure [])))) (callM writtenG (consM (callM toldG (consM (slotM 0 30 11) (consM (St.pure (.int 1)) (St.pure [])))) (consM (binM divP (slotM 0 30 12) (St.pure (.int 256))) (St.pure []))))) iaddP (putM 0 30 6))
  (seqM
  (augM (slotM 0 30 5) (listM (consM (callM lettersG (consM (slotM 0 30 10) (St.pure []))) (consM (callM lettersG (consM (slotM 0 30 11) (St.pure []))) (St.pure [])))) iextP (putM 0 30 5))
  (seqM
  (exprM (methM (slotM 0 30 3) selList appendF (consM (slotM 0 30 2) (St.pure []))))
  (seqM
  (exprM (methM (slotM 0 30 4) selList appendF (consM (callM lettersG (consM (slotM 0 30 10) (St.pure []))) (St.pure []))))
  (asgM (cutR (binM addP (binM addP (slcM (slotM 0 30 10) (St.pure .none) (slotM 0 30 9)) (listM (consM (binM modP (binM divP (slotM 0 30 7) (binM mulP (slotM 0 30 1) (slotM 0 30 1))) (St.pure (.int 16))) (St.pure [])))) (slcM (slotM 0 30 10) (slotM 0 30 9) (St.pure .none)))) (putM 0 30 2)))))))))))
theorem qb_8 {w : World} {base : Heap} {mg mb : Str → Option Value} (B : Base (cx w base) (KK w) mg mb) (g : Gh) (hBI : HBIp base mg) (hCH : HCHp w base 83) {sa : Addr} {vs : List Value} {ns : List Int} (hList : base.IsList sa vs.toArray) (hInts : IntsAre vs ns) (hLen : ns.length ≤ 63) {cd : Value} {q : Str} : RefB (cx w base) 8 (scopeOf (KK w) 135) ⟨0, [("line", 4), ("cells", 3), ("starts", 2), ("script", 1)], cd, q⟩ (innerOf (stAt (KK w) 135 8)) (QB_8 w g sa ns) :=
  (b_cons
  (s_asg (ref_bin mod_ok (ref_local (k := 30) (i := 7) rfl (by kernel_rfl) (by decide +kernel)) (ref_local (k := 30) (i := 1) rfl (by kernel_rfl) (by decide +kernel))) (w_local (k := 30) (i := 8) rfl (by kernel_rfl)) (fun _ _ => rfl))
  (b_cons
  (s_asg (ref_bin mod_ok (ref_bin div_ok (ref_local (k := 30) (i := 7) rfl (by kernel_rfl) (by decide +kernel)) (ref_local (k := 30) (i := 1) rfl (by kernel_rfl) (by decide +kernel))) (ref_local (k := 30) (i := 1) rfl (by kernel_rfl) (by decide +kernel))) (w_local (k := 30) (i := 9) rfl (by kernel_rfl)) (fun _ _ => rfl))
  (b_cons
  (s_asg (ref_cutR (ref_bin add_ok (ref_slice (ref_local (k := 30) (i := 2) rfl (by kernel_rfl) (by decide +kernel)) part_none (part_some (ref_local (k := 30) (i := 8) rfl (by kernel_rfl) (by decide +kernel)))) (ref_slice (ref_local (k := 30) (i := 2) rfl (by kernel_rfl) (by decide +kernel)) (part_some (ref_bin add_ok (ref_local (k := 30) (i := 8) rfl (by kernel_rfl) (by decide +kernel)) ref_int)) part_none))) (w_local (k := 30) (i := 10) rfl (by kernel_rfl)) (fun _ _ => rfl))
  (b_cons
  (s_asg (ref_call (gl (v := (.ref 123)) B (by kernel_rfl) (by kernel_rfl) (by decide +kernel)) (keepK B (by kernel_rfl)) (args_cons (list_cons (ref_local (k := 30) (i := 2) rfl (by kernel_rfl) (by decide +kernel)) list_nil (fun _ => rfl)) (fun _ => rfl) (fun _ _ => rfl)) ((c_checksG B).r.le (by decide))) (w_local (k := 30) (i := 11) rfl (by kernel_rfl)) (fun _ _ => rfl))
  (b_cons
  (s_asg (ref_bin div_ok (ref_local (k := 30) (i := 7) rfl (by kernel_rfl) (by decide +kernel)) (ref_bin mul_ok (ref_bin mul_ok (ref_local (k := 30) (i := 1) rfl (by kernel_rfl) (by decide +kernel)) (ref_local (k := 30) (i := 1) rfl (by kernel_rfl) (by decide +kernel))) ref_int)) (w_local (k := 30) (i := 12) rfl (by kernel_rfl)) (fun _ _ => rfl))
  (b_cons
  (s_aug (n_local (k := 30) (i := 6) rfl (by kernel_rfl)) (ref_bin add_ok (ref_call (gl (v := (.ref 91)) B (by kernel_rfl) (by kernel_rfl) (by decide +kernel)) (keepK B (by kernel_rfl)) (args_cons (list_cons (ref_call (gl (v := (.ref 96)) B (by kernel_rfl) (by kernel_rfl) (by decide +kernel)) (keepK B (by kernel_rfl)) (args_cons (list_cons (ref_local (k := 30) (i := 10) rfl (by kernel_rfl) (by decide +kernel)) (list_cons ref_int list_nil (fun _ => rfl)) (fun _ => rfl)) (fun _ => rfl) (fun _ _ => rfl)) ((c_toldG B).r.le (by decide))) (list_cons (ref_local (k := 30) (i := 12) rfl (by kernel_rfl) (by decide +kernel)) list_nil (fun _ => rfl)) (fun _ => rfl)) (fun _ => rfl) (fun _ _ => rfl)) ((c_writtenG B).r.le (by decide))) (ref_call (gl (v := (.ref 91)) B (by kernel_rfl) (by kernel_rfl) (by decide +kernel)) (keepK B (by kernel_rfl)) (args_cons (list_cons (ref_call (gl (v := (.ref 96)) B (by kernel_rfl) (by kernel_rfl) (by decide +kernel)) (keepK B (by kernel_rfl)) (args_cons (list_cons (ref_local (k := 30) (i := 11) rfl (by kernel_rfl) (by decide +kernel)) (list_cons ref_int list_nil (fun _ => rfl)) (fun _ => rfl)) (fun _ => rfl) (fun _ _ => rfl)) ((c_toldG B).r.le (by decide))) (list_cons (ref_bin div_ok (ref_local (k := 30) (i := 12) rfl (by kernel_rfl) (by decide +kernel)) ref_int) list_nil (fun _ => rfl)) (fun _ => rfl)) (fun _ => rfl) (fun _ _ => rfl)) ((c_writtenG B).r.le (by decide)))) iadd_ok (w_local (k := 30) (i := 6) rfl (by kernel_rfl)))
  (b_cons
  (s_aug (n_local (k := 30) (i := 5) rfl (by kernel_rfl)) (ref_list (list_cons (ref_call (gl (v := (.ref 101)) B (by kernel_rfl) (by kernel_rfl) (by decide +kernel)) (keepK B (by kernel_rfl)) (args_cons (list_cons (ref_local (k := 30) (i := 10) rfl (by kernel_rfl) (by decide +kernel)) list_nil (fun _ => rfl)) (fun _ => rfl) (fun _ _ => rfl)) ((c_lettersG B).r.le (by decide))) (list_cons (ref_call (gl (v := (.ref 101)) B (by kernel_rfl) (by kernel_rfl) (by decide +kernel)) (keepK B (by kernel_rfl)) (args_cons (list_cons (ref_local (k := 30) (i := 11) rfl (by kernel_rfl) (by decide +kernel)) list_nil (fun _ => rfl)) (fun _ => rfl) (fun _ _ => rfl)) ((c_lettersG B).r.le (by decide))) list_nil (fun _ => rfl)) (fun _ => rfl))) iext_ok (w_local (k := 30) (i := 5) rfl (by kernel_rfl)))
  (b_cons
  (s_expr (ref_methK (ref_local (k := 30) (i := 3) rfl (by kernel_rfl) (by decide +kernel)) (getm_list F.slot_list_append F.plainAttrs_list F.type_list_append) (keep_builtin "list.append") (args_cons (list_cons (ref_local (k := 30) (i := 2) rfl (by kernel_rfl) (by decide +kernel)) list_nil (fun _ => rfl)) (fun _ => rfl) (fun _ _ => rfl)) (b_append) (fun _ => by kernel_rfl)) (fun _ h => inter_fn h) (fun _ => rfl))
  (b_cons
  (s_expr (ref_methK (ref_local (k := 30) (i := 4) rfl (by kernel_rfl) (by decide +kernel)) (getm_list F.slot_list_append F.plainAttrs_list F.type_list_append) (keep_builtin "list.append") (args_cons (list_cons (ref_call (gl (v := (.ref 101)) B (by kernel_rfl) (by kernel_rfl) (by decide +kernel)) (keepK B (by kernel_rfl)) (args_cons (list_cons (ref_local (k := 30) (i := 10) rfl (by kernel_rfl) (by decide +kernel)) list_nil (fun _ => rfl)) (fun _ => rfl) (fun _ _ => rfl)) ((c_lettersG B).r.le (by decide))) list_nil (fun _ => rfl)) (fun _ => rfl) (fun _ _ => rfl)) (b_append) (fun _ => by kernel_rfl)) (fun _ h => inter_fn h) (fun _ => rfl))
  (b_one (s_asg (ref_cutR (ref_bin add_ok (ref_bin add_ok (ref_slice (ref_local (k := 30) (i := 10) rfl (by kernel_rfl) (by decide +kernel)) part_none (part_some (ref_local (k := 30) (i := 9) rfl (by kernel_rfl) (by decide +kernel)))) (ref_list (list_cons (ref_bin mod_ok (ref_bin div_ok (ref_local (k := 30) (i := 7) rfl (by kernel_rfl) (by decide +kernel)) (ref_bin mul_ok (ref_local (k := 30) (i := 1) rfl (by kernel_rfl) (by decide +kernel)) (ref_local (k := 30) (i := 1) rfl (by kernel_rfl) (by decide +kernel)))) ref_int) list_nil (fun _ => rfl)))) (ref_slice (ref_local (k := 30) (i := 10) rfl (by kernel_rfl) (by decide +kernel)) (part_some (ref_local (k := 30) (i := 9) rfl (by kernel_rfl) (by decide +kernel))) part_none))) (w_local (k := 30) (i := 2) rfl (by kernel_rfl)) (fun _ _ => rfl))))))))))))
noncomputable def Q_8 (w : World) (g : Gh) (sa : Addr) (ns : List Int) : St AF :=
  (forM (itM (slcM (cellM 3) (St.pure (.int 1)) (St.pure .none))) (putM 0 30 7) (QB_8 w g sa ns))
theorem q_8 {w : World} {base : Heap} {mg mb : Str → Option Value} (B : Base (cx w base) (KK w) mg mb) (g : Gh) (hBI : HBIp base mg) (hCH : HCHp w base 83) {sa : Addr} {vs : List Value} {ns : List Int} (hList : base.IsList sa vs.toArray) (hInts : IntsAre vs ns) (hLen : ns.length ≤ 63) {cd : Value} {q : Str} : WS (cx w base) 8 (scopeOf (KK w) 135) ⟨0, [("line", 4), ("cells", 3), ("starts", 2), ("script", 1)], cd, q⟩ (stAt (KK w) 135 8) (Q_8 w g sa ns) :=
  ⟨(s_for (it_val (ref_slice (ref_cell (l := 3) (by kernel_rfl) (by kernel_rfl) (by decide +kernel)) (part_some ref_int) part_none)) (w_name (w_local (k := 30) (i := 7) rfl (by kernel_rfl))) (qb_8 B g hBI hCH hList hInts hLen) (fun _ _ => rfl) (fun _ _ => rfl))⟩
noncomputable def Q_9 (w : World) (g : Gh) (sa : Addr) (ns : List Int) : St AF :=
  (asgM (callM (makeF CLS (initG CLS)) (consM (callM (fileG CLS PL PT (SP w)) (consM (slotM 0 30 6) (St.pure []))) (St.pure []))) (putCellM 4))
theorem q_9 {w : World} {base : Heap} {mg mb : Str → Option Value} (B : Base (cx w base) (KK w) mg mb) (g : Gh) (hBI : HBIp base mg) (hCH : HCHp w base 83) {sa : Addr} {vs : List Value} {ns : List Int} (hList : base.IsList sa vs.toArray) (hInts : IntsAre vs ns) (hLen : ns.length ≤ 63) {cd : Value} {q : Str} : WS (cx w base) 8 (scopeOf (KK w) 135) ⟨0, [("line", 4), ("cells", 3), ("starts", 2), ("script", 1)], cd, q⟩ (stAt (KK w) 135 9) (Q_9 w g sa ns) :=
  ⟨(s_asg (ref_call (gl (v := (.ref 73)) B (by kernel_rfl) (by kernel_rfl) (by decide +kernel)) (keepK B (by kernel_rfl)) (args_cons (list_cons (ref_call (gl (v := (.ref 84)) B (by kernel_rfl) (by kernel_rfl) (by decide +kernel)) (keepK B (by kernel_rfl)) (args_cons (list_cons (ref_local (k := 30) (i := 6) rfl (by kernel_rfl) (by decide +kernel)) list_nil (fun _ => rfl)) (fun _ => rfl) (fun _ _ => rfl)) ((c_fileG B hBI hCH).r.le (by decide))) list_nil (fun _ => rfl)) (fun _ => rfl) (fun _ _ => rfl)) ((c_makeG B).r.le (by decide))) (w_cell (l := 4) (by kernel_rfl) (by kernel_rfl)) (fun _ _ => rfl))⟩
noncomputable def Q_10 (w : World) (g : Gh) (sa : Addr) (ns : List Int) : St AF :=
  (asgM (compM (rangeIt (consM (St.pure (.int 6)) (St.pure []))) 33 1 (fun f2 => (putM f2 33 0)) (fun f2 => (St.pure true)) (fun f2 => (methM (cellM 4) (selInst CLS "get_token") (tokG CLS (SP w) g) (St.pure [])))) (putM 0 30 13))
theorem q_10 {w : World} {base : Heap} {mg mb : Str → Option Value} (B : Base (cx w base) (KK w) mg mb) (g : Gh) (hBI : HBIp base mg) (hCH : HCHp w base 83) {sa : Addr} {vs : List Value} {ns : List Int} (hList : base.IsList sa vs.toArray) (hInts : IntsAre vs ns) (hLen : ns.length ≤ 63) {cd : Value} {q : Str} : WS (cx w base) 8 (scopeOf (KK w) 135) ⟨0, [("line", 4), ("cells", 3), ("starts", 2), ("script", 1)], cd, q⟩ (stAt (KK w) 135 10) (Q_10 w g sa ns) :=
  ⟨(s_comp (cl' := [("line", 4)]) (it_range (glb (v := (.type "range")) B (by kernel_rfl) (by kernel_rfl) (by decide +kernel) (by kernel_rfl) (by decide +kernel)) (args_cons (list_cons ref_int list_nil (fun _ => rfl)) (fun _ => rfl) (fun _ _ => rfl))) { len := rfl, nodup := (show List.Nodup [("k" : Str)] from by decide), clos := clos_is (fs := ["line"]) (by kernel_rfl) (by intro x hx; simp only [List.mem_cons, List.not_mem_nil, or_false] at hx; rcases hx with rfl; exact ⟨4, by kernel_rfl⟩) (by kernel_rfl), kind := rfl, names := by decide +kernel, cell := by decide +kernel, w := fun f2 => w_name (w_local (k := 33) (i := 0) rfl (by kernel_rfl)), t := (fun f2 => f_nil), e := (fun f2 => (ref_methK (ref_cell (l := 4) (by kernel_rfl) (by kernel_rfl) (by decide +kernel)) (getm_inst (kit B) (by kernel_rfl) (by kernel_rfl)) (keepK B (by kernel_rfl)) args_nil ((c_tokG B g).r.le (by decide)) (fun _ => by kernel_rfl))) } (fun _ _ => rfl) (fun _ _ => rfl) (w_local (k := 30) (i := 13) rfl (by kernel_rfl)) (fun env h => by cases env; cases h; kernel_rfl))⟩
noncomputable def Q_11 (w : World) (g : Gh) (sa : Addr) (ns : List Int) : St AF :=
  (ifM (truM (cmpM neP (slotM 0 30 13) (slotM 0 30 5))) (retM (St.pure (.bool false))) (St.pure .next))
theorem q_11 {w : World} {base : Heap} {mg mb : Str → Option Value} (B : Base (cx w base) (KK w) mg mb) (g : Gh) (hBI : HBIp base mg) (hCH : HCHp w base 83) {sa : Addr} {vs : List Value} {ns : List Int} (hList : base.IsList sa vs.toArray) (hInts : IntsAre vs ns) (hLen : ns.length ≤ 63) {cd : Value} {q : Str} : WS (cx w base) 8 (scopeOf (KK w) 135) ⟨0, [("line", 4), ("cells", 3), ("starts", 2), ("script", 1)], cd, q⟩ (stAt (KK w) 135 11) (Q_11 w g sa ns) :=
  ⟨(s_if (tst_cmp ne_ok (ref_local (k := 30) (i := 13) rfl (by kernel_rfl) (by decide +kernel)) (ref_local (k := 30) (i := 5) rfl (by kernel_rfl) (by decide +kernel)) rfl) (b_one (s_ret ref_bool)) b_nil)⟩
noncomputable def QB_12 (w : World) (g : Gh) (sa : Addr) (ns : List Int) : St AF :=
  (exprM (methM (cellM 4) (selInst CLS "push_token") (pushG CLS (SP w) g) (consM (idxM (slotM 0 30 13) (binM mulP (St.pure (.int 2)) (slotM 0 30 0))) (St.pure []))))
theorem qb_12 {w : World} {base : Heap} {mg mb : Str → Option Value} (B : Base (cx w base) (KK w) mg mb) (g : Gh) (hBI : HBIp base mg) (hCH : HCHp w base 83) {sa : Addr} {vs : List Value} {ns : List Int} (hList : base.IsList sa vs.toArray) (hInts : IntsAre vs ns) (hLen : ns.length ≤ 63) {cd : Value} {q : Str} : RefB (cx w base) 8 (scopeOf (KK w) 135) ⟨0, [("line", 4), ("cells", 3), ("starts", 2), ("script", 1)], cd, q⟩ (innerOf (stAt (KK w) 135 12)) (QB_12 w g sa ns) :=
  (b_one (s_expr (ref_methK (ref_cell (l := 4) (by kernel_rfl) (by kernel_rfl) (by decide +kernel)) (getm_inst (kit B) (by kernel_rfl) (by kernel_rfl)) (keepK B (by kernel_rfl)) (args_cons (list_cons (ref_idx (ref_local (k := 30) (i := 13) rfl (by kernel_rfl) (by decide +kernel)) (ref_bin mul_ok ref_int (ref_local (k := 30) (i := 0) rfl (by kernel_rfl) (by decide +kernel))) (fun _ _ => rfl)) list_nil (fun _ => rfl)) (fun _ => rfl) (fun _ _ => rfl)) ((c_pushG B g).r.le (by decide)) (fun _ => by kernel_rfl)) (fun _ h => inter_fn h) (fun _ => rfl)))
noncomputable def Q_12 (w : World) (g : Gh) (sa : Addr) (ns : List Int) : St AF :=
  (forM (rangeIt (consM (St.pure (.int 3)) (St.pure []))) (putM 0 30 0) (QB_12 w g sa ns))
theorem q_12 {w : World} {base : Heap} {mg mb : Str → Option Value} (B : Base (cx w base) (KK w) mg mb) (g : Gh) (hBI : HBIp base mg) (hCH : HCHp w base 83) {sa : Addr} {vs : List Value} {ns : List Int} (hList : base.IsList sa vs.toArray) (hInts : IntsAre vs ns) (hLen : ns.length ≤ 63) {cd : Value} {q : Str} : WS (cx w base) 8 (scopeOf (KK w) 135) ⟨0, [("line", 4), ("cells", 3), ("starts", 2), ("script", 1)], cd, q⟩ (stAt (KK w) 135 12) (Q_12 w g sa ns) :=
  ⟨(s_for (it_range (glb (v := (.type "range")) B (by kernel_rfl) (by kernel_rfl) (by decide +kernel) (by kernel_rfl) (by decide +kernel)) (args_cons (list_cons ref_int list_nil (fun _ => rfl)) (fun _ => rfl) (fun _ _ => rfl))) (w_name (w_local (k := 30) (i := 0) rfl (by kernel_rfl))) (qb_12 B g hBI hCH hList hInts hLen) (fun _ _ => rfl) (fun _ _ => rfl))⟩
noncomputable def QB_13 (w : World) (g : Gh) (sa : Addr) (ns : List Int) : St AF :=
  (seqM
  (asgM (callM figuresG (consM (idxM (slotM 0 30 13) (binM addP (binM mulP (St.pure (.int 2)) (slotM 0 30 0)) (St.pure (.int 1)))) (St.pure []))) (putM 0 30 11))
  (seqM
  (asgM (callM toldG (consM (idxM (slotM 0 30 3) (slotM 0 30 0)) (consM (negM (St.pure (.int 1))) (St.pure [])))) (putM 0 30 14))
  (seqM
  (asgM (binM addP (St.pure (.int 2)) (binM modP (slotM 0 30 0) (St.pure (.int 2)))) (putM 0 30 15))
  (forM (rangeIt (consM (St.pure (.int 3)) (St.pure []))) (putM 0 30 16) (seqM
  (asgM (methM (cellM 4) (selInst CLS "get_token") (tokG CLS (SP w) g) (St.pure [])) (putM 0 30 17))
  (seqM
  (ifM (truM (cmpM neP (slotM 0 30 17) (idxM (slotM 0 30 4) (slotM 0 30 16)))) (retM (St.pure (.bool false))) (St.pure .next))
  (seqM
  (exprM (methM (cellM 4) (selInst CLS "push_token") (pushG CLS (SP w) g) (consM (slotM 0 30 17) (St.pure []))))
  (seqM
  (asgM (callM levG (consM (slotM 0 30 17) (consM (slotM 0 30 14) (consM (slotM 0 30 15) (St.pure []))))) (putM 0 30 18))
  (seqM
  (ifM (truM (cmpM isntP (callM typeF (consM (slotM 0 30 18) (St.pure []))) (St.pure (.val (.type "int"))))) (retM (St.pure (.bool false))) (St.pure .next))
  (ifM (cutT (truM (cmpM eqP (callM mendedG (consM (callM figuresG (consM (slotM 0 30 17) (St.pure []))) (consM (slotM 0 30 11) (St.pure [])))) (idxM (slotM 0 30 3) (slotM 0 30 0))))) (ifM (truM (cmpM neP (slotM 0 30 18) (St.pure (.int 2)))) (retM (St.pure (.bool false))) (St.pure .next)) (ifM (truM (cmpM leP (slotM 0 30 18) (slotM 0 30 15))) (retM (St.pure (.bool false))) (St.pure .next))))))))))))
theorem qb_13 {w : World} {base : Heap} {mg mb : Str → Option Value} (B : Base (cx w base) (KK w) mg mb) (g : Gh) (hBI : HBIp base mg) (hCH : HCHp w base 83) {sa : Addr} {vs : List Value} {ns : List Int} (hList : base.IsList sa vs.toArray) (hInts : IntsAre vs ns) (hLen : ns.length ≤ 63) {cd : Value} {q : Str} : RefB (cx w base) 8 (scopeOf (KK w) 135) ⟨0, [("line", 4), ("cells", 3), ("starts", 2), ("script", 1)], cd, q⟩ (innerOf (stAt (KK w) 135 13)) (QB_13 w g sa ns) :=
  (b_cons
  (s_asg (ref_call (gl (v := (.ref 106)) B (by kernel_rfl) (by kernel_rfl) (by decide +kernel)) (keepK B (by kernel_rfl)) (args_cons (list_cons (ref_idx (ref_local (k := 30) (i := 13) rfl (by kernel_rfl) (by decide +kernel)) (ref_bin add_ok (ref_bin mul_ok ref_int (ref_local (k := 30) (i := 0) rfl (by kernel_rfl) (by decide +kernel))) ref_int) (fun _ _ => rfl)) list_nil (fun _ => rfl)) (fun _ => rfl) (fun _ _ => rfl)) ((c_figuresG B).r.le (by decide))) (w_local (k := 30) (i := 11) rfl (by kernel_rfl)) (fun _ _ => rfl))
  (b_cons
  (s_asg (ref_call (gl (v := (.ref 96)) B (by kernel_rfl) (by kernel_rfl) (by decide +kernel)) (keepK B (by kernel_rfl)) (args_cons (list_cons (ref_idx (ref_local (k := 30) (i := 3) rfl (by kernel_rfl) (by decide +kernel)) (ref_local (k := 30) (i := 0) rfl (by kernel_rfl) (by decide +kernel)) (fun _ _ => rfl)) (list_cons (ref_neg ref_int) list_nil (fun _ => rfl)) (fun _ => rfl)) (fun _ => rfl) (fun _ _ => rfl)) ((c_toldG B).r.le (by decide))) (w_local (k := 30) (i := 14) rfl (by kernel_rfl)) (fun _ _ => rfl))
  (b_cons
  (s_asg (ref_bin add_ok ref_int (ref_bin mod_ok (ref_local (k := 30) (i := 0) rfl (by kernel_rfl) (by decide +kernel)) ref_int)) (w_local (k := 30) (i := 15) rfl (by kernel_rfl)) (fun _ _ => rfl))
  (b_one (s_for (it_range (glb (v := (.type "range")) B (by kernel_rfl) (by kernel_rfl) (by decide +kernel) (by kernel_rfl) (by decide +kernel)) (args_cons (list_cons ref_int list_nil (fun _ => rfl)) (fun _ => rfl) (fun _ _ => rfl))) (w_name (w_local (k := 30) (i := 16) rfl (by kernel_rfl))) (b_cons
  (s_asg (ref_methK (ref_cell (l := 4) (by kernel_rfl) (by kernel_rfl) (by decide +kernel)) (getm_inst (kit B) (by kernel_rfl) (by kernel_rfl)) (keepK B (by kernel_rfl)) args_nil ((c_tokG B g).r.le (by decide)) (fun _ => by kernel_rfl)) (w_local (k := 30) (i := 17) rfl (by kernel_rfl)) (fun _ _ => rfl))
  (b_cons
  (s_if (tst_cmp ne_ok (ref_local (k := 30) (i := 17) rfl (by kernel_rfl) (by decide +kernel)) (ref_idx (ref_local (k := 30) (i := 4) rfl (by kernel_rfl) (by decide +kernel)) (ref_local (k := 30) (i := 16) rfl (by kernel_rfl) (by decide +kernel)) (fun _ _ => rfl)) rfl) (b_one (s_ret ref_bool)) b_nil)
  (b_cons
  (s_expr (ref_methK (ref_cell (l := 4) (by kernel_rfl) (by kernel_rfl) (by decide +kernel)) (getm_inst (kit B) (by kernel_rfl) (by kernel_rfl)) (keepK B (by kernel_rfl)) (args_cons (list_cons (ref_local (k := 30) (i := 17) rfl (by kernel_rfl) (by decide +kernel)) list_nil (fun _ => rfl)) (fun _ => rfl) (fun _ _ => rfl)) ((c_pushG B g).r.le (by decide)) (fun _ => by kernel_rfl)) (fun _ h => inter_fn h) (fun _ => rfl))
  (b_cons
  (s_asg (ref_call (gl (v := (.ref 28)) B (by kernel_rfl) (by kernel_rfl) (by decide +kernel)) (keepK B (by kernel_rfl)) (args_cons (list_cons (ref_local (k := 30) (i := 17) rfl (by kernel_rfl) (by decide +kernel)) (list_cons (ref_local (k := 30) (i := 14) rfl (by kernel_rfl) (by decide +kernel)) (list_cons (ref_local (k := 30) (i := 15) rfl (by kernel_rfl) (by decide +kernel)) list_nil (fun _ => rfl)) (fun _ => rfl)) (fun _ => rfl)) (fun _ => rfl) (fun _ _ => rfl)) ((c_levG B).r.le (by decide))) (w_local (k := 30) (i := 18) rfl (by kernel_rfl)) (fun _ _ => rfl))
  (b_cons
  (s_if (tst_cmp isnt_ok (ref_call (glb (v := (.type "type")) B (by kernel_rfl) (by kernel_rfl) (by decide +kernel) (by kernel_rfl) (by decide +kernel)) (keep_type "type") (args_cons (list_cons (ref_local (k := 30) (i := 18) rfl (by kernel_rfl) (by decide +kernel)) list_nil (fun _ => rfl)) (fun _ => rfl) (fun _ _ => rfl)) (b_type)) (glb (v := (.type "int")) B (by kernel_rfl) (by kernel_rfl) (by decide +kernel) (by kernel_rfl) (by decide +kernel)) rfl) (b_one (s_ret ref_bool)) b_nil)
  (b_one (s_if (tst_cut (tst_cmp eq_ok (ref_call (gl (v := (.ref 130)) B (by kernel_rfl) (by kernel_rfl) (by decide +kernel)) (keepK B (by kernel_rfl)) (args_cons (list_cons (ref_call (gl (v := (.ref 106)) B (by kernel_rfl) (by kernel_rfl) (by decide +kernel)) (keepK B (by kernel_rfl)) (args_cons (list_cons (ref_local (k := 30) (i := 17) rfl (by kernel_rfl) (by decide +kernel)) list_nil (fun _ => rfl)) (fun _ => rfl) (fun _ _ => rfl)) ((c_figuresG B).r.le (by decide))) (list_cons (ref_local (k := 30) (i := 11) rfl (by kernel_rfl) (by decide +kernel)) list_nil (fun _ => rfl)) (fun _ => rfl)) (fun _ => rfl) (fun _ _ => rfl)) ((c_mendedG B).r.le (by decide))) (ref_idx (ref_local (k := 30) (i := 3) rfl (by kernel_rfl) (by decide +kernel)) (ref_local (k := 30) (i := 0) rfl (by kernel_rfl) (by decide +kernel)) (fun _ _ => rfl)) rfl)) (b_one (s_if (tst_cmp ne_ok (ref_local (k := 30) (i := 18) rfl (by kernel_rfl) (by decide +kernel)) ref_int rfl) (b_one (s_ret ref_bool)) b_nil)) (b_one (s_if (tst_cmp le_ok (ref_local (k := 30) (i := 18) rfl (by kernel_rfl) (by decide +kernel)) (ref_local (k := 30) (i := 15) rfl (by kernel_rfl) (by decide +kernel)) rfl) (b_one (s_ret ref_bool)) b_nil))))))))) (fun _ _ => rfl) (fun _ _ => rfl))))))
noncomputable def Q_13 (w : World) (g : Gh) (sa : Addr) (ns : List Int) : St AF :=
  (forM (rangeIt (consM (St.pure (.int 3)) (St.pure []))) (putM 0 30 0) (QB_13 w g sa ns))
theorem q_13 {w : World} {base : Heap} {mg mb : Str → Option Value} (B : Base (cx w base) (KK w) mg mb) (g : Gh) (hBI : HBIp base mg) (hCH : HCHp w base 83) {sa : Addr} {vs : List Value} {ns : List Int} (hList : base.IsList sa vs.toArray) (hInts : IntsAre vs ns) (hLen : ns.length ≤ 63) {cd : Value} {q : Str} : WS (cx w base) 8 (scopeOf (KK w) 135) ⟨0, [("line", 4), ("cells", 3), ("starts", 2), ("script", 1)], cd, q⟩ (stAt (KK w) 135 13) (Q_13 w g sa ns) :=
  ⟨(s_for (it_range (glb (v := (.type "range")) B (by kernel_rfl) (by kernel_rfl) (by decide +kernel) (by kernel_rfl) (by decide +kernel)) (args_cons (list_cons ref_int list_nil (fun _ => rfl)) (fun _ => rfl) (fun _ _ => rfl))) (w_name (w_local (k := 30) (i := 0) rfl (by kernel_rfl))) (qb_13 B g hBI hCH hList hInts hLen) (fun _ _ => rfl) (fun _ _ => rfl))⟩
noncomputable def Q_14 (w : World) (g : Gh) (sa : Addr) (ns : List Int) : St AF :=
  (asgM (compM (rangeIt (consM (St.pure (.int 4)) (St.pure []))) 34 1 (fun f2 => (putM f2 34 0)) (fun f2 => (St.pure true)) (fun f2 => (methM (cellM 4) (selInst CLS "get_token") (tokG CLS (SP w) g) (St.pure [])))) (putM 0 30 19))
theorem q_14 {w : World} {base : Heap} {mg mb : Str → Option Value} (B : Base (cx w base) (KK w) mg mb) (g : Gh) (hBI : HBIp base mg) (hCH : HCHp w base 83) {sa : Addr} {vs : List Value} {ns : List Int} (hList : base.IsList sa vs.toArray) (hInts : IntsAre vs ns) (hLen : ns.length ≤ 63) {cd : Value} {q : Str} : WS (cx w base) 8 (scopeOf (KK w) 135) ⟨0, [("line", 4), ("cells", 3), ("starts", 2), ("script", 1)], cd, q⟩ (stAt (KK w) 135 14) (Q_14 w g sa ns) :=
  ⟨(s_comp (cl' := [("line", 4)]) (it_range (glb (v := (.type "range")) B (by kernel_rfl) (by kernel_rfl) (by decide +kernel) (by kernel_rfl) (by decide +kernel)) (args_cons (list_cons ref_int list_nil (fun _ => rfl)) (fun _ => rfl) (fun _ _ => rfl))) { len := rfl, nodup := (show List.Nodup [("k" : Str)] from by decide), clos := clos_is (fs := ["line"]) (by kernel_rfl) (by intro x hx; simp only [List.mem_cons, List.not_mem_nil, or_false] at hx; rcases hx with rfl; exact ⟨4, by kernel_rfl⟩) (by kernel_rfl), kind := rfl, names := by decide +kernel, cell := by decide +kernel, w := fun f2 => w_name (w_local (k := 34) (i := 0) rfl (by kernel_rfl)), t := (fun f2 => f_nil), e := (fun f2 => (ref_methK (ref_cell (l := 4) (by kernel_rfl) (by kernel_rfl) (by decide +kernel)) (getm_inst (kit B) (by kernel_rfl) (by kernel_rfl)) (keepK B (by kernel_rfl)) args_nil ((c_tokG B g).r.le (by decide)) (fun _ => by kernel_rfl))) } (fun _ _ => rfl) (fun _ _ => rfl) (w_local (k := 30) (i := 19) rfl (by kernel_rfl)) (fun env h => by cases env; cases h; kernel_rfl))⟩
noncomputable def Q_15 (w : World) (g : Gh) (sa : Addr) (ns : List Int) : St AF :=
  (retM (andVM (cmpM eqP (slotM 0 30 19) (binM addP (slotM 0 30 4) (listM (consM (St.pure (.str [])) (St.pure []))))) (cmpM eqP (attrM CLS "lineno" (cellM 4)) (binM addP (St.pure (.int 1)) (methM (slotM 0 30 6) selStr scountF (consM (St.pure (.str [10])) (St.pure [])))))))
theorem q_15 {w : World} {base : Heap} {mg mb : Str → Option Value} (B : Base (cx w base) (KK w) mg mb) (g : Gh) (hBI : HBIp base mg) (hCH : HCHp w base 83) {sa : Addr} {vs : List Value} {ns : List Int} (hList : base.IsList sa vs.toArray) (hInts : IntsAre vs ns) (hLen : ns.length ≤ 63) {cd : Value} {q : Str} : WS (cx w base) 8 (scopeOf (KK w) 135) ⟨0, [("line", 4), ("cells", 3), ("starts", 2), ("script", 1)], cd, q⟩ (stAt (KK w) 135 15) (Q_15 w g sa ns) :=
  ⟨(s_ret (ref_and (ref_cmp eq_ok (ref_local (k := 30) (i := 19) rfl (by kernel_rfl) (by decide +kernel)) (ref_bin add_ok (ref_local (k := 30) (i := 4) rfl (by kernel_rfl) (by decide +kernel)) (ref_list (list_cons (ref_str (y := []) (by kernel_rfl)) list_nil (fun _ => rfl)))) rfl) (ref_cmp eq_ok (ref_attr (kit B) (by kernel_rfl) (ref_cell (l := 4) (by kernel_rfl) (by kernel_rfl) (by decide +kernel)) (fun _ => rfl)) (ref_bin add_ok ref_int (ref_methK (ref_local (k := 30) (i := 6) rfl (by kernel_rfl) (by decide +kernel)) (getm_str F.slot_str_count F.plainAttrs_str F.type_str_count) (keep_builtin "str.count") (args_cons (list_cons (ref_str (y := [10]) (by kernel_rfl)) list_nil (fun _ => rfl)) (fun _ => rfl) (fun _ _ => rfl)) (b_scount) (fun _ => by kernel_rfl))) rfl)))⟩
noncomputable def R_15 (w : World) (g : Gh) (sa : Addr) (ns : List Int) : St AF := Q_15 w g sa ns
theorem rr_15 {w : World} {base : Heap} {mg mb : Str → Option Value} (B : Base (cx w base) (KK w) mg mb) (g : Gh) (hBI : HBIp base mg) (hCH : HCHp w base 83) {sa : Addr} {vs : List Value} {ns : List Int} (hList : base.IsList sa vs.toArray) (hInts : IntsAre vs ns) (hLen : ns.length ≤ 63) {cd : Value} {q : Str} : WB (cx w base) 8 (scopeOf (KK w) 135) ⟨0, [("line", 4), ("cells", 3), ("starts", 2), ("script", 1)], cd, q⟩ [stAt (KK w) 135 15] (R_15 w g sa ns) := .one (q_15 B g hBI hCH hList hInts hLen)
noncomputable def R_14 (w : World) (g : Gh) (sa : Addr) (ns : List Int) : St AF := seqM (Q_14 w g sa ns) (R_15 w g sa ns)
theorem rr_14 {w : World} {base : Heap} {mg mb : Str → Option Value} (B : Base (cx w base) (KK w) mg mb) (g : Gh) (hBI : HBIp base mg) (hCH : HCHp w base 83) {sa : Addr} {vs : List Value} {ns : List Int} (hList : base.IsList sa vs.toArray) (hInts : IntsAre vs ns) (hLen : ns.length ≤ 63) {cd : Value} {q : Str} : WB (cx w base) 8 (scopeOf (KK w) 135) ⟨0, [("line", 4), ("cells", 3), ("starts", 2), ("script", 1)], cd, q⟩ [stAt (KK w) 135 14, stAt (KK w) 135 15] (R_14 w g sa ns) := .cons (q_14 B g hBI hCH hList hInts hLen) (rr_15 B g hBI hCH hList hInts hLen)
noncomputable def R_13 (w : World) (g : Gh) (sa : Addr) (ns : List Int) : St AF := seqM (Q_13 w g sa ns) (R_14 w g sa ns)
theorem rr_13 {w : World} {base : Heap} {mg mb : Str → Option Value} (B : Base (cx w base) (KK w) mg mb) (g : Gh) (hBI : HBIp base mg) (hCH : HCHp w base 83) {sa : Addr} {vs : List Value} {ns : List Int} (hList : base.IsList sa vs.toArray) (hInts : IntsAre vs ns) (hLen : ns.length ≤ 63) {cd : Value} {q : Str} : WB (cx w base) 8 (scopeOf (KK w) 135) ⟨0, [("line", 4), ("cells", 3), ("starts", 2), ("script", 1)], cd, q⟩ [stAt (KK w) 135 13, stAt (KK w) 135 14, stAt (KK w) 135 15] (R_13 w g sa ns) := .cons (q_13 B g hBI hCH hList hInts hLen) (rr_14 B g hBI hCH hList hInts hLen)
noncomputable def R_12 (w : World) (g : Gh) (sa : Addr) (ns : List Int) : St AF := seqM (Q_12 w g sa ns) (R_13 w g sa ns)
theorem rr_12 {w : World} {base : Heap} {mg mb : Str → Option Value} (B : Base (cx w base) (KK w) mg mb) (g : Gh) (hBI : HBIp base mg) (hCH : HCHp w base 83) {sa : Addr} {vs : List Value} {ns : List Int} (hList : base.IsList sa vs.toArray) (hInts : IntsAre vs ns) (hLen : ns.length ≤ 63) {cd : Value} {q : Str} : WB (cx w base) 8 (scopeOf (KK w) 135) ⟨0, [("line", 4), ("cells", 3), ("starts", 2), ("script", 1)], cd, q⟩ [stAt (KK w) 135 12, stAt (KK w) 135 13, stAt (KK w) 135 14, stAt (KK w) 135 15] (R_12 w g sa ns) := .cons (q_12 B g hBI hCH hList hInts hLen) (rr_13 B g hBI hCH hList hInts hLen)
noncomputable def R_11 (w : World) (g : Gh) (sa : Addr) (ns : List Int) : St AF := seqM (Q_11 w g sa ns) (R_12 w g sa ns)
theorem rr_11 {w : World} {base : Heap} {mg mb : Str → Option Value} (B : Base (cx w base) (KK w) mg mb) (g : Gh) (hBI : HBIp base mg) (hCH : HCHp w base 83) {sa : Addr} {vs : List Value} {ns : List Int} (hList : base.IsList sa vs.toArray) (hInts : IntsAre vs ns) (hLen : ns.length ≤ 63) {cd : Value} {q : Str} : WB (cx w base) 8 (scopeOf (KK w) 135) ⟨0, [("line", 4), ("cells", 3), ("starts", 2), ("script", 1)], cd, q⟩ [stAt (KK w) 135 11, stAt (KK w) 135 12, stAt (KK w) 135 13, stAt (KK w) 135 14, stAt (KK w) 135 15] (R_11 w g sa ns) := .cons (q_11 B g hBI hCH hList hInts hLen) (rr_12 B g hBI hCH hList hInts hLen)
noncomputable def R_10 (w : World) (g : Gh) (sa : Addr) (ns : List Int) : St AF := seqM (Q_10 w g sa ns) (R_11 w g sa ns)
theorem rr_10 {w : World} {base : Heap} {mg mb : Str → Option Value} (B : Base (cx w base) (KK w) mg mb) (g : Gh) (hBI : HBIp base mg) (hCH : HCHp w base 83) {sa : Addr} {vs : List Value} {ns : List Int} (hList : base.IsList sa vs.toArray) (hInts : IntsAre vs ns) (hLen : ns.length ≤ 63) {cd : Value} {q : Str} : WB (cx w base) 8 (scopeOf (KK w) 135) ⟨0, [("line", 4), ("cells", 3), ("starts", 2), ("script", 1)], cd, q⟩ [stAt (KK w) 135 10, stAt (KK w) 135 11, stAt (KK w) 135 12, stAt (KK w) 135 13, stAt (KK w) 135 14, stAt (KK w) 135 15] (R_10 w g sa ns) := .cons (q_10 B g hBI hCH hList hInts hLen) (rr_11 B g hBI hCH hList hInts hLen)
noncomputable def R_9 (w : World) (g : Gh) (sa : Addr) (ns : List Int) : St AF := seqM (Q_9 w g sa ns) (R_10 w g sa ns)
theorem rr_9 {w : World} {base : Heap} {mg mb : Str → Option Value} (B : Base (cx w base) (KK w) mg mb) (g : Gh) (hBI : HBIp base mg) (hCH : HCHp w base 83) {sa : Addr} {vs : List Value} {ns : List Int} (hList : base.IsList sa vs.toArray) (hInts : IntsAre vs ns) (hLen : ns.length ≤ 63) {cd : Value} {q : Str} : WB (cx w base) 8 (scopeOf (KK w) 135) ⟨0, [("line", 4), ("cells", 3), ("starts", 2), ("script", 1)], cd, q⟩ [stAt (KK w) 135 9, stAt (KK w) 135 10, stAt (KK w) 135 11, stAt (KK w) 135 12, stAt (KK w) 135 13, stAt (KK w) 135 14, stAt (KK w) 135 15] (R_9 w g sa ns) := .cons (q_9 B g hBI hCH hList hInts hLen) (rr_10 B g hBI hCH hList hInts hLen)
noncomputable def R_8 (w : World) (g : Gh) (sa : Addr) (ns : List Int) : St AF := seqM (Q_8 w g sa ns) (R_9 w g sa ns)
theorem rr_8 {w : World} {base : Heap} {mg mb : Str → Option Value} (B : Base (cx w base) (KK w) mg mb) (g : Gh) (hBI : HBIp base mg) (hCH : HCHp w base 83) {sa : Addr} {vs : List Value} {ns : List Int} (hList : base.IsList sa vs.toArray) (hInts : IntsAre vs ns) (hLen : ns.length ≤ 63) {cd : Value} {q : Str} : WB (cx w base) 8 (scopeOf (KK w) 135) ⟨0, [("line", 4), ("cells", 3), ("starts", 2), ("script", 1)], cd, q⟩ [stAt (KK w) 135 8, stAt (KK w) 135 9, stAt (KK w) 135 10, stAt (KK w) 135 11, stAt (KK w) 135 12, stAt (KK w) 135 13, stAt (KK w) 135 14, stAt (KK w) 135 15] (R_8 w g sa ns) := .cons (q_8 B g hBI hCH hList hInts hLen) (rr_9 B g hBI hCH hList hInts hLen)
noncomputable def R_7 (w : World) (g : Gh) (sa : Addr) (ns : List Int) : St AF := seqM (Q_7 w g sa ns) (R_8 w g sa ns)
theorem rr_7 {w : World} {base : Heap} {mg mb : Str → Option Value} (B : Base (cx w base) (KK w) mg mb) (g : Gh) (hBI : HBIp base mg) (hCH : HCHp w base 83) {sa : Addr} {vs : List Value} {ns : List Int} (hList : base.IsList sa vs.toArray) (hInts : IntsAre vs ns) (hLen : ns.length ≤ 63) {cd : Value} {q : Str} : WB (cx w base) 8 (scopeOf (KK w) 135) ⟨0, [("line", 4), ("cells", 3), ("starts", 2), ("script", 1)], cd, q⟩ [stAt (KK w) 135 7, stAt (KK w) 135 8, stAt (KK w) 135 9, stAt (KK w) 135 10, stAt (KK w) 135 11, stAt (KK w) 135 12, stAt (KK w) 135 13, stAt (KK w) 135 14, stAt (KK w) 135 15] (R_7 w g sa ns) := .cons (q_7 B g hBI hCH hList hInts hLen) (rr_8 B g hBI hCH hList hInts hLen)
noncomputable def R_6 (w : World) (g : Gh) (sa : Addr) (ns : List Int) : St AF := seqM (Q_6 w g sa ns) (R_7 w g sa ns)
theorem rr_6 {w : World} {base : Heap} {mg mb : Str → Option Value} (B : Base (cx w base) (KK w) mg mb) (g : Gh) (hBI : HBIp base mg) (hCH : HCHp w base 83) {sa : Addr} {vs : List Value} {ns : List Int} (hList : base.IsList sa vs.toArray) (hInts : IntsAre vs ns) (hLen : ns.length ≤ 63) {cd : Value} {q : Str} : WB (cx w base) 8 (scopeOf (KK w) 135) ⟨0, [("line", 4), ("cells", 3), ("starts", 2), ("script", 1)], cd, q⟩ [stAt (KK w) 135 6, stAt (KK w) 135 7, stAt (KK w) 135 8, stAt (KK w) 135 9, stAt (KK w) 135 10, stAt (KK w) 135 11, stAt (KK w) 135 12, stAt (KK w) 135 13, stAt (KK w) 135 14, stAt (KK w) 135 15] (R_6 w g sa ns) := .cons (q_6 B g hBI hCH hList hInts hLen) (rr_7 B g hBI hCH hList hInts hLen)
noncomputable def R_5 (w : World) (g : Gh) (sa : Addr) (ns : List Int) : St AF := seqM (Q_5 w g sa ns) (R_6 w g sa ns)
theorem rr_5 {w : World} {base : Heap} {mg mb : Str → Option Value} (B : Base (cx w base) (KK w) mg mb) (g : Gh) (hBI : HBIp base mg) (hCH : HCHp w base 83) {sa : Addr} {vs : List Value} {ns : List Int} (hList : base.IsList sa vs.toArray) (hInts : IntsAre vs ns) (hLen : ns.length ≤ 63) {cd : Value} {q : Str} : WB (cx w base) 8 (scopeOf (KK w) 135) ⟨0, [("line", 4), ("cells", 3), ("starts", 2), ("script", 1)], cd, q⟩ [stAt (KK w) 135 5, stAt (KK w) 135 6, stAt (KK w) 135 7, stAt (KK w) 135 8, stAt (KK w) 135 9, stAt (KK w) 135 10, stAt (KK w) 135 11, stAt (KK w) 135 12, stAt (KK w) 135 13, stAt (KK w) 135 14, stAt (KK w) 135 15] (R_5 w g sa ns) := .cons (q_5 B g hBI hCH hList hInts hLen) (rr_6 B g hBI hCH hList hInts hLen)
noncomputable def R_4 (w : World) (g : Gh) (sa : Addr) (ns : List Int) : St AF := seqM (Q_4 w g sa ns) (R_5 w g sa ns)
theorem rr_4 {w : World} {base : Heap} {mg mb : Str → Option Value} (B : Base (cx w base) (KK w) mg mb) (g : Gh) (hBI : HBIp base mg) (hCH : HCHp w base 83) {sa : Addr} {vs : List Value} {ns : List Int} (hList : base.IsList sa vs.toArray) (hInts : IntsAre vs ns) (hLen : ns.length ≤ 63) {cd : Value} {q : Str} : WB (cx w base) 8 (scopeOf (KK w) 135) ⟨0, [("line", 4), ("cells", 3), ("starts", 2), ("script", 1)], cd, q⟩ [stAt (KK w) 135 4, stAt (KK w) 135 5, stAt (KK w) 135 6, stAt (KK w) 135 7, stAt (KK w) 135 8, stAt (KK w) 135 9, stAt (KK w) 135 10, stAt (KK w) 135 11, stAt (KK w) 135 12, stAt (KK w) 135 13, stAt (KK w) 135 14, stAt (KK w) 135 15] (R_4 w g sa ns) := .cons (q_4 B g hBI hCH hList hInts hLen) (rr_5 B g hBI hCH hList hInts hLen)
noncomputable def R_3 (w : World) (g : Gh) (sa : Addr) (ns : List Int) : St AF := seqM (Q_3 w g sa ns) (R_4 w g sa ns)
theorem rr_3 {w : World} {base : Heap} {mg mb : Str → Option Value} (B : Base (cx w base) (KK w) mg mb) (g : Gh) (hBI : HBIp base mg) (hCH : HCHp w base 83) {sa : Addr} {vs : List Value} {ns : List Int} (hList : base.IsList sa vs.toArray) (hInts : IntsAre vs ns) (hLen : ns.length ≤ 63) {cd : Value} {q : Str} : WB (cx w base) 8 (scopeOf (KK w) 135) ⟨0, [("line", 4), ("cells", 3), ("starts", 2), ("script", 1)], cd, q⟩ [stAt (KK w) 135 3, stAt (KK w) 135 4, stAt (KK w) 135 5, stAt (KK w) 135 6, stAt (KK w) 135 7, stAt (KK w) 135 8, stAt (KK w) 135 9, stAt (KK w) 135 10, stAt (KK w) 135 11, stAt (KK w) 135 12, stAt (KK w) 135 13, stAt (KK w) 135 14, stAt (KK w) 135 15] (R_3 w g sa ns) := .cons (q_3 B g hBI hCH hList hInts hLen) (rr_4 B g hBI hCH hList hInts hLen)
noncomputable def R_2 (w : World) (g : Gh) (sa : Addr) (ns : List Int) : St AF := seqM (Q_2 w g sa ns) (R_3 w g sa ns)
theorem rr_2 {w : World} {base : Heap} {mg mb : Str → Option Value} (B : Base (cx w base) (KK w) mg mb) (g : Gh) (hBI : HBIp base mg) (hCH : HCHp w base 83) {sa : Addr} {vs : List Value} {ns : List Int} (hList : base.IsList sa vs.toArray) (hInts : IntsAre vs ns) (hLen : ns.length ≤ 63) {cd : Value} {q : Str} : WB (cx w base) 8 (scopeOf (KK w) 135) ⟨0, [("line", 4), ("cells", 3), ("starts", 2), ("script", 1)], cd, q⟩ [stAt (KK w) 135 2, stAt (KK w) 135 3, stAt (KK w) 135 4, stAt (KK w) 135 5, stAt (KK w) 135 6, stAt (KK w) 135 7, stAt (KK w) 135 8, stAt (KK w) 135 9, stAt (KK w) 135 10, stAt (KK w) 135 11, stAt (KK w) 135 12, stAt (KK w) 135 13, stAt (KK w) 135 14, stAt (KK w) 135 15] (R_2 w g sa ns) := .cons (q_2 B g hBI hCH hList hInts hLen) (rr_3 B g hBI hCH hList hInts hLen)
noncomputable def R_1 (w : World) (g : Gh) (sa : Addr) (ns : List Int) : St AF := seqM (Q_1 w g sa ns) (R_2 w g sa ns)
theorem rr_1 {w : World} {base : Heap} {mg mb : Str → Option Value} (B : Base (cx w base) (KK w) mg mb) (g : Gh) (hBI : HBIp base mg) (hCH : HCHp w base 83) {sa : Addr} {vs : List Value} {ns : List Int} (hList : base.IsList sa vs.toArray) (hInts : IntsAre vs ns) (hLen : ns.length ≤ 63) {cd : Value} {q : Str} : WB (cx w base) 8 (scopeOf (KK w) 135) ⟨0, [("line", 4), ("cells", 3), ("starts", 2), ("script", 1)], cd, q⟩ [stAt (KK w) 135 1, stAt (KK w) 135 2, stAt (KK w) 135 3, stAt (KK w) 135 4, stAt (KK w) 135 5, stAt (KK w) 135 6, stAt (KK w) 135 7, stAt (KK w) 135 8, stAt (KK w) 135 9, stAt (KK w) 135 10, stAt (KK w) 135 11, stAt (KK w) 135 12, stAt (KK w) 135 13, stAt (KK w) 135 14, stAt (KK w) 135 15] (R_1 w g sa ns) := .cons (q_1 B g hBI hCH hList hInts hLen) (rr_2 B g hBI hCH hList hInts hLen)
noncomputable def R_0 (w : World) (g : Gh) (sa : Addr) (ns : List Int) : St AF := seqM (Q_0 w g sa ns) (R_1 w g sa ns)
theorem rr_0 {w : World} {base : Heap} {mg mb : Str → Option Value} (B : Base (cx w base) (KK w) mg mb) (g : Gh) (hBI : HBIp base mg) (hCH : HCHp w base 83) {sa : Addr} {vs : List Value} {ns : List Int} (hList : base.IsList sa vs.toArray) (hInts : IntsAre vs ns) (hLen : ns.length ≤ 63) {cd : Value} {q : Str} : WB (cx w base) 8 (scopeOf (KK w) 135) ⟨0, [("line", 4), ("cells", 3), ("starts", 2), ("script", 1)], cd, q⟩ [stAt (KK w) 135 0, stAt (KK w) 135 1, stAt (KK w) 135 2, stAt (KK w) 135 3, stAt (KK w) 135 4, stAt (KK w) 135 5, stAt (KK w) 135 6, stAt (KK w) 135 7, stAt (KK w) 135 8, stAt (KK w) 135 9, stAt (KK w) 135 10, stAt (KK w) 135 11, stAt (KK w) 135 12, stAt (KK w) 135 13, stAt (KK w) 135 14, stAt (KK w) 135 15] (R_0 w g sa ns) := .cons (q_0 B g hBI hCH hList hInts hLen) (rr_1 B g hBI hCH hList hInts hLen)
end Mine
end
section
namespace Mine
open PySem PySem.W
noncomputable def wd (l : List Nat) : List Nat := 66 :: l.map (65 + ·)
theorem apN_step1 (F n d : Nat) (acc : List Nat) (hn : 0 < n) (h16 : d < 16) : apN (F + 1) (n * 16 + d) acc = apN F n ((65 + d) :: acc) := by
  conv => lhs; unfold apN
  rw [show (n * 16 + d == 0) = false from by simp; omega]
  simp only []
  rw [show (n * 16 + d) / 16 = n from by omega, show (n * 16 + d) % 16 = d from by omega]
theorem num2_snoc (m : Nat) : ∀ (ms : List Nat) (n : Nat), num2 (ms ++ [m]) n = num2 ms n * 16 + m
  | [], n => rfl
  | x :: ms, n => by
    rw [List.cons_append]
    unfold num2
    exact num2_snoc m ms _
theorem num2_pos : ∀ (ms : List Nat) (n : Nat), 0 < n → 0 < num2 ms n
  | [], n, h => h
  | x :: ms, n, h => by unfold num2; exact num2_pos ms _ (by omega)
theorem num2_lt : ∀ (ms : List Nat) (n k : Nat), (∀ x ∈ ms, x < 16) → n < 16 ^ k → num2 ms n < 16 ^ (k + ms.length)
  | [], n, k, _, h => h
  | x :: ms, n, k, hx, h => by
    unfold num2
    have h1 := hx x List.mem_cons_self
    have := num2_lt ms (n * 16 + x) (k + 1) (fun y hy => hx y (List.mem_cons_of_mem _ hy)) (by rw [Nat.pow_succ]; omega)
    rwa [List.length_cons, show k + (ms.length + 1) = k + 1 + ms.length from by omega]
theorem apN_num2 : ∀ (k : Nat) (ms acc : List Nat) (F : Nat), ms.length = k → k + 1 ≤ F → (∀ x ∈ ms, x < 16) → apN F (num2 ms 1) acc = 66 :: (ms.map (65 + ·) ++ acc)
  | 0, ms, acc, F, h, hF, _ => by
    have : ms = [] := List.eq_nil_of_length_eq_zero h
    subst this
    obtain ⟨F, rfl⟩ : ∃ G, F = G + 1 := ⟨F - 1, by omega⟩
    cases F with
    | zero => rfl
    | succ F => rfl
  | k + 1, ms, acc, F, h, hF, hx => by
    obtain ⟨l, x, rfl⟩ : ∃ l x, ms = l ++ [x] := by
      rcases List.eq_nil_or_concat ms with e | ⟨l, x, e⟩
      · rw [e] at h; simp at h
      · exact ⟨l, x, by rw [e, List.concat_eq_append]⟩
    obtain ⟨F, rfl⟩ : ∃ G, F = G + 1 := ⟨F - 1, by omega⟩
    rw [num2_snoc, apN_step1 _ _ _ _ (num2_pos _ _ (by decide)) (hx x (by simp)), apN_num2 k l _ F (by simpa using h) (by omega) (fun y hy => hx y (by simp [hy]))]
    simp
theorem apB_num2 {ms : List Nat} (h : ms.length ≤ 90) (hx : ∀ x ∈ ms, x < 16) : apB (num2 ms 1) = wd ms := by
  unfold apB wd
  rw [apN_num2 ms.length ms [] 100 rfl (by omega) hx, List.append_nil]
theorem num2_small {ms : List Nat} (h : ms.length ≤ 90) (hx : ∀ x ∈ ms, x < 16) : num2 ms 1 < 16 ^ 100 :=
  Nat.lt_of_lt_of_le (num2_lt ms 1 1 hx (by decide)) (Nat.pow_le_pow_right (by decide) (by omega))
theorem wd_len (l : List Nat) : (wd l).length = l.length + 1 := by simp [wd]
theorem wd_ok {l : List Nat} (h : ∀ x ∈ l, x < 16) : ∀ c ∈ wd l, okL c = true ∧ c < 128 ∧ 65 ≤ c := fun c hc => by
  have h1 : ∀ n : Nat, n < 16 → okL (65 + n) = true := by decide
  rcases List.mem_cons.mp hc with rfl | hc
  · exact ⟨by decide, by decide, by decide⟩
  · obtain ⟨x, hx, rfl⟩ := List.mem_map.mp hc
    exact ⟨h1 x (h x hx), by have := h x hx; omega, by omega⟩
end Mine
end
section
set_option maxHeartbeats 4000000
namespace Mine
open PySem PySem.Spec PySem.Calls PyProof.Rows PySem.W
section
variable {σ : List AO} {R p : Nat} {row : List Nat}
theorem del_at {eR eP : St AV} (h4 : ∀ X, eR (σ ++ X) = some (.ref R, σ ++ X)) (h7 : ∀ X, eP (σ ++ X) = some (.int (p : Int), σ ++ X)) (h : σ[R]? = some (.list (row.map ai))) (hz : row.length ≤ 100) :
    cutR (binM addP (slcM eR (St.pure .none) eP) (slcM eR (binM addP eP (St.pure (.int 1))) (St.pure .none))) σ = some (.ref σ.length, σ ++ [.list ((row.take p ++ row.drop (p + 1)).map ai)]) := by
  have a4 := h4 []; have a7 := h7 []
  rw [List.append_nil] at a4 a7
  have b4 := h4 [.list ((row.take p).map ai)]
  have b7 := h7 [.list ((row.take p).map ai)]
  have hadd : (p : Int) + 1 = ((p + 1 : Nat) : Int) := rfl
  have c1 := to_at (p := p) h (by omega)
  have c2 := from_at (p := p + 1) (get_old (τ := [AO.list ((row.take p).map ai)]) h) (by omega)
  have c3 := cat_at (σ := (σ ++ [.list ((row.take p).map ai)]) ++ [.list ((row.drop (p + 1)).map ai)]) (l := σ.length) (k := (σ ++ [AO.list ((row.take p).map ai)]).length) (xs := row.take p) (ys := row.drop (p + 1)) (get_old (by rw [get_at0]; rfl)) (by rw [get_at0]; rfl) (by simp only [List.length_take, List.length_drop]; omega)
  refine cutR_ap (l := 2) (junk := [.list ((row.take p).map ai), .list ((row.drop (p + 1)).map ai), .list ((row.take p ++ row.drop (p + 1)).map ai)]) ?_ rfl (fun x hx => by obtain ⟨q, _, rfl⟩ := List.mem_map.mp hx; trivial)
  simp only [binM_ap, slcM_ap, a4, a7, pure_ap, c1, b4, b7, addP_int, hadd, c2, c3]
  simp only [List.append_assoc, List.cons_append, List.nil_append, List.length_append, List.length_cons, List.length_nil]
theorem ins_at {eR eP F : St AV} {f : Nat} (h4 : ∀ X, eR (σ ++ X) = some (.ref R, σ ++ X)) (h7 : ∀ X, eP (σ ++ X) = some (.int (p : Int), σ ++ X)) (hF : ∀ X, F (σ ++ X) = some (.int (f : Int), σ ++ X)) (h : σ[R]? = some (.list (row.map ai))) (hz : row.length ≤ 100) :
    cutR (binM addP (binM addP (slcM eR (St.pure .none) eP) (listM (consM F (St.pure [])))) (slcM eR eP (St.pure .none))) σ = some (.ref σ.length, σ ++ [.list ((row.take p ++ f :: row.drop p).map ai)]) := by
  have a4 := h4 []; have a7 := h7 []
  rw [List.append_nil] at a4 a7
  have hF1 := hF [.list ((row.take p).map ai)]
  have b4 := h4 ([.list ((row.take p).map ai)] ++ [.list (([f] : List Nat).map ai)] ++ [.list ((row.take p ++ [f]).map ai)])
  have b7 := h7 ([.list ((row.take p).map ai)] ++ [.list (([f] : List Nat).map ai)] ++ [.list ((row.take p ++ [f]).map ai)])
  simp only [← List.append_assoc] at b4 b7
  have hd : ∀ τ : List AO, listM (consM F (St.pure [])) τ = (match F τ with | some (v, ρ) => some (.ref ρ.length, ρ ++ [.list [v]]) | none => none) := fun τ => by
    simp only [listM_ap, consM_ap, pure_ap]
    rcases F τ with _ | ⟨v, ρ⟩ <;> rfl
  have c1 := to_at (p := p) h (by omega)
  have c2 := cat_at (σ := (σ ++ [.list ((row.take p).map ai)]) ++ [.list (([f] : List Nat).map ai)]) (l := σ.length) (k := (σ ++ [AO.list ((row.take p).map ai)]).length) (xs := row.take p) (ys := [f]) (get_old (by rw [get_at0]; rfl)) (by rw [get_at0]; rfl) (by simp only [List.length_take, List.length_cons, List.length_nil]; omega)
  have c3 := from_at (p := p) (get_old (τ := [AO.list ((row.take p ++ [f]).map ai)]) (get_old (τ := [AO.list (([f] : List Nat).map ai)]) (get_old (τ := [AO.list ((row.take p).map ai)]) h))) (by omega)
  have c4 := cat_at (σ := (((σ ++ [.list ((row.take p).map ai)]) ++ [.list (([f] : List Nat).map ai)]) ++ [.list ((row.take p ++ [f]).map ai)]) ++ [.list ((row.drop p).map ai)]) (l := ((σ ++ [AO.list ((row.take p).map ai)]) ++ [AO.list (([f] : List Nat).map ai)]).length) (k := (((σ ++ [AO.list ((row.take p).map ai)]) ++ [AO.list (([f] : List Nat).map ai)]) ++ [AO.list ((row.take p ++ [f]).map ai)]).length) (xs := row.take p ++ [f]) (ys := row.drop p) (get_old (by rw [get_at0]; rfl)) (by rw [get_at0]; rfl) (by simp only [List.length_append, List.length_take, List.length_drop, List.length_cons, List.length_nil]; omega)
  have e1 : (row.take p ++ [f]) ++ row.drop p = row.take p ++ f :: row.drop p := by rw [List.append_assoc]; rfl
  rw [e1] at c4
  refine cutR_ap (l := 4) (junk := [.list ((row.take p).map ai), .list (([f] : List Nat).map ai), .list ((row.take p ++ [f]).map ai), .list ((row.drop p).map ai), .list ((row.take p ++ f :: row.drop p).map ai)]) ?_ rfl (fun x hx => by obtain ⟨q, _, rfl⟩ := List.mem_map.mp hx; trivial)
  simp only [binM_ap, slcM_ap, a4, a7, pure_ap, c1, hd, hF1]
  simp only [show ([AV.int (f : Int)] : List AV) = ([f] : List Nat).map ai from rfl] at b4 b7 ⊢
  simp only [c2, b4, b7, c3, c4]
  simp only [List.append_assoc, List.cons_append, List.nil_append, List.length_append, List.length_cons, List.length_nil]
end
section
variable {σ : List AO}
theorem told_at {l : Nat} {sg : Int} {ms : List Nat} (h : σ[l]? = some (.list (ms.map ai))) (hs : sg = 1 ∨ sg = -1) (hl : ms.length ≤ 90) (hx : ∀ x ∈ ms, x < 16) : toldG [.ref l, .int sg] σ = some (.str (wd ms), σ) := by
  have hg : getList l σ = some (ms.map ai) := by unfold getList; rw [h]
  show (match getList l σ with | some xs => (match natsOf xs with | some ms => guardM ((sg == 1 || sg == -1) && Nat.blt (num2 ms 1) (16 ^ 100)) (St.pure (AV.str (apB (num2 ms 1)))) σ | none => none) | none => none) = _
  rw [hg]
  simp only [natsOf_map]
  rw [guard_ap, Nat.blt_eq.mpr (num2_small hl hx), apB_num2 hl hx]
  rcases hs with rfl | rfl <;> rfl
theorem letters_at {l : Nat} {ms : List Nat} (h : σ[l]? = some (.list (ms.map ai))) (hl : ms.length ≤ 90) (hx : ∀ x ∈ ms, x < 16) : lettersG [.ref l] σ = some (.str (wd ms), σ) := by
  have hg : getList l σ = some (ms.map ai) := by unfold getList; rw [h]
  show (match getList l σ with | some xs => (match natsOf xs with | some ms => guardM (Nat.ble ms.length 100 && ms.all (fun x => Nat.blt x 1000)) (St.pure (AV.str (66 :: ms.map (65 + ·)))) σ | none => none) | none => none) = _
  rw [hg]
  simp only [natsOf_map]
  rw [guard_ap, Nat.ble_eq_true_of_le (show ms.length ≤ 100 by omega), show ms.all (fun x => Nat.blt x 1000) = true from List.all_eq_true.mpr fun x h => Nat.blt_eq.mpr (by have := hx x h; omega)]; rfl
theorem checks_at {l : Nat} {ms : List Nat} (h : σ[l]? = some (.list (ms.map ai))) (hl : ms.length ≤ 90) (h1 : 0 < ms.length) : checksG [.ref l] σ = some (.ref σ.length, σ ++ [.list (([plc 0 (upsP ms) % ms.length, ms.sum % 16] : List Nat).map ai)]) := by
  have hg : getList l σ = some (ms.map ai) := by unfold getList; rw [h]
  show (match getList l σ with | some xs => (match natsOf xs with | some ms => guardM (Nat.ble ms.length 100 && Nat.ble 1 ms.length) (allocM (AO.list [ai (plc 0 (upsP ms) % ms.length), ai (ms.sum % 16)])) σ | none => none) | none => none) = _
  rw [hg]
  simp only [natsOf_map]
  rw [guard_ap, Nat.ble_eq_true_of_le (show ms.length ≤ 100 by omega), Nat.ble_eq_true_of_le (show 1 ≤ ms.length by omega)]; rfl
theorem figures_at {ms : List Nat} (hl : ms.length ≤ 90) (hx : ∀ x ∈ ms, x < 16) : figuresG [.str (wd ms)] σ = some (.ref σ.length, σ ++ [.list (ms.map ai)]) := by
  show guardM _ _ σ = _
  rw [guard_ap, Nat.ble_eq_true_of_le (show (wd ms).length ≤ 100 by rw [wd_len]; omega), show (wd ms).all (fun c => Nat.ble 65 c) = true from List.all_eq_true.mpr fun c h => Nat.ble_eq_true_of_le (wd_ok hx c h).2.2]
  show some (AV.ref σ.length, σ ++ [AO.list (((wd ms).drop 1).map fun c => ai (c - 65))]) = _
  rw [show ((wd ms).drop 1).map (fun c => ai (c - 65)) = ms.map ai from by
    show (ms.map (65 + ·)).map _ = _
    rw [List.map_map]
    exact List.map_congr_left fun x _ => by show ai (65 + x - 65) = _; rw [Nat.add_sub_cancel_left]]
theorem mended_at {l c a b : Nat} {less : List Nat} (h : σ[l]? = some (.list (less.map ai))) (hc : σ[c]? = some (.list (([a, b] : List Nat).map ai))) (hz : less.length ≤ 50) (h1 : 0 < less.length) : mendedG [.ref l, .ref c] σ = some (.ref σ.length, σ ++ [.list ((mendP less a b).map ai)]) := by
  have hg : getList l σ = some (less.map ai) := by unfold getList; rw [h]
  have hg2 : getList c σ = some (([a, b] : List Nat).map ai) := by unfold getList; rw [hc]
  unfold mendedG
  simp only [hg, hg2, natsOf_map]
  rw [guard_ap, Nat.ble_eq_true_of_le hz, Nat.ble_eq_true_of_le (show 1 ≤ less.length by omega)]; rfl
end
end Mine
end
section
namespace Mine
open PySem PySem.Spec PySem.Calls PyProof.Rows PySem.W
noncomputable def S2 (sa : Addr) (vs : List (Option AV)) (T : AO) (c0 c1 c2 c3 : Nat) (row : List Nat) (rws brk due : List AV) (τ : List AO) : List AO :=
  .ns 30 vs :: .cell (some (.val (.ref sa))) :: .cell (some (.ref 6)) :: .cell (some (.ref 7)) :: .cell none :: T :: .list [.int 10278, .int 1319768, .int 461469, .int 66562] :: .list [ai c0, ai c1, ai c2, ai c3] :: .list (row.map ai) :: .list rws :: .list brk :: .list due :: τ
noncomputable def V2 (sz R : Nat) (text : List Nat) (cell out put less chk draw : Option AV) : List (Option AV) := [none, some (ai sz), some (.ref R), some (.ref 9), some (.ref 10), some (.ref 11), some (.str text), cell, out, put, less, chk, draw, none, none, none, none, none, none, none]
section
variable {w : World} {g : Gh} {sa : Addr} {ns : List Int} {vs : List (Option AV)} {T : AO} {c0 c1 c2 c3 sz R cell : Nat} {row row0 text : List Nat} {rws brk due : List AV} {τ : List AO} {ce ou pu le ch dr : Option AV}
theorem putS2 (i : Nat) (v : AV) : putM 0 30 i v (S2 sa vs T c0 c1 c2 c3 row rws brk due τ) = (match vs[i]? with | some _ => some ((), S2 sa (vs.set i (some v)) T c0 c1 c2 c3 row rws brk due τ) | none => none) := by
  have h : putM 0 30 i v (S2 sa vs T c0 c1 c2 c3 row rws brk due τ) = (match decide (i < vs.length) with | true => some ((), S2 sa (vs.set i (some v)) T c0 c1 c2 c3 row rws brk due τ) | false => none) := by
    show (match true, decide (i < vs.length) with | true, true => _ | _, _ => _) = _
    cases decide (i < vs.length) <;> rfl
  rw [h]
  by_cases hi : i < vs.length
  · rw [List.getElem?_eq_getElem hi, decide_eq_true hi]
  · rw [List.getElem?_eq_none (Nat.not_lt.mp hi), decide_eq_false hi]
theorem lenS2 : (S2 sa vs T c0 c1 c2 c3 row rws brk due τ).length = τ.length + 12 := rfl
theorem log_small {n : Nat} (h0 : 0 < n) (h : n ≤ 2000000) : Nat.blt (Nat.log2 n) 9000 = true :=
  Nat.blt_eq.mpr (Nat.lt_of_lt_of_le ((Nat.log2_lt (by omega)).mpr (Nat.lt_of_le_of_lt h (show 2000000 < 2 ^ 21 by decide))) (by decide))
theorem delRow_mem {p : Nat} (h : ∀ x ∈ row, x < 16) : ∀ x ∈ row.take p ++ row.drop (p + 1), x < 16 := fun x hx => by
  rcases List.mem_append.mp hx with q | q
  · exact h x (List.mem_of_mem_take q)
  · exact h x (List.mem_of_mem_drop q)
noncomputable def lessOf (row : List Nat) (sz cell : Nat) : List Nat := row.take (cell % sz) ++ row.drop (cell % sz + 1)
noncomputable def nextOf (row : List Nat) (sz cell : Nat) : List Nat := (lessOf row sz cell).take (cell / sz % sz) ++ (cell / (sz * sz) % 16) :: (lessOf row sz cell).drop (cell / sz % sz)
noncomputable def chkOf (row : List Nat) : List Nat := [plc 0 (upsP row) % row.length, row.sum % 16]
theorem it2 (hsz : row.length = sz) (h4 : 4 ≤ sz) (h5 : sz ≤ 5) (h16 : ∀ x ∈ row, x < 16) (htx : text.length ≤ 800) (hrw : rws.length ≤ 100) (hbk : brk.length ≤ 100) (hdu : due.length ≤ 100)
    (hR : ∀ vs rws brk due X, (S2 sa vs T c0 c1 c2 c3 row0 rws brk due (τ ++ X))[R]? = some (.list (row.map ai))) : ∃ e : Nat → Option AV,
    QB_8 w g sa ns (S2 sa (V2 sz R text (some (ai cell)) ou pu le ch dr) T c0 c1 c2 c3 row0 rws brk due τ)
      = some (.next, S2 sa (V2 sz (τ.length + 15) (text ++ (written (wd (lessOf row sz cell)) (cell / (sz * sz * 16)) ++ written (wd (chkOf row)) (cell / (sz * sz * 16) / 256))) (some (ai cell)) (e 0) (e 1) (e 2) (e 3) (e 4)) T c0 c1 c2 c3 row0 (rws ++ [.ref R]) (brk ++ [.str (wd (lessOf row sz cell))]) (due ++ [.str (wd (lessOf row sz cell)), .str (wd (chkOf row))])
          (τ ++ [.list ((lessOf row sz cell).map ai), .list ((chkOf row).map ai), .list [.str (wd (lessOf row sz cell)), .str (wd (chkOf row))], .list ((nextOf row sz cell).map ai)])) := by
  have hs0 : 0 < sz := by omega
  have hle16 : ∀ x ∈ lessOf row sz cell, x < 16 := delRow_mem h16
  have hlel : (lessOf row sz cell).length ≤ 10 := by unfold lessOf; simp only [List.length_append, List.length_take, List.length_drop]; omega
  have hch16 : ∀ x ∈ chkOf row, x < 16 := fun x hx => by
    simp only [chkOf, List.mem_cons, List.not_mem_nil, or_false] at hx
    rcases hx with rfl | rfl
    · have := Nat.mod_lt (plc 0 (upsP row)) (show row.length > 0 by omega); omega
    · exact Nat.mod_lt _ (by decide)
  have hR0 := fun vs rws brk due => hR vs rws brk due []
  simp only [List.append_nil] at hR0
  refine ⟨fun i => ([some (ai (cell % sz)), some (ai (cell / sz % sz)), some (.ref (τ.length + 12)), some (.ref (τ.length + 13)), some (ai (cell / (sz * sz * 16)))] : List (Option AV)).getD i none, ?_⟩
  simp only [List.getD_cons_zero, List.getD_cons_succ]
  have t1 : asgM (binM modP (slotM 0 30 7) (slotM 0 30 1)) (putM 0 30 8) (S2 sa (V2 sz R text (some (ai cell)) ou pu le ch dr) T c0 c1 c2 c3 row0 rws brk due τ) = some (.next, S2 sa (V2 sz R text (some (ai cell)) (some (ai (cell % sz))) pu le ch dr) T c0 c1 c2 c3 row0 rws brk due τ) := o_asg (o_bin rfl rfl (mod_nat cell sz hs0)) rfl
  have t2 : asgM (binM modP (binM divP (slotM 0 30 7) (slotM 0 30 1)) (slotM 0 30 1)) (putM 0 30 9) (S2 sa (V2 sz R text (some (ai cell)) (some (ai (cell % sz))) pu le ch dr) T c0 c1 c2 c3 row0 rws brk due τ) = some (.next, S2 sa (V2 sz R text (some (ai cell)) (some (ai (cell % sz))) (some (ai (cell / sz % sz))) le ch dr) T c0 c1 c2 c3 row0 rws brk due τ) := o_asg (o_bin (o_bin rfl rfl (div_nat cell sz hs0 (log_small hs0 (by omega)))) rfl (mod_nat (cell / sz) sz hs0)) rfl
  have t3 : asgM (cutR (binM addP (slcM (slotM 0 30 2) (St.pure .none) (slotM 0 30 8)) (slcM (slotM 0 30 2) (binM addP (slotM 0 30 8) (St.pure (.int 1))) (St.pure .none)))) (putM 0 30 10) (S2 sa (V2 sz R text (some (ai cell)) (some (ai (cell % sz))) (some (ai (cell / sz % sz))) le ch dr) T c0 c1 c2 c3 row0 rws brk due τ) = some (.next, S2 sa (V2 sz R text (some (ai cell)) (some (ai (cell % sz))) (some (ai (cell / sz % sz))) (some (.ref (τ.length + 12))) ch dr) T c0 c1 c2 c3 row0 rws brk due (τ ++ [.list ((lessOf row sz cell).map ai)])) := by
    have hd := del_at (σ := S2 sa (V2 sz R text (some (ai cell)) (some (ai (cell % sz))) (some (ai (cell / sz % sz))) le ch dr) T c0 c1 c2 c3 row0 rws brk due τ) (R := R) (p := cell % sz) (row := row) (eR := slotM 0 30 2) (eP := slotM 0 30 8) (fun X => rfl) (fun X => rfl) (hR0 _ _ _ _) (by omega)
    rw [asgM_ap, hd, lenS2]
    rfl
  generalize hless : lessOf row sz cell = less at *
  have hL1 : ∀ vs rws brk due X, (S2 sa vs T c0 c1 c2 c3 row0 rws brk due ((τ ++ [.list (less.map ai)]) ++ X))[τ.length + 12]? = some (.list (less.map ai)) := fun vs rws brk due X => by
    have := get_at0 (σ := S2 sa vs T c0 c1 c2 c3 row0 rws brk due τ) (τ := .list (less.map ai) :: X)
    rw [lenS2] at this
    rw [List.append_assoc]
    exact this
  generalize hdr : cell / (sz * sz * 16) = draw at *
  generalize hou : some (ai (cell % sz)) = ou1 at *
  have hl1 : (τ ++ [AO.list (less.map ai)]).length = τ.length + 1 := by rw [List.length_append]; rfl
  generalize hτ1 : τ ++ [AO.list (less.map ai)] = τ1 at *
  have hR1 : ∀ vs rws brk due X, (S2 sa vs T c0 c1 c2 c3 row0 rws brk due (τ1 ++ X))[R]? = some (.list (row.map ai)) := fun vs rws brk due X => by
    rw [← hτ1, List.append_assoc]; exact hR vs rws brk due _
  have hck : ∀ vs, checksG [.ref R] (S2 sa vs T c0 c1 c2 c3 row0 rws brk due τ1) = some (.ref (τ.length + 13), S2 sa vs T c0 c1 c2 c3 row0 rws brk due (τ1 ++ [.list ((chkOf row).map ai)])) := fun vs => by
    have h0 := hR1 vs rws brk due []
    rw [List.append_nil] at h0
    have := checks_at h0 (by omega) (by omega)
    rw [lenS2, hl1] at this
    exact this
  have t4 : asgM (callM checksG (consM (slotM 0 30 2) (St.pure []))) (putM 0 30 11) (S2 sa (V2 sz R text (some (ai cell)) ou1 (some (ai (cell / sz % sz))) (some (.ref (τ.length + 12))) ch dr) T c0 c1 c2 c3 row0 rws brk due τ1) = some (.next, S2 sa (V2 sz R text (some (ai cell)) ou1 (some (ai (cell / sz % sz))) (some (.ref (τ.length + 12))) (some (.ref (τ.length + 13))) dr) T c0 c1 c2 c3 row0 rws brk due (τ1 ++ [.list ((chkOf row).map ai)])) := o_asg (o_call (o_cons rfl rfl) (hck _)) rfl
  generalize hchk : chkOf row = chk at *
  have hchl : chk.length = 2 := by rw [← hchk]; rfl
  have hl2 : (τ1 ++ [AO.list (chk.map ai)]).length = τ.length + 2 := by rw [List.length_append, hl1]; rfl
  have hL2 : ∀ vs rws brk due X, (S2 sa vs T c0 c1 c2 c3 row0 rws brk due ((τ1 ++ [.list (chk.map ai)]) ++ X))[τ.length + 13]? = some (.list (chk.map ai)) := fun vs rws brk due X => by
    have := get_at0 (σ := S2 sa vs T c0 c1 c2 c3 row0 rws brk due τ1) (τ := .list (chk.map ai) :: X)
    rw [lenS2, hl1] at this
    rw [List.append_assoc]
    exact this
  have hL1' : ∀ vs rws brk due X, (S2 sa vs T c0 c1 c2 c3 row0 rws brk due ((τ1 ++ [.list (chk.map ai)]) ++ X))[τ.length + 12]? = some (.list (less.map ai)) := fun vs rws brk due X => by
    rw [List.append_assoc]; exact hL1 vs rws brk due _
  have hR2 : ∀ vs rws brk due X, (S2 sa vs T c0 c1 c2 c3 row0 rws brk due ((τ1 ++ [.list (chk.map ai)]) ++ X))[R]? = some (.list (row.map ai)) := fun vs rws brk due X => by
    rw [List.append_assoc]; exact hR1 vs rws brk due _
  generalize hτ2 : τ1 ++ [AO.list (chk.map ai)] = τ2 at *
  have hss : small64 (sz : Int) = true := smallB (by omega)
  have hm1 : ∀ σ : List AO, mulP (.int (sz : Int)) (.int (sz : Int)) σ = some (.int ((sz * sz : Nat) : Int), σ) := fun σ => by rw [mulL hss]; rfl
  have hsq : sz * sz ≤ 25 := Nat.le_trans (Nat.mul_le_mul h5 h5) (by decide)
  have hsp : 0 < sz * sz := Nat.mul_pos hs0 hs0
  have hm2 : ∀ σ : List AO, mulP (.int ((sz * sz : Nat) : Int)) (.int 16) σ = some (.int ((sz * sz * 16 : Nat) : Int), σ) := fun σ => by rw [mulL (smallB (by omega))]; rfl
  have hdv : ∀ σ : List AO, divP (.int (cell : Int)) (.int ((sz * sz * 16 : Nat) : Int)) σ = some (ai draw, σ) := fun σ => by rw [← hdr]; exact div_nat cell (sz * sz * 16) (by omega) (log_small (by omega) (by omega))
  have t5 : asgM (binM divP (slotM 0 30 7) (binM mulP (binM mulP (slotM 0 30 1) (slotM 0 30 1)) (St.pure (.int 16)))) (putM 0 30 12) (S2 sa (V2 sz R text (some (ai cell)) ou1 (some (ai (cell / sz % sz))) (some (.ref (τ.length + 12))) (some (.ref (τ.length + 13))) dr) T c0 c1 c2 c3 row0 rws brk due τ2) = some (.next, S2 sa (V2 sz R text (some (ai cell)) ou1 (some (ai (cell / sz % sz))) (some (.ref (τ.length + 12))) (some (.ref (τ.length + 13))) (some (ai draw))) T c0 c1 c2 c3 row0 rws brk due τ2) := o_asg (o_bin rfl (o_bin (o_bin rfl rfl (hm1 _)) rfl (hm2 _)) (hdv _)) rfl
  generalize hpu : some (ai (cell / sz % sz)) = pu1 at *
  generalize hle : some (AV.ref (τ.length + 12)) = le1 at *
  generalize hch : some (AV.ref (τ.length + 13)) = ch1 at *
  have hL1n := fun vs rws brk due => hL1' vs rws brk due []
  have hL2n := fun vs rws brk due => hL2 vs rws brk due []
  have hR2n := fun vs rws brk due => hR2 vs rws brk due []
  simp only [List.append_nil] at hL1n hL2n hR2n
  have hw1 := written_len (wd less) draw
  have hw2 := written_len (wd chk) (draw / 256)
  rw [wd_len] at hw1 hw2
  have z1 : okSz ((written (wd less) draw).length + (written (wd chk) (draw / 256)).length) = true := okSz_of (by omega)
  have z2 : okSz (text.length + (written (wd less) draw ++ written (wd chk) (draw / 256)).length) = true := okSz_of (by rw [List.length_append]; omega)
  have t6 : augM (slotM 0 30 6) (binM addP (callM writtenG (consM (callM toldG (consM (slotM 0 30 10) (consM (St.pure (.int 1)) (St.pure [])))) (consM (slotM 0 30 12) (St.pure [])))) (callM writtenG (consM (callM toldG (consM (slotM 0 30 11) (consM (St.pure (.int 1)) (St.pure [])))) (consM (binM divP (slotM 0 30 12) (St.pure (.int 256))) (St.pure []))))) iaddP (putM 0 30 6) (S2 sa (V2 sz R text (some (ai cell)) ou1 pu1 le1 ch1 (some (ai draw))) T c0 c1 c2 c3 row0 rws brk due τ2)
      = some (.next, S2 sa (V2 sz R (text ++ (written (wd less) draw ++ written (wd chk) (draw / 256))) (some (ai cell)) ou1 pu1 le1 ch1 (some (ai draw))) T c0 c1 c2 c3 row0 rws brk due τ2) := by
    have a1 := fun vs rws brk due => told_at (hL1n vs rws brk due) (sg := 1) (.inl rfl) (by omega) hle16
    have a2 := fun vs rws brk due => told_at (hL2n vs rws brk due) (sg := 1) (.inl rfl) (by omega) hch16
    have w1 : ∀ σ : List AO, addP (.str (written (wd less) draw)) (.str (written (wd chk) (draw / 256))) σ = some (.str (written (wd less) draw ++ written (wd chk) (draw / 256)), σ) := fun σ => by rw [addP_str, z1]
    have w2 : ∀ σ : List AO, iaddP (.str text) (.str (written (wd less) draw ++ written (wd chk) (draw / 256))) σ = some (.str (text ++ (written (wd less) draw ++ written (wd chk) (draw / 256))), σ) := fun σ => by rw [iaddP_str, z2]
    rw [← hle, ← hch]
    exact o_aug rfl (o_bin (o_call (o_cons (o_call (o_cons rfl (o_cons rfl rfl)) (a1 _ _ _ _)) (o_cons rfl rfl)) (writtenG_at (by rw [wd_len]; omega))) (o_call (o_cons (o_call (o_cons rfl (o_cons rfl rfl)) (a2 _ _ _ _)) (o_cons (o_bin rfl rfl (div_256 draw)) rfl)) (writtenG_at (by rw [wd_len]; omega))) (w1 _)) (w2 _) rfl
  generalize htext : text ++ (written (wd less) draw ++ written (wd chk) (draw / 256)) = text' at *
  have t7 : augM (slotM 0 30 5) (listM (consM (callM lettersG (consM (slotM 0 30 10) (St.pure []))) (consM (callM lettersG (consM (slotM 0 30 11) (St.pure []))) (St.pure [])))) iextP (putM 0 30 5) (S2 sa (V2 sz R text' (some (ai cell)) ou1 pu1 le1 ch1 (some (ai draw))) T c0 c1 c2 c3 row0 rws brk due τ2)
      = some (.next, S2 sa (V2 sz R text' (some (ai cell)) ou1 pu1 le1 ch1 (some (ai draw))) T c0 c1 c2 c3 row0 rws brk (due ++ [.str (wd less), .str (wd chk)]) (τ2 ++ [.list [.str (wd less), .str (wd chk)]])) := by
    have a1 := fun vs rws brk due => letters_at (hL1n vs rws brk due) (by omega) hle16
    have a2 := fun vs rws brk due => letters_at (hL2n vs rws brk due) (by omega) hch16
    have hx : ∀ vs, iextP (.ref 11) (.ref (S2 sa vs T c0 c1 c2 c3 row0 rws brk due τ2).length) (S2 sa vs T c0 c1 c2 c3 row0 rws brk due τ2 ++ [.list [.str (wd less), .str (wd chk)]]) = some (.ref 11, S2 sa vs T c0 c1 c2 c3 row0 rws brk (due ++ [.str (wd less), .str (wd chk)]) (τ2 ++ [.list [.str (wd less), .str (wd chk)]])) := fun vs => by
      have g1 : getList 11 (S2 sa vs T c0 c1 c2 c3 row0 rws brk due τ2 ++ [.list [.str (wd less), .str (wd chk)]]) = some due := rfl
      have g2 : getList (S2 sa vs T c0 c1 c2 c3 row0 rws brk due τ2).length (S2 sa vs T c0 c1 c2 c3 row0 rws brk due τ2 ++ [.list [.str (wd less), .str (wd chk)]]) = some [.str (wd less), .str (wd chk)] := by unfold getList; rw [get_at0]; rfl
      unfold iextP
      simp only [g1, g2]
      have hne : (11 == (S2 sa vs T c0 c1 c2 c3 row0 rws brk due τ2).length) = false := by rw [lenS2]; simp
      rw [guard_ap, hne, okSz_of (show due.length + [AV.str (wd less), .str (wd chk)].length ≤ 1000000 by simp only [List.length_cons, List.length_nil]; omega)]
      rfl
    rw [← hle, ← hch]
    exact o_aug rfl (o_list (o_cons (o_call (o_cons rfl rfl) (a1 _ _ _ _)) (o_cons (o_call (o_cons rfl rfl) (a2 _ _ _ _)) rfl)) rfl) (hx _) rfl
  generalize hdue : due ++ [AV.str (wd less), .str (wd chk)] = due' at *
  have hR3 : ∀ vs rws brk due X, (S2 sa vs T c0 c1 c2 c3 row0 rws brk due ((τ2 ++ [.list [.str (wd less), .str (wd chk)]]) ++ X))[R]? = some (.list (row.map ai)) := fun vs rws brk due X => by
    rw [List.append_assoc]; exact hR2 vs rws brk due _
  have hL3 : ∀ vs rws brk due X, (S2 sa vs T c0 c1 c2 c3 row0 rws brk due ((τ2 ++ [.list [.str (wd less), .str (wd chk)]]) ++ X))[τ.length + 12]? = some (.list (less.map ai)) := fun vs rws brk due X => by
    rw [List.append_assoc]; exact hL1' vs rws brk due _
  have hl3 : (τ2 ++ [AO.list [.str (wd less), .str (wd chk)]]).length = τ.length + 3 := by rw [List.length_append, hl2]; rfl
  generalize hτ3 : τ2 ++ [AO.list [.str (wd less), .str (wd chk)]] = τ3 at *
  have hL3n := fun vs rws brk due => hL3 vs rws brk due []
  simp only [List.append_nil] at hL3n
  have t8 : exprM (methM (slotM 0 30 3) selList appendF (consM (slotM 0 30 2) (St.pure []))) (S2 sa (V2 sz R text' (some (ai cell)) ou1 pu1 le1 ch1 (some (ai draw))) T c0 c1 c2 c3 row0 rws brk due' τ3) = some (.next, S2 sa (V2 sz R text' (some (ai cell)) ou1 pu1 le1 ch1 (some (ai draw))) T c0 c1 c2 c3 row0 (rws ++ [.ref R]) brk due' τ3) := by
    have hx : ∀ vs, appendF [.ref 9, .ref R] (S2 sa vs T c0 c1 c2 c3 row0 rws brk due' τ3) = some (.none, S2 sa vs T c0 c1 c2 c3 row0 (rws ++ [.ref R]) brk due' τ3) := fun vs => by
      rw [appendF_at (xs := rws) rfl (okSz_of (by omega))]; rfl
    have hy : ∀ vs, selList (.ref 9) (S2 sa vs T c0 c1 c2 c3 row0 rws brk due' τ3) = some [.ref 9] := fun vs => selList_at (xs := rws) rfl
    exact o_expr (o_meth rfl (hy _) (o_cons rfl rfl) (hx _))
  have t9 : exprM (methM (slotM 0 30 4) selList appendF (consM (callM lettersG (consM (slotM 0 30 10) (St.pure []))) (St.pure []))) (S2 sa (V2 sz R text' (some (ai cell)) ou1 pu1 le1 ch1 (some (ai draw))) T c0 c1 c2 c3 row0 (rws ++ [.ref R]) brk due' τ3) = some (.next, S2 sa (V2 sz R text' (some (ai cell)) ou1 pu1 le1 ch1 (some (ai draw))) T c0 c1 c2 c3 row0 (rws ++ [.ref R]) (brk ++ [.str (wd less)]) due' τ3) := by
    have hx : ∀ vs, appendF [.ref 10, .str (wd less)] (S2 sa vs T c0 c1 c2 c3 row0 (rws ++ [.ref R]) brk due' τ3) = some (.none, S2 sa vs T c0 c1 c2 c3 row0 (rws ++ [.ref R]) (brk ++ [.str (wd less)]) due' τ3) := fun vs => by
      rw [appendF_at (xs := brk) rfl (okSz_of (by omega))]; rfl
    have hy : ∀ vs, selList (.ref 10) (S2 sa vs T c0 c1 c2 c3 row0 (rws ++ [.ref R]) brk due' τ3) = some [.ref 10] := fun vs => selList_at (xs := brk) rfl
    have a1 := fun vs rws brk due => letters_at (hL3n vs rws brk due) (by omega) hle16
    rw [← hle]
    exact o_expr (o_meth rfl (hy _) (o_cons (o_call (o_cons rfl rfl) (a1 _ _ _ _)) rfl) (hx _))
  have hm3 : ∀ σ : List AO, modP (.int ((cell / (sz * sz) : Nat) : Int)) (.int 16) σ = some (.int ((cell / (sz * sz) % 16 : Nat) : Int), σ) := fun σ => mod_16 _
  have t10 : asgM (cutR (binM addP (binM addP (slcM (slotM 0 30 10) (St.pure .none) (slotM 0 30 9)) (listM (consM (binM modP (binM divP (slotM 0 30 7) (binM mulP (slotM 0 30 1) (slotM 0 30 1))) (St.pure (.int 16))) (St.pure [])))) (slcM (slotM 0 30 10) (slotM 0 30 9) (St.pure .none)))) (putM 0 30 2) (S2 sa (V2 sz R text' (some (ai cell)) ou1 pu1 le1 ch1 (some (ai draw))) T c0 c1 c2 c3 row0 (rws ++ [.ref R]) (brk ++ [.str (wd less)]) due' τ3)
      = some (.next, S2 sa (V2 sz (τ.length + 15) text' (some (ai cell)) ou1 pu1 le1 ch1 (some (ai draw))) T c0 c1 c2 c3 row0 (rws ++ [.ref R]) (brk ++ [.str (wd less)]) due' (τ3 ++ [.list ((nextOf row sz cell).map ai)])) := by
    have hd := ins_at (σ := S2 sa (V2 sz R text' (some (ai cell)) ou1 pu1 le1 ch1 (some (ai draw))) T c0 c1 c2 c3 row0 (rws ++ [.ref R]) (brk ++ [.str (wd less)]) due' τ3) (R := τ.length + 12) (p := cell / sz % sz) (row := less) (f := cell / (sz * sz) % 16) (eR := slotM 0 30 10) (eP := slotM 0 30 9) (F := binM modP (binM divP (slotM 0 30 7) (binM mulP (slotM 0 30 1) (slotM 0 30 1))) (St.pure (.int 16))) (fun X => by rw [← hle]; rfl) (fun X => by rw [← hpu]; rfl)
      (fun X => by
        have q1 : slotM 0 30 1 (S2 sa (V2 sz R text' (some (ai cell)) ou1 pu1 le1 ch1 (some (ai draw))) T c0 c1 c2 c3 row0 (rws ++ [.ref R]) (brk ++ [.str (wd less)]) due' τ3 ++ X) = some (.int (sz : Int), S2 sa (V2 sz R text' (some (ai cell)) ou1 pu1 le1 ch1 (some (ai draw))) T c0 c1 c2 c3 row0 (rws ++ [.ref R]) (brk ++ [.str (wd less)]) due' τ3 ++ X) := rfl
        have q7 : slotM 0 30 7 (S2 sa (V2 sz R text' (some (ai cell)) ou1 pu1 le1 ch1 (some (ai draw))) T c0 c1 c2 c3 row0 (rws ++ [.ref R]) (brk ++ [.str (wd less)]) due' τ3 ++ X) = some (.int (cell : Int), S2 sa (V2 sz R text' (some (ai cell)) ou1 pu1 le1 ch1 (some (ai draw))) T c0 c1 c2 c3 row0 (rws ++ [.ref R]) (brk ++ [.str (wd less)]) due' τ3 ++ X) := rfl
        exact o_bin (o_bin q7 (o_bin q1 q1 (hm1 _)) (div_nat cell (sz * sz) hsp (log_small hsp (by omega)))) rfl (hm3 _))
      (hL3n _ _ _ _) (by omega)
    rw [asgM_ap, hd, lenS2, hl3]
    unfold nextOf
    rw [hless]
    rfl
  unfold QB_8
  rw [seq_next t1, seq_next t2, seq_next t3, seq_next t4, seq_next t5, seq_next t6, seq_next t7, seq_next t8, seq_next t9, t10]
  rw [← hτ3, ← hτ2, ← hτ1]
  simp only [List.append_assoc, List.cons_append, List.nil_append]
end
end Mine
end
section
namespace Mine
open PySem PySem.W
noncomputable def txt (l : List (List Nat × Nat)) : List Nat := l.flatMap fun e => written e.1 e.2
noncomputable def Pre (s : List Nat) : Prop := s = [] ∨ ∃ d, s = [blankOf d]
theorem lex_pre {pre r : List Nat} (h : Pre pre) (ln : Int) : ∃ ln', lexW (pre ++ r) ln = lexW r ln' ∧ ln' = ln + cntN 10 pre := by
  rcases h with rfl | ⟨d, rfl⟩
  · exact ⟨ln, rfl, by simp [cntN]⟩
  · refine ⟨ln + nl (blankOf d), ?_, ?_⟩
    · show lexW (blankOf d :: r) ln = _
      conv => lhs; unfold lexW
      rw [blank_ws d]
    · have := nl_cnt (blankOf d) []
      simp only [cntN] at this ⊢
      omega
theorem read_txt : ∀ (l : List (List Nat × Nat)) (pre : List Nat) (ln : Int), Pre pre → (∀ e ∈ l, e.1 ≠ [] ∧ ∀ c ∈ e.1, okL c = true) → (pre ++ txt l).length ≤ 900 → ∃ ln' s', readW l.length ln (pre ++ txt l) [] = some (l.map (·.1), ln', s', []) ∧ Pre s' ∧ s'.length ≤ 900 ∧ ln' + cntN 10 s' = ln + cntN 10 (pre ++ txt l) := by
  intro l
  induction l with
  | nil => intro pre ln h _ hz; exact ⟨ln, pre, by simp [readW, txt], h, by simpa [txt] using hz, by simp [txt]⟩
  | cons e l ih =>
    intro pre ln h hw hz
    obtain ⟨h1, h2⟩ := hw e List.mem_cons_self
    have ht : txt (e :: l) = written e.1 e.2 ++ txt l := rfl
    rw [ht] at hz ⊢
    obtain ⟨ln0, e0, e0'⟩ := lex_pre (r := written e.1 e.2 ++ txt l) h ln
    obtain ⟨ln1, s1, e1, hs1⟩ := lex_written h1 h2 e.2 (txt l) ln0
    have hcnt := lex_cnt _ _ _ _ _ (e0.trans e1)
    have hs : ∃ pre1, Pre pre1 ∧ s1 = pre1 ++ txt l := by
      rcases hs1 with q | q
      · exact ⟨[], .inl rfl, q⟩
      · exact ⟨[blankOf e.2], .inr ⟨e.2, rfl⟩, q⟩
    obtain ⟨pre1, hp1, rfl⟩ := hs
    have hlen : (pre1 ++ txt l).length ≤ 900 := by
      have hw1 : 1 ≤ (written e.1 e.2).length := by
        rcases hx : written e.1 e.2 with _ | ⟨c, r⟩
        · exfalso
          rw [hx] at e1
          have : written e.1 e.2 ≠ [] := by unfold written; simp
          exact this hx
        · simp
      have : pre1.length ≤ 1 := by rcases hp1 with q | ⟨d, q⟩ <;> rw [q] <;> simp
      simp only [List.length_append] at hz ⊢; omega
    obtain ⟨ln2, s2, e2, hp2, hz2, hc2⟩ := ih pre1 ln1 hp1 (fun x hx => hw x (List.mem_cons_of_mem _ hx)) hlen
    refine ⟨ln2, s2, ?_, hp2, hz2, by rw [hc2]; exact hcnt⟩
    show readW (l.length + 1) ln _ [] = _
    unfold readW
    have htk : tokP [] ln (pre ++ (written e.1 e.2 ++ txt l)) [] = some (.str e.1, ln1, pre1 ++ txt l, []) := by
      show (match lexW (pre ++ (written e.1 e.2 ++ txt l)) ln with | some (w, ln', s') => some (AV.str w, ln', s', []) | none => none) = _
      rw [e0, e1]
    rw [htk]
    simp only [Nat.ble_eq_true_of_le hlen, List.length_nil, show Nat.ble 0 900 = true from rfl, Bool.and_self, e2, List.map_cons]
theorem lex_none {s : List Nat} (h : Pre s) (ln : Int) : ∃ ln', lexW s ln = some ([], ln', []) ∧ ln' = ln + cntN 10 s := by
  obtain ⟨ln', e, q⟩ := lex_pre (r := []) h ln
  rw [List.append_nil] at e
  exact ⟨ln', e, q⟩
end Mine
end
section
namespace Mine
open PySem PySem.W
theorem nmin_or (a b : Nat) : nmin a b = a ∨ nmin a b = b := by
  unfold nmin
  cases Nat.blt b a with
  | true => exact .inr rfl
  | false => exact .inl rfl
theorem le_nmin {a b c : Nat} (h1 : c ≤ a) (h2 : c ≤ b) : c ≤ nmin a b := by
  rcases nmin_or a b with e | e <;> rw [e]
  · exact h1
  · exact h2
noncomputable def LB (i j x : Nat) : Prop := 2 * i ≤ x + 2 * j ∧ 2 * j ≤ x + 2 * i ∧ (0 < i → 0 < j → 2 ≤ x)
theorem LB_row {i j x : Nat} (h : LB i j x) : LB i (j + 1) (x + 2) := ⟨by have := h.1; omega, by have := h.2.1; omega, fun _ _ => Nat.le_add_left 2 x⟩
theorem LB_col {i j x : Nat} (h : LB i j x) : LB (i + 1) j (x + 2) := ⟨by have := h.1; omega, by have := h.2.1; omega, fun _ _ => Nat.le_add_left 2 x⟩
theorem LB_diag {i j x s : Nat} (h : LB i j x) (h2 : 2 ≤ x + s) : LB (i + 1) (j + 1) (x + s) := ⟨by have := h.1; omega, by have := h.2.1; omega, fun _ _ => h2⟩
theorem LB_pos {i j x : Nat} (h : LB i j x) (h2 : ¬(i = 0 ∧ j = 0)) : 2 ≤ x := by
  cases i with
  | zero =>
    cases j with
    | zero => exact absurd ⟨rfl, rfl⟩ h2
    | succ j => have := h.2.1; omega
  | succ i =>
    cases j with
    | zero => have := h.1; omega
    | succ j => exact h.2.2 (Nat.succ_pos i) (Nat.succ_pos j)
section
variable {α : Type} {sub : α → α → Nat}
theorem rowG_lb (c : α) : ∀ (l : List α) (row : List Nat) (dist res mn i j : Nat), row.length = l.length → LB i j dist → LB (i + 1) (j + 1) (res + 2) → (∀ k x, row[k]? = some x → LB (i + 1 + k) j x) → (i = 0 ∧ j = 0 → ∀ z, l.head? = some z → 2 ≤ sub c z) →
    (∀ k x, (rowG sub c l row dist res mn).1[k]? = some x → LB (i + 1 + k) (j + 1) x) ∧ (l ≠ [] → i + l.length = j → 2 ≤ res → (∀ z, l.getLast? = some z → 2 ≤ sub c z) → 4 ≤ (rowG sub c l row dist res mn).2.1) := by
  intro l
  induction l with
  | nil => intro row dist res mn i j _ _ _ _ _; exact ⟨fun k x h => (by cases h), fun h => absurd rfl h⟩
  | cons a l ih =>
    intro row dist res mn i j hlen hd hr hrow h0
    cases row with
    | nil => cases hlen
    | cons d row =>
      have e : rowG sub c (a :: l) (d :: row) dist res mn = (match rowG sub c l row d (nmin (nmin res d + 2) (dist + sub c a)) (nmin mn (nmin (nmin res d + 2) (dist + sub c a))) with | (w, r) => (nmin (nmin res d + 2) (dist + sub c a) :: w, r)) := rfl
      rw [e]
      have hd0 : LB (i + 1) j d := hrow 0 d rfl
      have hds : 2 ≤ dist + sub c a := by
        by_cases hz : i = 0 ∧ j = 0
        · exact Nat.le_trans (h0 hz a rfl) (Nat.le_add_left _ _)
        · exact Nat.le_trans (LB_pos hd hz) (Nat.le_add_right _ _)
      have hres' : LB (i + 1) (j + 1) (nmin (nmin res d + 2) (dist + sub c a)) := by
        rcases nmin_or (nmin res d + 2) (dist + sub c a) with q | q <;> rw [q]
        · rcases nmin_or res d with q | q <;> rw [q]
          · exact hr
          · exact LB_row hd0
        · exact LB_diag hd hds
      have h4 : i + 1 = j → 2 ≤ res → 2 ≤ sub c a → 4 ≤ nmin (nmin res d + 2) (dist + sub c a) := fun hj h2 hs => by
        subst hj
        exact le_nmin (Nat.add_le_add_right (le_nmin h2 (hd0.2.2 (Nat.succ_pos i) (Nat.succ_pos i))) 2) (Nat.add_le_add (LB_pos hd (fun q => nomatch q.2)) hs)
      generalize nmin (nmin res d + 2) (dist + sub c a) = q at *
      obtain ⟨r1, r2⟩ := ih row d q (nmin mn q) (i + 1) j (Nat.succ.inj hlen) hd0 (LB_col hres') (fun k x hk => by rw [Nat.add_right_comm]; exact hrow (k + 1) x hk) (fun h => absurd h.1 (Nat.succ_ne_zero i))
      rcases hw : rowG sub c l row d q (nmin mn q) with ⟨w, r⟩
      rw [hw] at r1 r2
      refine ⟨fun k x hk => ?_, fun _ hj h2 hz => ?_⟩
      · cases k with
        | zero => cases hk; exact hres'
        | succ k => have := r1 k x hk; rwa [Nat.add_right_comm] at this
      · cases l with
        | nil =>
          have : r.1 = q := by
            have : (w, r) = ([], q, nmin mn q) := by rw [← hw]; rfl
            rw [(Prod.mk.inj this).2]
          simp only
          rw [this]
          exact h4 hj h2 (hz a rfl)
        | cons b l => exact r2 (fun h => nomatch h) (by rw [← hj]; simp only [List.length_cons]; omega) (hres'.2.2 (Nat.succ_pos i) (Nat.succ_pos j)) (fun z h => hz z (by rw [List.getLast?_cons_cons]; exact h))
theorem rowsG_lb {mx : Nat} (hmx : mx ≤ 3) {a : List α} (ha : a ≠ []) : ∀ (b : List α) (j : Nat) (row : List Nat) (r : Nat), row.length = a.length → (∀ k x, row[k]? = some x → LB (1 + k) j x) → b ≠ [] → b.length + j = a.length + 1 → (j = 0 → ∀ y z, b.head? = some y → a.head? = some z → 2 ≤ sub y z) →
    (∀ y z, b.getLast? = some y → a.getLast? = some z → 2 ≤ sub y z) → mx < rowsG sub mx a b j row r := by
  intro b
  induction b with
  | nil => intro j row r _ _ h _ _ _; exact absurd rfl h
  | cons c b ih =>
    intro j row r hlen hrow _ hj hh hl
    have e : rowsG sub mx a (c :: b) j row r = (match rowG sub c a row (j * 2) (j * 2) 9223372036854775807 with | (w, res', mn) => match Nat.blt mx mn with | true => mx + 1 | false => rowsG sub mx a b (j + 1) w res') := rfl
    rw [e]
    obtain ⟨r1, r2⟩ := rowG_lb (sub := sub) c a row (j * 2) (j * 2) 9223372036854775807 0 j hlen ⟨by omega, by omega, fun h => absurd h (Nat.lt_irrefl 0)⟩ ⟨by omega, by omega, fun _ _ => Nat.le_add_left _ _⟩ (fun k x hk => by rw [Nat.zero_add]; exact hrow k x hk) (fun h z hz => hh h.2 c z rfl hz)
    have hl2 := rowG_len sub c a row (j * 2) (j * 2) 9223372036854775807 hlen
    rcases hw : rowG sub c a row (j * 2) (j * 2) 9223372036854775807 with ⟨w, res', mn⟩
    rw [hw] at r1 r2 hl2
    simp only
    cases hb : Nat.blt mx mn with
    | true => exact Nat.lt_succ_self _
    | false =>
      simp only
      cases b with
      | nil =>
        simp only [List.length_cons, List.length_nil] at hj
        have hap : 0 < a.length := List.length_pos_iff.mpr ha
        have := r2 ha (by omega) (by omega) (fun z hz => hl c z rfl hz)
        show mx < res'
        simp only at this
        omega
      | cons d b =>
        exact ih (j + 1) w res' hl2 (fun k x hk => by have := r1 k x hk; rwa [Nat.zero_add] at this) (by simp) (by simp only [List.length_cons] at hj ⊢; omega) (fun h => absurd h (Nat.succ_ne_zero j)) (fun y z hy hz => hl y z (by rw [List.getLast?_cons_cons]; exact hy) hz)
theorem firstRow_lb {n : Nat} : ∀ k x, (firstRow n)[k]? = some x → LB (1 + k) 0 x := fun k x h => by
  unfold firstRow at h
  rw [List.getElem?_map] at h
  cases hk : (List.range n)[k]? with
  | none => rw [hk] at h; cases h
  | some q =>
    rw [hk] at h
    have : q = k := by
      obtain ⟨hlt, e⟩ := List.getElem?_eq_some_iff.mp hk
      rw [List.getElem_range] at e; exact e.symm
    cases h
    subst this
    exact ⟨show 2 * (1 + q) ≤ 2 + q * 2 + 2 * 0 from by omega, Nat.zero_le _, fun _ h => absurd h (Nat.lt_irrefl 0)⟩
theorem levC_hi {mx : Nat} (h2 : 2 ≤ mx) (h3 : mx ≤ 3) {a b : List α} (ha : a ≠ []) (hl : b.length = a.length + 1) (hh : ∀ y z, b.head? = some y → a.head? = some z → 2 ≤ sub y z) (ht : ∀ y z, b.getLast? = some y → a.getLast? = some z → 2 ≤ sub y z) : mx < levC sub a b mx := by
  have hb : b ≠ [] := fun e => by rw [e] at hl; simp at hl
  have e1 : (a.isEmpty || b.isEmpty) = false := by
    rw [List.isEmpty_eq_false_iff.mpr ha, List.isEmpty_eq_false_iff.mpr hb]; rfl
  have e2 : Nat.blt b.length a.length = false := by rw [Bool.eq_false_iff]; intro h; have := Nat.blt_eq.mp h; omega
  have e3 : Nat.blt mx ((b.length - a.length) * 2) = false := by rw [Bool.eq_false_iff]; intro h; have := Nat.blt_eq.mp h; omega
  unfold levC
  rw [e1]
  simp only
  rw [e2]
  simp only
  unfold levD
  rw [e3]
  exact rowsG_lb h3 ha b 0 (firstRow a.length) 0 (by simp [firstRow]) firstRow_lb hb (by omega) (fun _ => hh) ht
end
section
variable {eq : Nat → Nat → Bool} {sub : Nat → Nat → Nat}
theorem strip_spec : ∀ (a b : List Nat), ∃ p, a = p ++ (stripG eqN a b).1 ∧ b = p ++ (stripG eqN a b).2 ∧ (∀ y z, (stripG eqN a b).1.head? = some y → (stripG eqN a b).2.head? = some z → y ≠ z)
  | [], m => ⟨[], rfl, rfl, fun y z h => by cases h⟩
  | a :: l, [] => ⟨[], rfl, rfl, fun y z _ h => by cases h⟩
  | a :: l, b :: m => by
    unfold stripG
    cases h : eqN a b with
    | true =>
      have hab : a = b := beq_iff_eq.mp h
      obtain ⟨p, h1, h2, h3⟩ := strip_spec l m
      exact ⟨a :: p, by simp only [List.cons_append]; rw [← h1], by simp only [List.cons_append]; rw [hab, ← h2], h3⟩
    | false =>
      refine ⟨[], rfl, rfl, fun y z hy hz e => ?_⟩
      cases hy; cases hz
      subst e
      have : eqN a a = true := beq_self_eq_true a
      rw [this] at h; cases h
theorem strip_pre : ∀ (u a b : List Nat), stripG eqN (u ++ a) (u ++ b) = stripG eqN a b
  | [], a, b => rfl
  | x :: u, a, b => by
    rw [List.cons_append, List.cons_append]
    have e : stripG eqN (x :: (u ++ a)) (x :: (u ++ b)) = (match eqN x x with | true => stripG eqN (u ++ a) (u ++ b) | false => (x :: (u ++ a), x :: (u ++ b))) := rfl
    rw [e, show eqN x x = true from beq_self_eq_true x]
    exact strip_pre u a b
theorem strip_one : ∀ (v : List Nat) (x : Nat), ∃ y, (stripG eqN v (x :: v)).2 = y :: (stripG eqN v (x :: v)).1
  | [], x => ⟨x, rfl⟩
  | z :: v, x => by
    unfold stripG
    cases h : eqN z x with
    | true =>
      have : z = x := beq_iff_eq.mp h
      subst this
      exact strip_one v z
    | false => exact ⟨x, rfl⟩
noncomputable def oneDel (a b : List Nat) : Prop := ∃ u v x, a = u ++ v ∧ b = u ++ x :: v
theorem levA_del {a b : List Nat} {mx : Nat} (h : oneDel a b) : levA eqN sub a b mx = 2 := by
  obtain ⟨u, v, x, rfl, rfl⟩ := h
  unfold levA
  rw [strip_pre]
  obtain ⟨y, hy⟩ := strip_one v x
  rcases hs : stripG eqN v (x :: v) with ⟨a1, b1⟩
  rw [hs] at hy
  simp only at hy ⊢
  subst hy
  have h2 : stripG eqN a1.reverse (y :: a1).reverse = ([], [y]) := by
    have := strip_pre a1.reverse [] [y]
    rw [List.append_nil] at this
    rw [List.reverse_cons, this]; rfl
  rw [h2]; rfl
theorem levA_hi {a b : List Nat} {mx : Nat} (h2 : 2 ≤ mx) (h3 : mx ≤ 3) (hl : b.length = a.length + 1) (hs : ∀ y ∈ b, ∀ z ∈ a, y ≠ z → 2 ≤ sub y z) (h : ¬ oneDel a b) : mx < levA eqN sub a b mx := by
  unfold levA
  obtain ⟨p, p1, p2, p3⟩ := strip_spec a b
  rcases hs1 : stripG eqN a b with ⟨a1, b1⟩
  rw [hs1] at p1 p2 p3
  simp only at p1 p2 p3 ⊢
  obtain ⟨q, q1, q2, q3⟩ := strip_spec a1.reverse b1.reverse
  rcases hs2 : stripG eqN a1.reverse b1.reverse with ⟨a2, b2⟩
  rw [hs2] at q1 q2 q3
  simp only at q1 q2 q3 ⊢
  have r1 : a1 = a2.reverse ++ q.reverse := by have := congrArg List.reverse q1; simpa using this
  have r2 : b1 = b2.reverse ++ q.reverse := by have := congrArg List.reverse q2; simpa using this
  have hlen : b2.length = a2.length + 1 := by
    have e1 := congrArg List.length p1
    have e2 := congrArg List.length p2
    have e3 := congrArg List.length r1
    have e4 := congrArg List.length r2
    simp only [List.length_append, List.length_reverse] at e1 e2 e3 e4
    omega
  have ha2 : a2 ≠ [] := fun e => by
    subst e
    match b2, hlen with
    | [x], _ =>
      apply h
      exact ⟨p, q.reverse, x, by rw [p1, r1]; simp, by rw [p2, r2]; simp⟩
  have ina : ∀ z ∈ a2, z ∈ a := fun z hz => by rw [p1, r1]; simp [hz]
  have inb : ∀ z ∈ b2, z ∈ b := fun z hz => by rw [p2, r2]; simp [hz]
  have hhead : ∀ (l : List Nat) y, l.reverse.head? = some y → y ∈ l := fun l y hy => List.mem_reverse.mp (List.mem_of_mem_head? hy)
  refine levC_hi h2 h3 (by simpa using ha2) (by simpa using hlen) (fun y z hy hz => ?_) (fun y z hy hz => ?_)
  · refine hs y (inb y (hhead b2 y hy)) z (ina z (hhead a2 z hz)) (fun e => ?_)
    refine p3 z y ?_ ?_ e.symm
    · rw [r1]; rcases hx : a2.reverse with _ | ⟨c, r⟩
      · rw [hx] at hz; cases hz
      · rw [hx] at hz; exact hz
    · rw [r2]; rcases hx : b2.reverse with _ | ⟨c, r⟩
      · rw [hx] at hy; cases hy
      · rw [hx] at hy; exact hy
  · rw [List.getLast?_reverse] at hy hz
    exact hs y (inb y (List.mem_of_mem_head? hy)) z (ina z (List.mem_of_mem_head? hz)) (fun e => q3 z y hz hy e.symm)
end
end Mine
end
section
namespace Mine
open PySem PySem.W
noncomputable def bt (b : Bool) : Nat := match b with
  | true => 1
  | false => 0
theorem bt_inj {a b : Bool} (h : bt a = bt b) : a = b := by
  cases a <;> cases b <;> first | rfl | cases h
theorem rot : ∀ (m : List Nat) (x y a : Nat), upsP (x :: a :: m) = upsP (a :: m ++ [y]) → (Nat.ble x a = true → a ≤ y ∧ (y ≤ x → x :: a :: m = a :: m ++ [y])) ∧ (Nat.ble x a = false → y < a) := by
  intro m
  induction m with
  | nil =>
    intro x y a h
    have h1 : Nat.ble x a = Nat.ble a y := bt_inj (List.cons.inj h).1
    refine ⟨fun q => ?_, fun q => ?_⟩
    · have k1 := Nat.le_of_ble_eq_true q
      rw [h1] at q
      have k2 := Nat.le_of_ble_eq_true q
      refine ⟨k2, fun k => ?_⟩
      have e1 : x = a := Nat.le_antisymm k1 (Nat.le_trans k2 k)
      have e2 : y = a := Nat.le_antisymm (Nat.le_trans k k1) k2
      rw [e1, e2]; rfl
    · rw [h1] at q
      exact Nat.lt_of_not_le (fun k => by rw [Nat.ble_eq_true_of_le k] at q; cases q)
  | cons b m ih =>
    intro x y a h
    have h1 : Nat.ble x a = Nat.ble a b := bt_inj (List.cons.inj h).1
    obtain ⟨i1, i2⟩ := ih a y b (List.cons.inj h).2
    refine ⟨fun q => ?_, fun q => ?_⟩
    · have k1 := Nat.le_of_ble_eq_true q
      rw [h1] at q
      have k2 := Nat.le_of_ble_eq_true q
      obtain ⟨j1, j2⟩ := i1 q
      refine ⟨Nat.le_trans k2 j1, fun k => ?_⟩
      have e1 : x = a := Nat.le_antisymm k1 (Nat.le_trans (Nat.le_trans k2 j1) k)
      rw [e1]
      exact congrArg (a :: ·) (j2 (by rw [← e1]; exact k))
    · rw [h1] at q
      exact Nat.lt_trans (i2 q) (Nat.lt_of_not_le (fun k => by rw [Nat.ble_eq_true_of_le k] at q; cases q))
theorem rot_same {m : List Nat} {x : Nat} (h : upsP (x :: m) = upsP (m ++ [x])) : x :: m = m ++ [x] := by
  cases m with
  | nil => rfl
  | cons a m =>
    obtain ⟨i1, i2⟩ := rot m x x a h
    cases hb : Nat.ble x a with
    | true => exact (i1 hb).2 (Nat.le_refl x)
    | false =>
      have := i2 hb
      rw [Nat.ble_eq_true_of_le (Nat.le_of_lt this)] at hb; cases hb
theorem ups_pre : ∀ (u s t : List Nat), s.length = t.length → upsP (u ++ s) = upsP (u ++ t) → upsP s = upsP t := by
  intro u
  induction u with
  | nil => intro s t _ h; exact h
  | cons z u ih =>
    intro s t hl h
    refine ih s t hl ?_
    have hz : ∀ r : List Nat, upsP r = (upsP (z :: r)).tail := fun r => by cases r <;> rfl
    rw [hz (u ++ s), hz (u ++ t)]
    exact congrArg List.tail h
theorem ups_take : ∀ (s r : List Nat), upsP s = (upsP (s ++ r)).take (s.length - 1) := by
  intro s r
  induction s with
  | nil => rfl
  | cons a s ih =>
    cases s with
    | nil => rfl
    | cons b s => exact congrArg (bt (Nat.ble a b) :: ·) ih
theorem uniq_le {u m v : List Nat} {x : Nat} (h : upsP (u ++ x :: (m ++ v)) = upsP (u ++ (m ++ x :: v))) : u ++ x :: (m ++ v) = u ++ (m ++ x :: v) := by
  have h1 := ups_pre u (x :: (m ++ v)) (m ++ x :: v) (by simp only [List.length_append, List.length_cons]; omega) h
  have h2 : upsP (x :: m) = upsP (m ++ [x]) := by
    rw [ups_take (x :: m) v, ups_take (m ++ [x]) v, List.append_assoc]
    rw [show (x :: m ++ v) = x :: (m ++ v) from rfl, h1, List.length_append]; rfl
  have h3 := rot_same h2
  have h4 : x :: m ++ v = m ++ [x] ++ v := by rw [h3]
  rw [List.append_assoc] at h4
  exact congrArg (u ++ ·) h4
theorem uniq {l : List Nat} {x p q : Nat} (hp : p ≤ q) (h : upsP (l.take p ++ x :: l.drop p) = upsP (l.take q ++ x :: l.drop q)) : l.take p ++ x :: l.drop p = l.take q ++ x :: l.drop q := by
  have e1 : l.take q = l.take p ++ (l.drop p).take (q - p) := by rw [← List.take_add, Nat.add_sub_cancel' hp]
  have e2 : l.drop p = (l.drop p).take (q - p) ++ l.drop q := by
    have := (List.take_append_drop (q - p) (l.drop p)).symm
    rw [List.drop_drop, Nat.add_sub_cancel' hp] at this; exact this
  generalize (l.drop p).take (q - p) = m at *
  rw [e1, e2, List.append_assoc] at h ⊢
  exact uniq_le h
theorem uniqE {l : List Nat} {x p q : Nat} (h : upsP (l.take p ++ x :: l.drop p) = upsP (l.take q ++ x :: l.drop q)) : l.take p ++ x :: l.drop p = l.take q ++ x :: l.drop q := by
  rcases Nat.le_total p q with k | k
  · exact uniq k h
  · exact (uniq k h.symm).symm
theorem t4_0 : ∀ p q r : Bool, bitsW [bt q, bt r] ((plc 0 [bt p, bt q, bt r] % 4 + 3 * plc 0 [bt q, bt r]) % 4) = [bt p, bt q, bt r] := by decide
theorem t4_1 : ∀ p q r v : Bool, (p = true → q = true → v = true) → (p = false → q = false → v = false) → bitsW [bt v, bt r] ((plc 0 [bt p, bt q, bt r] % 4 + 3 * plc 0 [bt v, bt r]) % 4) = [bt p, bt q, bt r] := by decide
theorem t4_2 : ∀ p q r v : Bool, (q = true → r = true → v = true) → (q = false → r = false → v = false) → bitsW [bt p, bt v] ((plc 0 [bt p, bt q, bt r] % 4 + 3 * plc 0 [bt p, bt v]) % 4) = [bt p, bt q, bt r] := by decide
theorem t4_3 : ∀ p q r : Bool, bitsW [bt p, bt q] ((plc 0 [bt p, bt q, bt r] % 4 + 3 * plc 0 [bt p, bt q]) % 4) = [bt p, bt q, bt r] := by decide
theorem t5_0 : ∀ p q r s : Bool, bitsW [bt q, bt r, bt s] ((plc 0 [bt p, bt q, bt r, bt s] % 5 + 4 * plc 0 [bt q, bt r, bt s]) % 5) = [bt p, bt q, bt r, bt s] := by decide
theorem t5_1 : ∀ p q r s v : Bool, (p = true → q = true → v = true) → (p = false → q = false → v = false) → bitsW [bt v, bt r, bt s] ((plc 0 [bt p, bt q, bt r, bt s] % 5 + 4 * plc 0 [bt v, bt r, bt s]) % 5) = [bt p, bt q, bt r, bt s] := by decide
theorem t5_2 : ∀ p q r s v : Bool, (q = true → r = true → v = true) → (q = false → r = false → v = false) → bitsW [bt p, bt v, bt s] ((plc 0 [bt p, bt q, bt r, bt s] % 5 + 4 * plc 0 [bt p, bt v, bt s]) % 5) = [bt p, bt q, bt r, bt s] := by decide
theorem t5_3 : ∀ p q r s v : Bool, (r = true → s = true → v = true) → (r = false → s = false → v = false) → bitsW [bt p, bt q, bt v] ((plc 0 [bt p, bt q, bt r, bt s] % 5 + 4 * plc 0 [bt p, bt q, bt v]) % 5) = [bt p, bt q, bt r, bt s] := by decide
theorem t5_4 : ∀ p q r s : Bool, bitsW [bt p, bt q, bt r] ((plc 0 [bt p, bt q, bt r, bt s] % 5 + 4 * plc 0 [bt p, bt q, bt r]) % 5) = [bt p, bt q, bt r, bt s] := by decide
theorem ble_tr {x y z : Nat} (h1 : Nat.ble x y = true) (h2 : Nat.ble y z = true) : Nat.ble x z = true := Nat.ble_eq_true_of_le (Nat.le_trans (Nat.le_of_ble_eq_true h1) (Nat.le_of_ble_eq_true h2))
theorem ble_fl {x y z : Nat} (h1 : Nat.ble x y = false) (h2 : Nat.ble y z = false) : Nat.ble x z = false := by
  rw [Bool.eq_false_iff] at h1 h2 ⊢
  intro h
  have := Nat.le_of_ble_eq_true h
  have a : ¬ x ≤ y := fun q => h1 (Nat.ble_eq_true_of_le q)
  have b : ¬ y ≤ z := fun q => h2 (Nat.ble_eq_true_of_le q)
  omega
theorem bits_of {u v : List Nat} {x : Nat} (hn : (u ++ v).length = 3 ∨ (u ++ v).length = 4) : bitsW (upsP (u ++ v)) ((plc 0 (upsP (u ++ x :: v)) % ((u ++ v).length + 1) + (u ++ v).length * plc 0 (upsP (u ++ v))) % ((u ++ v).length + 1)) = upsP (u ++ x :: v) := by
  rcases u with _ | ⟨a, _ | ⟨b, _ | ⟨c, _ | ⟨d, _ | ⟨e, u⟩⟩⟩⟩⟩
  · rcases v with _ | ⟨a, _ | ⟨b, _ | ⟨c, _ | ⟨d, _ | ⟨e, v⟩⟩⟩⟩⟩ <;> simp only [List.length_append, List.length_cons, List.length_nil, List.nil_append, List.cons_append] at hn <;> first | omega | skip
    · exact t4_0 (Nat.ble x a) (Nat.ble a b) (Nat.ble b c)
    · exact t5_0 (Nat.ble x a) (Nat.ble a b) (Nat.ble b c) (Nat.ble c d)
  · rcases v with _ | ⟨b, _ | ⟨c, _ | ⟨d, _ | ⟨e, v⟩⟩⟩⟩ <;> simp only [List.length_append, List.length_cons, List.length_nil, List.nil_append, List.cons_append] at hn <;> first | omega | skip
    · exact t4_1 (Nat.ble a x) (Nat.ble x b) (Nat.ble b c) (Nat.ble a b) ble_tr ble_fl
    · exact t5_1 (Nat.ble a x) (Nat.ble x b) (Nat.ble b c) (Nat.ble c d) (Nat.ble a b) ble_tr ble_fl
  · rcases v with _ | ⟨c, _ | ⟨d, _ | ⟨e, v⟩⟩⟩ <;> simp only [List.length_append, List.length_cons, List.length_nil, List.nil_append, List.cons_append] at hn <;> first | omega | skip
    · exact t4_2 (Nat.ble a b) (Nat.ble b x) (Nat.ble x c) (Nat.ble b c) ble_tr ble_fl
    · exact t5_2 (Nat.ble a b) (Nat.ble b x) (Nat.ble x c) (Nat.ble c d) (Nat.ble b c) ble_tr ble_fl
  · rcases v with _ | ⟨d, _ | ⟨e, v⟩⟩ <;> simp only [List.length_append, List.length_cons, List.length_nil, List.nil_append, List.cons_append] at hn <;> first | omega | skip
    · exact t4_3 (Nat.ble a b) (Nat.ble b c) (Nat.ble c x)
    · exact t5_3 (Nat.ble a b) (Nat.ble b c) (Nat.ble c x) (Nat.ble x d) (Nat.ble c d) ble_tr ble_fl
  · rcases v with _ | ⟨e, v⟩ <;> simp only [List.length_append, List.length_cons, List.length_nil, List.nil_append, List.cons_append] at hn <;> first | omega | skip
    · exact t5_4 (Nat.ble a b) (Nat.ble b c) (Nat.ble c d) (Nat.ble d x)
  · simp only [List.length_append, List.length_cons] at hn; omega
theorem eqL_refl : ∀ a : List Nat, eqL a a = true
  | [] => rfl
  | x :: a => by
    unfold eqL
    rw [beq_self_eq_true]
    exact eqL_refl a
theorem findW_some {less bits : List Nat} {fig : Nat} : ∀ {ps : List Nat} {wh : List Nat}, findW less fig bits ps = some wh → ∃ p ∈ ps, wh = less.take p ++ fig :: less.drop p ∧ upsP wh = bits
  | [], wh, h => by cases h
  | p :: ps, wh, h => by
    unfold findW at h
    cases hb : eqL (upsP (less.take p ++ fig :: less.drop p)) bits with
    | true => rw [hb] at h; cases h; exact ⟨p, List.mem_cons_self, rfl, eqL_eq hb⟩
    | false =>
      rw [hb] at h
      obtain ⟨q, hq, e⟩ := findW_some h
      exact ⟨q, List.mem_cons_of_mem _ hq, e⟩
theorem findW_has {less bits : List Nat} {fig : Nat} : ∀ {ps : List Nat} {p : Nat}, p ∈ ps → upsP (less.take p ++ fig :: less.drop p) = bits → ∃ wh, findW less fig bits ps = some wh
  | q :: ps, p, h, hb => by
    unfold findW
    cases hq : eqL (upsP (less.take q ++ fig :: less.drop q)) bits with
    | true => exact ⟨_, rfl⟩
    | false =>
      rcases List.mem_cons.mp h with rfl | h
      · rw [hb, eqL_refl] at hq; cases hq
      · exact findW_has h hb
theorem mend_iff {row less : List Nat} (hn : row.length = 4 ∨ row.length = 5) (hl : less.length + 1 = row.length) (h16 : ∀ x ∈ row, x < 16) :
    mendP less (plc 0 (upsP row) % row.length) (row.sum % 16) = row ↔ oneDel less row := by
  constructor
  · intro h
    unfold mendP at h
    cases hf : findW less ((row.sum % 16 + 15 * less.sum) % 16) (bitsW (upsP less) ((plc 0 (upsP row) % row.length + less.length * plc 0 (upsP less)) % (less.length + 1))) (List.range' 0 (less.length + 1)) with
    | none => rw [hf] at h; simp only [Option.getD_none] at h; rw [← h] at hn; simp at hn
    | some wh =>
      rw [hf] at h
      simp only [Option.getD_some] at h
      obtain ⟨p, _, e, _⟩ := findW_some hf
      exact ⟨less.take p, less.drop p, _, (List.take_append_drop p less).symm, by rw [← h]; exact e⟩
  · rintro ⟨u, v, x, rfl, rfl⟩
    have hlen : (u ++ x :: v).length = (u ++ v).length + 1 := by simp; omega
    have hx : x < 16 := h16 x (by simp)
    have hfig : ((u ++ x :: v).sum % 16 + 15 * (u ++ v).sum) % 16 = x := by
      simp only [List.sum_append, List.sum_cons]; omega
    have hn' : (u ++ v).length = 3 ∨ (u ++ v).length = 4 := by omega
    unfold mendP
    rw [hfig, hlen, bits_of hn']
    have hu : (u ++ v).take u.length ++ x :: (u ++ v).drop u.length = u ++ x :: v := by rw [List.take_left, List.drop_left]
    obtain ⟨wh, hf⟩ := findW_has (less := u ++ v) (fig := x) (bits := upsP (u ++ x :: v)) (ps := List.range' 0 ((u ++ v).length + 1)) (p := u.length) (by simp [List.mem_range'_1]; omega) (by rw [hu])
    rw [hf, Option.getD_some]
    obtain ⟨q, _, e1, e2⟩ := findW_some hf
    rw [e1]
    rw [e1, ← hu] at e2
    rw [← hu]
    exact uniqE e2
end Mine
end
section
namespace Mine
open PySem PySem.Spec PySem.Calls PyProof.Rows PySem.W
noncomputable def T2 : AO := .raw PT (tabObj #[])
noncomputable def H2 (sa : Addr) (vs : List (Option AV)) (c2 c3 : Option AV) (T : AO) (rest : List AO) : List AO := .ns 30 vs :: .cell (some (.val (.ref sa))) :: .cell c2 :: .cell c3 :: .cell none :: T :: rest
noncomputable def O8 (c0 c1 c2 c3 : Nat) : List AO := [.list [.int 10278, .int 1319768, .int 461469, .int 66562], .list [ai c0, ai c1, ai c2, ai c3]]
noncomputable def rowOf (c0 sz : Nat) : List Nat := (List.range' 0 sz).map fun k => c0 / 2 / 16 ^ k % 16
theorem rowOf_len (c0 sz : Nat) : (rowOf c0 sz).length = sz := by simp [rowOf]
theorem rowOf_lt (c0 sz : Nat) : ∀ x ∈ rowOf c0 sz, x < 16 := fun x hx => by
  obtain ⟨k, _, rfl⟩ := List.mem_map.mp hx
  exact Nat.mod_lt _ (by decide)
section
variable {w : World} {g : Gh} {sa : Addr} {ns : List Int} {vs : List (Option AV)} {c2 c3 : Option AV} {T : AO} {rest : List AO}
theorem q01_2 : ∃ c0 c1 cc c5 : Nat, ∀ g : Gh, R_0 w g sa ns (H2 sa (List.replicate 20 none) none none T2 []) = R_2 w g sa ns (H2 sa (List.replicate 20 none) (some (.ref 6)) (some (.ref 7)) T2 (O8 c0 c1 cc c5)) := by
  have h0 : ∀ g : Gh, Q_0 w g sa ns (H2 sa (List.replicate 20 none) none none T2 []) = some (.next, H2 sa (List.replicate 20 none) (some (.ref 6)) none T2 [.list [.int 10278, .int 1319768, .int 461469, .int 66562]]) := fun g => by kernel_rfl
  obtain ⟨cl, hl, hm, hc⟩ := cells_comp (ρ := H2 sa (List.replicate 20 none) (some (.ref 6)) none T2 [.list [.int 10278, .int 1319768, .int 461469, .int 66562]]) (kk := 31) (cs := 2) (cp := 1) (ls := 6) (n := 4) (sa := sa) (ns := ns) (starts := [10278, 1319768, 461469, 66562]) (st := 4) (md := 10000000) rfl rfl rfl (by decide) (by decide) (by decide)
  obtain ⟨c0, c1, cc, c5, rfl⟩ : ∃ c0 c1 cc c5, cl = [c0, c1, cc, c5] := by
    rcases cl with _ | ⟨c0, _ | ⟨c1, _ | ⟨cc, _ | ⟨c5, _ | ⟨d, r⟩⟩⟩⟩⟩ <;> simp at hl
    exact ⟨c0, c1, cc, c5, rfl⟩
  refine ⟨c0, c1, cc, c5, fun g => ?_⟩
  have h1 : Q_1 w g sa ns (H2 sa (List.replicate 20 none) (some (.ref 6)) none T2 [.list [.int 10278, .int 1319768, .int 461469, .int 66562]]) = some (.next, H2 sa (List.replicate 20 none) (some (.ref 6)) (some (.ref 7)) T2 (O8 c0 c1 cc c5)) := by
    unfold Q_1
    have hr : rangeArgs [.int (4 : Int)] = some (0, ((4 : Nat) : Int), 1) := by kernel_rfl
    rw [asgM_ap, compM_ap, rangeIt_ap]
    simp only [consM_ap, pure_ap, hr, rangeI_nat, hc]
    rfl
  unfold R_0
  rw [seq_next (h0 g)]
  unfold R_1
  rw [seq_next h1]
theorem p2_2 {c0 c1 cc c5 : Nat} : R_2 w g sa ns (H2 sa (List.replicate 20 none) (some (.ref 6)) (some (.ref 7)) T2 (O8 c0 c1 cc c5)) = R_8 w g sa ns (S2 sa (V2 (4 + c0 % 2) 8 [] none none none none none none) T2 c0 c1 cc c5 (rowOf c0 (4 + c0 % 2)) [] [] [] []) := by
  have hsz : 4 + c0 % 2 ≤ 5 := by omega
  have h2 : Q_2 w g sa ns (H2 sa (List.replicate 20 none) (some (.ref 6)) (some (.ref 7)) T2 (O8 c0 c1 cc c5)) = some (.next, H2 sa ((List.replicate 20 none).set 1 (some (ai (4 + c0 % 2)))) (some (.ref 6)) (some (.ref 7)) T2 (O8 c0 c1 cc c5)) := by
    have hi : idxM (cellM 3) (St.pure (.int 0)) (H2 sa (List.replicate 20 none) (some (.ref 6)) (some (.ref 7)) T2 (O8 c0 c1 cc c5)) = some (.int (c0 : Int), H2 sa (List.replicate 20 none) (some (.ref 6)) (some (.ref 7)) T2 (O8 c0 c1 cc c5)) := by kernel_rfl
    unfold Q_2
    simp only [asgM_ap, binM_ap, pure_ap, hi, mod_2, addP_int]
    rfl
  generalize hs : 4 + c0 % 2 = sz at *
  generalize hv : (List.replicate 20 none).set 1 (some (ai sz)) = vs at h2
  have h3 : Q_3 w g sa ns (H2 sa vs (some (.ref 6)) (some (.ref 7)) T2 (O8 c0 c1 cc c5)) = some (.next, H2 sa (vs.set 2 (some (.ref 8))) (some (.ref 6)) (some (.ref 7)) T2 (O8 c0 c1 cc c5 ++ [.list ((rowOf c0 sz).map ai)])) := by
    have hc := comp_map (ρ := H2 sa vs (some (.ref 6)) (some (.ref 7)) T2 (O8 c0 c1 cc c5)) (k := 32) (live := always) (f := fun v => match v with | .int (.ofNat k) => ai (c0 / 2 / 16 ^ k % 16) | _ => .none) (E := fun f2 => (binM modP (binM divP (binM divP (idxM (cellM 3) (St.pure (.int 0))) (St.pure (.int 2))) (binM powP (St.pure (.int 16)) (slotM f2 32 0))) (St.pure (.int 16)))) (fun _ => trivial) ((List.range' 0 sz).map ai) (by simp; omega)
      (fun v hv ys => by
        obtain ⟨k, hk, rfl⟩ := List.mem_map.mp hv
        have hk' : k ≤ 4 := by simp [List.mem_range'_1] at hk; omega
        have hi : ∀ X, idxM (cellM 3) (St.pure (.int 0)) (H2 sa vs (some (.ref 6)) (some (.ref 7)) T2 (O8 c0 c1 cc c5) ++ X) = some (.int (c0 : Int), H2 sa vs (some (.ref 6)) (some (.ref 7)) T2 (O8 c0 c1 cc c5) ++ X) := fun X => rfl
        have hp : 16 ^ k ≤ 16 ^ 4 := Nat.pow_le_pow_right (by decide) hk'
        have hpp : 0 < 16 ^ k := Nat.pow_pos (by decide)
        show _ = some (ai (c0 / 2 / 16 ^ k % 16), _)
        simp only [binM_ap, hi, pure_ap, div_2, slotk_at, ai, pow_16 (show k ≤ 1000 by omega), div_nat (c0 / 2) (16 ^ k) hpp (log_small hpp (Nat.le_trans hp (by decide))), mod_16])
      (fun v hv => by obtain ⟨k, hk, rfl⟩ := List.mem_map.mp hv; trivial)
    have hm : ((List.range' 0 sz).map ai).map (fun v => match v with | .int (.ofNat k) => ai (c0 / 2 / 16 ^ k % 16) | _ => AV.none) = (rowOf c0 sz).map ai := by
      unfold rowOf
      rw [List.map_map, List.map_map]; rfl
    rw [hm] at hc
    have hr := rangeArgs_nat (n := sz) (by omega)
    have hs1 : slotM 0 30 1 (H2 sa vs (some (.ref 6)) (some (.ref 7)) T2 (O8 c0 c1 cc c5)) = some (.int (sz : Int), H2 sa vs (some (.ref 6)) (some (.ref 7)) T2 (O8 c0 c1 cc c5)) := by rw [← hv]; rfl
    unfold Q_3
    rw [asgM_ap, compM_ap, rangeIt_ap]
    simp only [consM_ap, hs1, pure_ap, hr, rangeI_nat, hc, nextM_ap]
    rw [← hv]; rfl
  unfold R_2
  rw [seq_next h2]
  unfold R_3
  rw [seq_next h3]
  rw [← hv]
  unfold R_4
  rw [seq_next (show Q_4 w g sa ns _ = some (.next, H2 sa ((((List.replicate 20 none).set 1 (some (ai sz))).set 2 (some (.ref 8))).set 3 (some (.ref 9))) (some (.ref 6)) (some (.ref 7)) T2 (O8 c0 c1 cc c5 ++ [.list ((rowOf c0 sz).map ai), .list []])) from by kernel_rfl)]
  unfold R_5
  rw [seq_next (show Q_5 w g sa ns _ = some (.next, H2 sa (((((List.replicate 20 none).set 1 (some (ai sz))).set 2 (some (.ref 8))).set 3 (some (.ref 9))).set 4 (some (.ref 10))) (some (.ref 6)) (some (.ref 7)) T2 (O8 c0 c1 cc c5 ++ [.list ((rowOf c0 sz).map ai), .list [], .list []])) from by kernel_rfl)]
  unfold R_6
  rw [seq_next (show Q_6 w g sa ns _ = some (.next, H2 sa ((((((List.replicate 20 none).set 1 (some (ai sz))).set 2 (some (.ref 8))).set 3 (some (.ref 9))).set 4 (some (.ref 10))).set 5 (some (.ref 11))) (some (.ref 6)) (some (.ref 7)) T2 (O8 c0 c1 cc c5 ++ [.list ((rowOf c0 sz).map ai), .list [], .list [], .list []])) from by kernel_rfl)]
  unfold R_7
  rw [seq_next (show Q_7 w g sa ns _ = some (.next, S2 sa (V2 sz 8 [] none none none none none none) T2 c0 c1 cc c5 (rowOf c0 sz) [] [] [] []) from by kernel_rfl)]
end
noncomputable def rnd (r : List Nat) (sz c : Nat) : List (List Nat × Nat) := [(wd (lessOf r sz c), c / (sz * sz * 16)), (wd (chkOf r), c / (sz * sz * 16) / 256)]
noncomputable def obj4 (r : List Nat) (sz c : Nat) : List AO := [.list ((lessOf r sz c).map ai), .list ((chkOf r).map ai), .list [.str (wd (lessOf r sz c)), .str (wd (chkOf r))], .list ((nextOf r sz c).map ai)]
theorem next_len {r : List Nat} {sz c : Nat} (h : r.length = sz) (h4 : 4 ≤ sz) : (nextOf r sz c).length = sz := by
  have h1 := Nat.mod_lt c (show sz > 0 by omega)
  have h2 := Nat.mod_lt (c / sz) (show sz > 0 by omega)
  unfold nextOf lessOf
  simp only [List.length_append, List.length_cons, List.length_take, List.length_drop]; omega
theorem less_len {r : List Nat} {sz c : Nat} (h : r.length = sz) (h4 : 4 ≤ sz) : (lessOf r sz c).length + 1 = sz := by
  have h1 := Nat.mod_lt c (show sz > 0 by omega)
  unfold lessOf
  simp only [List.length_append, List.length_take, List.length_drop]; omega
theorem less_lt {r : List Nat} {sz c : Nat} (h : ∀ x ∈ r, x < 16) : ∀ x ∈ lessOf r sz c, x < 16 := delRow_mem h
theorem next_lt {r : List Nat} {sz c : Nat} (h : ∀ x ∈ r, x < 16) : ∀ x ∈ nextOf r sz c, x < 16 := fun x hx => by
  unfold nextOf at hx
  rcases List.mem_append.mp hx with q | q
  · exact less_lt h x (List.mem_of_mem_take q)
  · rcases List.mem_cons.mp q with rfl | q
    · exact Nat.mod_lt _ (by decide)
    · exact less_lt h x (List.mem_of_mem_drop q)
theorem rnd_len {r : List Nat} {sz c : Nat} (h : r.length = sz) (h4 : 4 ≤ sz) (h5 : sz ≤ 5) : (written (wd (lessOf r sz c)) (c / (sz * sz * 16)) ++ written (wd (chkOf r)) (c / (sz * sz * 16) / 256)).length ≤ 30 := by
  have h1 := written_len (wd (lessOf r sz c)) (c / (sz * sz * 16))
  have h2 := written_len (wd (chkOf r)) (c / (sz * sz * 16) / 256)
  have h3 := less_len (c := c) h h4
  rw [wd_len] at h1 h2
  have : (chkOf r).length = 2 := rfl
  rw [List.length_append]; omega
section
variable {w : World} {g : Gh} {sa : Addr} {ns : List Int} {c0 c1 cc c5 sz : Nat} {row : List Nat}
theorem made_2 (hsz : row.length = sz) (h4 : 4 ≤ sz) (h5 : sz ≤ 5) (h16 : ∀ x ∈ row, x < 16) : ∃ e : Nat → Option AV,
    R_8 w g sa ns (S2 sa (V2 sz 8 [] none none none none none none) T2 c0 c1 cc c5 row [] [] [] [])
      = R_9 w g sa ns (S2 sa (V2 sz 24 (txt (rnd row sz c1 ++ rnd (nextOf row sz c1) sz cc ++ rnd (nextOf (nextOf row sz c1) sz cc) sz c5)) (some (ai c5)) (e 0) (e 1) (e 2) (e 3) (e 4)) T2 c0 c1 cc c5 row [.ref 8, .ref 16, .ref 20]
          [.str (wd (lessOf row sz c1)), .str (wd (lessOf (nextOf row sz c1) sz cc)), .str (wd (lessOf (nextOf (nextOf row sz c1) sz cc) sz c5))]
          ((rnd row sz c1 ++ rnd (nextOf row sz c1) sz cc ++ rnd (nextOf (nextOf row sz c1) sz cc) sz c5).map fun e => .str e.1)
          (.list [ai c1, ai cc, ai c5] :: (obj4 row sz c1 ++ obj4 (nextOf row sz c1) sz cc ++ obj4 (nextOf (nextOf row sz c1) sz cc) sz c5))) := by
  have hp1 : ∀ (r : Nat) (text : List Nat) (ce ou pu le ch dr : Option AV) (rws brk due : List AV) (τ : List AO) (c : Nat), putM 0 30 7 (ai c) (S2 sa (V2 sz r text ce ou pu le ch dr) T2 c0 c1 cc c5 row rws brk due τ) = some ((), S2 sa (V2 sz r text (some (ai c)) ou pu le ch dr) T2 c0 c1 cc c5 row rws brk due τ) := fun _ _ _ _ _ _ _ _ _ _ _ _ _ => by rw [putS2]; rfl
  have n1 := next_len (c := c1) hsz h4
  have l1 := next_lt (sz := sz) (c := c1) h16
  have n2 := next_len (c := cc) n1 h4
  have l2 := next_lt (sz := sz) (c := cc) l1
  have k1 := rnd_len (c := c1) hsz h4 h5
  have k2 := rnd_len (c := cc) n1 h4 h5
  obtain ⟨v1, e1⟩ := it2 (w := w) (g := g) (sa := sa) (ns := ns) (T := T2) (c0 := c0) (c1 := c1) (c2 := cc) (c3 := c5) (sz := sz) (R := 8) (cell := c1) (row := row) (row0 := row) (text := []) (rws := []) (brk := []) (due := []) (τ := [.list [ai c1, ai cc, ai c5]]) (ou := none) (pu := none) (le := none) (ch := none) (dr := none) hsz h4 h5 h16 (by simp) (by simp) (by simp) (by simp) (fun _ _ _ _ _ => rfl)
  generalize hr1 : nextOf row sz c1 = row1 at *
  obtain ⟨v2, e2⟩ := it2 (w := w) (g := g) (sa := sa) (ns := ns) (T := T2) (c0 := c0) (c1 := c1) (c2 := cc) (c3 := c5) (sz := sz) (R := 16) (cell := cc) (row := row1) (row0 := row) (text := [] ++ (written (wd (lessOf row sz c1)) (c1 / (sz * sz * 16)) ++ written (wd (chkOf row)) (c1 / (sz * sz * 16) / 256))) (rws := [.ref 8]) (brk := [.str (wd (lessOf row sz c1))]) (due := [.str (wd (lessOf row sz c1)), .str (wd (chkOf row))]) (τ := [.list [ai c1, ai cc, ai c5], .list ((lessOf row sz c1).map ai), .list ((chkOf row).map ai), .list [.str (wd (lessOf row sz c1)), .str (wd (chkOf row))], .list (row1.map ai)]) (ou := v1 0) (pu := v1 1) (le := v1 2) (ch := v1 3) (dr := v1 4) n1 h4 h5 l1 (by rw [List.nil_append]; omega) (by simp) (by simp) (by simp) (fun _ _ _ _ _ => rfl)
  generalize hr2 : nextOf row1 sz cc = row2 at *
  obtain ⟨v3, e3⟩ := it2 (w := w) (g := g) (sa := sa) (ns := ns) (T := T2) (c0 := c0) (c1 := c1) (c2 := cc) (c3 := c5) (sz := sz) (R := 20) (cell := c5) (row := row2) (row0 := row) (text := [] ++ (written (wd (lessOf row sz c1)) (c1 / (sz * sz * 16)) ++ written (wd (chkOf row)) (c1 / (sz * sz * 16) / 256)) ++ (written (wd (lessOf row1 sz cc)) (cc / (sz * sz * 16)) ++ written (wd (chkOf row1)) (cc / (sz * sz * 16) / 256))) (rws := [.ref 8, .ref 16]) (brk := [.str (wd (lessOf row sz c1)), .str (wd (lessOf row1 sz cc))]) (due := [.str (wd (lessOf row sz c1)), .str (wd (chkOf row)), .str (wd (lessOf row1 sz cc)), .str (wd (chkOf row1))]) (τ := [.list [ai c1, ai cc, ai c5], .list ((lessOf row sz c1).map ai), .list ((chkOf row).map ai), .list [.str (wd (lessOf row sz c1)), .str (wd (chkOf row))], .list (row1.map ai), .list ((lessOf row1 sz cc).map ai), .list ((chkOf row1).map ai), .list [.str (wd (lessOf row1 sz cc)), .str (wd (chkOf row1))], .list (row2.map ai)]) (ou := v2 0) (pu := v2 1) (le := v2 2) (ch := v2 3) (dr := v2 4) n2 h4 h5 l2 (by rw [List.nil_append, List.length_append]; omega) (by simp) (by simp) (by simp) (fun _ _ _ _ _ => rfl)
  refine ⟨v3, ?_⟩
  simp only [List.length_cons, List.length_nil, Nat.zero_add, Nat.reduceAdd, List.cons_append, List.nil_append] at e1 e2 e3
  have hit : itM (slcM (cellM 3) (St.pure (.int 1)) (St.pure .none)) (S2 sa (V2 sz 8 [] none none none none none none) T2 c0 c1 cc c5 row [] [] [] []) = some (([ai c1, ai cc, ai c5], liveOf 12 [ai c1, ai cc, ai c5]), S2 sa (V2 sz 8 [] none none none none none none) T2 c0 c1 cc c5 row [] [] [] [.list [ai c1, ai cc, ai c5]]) := by kernel_rfl
  have hlive : ∀ vs rws brk due X, liveOf 12 [ai c1, ai cc, ai c5] (S2 sa vs T2 c0 c1 cc c5 row rws brk due (.list [ai c1, ai cc, ai c5] :: X)) := fun _ _ _ _ _ => rfl
  have h8 : Q_8 w g sa ns (S2 sa (V2 sz 8 [] none none none none none none) T2 c0 c1 cc c5 row [] [] [] []) = some (.next, S2 sa (V2 sz 24 (txt (rnd row sz c1 ++ rnd row1 sz cc ++ rnd row2 sz c5)) (some (ai c5)) (v3 0) (v3 1) (v3 2) (v3 3) (v3 4)) T2 c0 c1 cc c5 row [.ref 8, .ref 16, .ref 20] [.str (wd (lessOf row sz c1)), .str (wd (lessOf row1 sz cc)), .str (wd (lessOf row2 sz c5))] ((rnd row sz c1 ++ rnd row1 sz cc ++ rnd row2 sz c5).map fun e => .str e.1)
          (.list [ai c1, ai cc, ai c5] :: (obj4 row sz c1 ++ obj4 row1 sz cc ++ obj4 row2 sz c5))) := by
    unfold Q_8
    rw [forM_ap, hit]
    simp only []
    rw [forl_cons (hlive _ _ _ _ _), hp1]
    simp only [e1]
    rw [forl_cons (show liveOf 12 [ai c1, ai cc, ai c5] _ from hlive _ _ _ _ _), hp1]
    simp only [e2]
    rw [forl_cons (show liveOf 12 [ai c1, ai cc, ai c5] _ from hlive _ _ _ _ _), hp1]
    simp only [e3]
    rw [forl_nil (show liveOf 12 [ai c1, ai cc, ai c5] _ from hlive _ _ _ _ _)]
    have htx : written (wd (lessOf row sz c1)) (c1 / (sz * sz * 16)) ++ written (wd (chkOf row)) (c1 / (sz * sz * 16) / 256) ++ (written (wd (lessOf row1 sz cc)) (cc / (sz * sz * 16)) ++ written (wd (chkOf row1)) (cc / (sz * sz * 16) / 256)) ++ (written (wd (lessOf row2 sz c5)) (c5 / (sz * sz * 16)) ++ written (wd (chkOf row2)) (c5 / (sz * sz * 16) / 256)) = txt (rnd row sz c1 ++ rnd row1 sz cc ++ rnd row2 sz c5) := by
      simp only [txt, rnd, List.cons_append, List.nil_append, List.flatMap_cons, List.flatMap_nil, List.append_assoc, List.append_nil]
    rw [htx]
    unfold obj4
    rw [hr1, hr2]
    rfl
  unfold R_8
  rw [seq_next h8]
end
end Mine
end
section
namespace Mine
open PySem PySem.Spec PySem.Calls PyProof.Rows PySem.W
noncomputable def g2 : Gh := ⟨35, 34, 29, 28, 33, 32, 26, 27, 37⟩
noncomputable def N2 (m : Nat → AO) (sp : FnSpec) (c4 : Option AV) (vs : List (Option AV)) (rws brk due : List AV) (ln : Int) (s : List Nat) (p : List (List Nat)) (τ : List AO) : List AO :=
  .ns 30 vs :: m 1 :: m 2 :: m 3 :: .cell c4 :: .tab :: m 6 :: m 7 :: m 8 :: .list rws :: .list brk :: .list due :: m 12 :: m 13 :: m 14 :: m 15 :: m 16 :: m 17 :: m 18 :: m 19 :: m 20 :: m 21 :: m 22 :: m 23 :: m 24 ::
    m 25 :: .cell (some (.ref 27)) :: .list (strItems s) :: .attrs (aH 31 33) :: .inst CLS 28 :: m 30 :: m 31 :: .code sp.qual :: .fn sp 32 [("signs", 26)] :: .attrs (atL ln g2) :: .inst CLS 34 :: m 36 :: .list (p.map .str) :: τ
noncomputable abbrev M2 (m : Nat → AO) (sp : FnSpec) (vs : List (Option AV)) (rws brk due : List AV) (ln : Int) (s : List Nat) (p : List (List Nat)) (τ : List AO) : List AO := N2 m sp (some (.ref 35)) vs rws brk due ln s p τ
section
variable {m : Nat → AO} {sp : FnSpec} {c4 : Option AV} {vs : List (Option AV)} {rws brk due : List AV} {ln ln' : Int} {s s' : List Nat} {p p' : List (List Nat)} {τ : List AO}
theorem slotM2 (i : Nat) : slotM 0 30 i (N2 m sp c4 vs rws brk due ln s p τ) = (match vs[i]? with | some (some v) => some (v, N2 m sp c4 vs rws brk due ln s p τ) | _ => none) := rfl
theorem putM2 (i : Nat) (v : AV) : putM 0 30 i v (N2 m sp c4 vs rws brk due ln s p τ) = (match vs[i]? with | some _ => some ((), N2 m sp c4 (vs.set i (some v)) rws brk due ln s p τ) | none => none) := by
  have h : putM 0 30 i v (N2 m sp c4 vs rws brk due ln s p τ) = (match decide (i < vs.length) with | true => some ((), N2 m sp c4 (vs.set i (some v)) rws brk due ln s p τ) | false => none) := by
    show (match true, decide (i < vs.length) with | true, true => _ | _, _ => _) = _
    cases decide (i < vs.length) <;> rfl
  rw [h]
  by_cases hi : i < vs.length
  · rw [List.getElem?_eq_getElem hi, decide_eq_true hi]
  · rw [List.getElem?_eq_none (Nat.not_lt.mp hi), decide_eq_false hi]
theorem lexM2 (hs : s.length ≤ 900) (hp : p.length ≤ 900) : LexInv CLS sp g2 (N2 m sp c4 vs rws brk due ln s p τ) ln s p :=
  ⟨rfl, rfl, rfl, ⟨_, rfl, by kernel_rfl⟩, rfl, rfl, rfl, rfl, rfl, by decide, by decide, hs, hp⟩
theorem cell4M2 : cellM 4 (M2 m sp vs rws brk due ln s p τ) = some (.ref 35, M2 m sp vs rws brk due ln s p τ) := rfl
theorem lenM2 : (N2 m sp c4 vs rws brk due ln s p τ).length = τ.length + 38 := rfl
end
theorem eqAll_str : ∀ ws : List (List Nat), eqAll (ws.map .str) (ws.map .str) = some true
  | [] => rfl
  | x :: ws => by
    rw [List.map_cons]
    unfold eqAll
    rw [eqAll_str ws]
    simp [eqFlat]
noncomputable def OB (c0 c1 cc c5 sz : Nat) (r0 r1 r2 : List Nat) : List AO := .list [.int 10278, .int 1319768, .int 461469, .int 66562] :: .list [ai c0, ai c1, ai cc, ai c5] :: .list (r0.map ai) :: .dead :: .dead :: .dead :: .list [ai c1, ai cc, ai c5] :: (obj4 r0 sz c1 ++ obj4 r1 sz cc ++ obj4 r2 sz c5)
noncomputable def mX2 (sa : Addr) (tx : List Nat) (O : List AO) : Nat → AO := fun i => match i with
  | 1 => .cell (some (.val (.ref sa)))
  | 2 => .cell (some (.ref 6))
  | 3 => .cell (some (.ref 7))
  | 25 => .ns 7 [some (.str tx), some (.ref 29)]
  | 30 => .ns 3 [some (.ref 29), some .none]
  | 31 => .list []
  | 36 => .ns 3 [some (.ref 35), some (.ref 29)]
  | i => (O[i - 6]?).getD .dead
noncomputable def V3 (sz : Nat) (tx : List Nat) (k ce ou pu le ch dr wd wh bo i wo to la : Option AV) : List (Option AV) := [k, some (ai sz), some (.ref 24), some (.ref 9), some (.ref 10), some (.ref 11), some (.str tx), ce, ou, pu, le, ch, dr, wd, wh, bo, i, wo, to, la]
section
variable {w : World} {sa : Addr} {ns : List Int} {c0 c1 cc c5 sz : Nat} {r0 r1 r2 tx : List Nat} {ce ou pu le ch dr : Option AV} {rws brk due : List AV} {m : Nat → AO} {ln ln' : Int} {s s' : List Nat} {vs : List (Option AV)}
theorem file_2 (htl : tx.length ≤ 900) : R_9 w g2 sa ns (S2 sa (V2 sz 24 tx ce ou pu le ch dr) T2 c0 c1 cc c5 r0 rws brk due (.list [ai c1, ai cc, ai c5] :: (obj4 r0 sz c1 ++ obj4 r1 sz cc ++ obj4 r2 sz c5)))
    = R_10 w g2 sa ns (M2 (mX2 sa tx (OB c0 c1 cc c5 sz r0 r1 r2)) (SP w) (V3 sz tx none ce ou pu le ch dr none none none none none none none) rws brk due 1 tx [] []) := by
  have hxl := x_line (C := CLS) (sp := SP w) (σ := S2 sa (V2 sz 24 tx ce ou pu le ch dr) T2 c0 c1 cc c5 r0 rws brk due (.list [ai c1, ai cc, ai c5] :: (obj4 r0 sz c1 ++ obj4 r1 sz cc ++ obj4 r2 sz c5))) (PL := PL) (PT := PT) (s := tx) (n := 25) rfl htl rfl
    (σ' := N2 (mX2 sa tx (OB c0 c1 cc c5 sz r0 r1 r2)) (SP w) none (V2 sz 24 tx ce ou pu le ch dr) rws brk due 1 tx [] []) rfl
  have h9 : Q_9 w g2 sa ns (S2 sa (V2 sz 24 tx ce ou pu le ch dr) T2 c0 c1 cc c5 r0 rws brk due (.list [ai c1, ai cc, ai c5] :: (obj4 r0 sz c1 ++ obj4 r1 sz cc ++ obj4 r2 sz c5))) = some (.next, M2 (mX2 sa tx (OB c0 c1 cc c5 sz r0 r1 r2)) (SP w) (V3 sz tx none ce ou pu le ch dr none none none none none none none) rws brk due 1 tx [] []) := by
    have h1 := hxl.1
    have hs6 : slotM 0 30 6 (S2 sa (V2 sz 24 tx ce ou pu le ch dr) T2 c0 c1 cc c5 r0 rws brk due (.list [ai c1, ai cc, ai c5] :: (obj4 r0 sz c1 ++ obj4 r1 sz cc ++ obj4 r2 sz c5))) = some (.str tx, S2 sa (V2 sz 24 tx ce ou pu le ch dr) T2 c0 c1 cc c5 r0 rws brk due (.list [ai c1, ai cc, ai c5] :: (obj4 r0 sz c1 ++ obj4 r1 sz cc ++ obj4 r2 sz c5))) := rfl
    rcases hf : fileG CLS PL PT (SP w) [.str tx] (S2 sa (V2 sz 24 tx ce ou pu le ch dr) T2 c0 c1 cc c5 r0 rws brk due (.list [ai c1, ai cc, ai c5] :: (obj4 r0 sz c1 ++ obj4 r1 sz cc ++ obj4 r2 sz c5))) with _ | ⟨v, ρ⟩
    · rw [hf] at h1; cases h1
    rw [hf] at h1
    simp only [] at h1
    unfold Q_9
    simp only [asgM_ap, callM_ap, consM_ap, pure_ap, nextM_ap, hs6, hf, h1]
    rfl
  unfold R_9
  rw [seq_next h9]
theorem words_2 {ws : List (List Nat)} (hs : s.length ≤ 900) (hr : readW 6 ln s [] = some (ws, ln', s', [])) : Q_10 w g2 sa ns (M2 m (SP w) (V3 sz tx none ce ou pu le ch dr none none none none none none none) rws brk due ln s [] [])
    = some (.next, M2 m (SP w) (V3 sz tx none ce ou pu le ch dr (some (.ref 38)) none none none none none none) rws brk due ln' s' [] [.list (ws.map .str)]) := by
  have hc := compR_tok (C := CLS) (sp := SP w) (g := g2) (k := 33) (cl := 4) (ρ := M2 m (SP w) (V3 sz tx none ce ou pu le ch dr none none none none none none none) rws brk due ln s [] []) (vs := (List.range' 0 6).map ai) (lexM2 hs (by simp)) rfl hr (by decide)
  have hra : rangeArgs [.int (6 : Int)] = some (0, ((6 : Nat) : Int), 1) := by kernel_rfl
  unfold Q_10
  rw [asgM_ap, compM_ap, rangeIt_ap]
  simp only [consM_ap, pure_ap, hra, rangeI_nat]
  rw [show (compR 33 1 (fun f2 => putM f2 33 0) (fun f2 => St.pure true) (fun f2 => methM (cellM 4) (selInst CLS "get_token") (tokG CLS (SP w) g2) (St.pure [])) ((List.range' 0 6).map ai) always (M2 m (SP w) (V3 sz tx none ce ou pu le ch dr none none none none none none none) rws brk due ln s [] [])) = _ from hc]
  rfl
theorem q11_2 {ws : List (List Nat)} {τ : List AO} (hd : due = ws.map .str) (k13 : vs[13]? = some (some (.ref 38))) (k5 : vs[5]? = some (some (.ref 11))) {p : List (List Nat)} : Q_11 w g2 sa ns (M2 m (SP w) vs rws brk due ln s p (.list (ws.map .str) :: τ)) = some (.next, M2 m (SP w) vs rws brk due ln s p (.list (ws.map .str) :: τ)) := by
  have hq := ne_list (σ := M2 m (SP w) vs rws brk due ln s p (.list (ws.map .str) :: τ)) (l := 38) (r := 11) (xs := ws.map .str) (ys := due) rfl rfl (by rw [hd]; exact eqAll_str ws)
  unfold Q_11
  simp only [ifM_ap, truM_ap, cmpM_ap, slotM2, k13, k5, hq, Bool.not_true, tru_bool, pure_ap]
theorem push_2 {p : List (List Nat)} {τ : List AO} (hs : s.length ≤ 900) (hp : p.length < 900) (x : List Nat) : pushG CLS (SP w) g2 [.ref 35, .str x] (M2 m (SP w) vs rws brk due ln s p τ) = some (.none, M2 m (SP w) vs rws brk due ln s (p ++ [x]) τ) := by
  have := lexF_ap (first := .ref 35) (F := pushP) (rest := [.str x]) (v := .none) (ln' := ln) (s' := s) (p' := p ++ [x]) (lexM2 (m := m) (sp := SP w) (c4 := some (.ref 35)) (vs := vs) (rws := rws) (brk := brk) (due := due) (ln := ln) (s := s) (p := p) (τ := τ) hs (by omega)) (by simp only [pushP, Nat.blt_eq.mpr hp])
  exact this
theorem tok_2 {p p1 : List (List Nat)} {τ : List AO} {x : List Nat} (hs : s.length ≤ 900) (hp : p.length ≤ 900) (ht : tokP [] ln s p = some (.str x, ln', s', p1)) : tokG CLS (SP w) g2 [.ref 35] (M2 m (SP w) vs rws brk due ln s p τ) = some (.str x, M2 m (SP w) vs rws brk due ln' s' p1 τ) := by
  have := lexF_ap (first := .ref 35) (F := tokP) (rest := []) (lexM2 (m := m) (sp := SP w) (c4 := some (.ref 35)) (vs := vs) (rws := rws) (brk := brk) (due := due) (ln := ln) (s := s) (p := p) (τ := τ) hs hp) ht
  exact this
theorem q12_2 {a0 a1 a2 b0 b1 b2 : List Nat} (hs : s.length ≤ 900) : Q_12 w g2 sa ns (M2 m (SP w) (V3 sz tx none ce ou pu le ch dr (some (.ref 38)) none none none none none none) rws brk due ln s [] [.list (([a0, b0, a1, b1, a2, b2] : List (List Nat)).map .str)])
    = some (.next, M2 m (SP w) (V3 sz tx (some (ai 2)) ce ou pu le ch dr (some (.ref 38)) none none none none none none) rws brk due ln s [a0, a1, a2] [.list (([a0, b0, a1, b1, a2, b2] : List (List Nat)).map .str)]) := by
  have hra : rangeArgs [.int (3 : Int)] = some (0, ((3 : Nat) : Int), 1) := by kernel_rfl
  have hse : ∀ vs p, p.length ≤ 900 → selInst CLS "push_token" (.ref 35) (M2 m (SP w) vs rws brk due ln s p [.list (([a0, b0, a1, b1, a2, b2] : List (List Nat)).map .str)]) = some [.ref 35] := fun vs p hp => sel_at (lexM2 hs hp) look_pt
  have hix : ∀ vs p (k : Nat) (x : List Nat), ([a0, b0, a1, b1, a2, b2] : List (List Nat))[k]? = some x → idxP (.ref 38) (.int (k : Int)) (M2 m (SP w) vs rws brk due ln s p [.list (([a0, b0, a1, b1, a2, b2] : List (List Nat)).map .str)]) = some (.str x, M2 m (SP w) vs rws brk due ln s p [.list (([a0, b0, a1, b1, a2, b2] : List (List Nat)).map .str)]) := fun vs p k x hx => by
    rw [idx_list (xs := ([a0, b0, a1, b1, a2, b2] : List (List Nat)).map .str) 38 (k : Int) rfl, show okSz (([a0, b0, a1, b1, a2, b2] : List (List Nat)).map AV.str).length = true from rfl]
    have : getAt (([a0, b0, a1, b1, a2, b2] : List (List Nat)).map AV.str) (k : Int) = some (.str x) := by
      show (([a0, b0, a1, b1, a2, b2] : List (List Nat)).map AV.str)[k]? = _
      rw [List.getElem?_map, hx]; rfl
    rw [this]
  have step : ∀ (k : Nat) (x : List Nat) (k0 : Option AV) (p : List (List Nat)), k ≤ 2 → p.length ≤ 100 → ([a0, b0, a1, b1, a2, b2] : List (List Nat))[2 * k]? = some x → QB_12 w g2 sa ns (M2 m (SP w) (V3 sz tx (some (ai k)) ce ou pu le ch dr (some (.ref 38)) none none none none none none) rws brk due ln s p [.list (([a0, b0, a1, b1, a2, b2] : List (List Nat)).map .str)]) = some (.next, M2 m (SP w) (V3 sz tx (some (ai k)) ce ou pu le ch dr (some (.ref 38)) none none none none none none) rws brk due ln s (p ++ [x]) [.list (([a0, b0, a1, b1, a2, b2] : List (List Nat)).map .str)]) := fun k x k0 p hk hp hx => by
    have hm : ∀ σ : List AO, mulP (.int 2) (.int (k : Int)) σ = some (.int ((2 * k : Nat) : Int), σ) := fun σ => by rw [mulL (by rfl)]; rfl
    have h1 := hix (V3 sz tx (some (ai k)) ce ou pu le ch dr (some (.ref 38)) none none none none none none) p (2 * k) x hx
    have h2 := push_2 (w := w) (m := m) (vs := V3 sz tx (some (ai k)) ce ou pu le ch dr (some (.ref 38)) none none none none none none) (rws := rws) (brk := brk) (due := due) (ln := ln) (s := s) (p := p) (τ := [.list (([a0, b0, a1, b1, a2, b2] : List (List Nat)).map .str)]) hs (by omega) x
    have h3 := hse (V3 sz tx (some (ai k)) ce ou pu le ch dr (some (.ref 38)) none none none none none none) p (by omega)
    unfold QB_12
    unfold V3 at h1 h2 h3 ⊢
    simp only [ai] at h1 h2 h3 ⊢
    simp only [exprM_ap, methM_ap, consM_ap, idxM_ap, binM_ap, cell4M2, h3, slotM2, List.getElem?_cons_zero, List.getElem?_cons_succ, pure_ap, hm, h1, List.cons_append, List.nil_append, h2]
  have hput : ∀ (k0 : Option AV) (k : Nat) p, putM 0 30 0 (ai k) (M2 m (SP w) (V3 sz tx k0 ce ou pu le ch dr (some (.ref 38)) none none none none none none) rws brk due ln s p [.list (([a0, b0, a1, b1, a2, b2] : List (List Nat)).map .str)]) = some ((), M2 m (SP w) (V3 sz tx (some (ai k)) ce ou pu le ch dr (some (.ref 38)) none none none none none none) rws brk due ln s p [.list (([a0, b0, a1, b1, a2, b2] : List (List Nat)).map .str)]) := fun k0 k p => by rw [putM2]; rfl
  unfold Q_12
  rw [forM_ap, rangeIt_ap]
  simp only [consM_ap, pure_ap, hra, rangeI_nat]
  rw [show (List.range' 0 3).map ai = [ai 0, ai 1, ai 2] from rfl]
  simp only [for_cons, for_nil, hput]
  rw [step 0 a0 none [] (by omega) (by simp) rfl]
  simp only [hput, List.nil_append]
  rw [step 1 a1 none [a0] (by omega) (by simp) rfl]
  simp only [hput, List.cons_append, List.nil_append]
  rw [step 2 a2 none [a0, a1] (by omega) (by simp) rfl]
  rfl
end
end Mine
end
section
namespace Mine
open PySem PySem.W
theorem map_sub (l : List Nat) : (l.map (65 + ·)).map (· - 65) = l := by
  rw [List.map_map]
  have : ((fun x : Nat => x - 65) ∘ fun x => 65 + x) = id := by funext x; show 65 + x - 65 = x; omega
  rw [this, List.map_id]
theorem del_wd {l r : List Nat} : oneDel (wd l) (wd r) ↔ oneDel l r := by
  constructor
  · rintro ⟨u, v, x, h1, h2⟩
    cases u with
    | nil =>
      rw [List.nil_append] at h1 h2
      rw [← h1] at h2
      unfold wd at h2
      injection h2 with e1 e2
      have := congrArg (List.map (· - 65)) e2
      rw [map_sub, List.map_cons, map_sub] at this
      exact ⟨[], l, 66 - 65, rfl, this⟩
    | cons y u =>
      rw [List.cons_append] at h1 h2
      unfold wd at h1 h2
      injection h1 with _ e1
      injection h2 with _ e2
      have q1 := congrArg (List.map (· - 65)) e1
      have q2 := congrArg (List.map (· - 65)) e2
      rw [map_sub, List.map_append] at q1
      rw [map_sub, List.map_append, List.map_cons] at q2
      exact ⟨_, _, _, q1, q2⟩
  · rintro ⟨u, v, x, rfl, rfl⟩
    exact ⟨wd u, v.map (65 + ·), 65 + x, by simp [wd], by simp [wd]⟩
theorem wd_is {l : List Nat} (h : ∀ x ∈ l, x < 16) : ∀ c ∈ wd l, ∃ a, a ≤ 15 ∧ c = 65 + a := fun c hc => by
  rcases List.mem_cons.mp hc with rfl | hc
  · exact ⟨1, by decide, rfl⟩
  · obtain ⟨x, hx, rfl⟩ := List.mem_map.mp hc
    exact ⟨x, by have := h x hx; omega, rfl⟩
theorem lev_del {l r : List Nat} {mx : Nat} (h : oneDel l r) : levA eqN subN (wd l) (wd r) mx = 2 := levA_del (del_wd.mpr h)
theorem lev_not {l r : List Nat} {mx : Nat} (h2 : 2 ≤ mx) (h3 : mx ≤ 3) (hl : r.length = l.length + 1) (hr : ∀ x ∈ r, x < 16) (hq : ∀ x ∈ l, x < 16) (h : ¬ oneDel l r) : mx < levA eqN subN (wd l) (wd r) mx := by
  refine levA_hi h2 h3 (by rw [wd_len, wd_len, hl]) (fun y hy z hz hne => ?_) (fun q => h (del_wd.mp q))
  obtain ⟨a, ha, rfl⟩ := wd_is hr y hy
  obtain ⟨b, hb, rfl⟩ := wd_is hq z hz
  rw [subN_up ha hb]
  have : (a == b) = false := by
    rw [beq_eq_false_iff_ne]; intro e; exact hne (by rw [e])
  rw [this]; exact Nat.le_refl 2
theorem levG_at2 {σ : List AO} {x y : List Nat} {mx : Nat} (hx : x.length ≤ 30) (hy : y.length ≤ 30) (h1 : ∀ c ∈ x, c < 128) (h2 : ∀ c ∈ y, c < 128) : levG [.str x, .str y, .int (mx : Int)] σ = some (.int (levA eqN subN x y mx : Nat), σ) := by
  have h8 : ∀ z : List Nat, (∀ c ∈ z, c < 128) → (z.all fun x => Nat.blt x 128) = true := fun z h => by
    rw [List.all_eq_true]; intro q hq; exact Nat.blt_eq.mpr (h q hq)
  show guardM _ _ _ = _
  rw [guard_ap, h8 x h1, h8 y h2, Nat.ble_eq_true_of_le hx, Nat.ble_eq_true_of_le hy, decide_eq_true (by omega : (0 : Int) ≤ (mx : Int))]; rfl
end Mine
end
section
namespace Mine
open PySem PySem.Spec PySem.Calls PyProof.Rows PySem.W
noncomputable def BI (w : World) : St AF := (seqM
  (asgM (methM (cellM 4) (selInst CLS "get_token") (tokG CLS (SP w) g2) (St.pure [])) (putM 0 30 17))
  (seqM
  (ifM (truM (cmpM neP (slotM 0 30 17) (idxM (slotM 0 30 4) (slotM 0 30 16)))) (retM (St.pure (.bool false))) (St.pure .next))
  (seqM
  (exprM (methM (cellM 4) (selInst CLS "push_token") (pushG CLS (SP w) g2) (consM (slotM 0 30 17) (St.pure []))))
  (seqM
  (asgM (callM levG (consM (slotM 0 30 17) (consM (slotM 0 30 14) (consM (slotM 0 30 15) (St.pure []))))) (putM 0 30 18))
  (seqM
  (ifM (truM (cmpM isntP (callM typeF (consM (slotM 0 30 18) (St.pure []))) (St.pure (.val (.type "int"))))) (retM (St.pure (.bool false))) (St.pure .next))
  (ifM (cutT (truM (cmpM eqP (callM mendedG (consM (callM figuresG (consM (slotM 0 30 17) (St.pure []))) (consM (slotM 0 30 11) (St.pure [])))) (idxM (slotM 0 30 3) (slotM 0 30 0))))) (ifM (truM (cmpM neP (slotM 0 30 18) (St.pure (.int 2)))) (retM (St.pure (.bool false))) (St.pure .next)) (ifM (truM (cmpM leP (slotM 0 30 18) (slotM 0 30 15))) (retM (St.pure (.bool false))) (St.pure .next))))))))
section
variable {w : World} {sa : Addr} {ns : List Int} {sz kk i bd C Rk : Nat} {r l tx : List Nat} {ce ou pu le dr wo to la : Option AV} {rws brk due : List AV} {m : Nat → AO} {ln : Int} {s : List Nat} {p : List (List Nat)} {τ : List AO}
theorem in2 (hsz : r.length = sz) (h4 : 4 ≤ sz) (h5 : sz ≤ 5) (hr16 : ∀ x ∈ r, x < 16) (hll : l.length + 1 = sz) (hl16 : ∀ x ∈ l, x < 16) (hb2 : 2 ≤ bd) (hb3 : bd ≤ 3) (hbrk : brk[i]? = some (.str (wd l))) (hbl : brk.length ≤ 100) (hrws : rws[kk]? = some (.ref Rk)) (hrl : rws.length ≤ 100)
    (hRk : ∀ vs X, (M2 m (SP w) vs rws brk due ln s (p ++ [wd l]) (τ ++ X))[Rk]? = some (.list (r.map ai))) (hC : ∀ vs X, (M2 m (SP w) vs rws brk due ln s (p ++ [wd l]) (τ ++ X))[C]? = some (.list ((chkOf r).map ai))) (hs : s.length ≤ 900) (hp : p.length ≤ 100) : ∃ to',
    BI w (M2 m (SP w) (V3 sz tx (some (ai kk)) ce ou pu le (some (.ref C)) dr (some (.ref 38)) (some (.str (wd r))) (some (ai bd)) (some (ai i)) wo to la) rws brk due ln s (wd l :: p) τ)
      = some (.next, M2 m (SP w) (V3 sz tx (some (ai kk)) ce ou pu le (some (.ref C)) dr (some (.ref 38)) (some (.str (wd r))) (some (ai bd)) (some (ai i)) (some (.str (wd l))) to' la) rws brk due ln s (p ++ [wd l]) τ) := by
  have hwl8 : ∀ c ∈ wd l, c < 128 := fun c hc => (wd_ok hl16 c hc).2.1
  have hwr8 : ∀ c ∈ wd r, c < 128 := fun c hc => (wd_ok hr16 c hc).2.1
  refine ⟨some (ai (levA eqN subN (wd l) (wd r) bd)), ?_⟩
  have t1 : asgM (methM (cellM 4) (selInst CLS "get_token") (tokG CLS (SP w) g2) (St.pure [])) (putM 0 30 17) (M2 m (SP w) (V3 sz tx (some (ai kk)) ce ou pu le (some (.ref C)) dr (some (.ref 38)) (some (.str (wd r))) (some (ai bd)) (some (ai i)) wo to la) rws brk due ln s (wd l :: p) τ)
      = some (.next, M2 m (SP w) (V3 sz tx (some (ai kk)) ce ou pu le (some (.ref C)) dr (some (.ref 38)) (some (.str (wd r))) (some (ai bd)) (some (ai i)) (some (.str (wd l))) to la) rws brk due ln s p τ) := by
    have hse : ∀ vs, selInst CLS "get_token" (.ref 35) (M2 m (SP w) vs rws brk due ln s (wd l :: p) τ) = some [.ref 35] := fun vs => sel_at (lexM2 hs (by simp only [List.length_cons]; omega)) look_gt
    have htk : ∀ vs, tokG CLS (SP w) g2 [.ref 35] (M2 m (SP w) vs rws brk due ln s (wd l :: p) τ) = some (.str (wd l), M2 m (SP w) vs rws brk due ln s p τ) := fun vs => tok_2 hs (by simp only [List.length_cons]; omega) rfl
    exact o_asg (o_meth (cell4M2 (vs := V3 sz tx (some (ai kk)) ce ou pu le (some (.ref C)) dr (some (.ref 38)) (some (.str (wd r))) (some (ai bd)) (some (ai i)) wo to la)) (hse _) rfl (htk _)) rfl
  have t2 : ifM (truM (cmpM neP (slotM 0 30 17) (idxM (slotM 0 30 4) (slotM 0 30 16)))) (retM (St.pure (.bool false))) (St.pure .next) (M2 m (SP w) (V3 sz tx (some (ai kk)) ce ou pu le (some (.ref C)) dr (some (.ref 38)) (some (.str (wd r))) (some (ai bd)) (some (ai i)) (some (.str (wd l))) to la) rws brk due ln s p τ)
      = some (.next, M2 m (SP w) (V3 sz tx (some (ai kk)) ce ou pu le (some (.ref C)) dr (some (.ref 38)) (some (.str (wd r))) (some (ai bd)) (some (ai i)) (some (.str (wd l))) to la) rws brk due ln s p τ) := by
    have hix : ∀ vs, idxP (.ref 10) (.int (i : Int)) (M2 m (SP w) vs rws brk due ln s p τ) = some (.str (wd l), M2 m (SP w) vs rws brk due ln s p τ) := fun vs => by
      rw [idx_list (xs := brk) 10 (i : Int) rfl, okSz_of (show brk.length ≤ 1000000 by omega)]
      have : getAt brk (i : Int) = some (.str (wd l)) := hbrk
      rw [this]
    exact o_iff (o_tru (o_cmp rfl (o_idx rfl rfl (hix _)) (by rw [neP_str, beq_self_eq_true]; rfl))) rfl
  have t3 : exprM (methM (cellM 4) (selInst CLS "push_token") (pushG CLS (SP w) g2) (consM (slotM 0 30 17) (St.pure []))) (M2 m (SP w) (V3 sz tx (some (ai kk)) ce ou pu le (some (.ref C)) dr (some (.ref 38)) (some (.str (wd r))) (some (ai bd)) (some (ai i)) (some (.str (wd l))) to la) rws brk due ln s p τ)
      = some (.next, M2 m (SP w) (V3 sz tx (some (ai kk)) ce ou pu le (some (.ref C)) dr (some (.ref 38)) (some (.str (wd r))) (some (ai bd)) (some (ai i)) (some (.str (wd l))) to la) rws brk due ln s (p ++ [wd l]) τ) := by
    have hse : ∀ vs, selInst CLS "push_token" (.ref 35) (M2 m (SP w) vs rws brk due ln s p τ) = some [.ref 35] := fun vs => sel_at (lexM2 hs (by omega)) look_pt
    have hpu := fun vs => push_2 (w := w) (m := m) (vs := vs) (rws := rws) (brk := brk) (due := due) (ln := ln) (s := s) (p := p) (τ := τ) hs (by omega) (wd l)
    exact o_expr (o_meth (cell4M2 (vs := V3 sz tx (some (ai kk)) ce ou pu le (some (.ref C)) dr (some (.ref 38)) (some (.str (wd r))) (some (ai bd)) (some (ai i)) (some (.str (wd l))) to la)) (hse _) (o_cons rfl rfl) (hpu _))
  generalize p ++ [wd l] = q at *
  have t4 : asgM (callM levG (consM (slotM 0 30 17) (consM (slotM 0 30 14) (consM (slotM 0 30 15) (St.pure []))))) (putM 0 30 18) (M2 m (SP w) (V3 sz tx (some (ai kk)) ce ou pu le (some (.ref C)) dr (some (.ref 38)) (some (.str (wd r))) (some (ai bd)) (some (ai i)) (some (.str (wd l))) to la) rws brk due ln s q τ)
      = some (.next, M2 m (SP w) (V3 sz tx (some (ai kk)) ce ou pu le (some (.ref C)) dr (some (.ref 38)) (some (.str (wd r))) (some (ai bd)) (some (ai i)) (some (.str (wd l))) (some (ai (levA eqN subN (wd l) (wd r) bd))) la) rws brk due ln s q τ) := by
    have hlv := fun σ => levG_at2 (σ := σ) (x := wd l) (y := wd r) (mx := bd) (by rw [wd_len]; omega) (by rw [wd_len]; omega) hwl8 hwr8
    exact o_asg (o_call (o_cons rfl (o_cons rfl (o_cons rfl rfl))) (hlv _)) rfl
  have hiff := mend_iff (row := r) (less := l) (by omega) (by omega) hr16
  have hlev1 : eqL (mendP l (plc 0 (upsP r) % r.length) (r.sum % 16)) r = true → levA eqN subN (wd l) (wd r) bd = 2 := fun h => lev_del (hiff.mp (eqL_eq h))
  have hlev2 : eqL (mendP l (plc 0 (upsP r) % r.length) (r.sum % 16)) r = false → bd < levA eqN subN (wd l) (wd r) bd := fun h => lev_not hb2 hb3 (by omega) hr16 hl16 (fun q => by rw [hiff.mpr q, eqL_refl] at h; cases h)
  generalize levA eqN subN (wd l) (wd r) bd = told at *
  have t5 : ifM (truM (cmpM isntP (callM typeF (consM (slotM 0 30 18) (St.pure []))) (St.pure (.val (.type "int"))))) (retM (St.pure (.bool false))) (St.pure .next) (M2 m (SP w) (V3 sz tx (some (ai kk)) ce ou pu le (some (.ref C)) dr (some (.ref 38)) (some (.str (wd r))) (some (ai bd)) (some (ai i)) (some (.str (wd l))) (some (ai told)) la) rws brk due ln s q τ)
      = some (.next, M2 m (SP w) (V3 sz tx (some (ai kk)) ce ou pu le (some (.ref C)) dr (some (.ref 38)) (some (.str (wd r))) (some (ai bd)) (some (ai i)) (some (.str (wd l))) (some (ai told)) la) rws brk due ln s q τ) := by
    exact o_iff (o_tru (o_cmp (o_call (o_cons rfl rfl) (typeF_int _)) rfl (by rw [isnt_int]))) rfl
  have hT : cutT (truM (cmpM eqP (callM mendedG (consM (callM figuresG (consM (slotM 0 30 17) (St.pure []))) (consM (slotM 0 30 11) (St.pure [])))) (idxM (slotM 0 30 3) (slotM 0 30 0)))) (M2 m (SP w) (V3 sz tx (some (ai kk)) ce ou pu le (some (.ref C)) dr (some (.ref 38)) (some (.str (wd r))) (some (ai bd)) (some (ai i)) (some (.str (wd l))) (some (ai told)) la) rws brk due ln s q τ)
      = some (eqL (mendP l (plc 0 (upsP r) % r.length) (r.sum % 16)) r, M2 m (SP w) (V3 sz tx (some (ai kk)) ce ou pu le (some (.ref C)) dr (some (.ref 38)) (some (.str (wd r))) (some (ai bd)) (some (ai i)) (some (.str (wd l))) (some (ai told)) la) rws brk due ln s q τ) := by
    generalize hvs : V3 sz tx (some (ai kk)) ce ou pu le (some (.ref C)) dr (some (.ref 38)) (some (.str (wd r))) (some (ai bd)) (some (ai i)) (some (.str (wd l))) (some (ai told)) la = vs
    have v17 : vs[17]? = some (some (.str (wd l))) := by rw [← hvs]; rfl
    have v11 : vs[11]? = some (some (.ref C)) := by rw [← hvs]; rfl
    have v3 : vs[3]? = some (some (.ref 9)) := by rw [← hvs]; rfl
    have v0 : vs[0]? = some (some (.int (kk : Int))) := by rw [← hvs]; rfl
    generalize hmd : mendP l (plc 0 (upsP r) % r.length) (r.sum % 16) = md
    refine cutT_ap (τ := [.list (l.map ai), .list (md.map ai)]) ?_
    have hRk' := hRk vs; have hC' := hC vs
    have hS : ∀ j X, slotM 0 30 j (M2 m (SP w) vs rws brk due ln s q τ ++ X) = (match vs[j]? with | some (some v) => some (v, M2 m (SP w) vs rws brk due ln s q τ ++ X) | _ => none) := fun j X => slotM2 (τ := τ ++ X) j
    have hix : ∀ X, idxP (.ref 9) (.int (kk : Int)) (M2 m (SP w) vs rws brk due ln s q τ ++ X) = some (.ref Rk, M2 m (SP w) vs rws brk due ln s q τ ++ X) := fun X => by
      rw [idx_list (xs := rws) 9 (kk : Int) rfl, okSz_of (show rws.length ≤ 1000000 by omega)]
      have : getAt rws (kk : Int) = some (.ref Rk) := hrws
      rw [this]
    have hR2 : ∀ X, (M2 m (SP w) vs rws brk due ln s q τ ++ X)[Rk]? = some (.list (r.map ai)) := hRk'
    have hC2 : ∀ X, (M2 m (SP w) vs rws brk due ln s q τ ++ X)[C]? = some (.list (([plc 0 (upsP r) % r.length, r.sum % 16] : List Nat).map ai)) := hC'
    have hf := figures_at (σ := M2 m (SP w) vs rws brk due ln s q τ) (ms := l) (by omega) hl16
    have hm := mended_at (σ := M2 m (SP w) vs rws brk due ln s q τ ++ [.list (l.map ai)]) (l := (M2 m (SP w) vs rws brk due ln s q τ).length) (c := C) (less := l) (by rw [get_at0]; rfl) (hC2 _) (by omega) (by omega)
    rw [hmd] at hm
    have he := eq_list (σ := M2 m (SP w) vs rws brk due ln s q τ ++ [.list (l.map ai)] ++ [.list (md.map ai)]) (l := (M2 m (SP w) vs rws brk due ln s q τ ++ [AO.list (l.map ai)]).length) (r := Rk) (by rw [get_at0]; rfl) (by rw [List.append_assoc]; exact hR2 _) (eqAll_ai md r)
    simp only [List.append_assoc, List.cons_append, List.nil_append] at hm he
    have hS0 := hS 17 []
    rw [List.append_nil] at hS0
    have v17' : ∀ X, slotM 0 30 17 (M2 m (SP w) vs rws brk due ln s q τ ++ X) = some (.str (wd l), M2 m (SP w) vs rws brk due ln s q τ ++ X) := fun X => by rw [hS, v17]
    have v17'' : slotM 0 30 17 (M2 m (SP w) vs rws brk due ln s q τ) = some (.str (wd l), M2 m (SP w) vs rws brk due ln s q τ) := by rw [slotM2, v17]
    have v11' : ∀ X, slotM 0 30 11 (M2 m (SP w) vs rws brk due ln s q τ ++ X) = some (.ref C, M2 m (SP w) vs rws brk due ln s q τ ++ X) := fun X => by rw [hS, v11]
    have v3' : ∀ X, slotM 0 30 3 (M2 m (SP w) vs rws brk due ln s q τ ++ X) = some (.ref 9, M2 m (SP w) vs rws brk due ln s q τ ++ X) := fun X => by rw [hS, v3]
    have v0' : ∀ X, slotM 0 30 0 (M2 m (SP w) vs rws brk due ln s q τ ++ X) = some (.int (kk : Int), M2 m (SP w) vs rws brk due ln s q τ ++ X) := fun X => by rw [hS, v0]
    exact o_tru (o_cmp (o_call (o_cons (o_call (o_cons v17'' rfl) hf) (o_cons (v11' _) rfl)) hm) (o_idx (v3' _) (v0' _) (hix _)) he)
  unfold BI
  rw [seq_next t1, seq_next t2, seq_next t3, seq_next t4, seq_next t5, ifM_ap, hT]
  cases hb : eqL (mendP l (plc 0 (upsP r) % r.length) (r.sum % 16)) r with
  | true =>
    have := hlev1 hb
    subst this
    rfl
  | false =>
    have h1 := hlev2 hb
    have hd : decide ((told : Int) ≤ (bd : Int)) = false := by rw [decide_eq_false_iff_not]; omega
    simp only [ifM_ap, truM_ap, cmpM_ap, slotM2, V3, List.getElem?_cons_zero, List.getElem?_cons_succ, ai, leP_int, hd, tru_bool, pure_ap]
end
end Mine
end
section
namespace Mine
open PySem PySem.Spec PySem.Calls PyProof.Rows PySem.W
section
variable {w : World} {sa : Addr} {ns : List Int} {sz kk bd C Rk : Nat} {r l0 l1 l2 tx : List Nat} {ce ou pu le ch dr wh bo i0 wo to la : Option AV} {rws due : List AV} {m : Nat → AO} {ln ln' : Int} {s : List Nat} {τ : List AO}
noncomputable def BK (l0 l1 l2 : List Nat) : List AV := [.str (wd l0), .str (wd l1), .str (wd l2)]
theorem loopI (hsz : r.length = sz) (h4 : 4 ≤ sz) (h5 : sz ≤ 5) (hr16 : ∀ x ∈ r, x < 16) (k0 : l0.length + 1 = sz) (k1 : l1.length + 1 = sz) (k2 : l2.length + 1 = sz) (m0 : ∀ x ∈ l0, x < 16) (m1 : ∀ x ∈ l1, x < 16) (m2 : ∀ x ∈ l2, x < 16) (hb2 : 2 ≤ bd) (hb3 : bd ≤ 3) (hrws : rws[kk]? = some (.ref Rk)) (hrl : rws.length ≤ 100)
    (hRk : ∀ vs p X, (M2 m (SP w) vs rws (BK l0 l1 l2) due ln s p (τ ++ X))[Rk]? = some (.list (r.map ai))) (hC : ∀ vs p X, (M2 m (SP w) vs rws (BK l0 l1 l2) due ln s p (τ ++ X))[C]? = some (.list ((chkOf r).map ai))) (hs : s.length ≤ 900) : ∃ wo' to',
    forM (rangeIt (consM (St.pure (.int 3)) (St.pure []))) (putM 0 30 16) (BI w) (M2 m (SP w) (V3 sz tx (some (ai kk)) ce ou pu le (some (.ref C)) dr (some (.ref 38)) (some (.str (wd r))) (some (ai bd)) i0 wo to la) rws (BK l0 l1 l2) due ln s [wd l0, wd l1, wd l2] τ)
      = some (.next, M2 m (SP w) (V3 sz tx (some (ai kk)) ce ou pu le (some (.ref C)) dr (some (.ref 38)) (some (.str (wd r))) (some (ai bd)) (some (ai 2)) wo' to' la) rws (BK l0 l1 l2) due ln s [wd l0, wd l1, wd l2] τ) := by
  have hra : rangeArgs [.int (3 : Int)] = some (0, ((3 : Nat) : Int), 1) := by kernel_rfl
  have hput : ∀ (i0 wo to : Option AV) (i : Nat) p, putM 0 30 16 (ai i) (M2 m (SP w) (V3 sz tx (some (ai kk)) ce ou pu le (some (.ref C)) dr (some (.ref 38)) (some (.str (wd r))) (some (ai bd)) i0 wo to la) rws (BK l0 l1 l2) due ln s p τ) = some ((), M2 m (SP w) (V3 sz tx (some (ai kk)) ce ou pu le (some (.ref C)) dr (some (.ref 38)) (some (.str (wd r))) (some (ai bd)) (some (ai i)) wo to la) rws (BK l0 l1 l2) due ln s p τ) := fun _ _ _ _ _ => by rw [putM2]; rfl
  obtain ⟨t1, e1⟩ := in2 (w := w) (m := m) (tx := tx) (ce := ce) (ou := ou) (pu := pu) (le := le) (dr := dr) (wo := wo) (to := to) (la := la) (rws := rws) (brk := BK l0 l1 l2) (due := due) (ln := ln) (s := s) (p := [wd l1, wd l2]) (τ := τ) (kk := kk) (i := 0) (bd := bd) (C := C) (Rk := Rk) (r := r) (l := l0) hsz h4 h5 hr16 k0 m0 hb2 hb3 rfl (by simp [BK]) hrws hrl (fun vs X => hRk vs _ X) (fun vs X => hC vs _ X) hs (by simp)
  obtain ⟨t2, e2⟩ := in2 (w := w) (m := m) (tx := tx) (ce := ce) (ou := ou) (pu := pu) (le := le) (dr := dr) (wo := some (.str (wd l0))) (to := t1) (la := la) (rws := rws) (brk := BK l0 l1 l2) (due := due) (ln := ln) (s := s) (p := [wd l2, wd l0]) (τ := τ) (kk := kk) (i := 1) (bd := bd) (C := C) (Rk := Rk) (r := r) (l := l1) hsz h4 h5 hr16 k1 m1 hb2 hb3 rfl (by simp [BK]) hrws hrl (fun vs X => hRk vs _ X) (fun vs X => hC vs _ X) hs (by simp)
  obtain ⟨t3, e3⟩ := in2 (w := w) (m := m) (tx := tx) (ce := ce) (ou := ou) (pu := pu) (le := le) (dr := dr) (wo := some (.str (wd l1))) (to := t2) (la := la) (rws := rws) (brk := BK l0 l1 l2) (due := due) (ln := ln) (s := s) (p := [wd l0, wd l1]) (τ := τ) (kk := kk) (i := 2) (bd := bd) (C := C) (Rk := Rk) (r := r) (l := l2) hsz h4 h5 hr16 k2 m2 hb2 hb3 rfl (by simp [BK]) hrws hrl (fun vs X => hRk vs _ X) (fun vs X => hC vs _ X) hs (by simp)
  refine ⟨some (.str (wd l2)), t3, ?_⟩
  rw [forM_ap, rangeIt_ap]
  simp only [consM_ap, pure_ap, hra, rangeI_nat]
  rw [show (List.range' 0 3).map ai = [ai 0, ai 1, ai 2] from rfl]
  simp only [List.cons_append, List.nil_append] at e1 e2 e3
  rw [for_cons, hput]
  simp only [e1]
  rw [for_cons, hput]
  simp only [e2]
  rw [for_cons, hput]
  simp only [e3]
  rw [for_nil]
theorem qb13_2 {ws : List (List Nat)} {τ' : List AO} {k0' : Option AV} (hsz : r.length = sz) (h4 : 4 ≤ sz) (h5 : sz ≤ 5) (hr16 : ∀ x ∈ r, x < 16) (k0 : l0.length + 1 = sz) (k1 : l1.length + 1 = sz) (k2 : l2.length + 1 = sz) (m0 : ∀ x ∈ l0, x < 16) (m1 : ∀ x ∈ l1, x < 16) (m2 : ∀ x ∈ l2, x < 16) (hk : kk ≤ 2) (hrws : rws[kk]? = some (.ref Rk)) (hrl : rws.length ≤ 100) (hwz : ws.length ≤ 100) (hw : ws[2 * kk + 1]? = some (wd (chkOf r)))
    (hRk : ∀ vs p X, (M2 m (SP w) vs rws (BK l0 l1 l2) due ln s p (.list (ws.map .str) :: (τ' ++ X)))[Rk]? = some (.list (r.map ai))) (hs : s.length ≤ 900) : ∃ e : Nat → Option AV,
    QB_13 w g2 sa ns (M2 m (SP w) (V3 sz tx (some (ai kk)) ce ou pu le ch dr (some (.ref 38)) wh bo i0 wo to la) rws (BK l0 l1 l2) due ln s [wd l0, wd l1, wd l2] (.list (ws.map .str) :: τ'))
      = some (.next, M2 m (SP w) (V3 sz tx (some (ai kk)) ce ou pu le (e 0) dr (some (.ref 38)) (e 1) (e 2) (e 3) (e 4) (e 5) la) rws (BK l0 l1 l2) due ln s [wd l0, wd l1, wd l2] (.list (ws.map .str) :: (τ' ++ [.list ((chkOf r).map ai)]))) := by
  have hch16 : ∀ x ∈ chkOf r, x < 16 := fun x hx => by
    simp only [chkOf, List.mem_cons, List.not_mem_nil, or_false] at hx
    rcases hx with rfl | rfl
    · have := Nat.mod_lt (plc 0 (upsP r)) (show r.length > 0 by omega); omega
    · exact Nat.mod_lt _ (by decide)
  have hchl : (chkOf r).length = 2 := rfl
  have hC : ∀ vs p X, (M2 m (SP w) vs rws (BK l0 l1 l2) due ln s p ((.list (ws.map .str) :: (τ' ++ [.list ((chkOf r).map ai)])) ++ X))[τ'.length + 39]? = some (.list ((chkOf r).map ai)) := fun vs p X => by
    have := get_at0 (σ := M2 m (SP w) vs rws (BK l0 l1 l2) due ln s p (.list (ws.map .str) :: τ')) (τ := .list ((chkOf r).map ai) :: X)
    rw [lenM2, List.length_cons] at this
    rw [List.cons_append, List.append_assoc]
    exact this
  have hR2 : ∀ vs p X, (M2 m (SP w) vs rws (BK l0 l1 l2) due ln s p ((.list (ws.map .str) :: (τ' ++ [.list ((chkOf r).map ai)])) ++ X))[Rk]? = some (.list (r.map ai)) := fun vs p X => by
    rw [List.cons_append, List.append_assoc]; exact hRk vs p _
  have hix : ∀ vs, idxP (.ref 38) (.int ((2 * kk + 1 : Nat) : Int)) (M2 m (SP w) vs rws (BK l0 l1 l2) due ln s [wd l0, wd l1, wd l2] (.list (ws.map .str) :: τ')) = some (.str (wd (chkOf r)), M2 m (SP w) vs rws (BK l0 l1 l2) due ln s [wd l0, wd l1, wd l2] (.list (ws.map .str) :: τ')) := fun vs => by
    rw [idx_list (xs := ws.map .str) 38 _ rfl, okSz_of (show (ws.map AV.str).length ≤ 1000000 by simp; omega)]
    have : getAt (ws.map AV.str) ((2 * kk + 1 : Nat) : Int) = some (.str (wd (chkOf r))) := by
      show (ws.map AV.str)[2 * kk + 1]? = _
      rw [List.getElem?_map, hw]; rfl
    rw [this]
  have hmul : ∀ σ : List AO, mulP (.int 2) (.int (kk : Int)) σ = some (.int ((2 * kk : Nat) : Int), σ) := fun σ => by rw [mulL (by rfl)]; rfl
  have hfg : ∀ vs, figuresG [.str (wd (chkOf r))] (M2 m (SP w) vs rws (BK l0 l1 l2) due ln s [wd l0, wd l1, wd l2] (.list (ws.map .str) :: τ')) = some (.ref (τ'.length + 39), M2 m (SP w) vs rws (BK l0 l1 l2) due ln s [wd l0, wd l1, wd l2] (.list (ws.map .str) :: (τ' ++ [.list ((chkOf r).map ai)]))) := fun vs => by
    have := figures_at (σ := M2 m (SP w) vs rws (BK l0 l1 l2) due ln s [wd l0, wd l1, wd l2] (.list (ws.map .str) :: τ')) (ms := chkOf r) (by omega) hch16
    rw [lenM2, List.length_cons] at this
    exact this
  have t1 : asgM (callM figuresG (consM (idxM (slotM 0 30 13) (binM addP (binM mulP (St.pure (.int 2)) (slotM 0 30 0)) (St.pure (.int 1)))) (St.pure []))) (putM 0 30 11) (M2 m (SP w) (V3 sz tx (some (ai kk)) ce ou pu le ch dr (some (.ref 38)) wh bo i0 wo to la) rws (BK l0 l1 l2) due ln s [wd l0, wd l1, wd l2] (.list (ws.map .str) :: τ'))
      = some (.next, M2 m (SP w) (V3 sz tx (some (ai kk)) ce ou pu le (some (.ref (τ'.length + 39))) dr (some (.ref 38)) wh bo i0 wo to la) rws (BK l0 l1 l2) due ln s [wd l0, wd l1, wd l2] (.list (ws.map .str) :: (τ' ++ [.list ((chkOf r).map ai)]))) := by
    have hadd : ((2 * kk : Nat) : Int) + 1 = ((2 * kk + 1 : Nat) : Int) := rfl
    simp only [asgM_ap, callM_ap, consM_ap, idxM_ap, binM_ap, slotM2, V3, List.getElem?_cons_zero, List.getElem?_cons_succ, ai, pure_ap, hmul, addP_int, hadd, hix, hfg, nextM_ap, putM2, List.set_cons_zero, List.set_cons_succ]
  generalize τ'.length + 39 = C at *
  generalize hτ : (.list (ws.map .str) :: (τ' ++ [.list ((chkOf r).map ai)]) : List AO) = τ at *
  have t2 : asgM (callM toldG (consM (idxM (slotM 0 30 3) (slotM 0 30 0)) (consM (negM (St.pure (.int 1))) (St.pure [])))) (putM 0 30 14) (M2 m (SP w) (V3 sz tx (some (ai kk)) ce ou pu le (some (.ref C)) dr (some (.ref 38)) wh bo i0 wo to la) rws (BK l0 l1 l2) due ln s [wd l0, wd l1, wd l2] τ)
      = some (.next, M2 m (SP w) (V3 sz tx (some (ai kk)) ce ou pu le (some (.ref C)) dr (some (.ref 38)) (some (.str (wd r))) bo i0 wo to la) rws (BK l0 l1 l2) due ln s [wd l0, wd l1, wd l2] τ) := by
    have hx : ∀ vs, idxP (.ref 9) (.int (kk : Int)) (M2 m (SP w) vs rws (BK l0 l1 l2) due ln s [wd l0, wd l1, wd l2] τ) = some (.ref Rk, M2 m (SP w) vs rws (BK l0 l1 l2) due ln s [wd l0, wd l1, wd l2] τ) := fun vs => by
      rw [idx_list (xs := rws) 9 (kk : Int) rfl, okSz_of (show rws.length ≤ 1000000 by omega)]
      have : getAt rws (kk : Int) = some (.ref Rk) := hrws
      rw [this]
    have ht : ∀ vs, toldG [.ref Rk, .int (-1)] (M2 m (SP w) vs rws (BK l0 l1 l2) due ln s [wd l0, wd l1, wd l2] τ) = some (.str (wd r), M2 m (SP w) vs rws (BK l0 l1 l2) due ln s [wd l0, wd l1, wd l2] τ) := fun vs => by
      have h0 := hR2 vs [wd l0, wd l1, wd l2] []
      rw [List.append_nil] at h0
      exact told_at h0 (.inr rfl) (by omega) hr16
    simp only [asgM_ap, callM_ap, consM_ap, idxM_ap, negM_ap, slotM2, V3, List.getElem?_cons_zero, List.getElem?_cons_succ, ai, pure_ap, hx, ht, nextM_ap, putM2, List.set_cons_zero, List.set_cons_succ]
  have t3 : asgM (binM addP (St.pure (.int 2)) (binM modP (slotM 0 30 0) (St.pure (.int 2)))) (putM 0 30 15) (M2 m (SP w) (V3 sz tx (some (ai kk)) ce ou pu le (some (.ref C)) dr (some (.ref 38)) (some (.str (wd r))) bo i0 wo to la) rws (BK l0 l1 l2) due ln s [wd l0, wd l1, wd l2] τ)
      = some (.next, M2 m (SP w) (V3 sz tx (some (ai kk)) ce ou pu le (some (.ref C)) dr (some (.ref 38)) (some (.str (wd r))) (some (ai (2 + kk % 2))) i0 wo to la) rws (BK l0 l1 l2) due ln s [wd l0, wd l1, wd l2] τ) := by
    have hadd : (2 : Int) + ((kk % 2 : Nat) : Int) = ((2 + kk % 2 : Nat) : Int) := rfl
    simp only [asgM_ap, binM_ap, slotM2, V3, List.getElem?_cons_zero, List.getElem?_cons_succ, ai, pure_ap, mod_2, addP_int, hadd, nextM_ap, putM2, List.set_cons_zero, List.set_cons_succ]
  obtain ⟨wo', to', t4⟩ := loopI (w := w) (m := m) (tx := tx) (ce := ce) (ou := ou) (pu := pu) (le := le) (dr := dr) (i0 := i0) (wo := wo) (to := to) (la := la) (rws := rws) (due := due) (ln := ln) (s := s) (τ := τ) (kk := kk) (bd := 2 + kk % 2) (C := C) (Rk := Rk) hsz h4 h5 hr16 k0 k1 k2 m0 m1 m2 (by omega) (by omega) hrws hrl hR2 hC hs
  refine ⟨fun i => ([some (.ref C), some (.str (wd r)), some (ai (2 + kk % 2)), some (ai 2), wo', to'] : List (Option AV)).getD i none, ?_⟩
  unfold QB_13
  rw [seq_next t1, seq_next t2, seq_next t3]
  exact t4
end
end Mine
end
section
namespace Mine
open PySem PySem.Spec PySem.Calls PyProof.Rows PySem.W
theorem andVM_ap {σ : List AO} (p q : St AV) : andVM p q σ = (match p σ with | some (a, ρ) => (match truthP a ρ with | some (true, ρ') => q ρ' | some (false, ρ') => some (a, ρ') | none => none) | none => none) := by
  unfold andVM; rw [bind_ap]
  cases p σ with
  | none => rfl
  | some r =>
    obtain ⟨a, ρ⟩ := r
    simp only [bind_ap]
    cases truthP a ρ with
    | none => rfl
    | some r2 => obtain ⟨b, ρ'⟩ := r2; cases b <;> rfl
theorem add_list {σ : List AO} {l r : Nat} {xs ys : List AV} (h1 : σ[l]? = some (.list xs)) (h2 : σ[r]? = some (.list ys)) (h : xs.length + ys.length ≤ 1000000) : addP (.ref l) (.ref r) σ = some (.ref σ.length, σ ++ [.list (xs ++ ys)]) := by
  have g1 : getList l σ = some xs := by unfold getList; rw [h1]
  have g2 : getList r σ = some ys := by unfold getList; rw [h2]
  show (match getList l σ, getList r σ with | some xs, some ys => guardM (okSz (xs.length + ys.length)) (allocM (.list (xs ++ ys))) σ | _, _ => none) = _
  rw [g1, g2]
  simp only [guard_ap, okSz_of h]
  rfl
section
variable {w : World} {sa : Addr} {ns : List Int} {sz : Nat} {r0 r1 r2 l0 l1 l2 tx : List Nat} {ce ou pu le ch dr wh bo i0 wo to la : Option AV} {due : List AV} {m : Nat → AO} {ln ln' : Int} {s : List Nat} {τ : List AO}
theorem q13_2 {ws : List (List Nat)} {k0' : Option AV} (h4 : 4 ≤ sz) (h5 : sz ≤ 5)
    (z0 : r0.length = sz) (z1 : r1.length = sz) (z2 : r2.length = sz) (s0 : ∀ x ∈ r0, x < 16) (s1 : ∀ x ∈ r1, x < 16) (s2 : ∀ x ∈ r2, x < 16)
    (k0 : l0.length + 1 = sz) (k1 : l1.length + 1 = sz) (k2 : l2.length + 1 = sz) (m0 : ∀ x ∈ l0, x < 16) (m1 : ∀ x ∈ l1, x < 16) (m2 : ∀ x ∈ l2, x < 16)
    (hw : ws = [wd l0, wd (chkOf r0), wd l1, wd (chkOf r1), wd l2, wd (chkOf r2)])
    (h8 : m 8 = .list (r0.map ai)) (h16 : m 16 = .list (r1.map ai)) (h20 : m 20 = .list (r2.map ai)) (hs : s.length ≤ 900) : ∃ (e : Nat → Option AV) (τ' : List AO),
    Q_13 w g2 sa ns (M2 m (SP w) (V3 sz tx k0' ce ou pu le ch dr (some (.ref 38)) wh bo i0 wo to la) [.ref 8, .ref 16, .ref 20] (BK l0 l1 l2) due ln s [wd l0, wd l1, wd l2] [.list (ws.map .str)])
      = some (.next, M2 m (SP w) (V3 sz tx (some (ai 2)) ce ou pu le (e 0) dr (some (.ref 38)) (e 1) (e 2) (e 3) (e 4) (e 5) la) [.ref 8, .ref 16, .ref 20] (BK l0 l1 l2) due ln s [wd l0, wd l1, wd l2] τ') := by
  have hra : rangeArgs [.int (3 : Int)] = some (0, ((3 : Nat) : Int), 1) := by kernel_rfl
  have hput : ∀ (k0 ch wh bo i0 wo to : Option AV) (i : Nat) τ, putM 0 30 0 (ai i) (M2 m (SP w) (V3 sz tx k0 ce ou pu le ch dr (some (.ref 38)) wh bo i0 wo to la) [.ref 8, .ref 16, .ref 20] (BK l0 l1 l2) due ln s [wd l0, wd l1, wd l2] τ) = some ((), M2 m (SP w) (V3 sz tx (some (ai i)) ce ou pu le ch dr (some (.ref 38)) wh bo i0 wo to la) [.ref 8, .ref 16, .ref 20] (BK l0 l1 l2) due ln s [wd l0, wd l1, wd l2] τ) := fun _ _ _ _ _ _ _ _ _ => by rw [putM2]; rfl
  have hwz : ws.length ≤ 100 := by rw [hw]; simp
  obtain ⟨v1, e1⟩ := qb13_2 (w := w) (sa := sa) (ns := ns) (m := m) (tx := tx) (ce := ce) (ou := ou) (pu := pu) (le := le) (ch := ch) (dr := dr) (wh := wh) (bo := bo) (i0 := i0) (wo := wo) (to := to) (la := la) (rws := [.ref 8, .ref 16, .ref 20]) (due := due) (ln := ln) (s := s) (ws := ws) (τ' := []) (k0' := none) (kk := 0) (Rk := 8) (r := r0) (l0 := l0) (l1 := l1) (l2 := l2) z0 h4 h5 s0 k0 k1 k2 m0 m1 m2 (by omega) rfl (by simp) hwz (by rw [hw]; rfl) (fun vs p X => by rw [← h8]; rfl) hs
  obtain ⟨v2, e2⟩ := qb13_2 (w := w) (sa := sa) (ns := ns) (m := m) (tx := tx) (ce := ce) (ou := ou) (pu := pu) (le := le) (ch := v1 0) (dr := dr) (wh := v1 1) (bo := v1 2) (i0 := v1 3) (wo := v1 4) (to := v1 5) (la := la) (rws := [.ref 8, .ref 16, .ref 20]) (due := due) (ln := ln) (s := s) (ws := ws) (τ' := [] ++ [.list ((chkOf r0).map ai)]) (k0' := none) (kk := 1) (Rk := 16) (r := r1) (l0 := l0) (l1 := l1) (l2 := l2) z1 h4 h5 s1 k0 k1 k2 m0 m1 m2 (by omega) rfl (by simp) hwz (by rw [hw]; rfl) (fun vs p X => by rw [← h16]; rfl) hs
  obtain ⟨v3, e3⟩ := qb13_2 (w := w) (sa := sa) (ns := ns) (m := m) (tx := tx) (ce := ce) (ou := ou) (pu := pu) (le := le) (ch := v2 0) (dr := dr) (wh := v2 1) (bo := v2 2) (i0 := v2 3) (wo := v2 4) (to := v2 5) (la := la) (rws := [.ref 8, .ref 16, .ref 20]) (due := due) (ln := ln) (s := s) (ws := ws) (τ' := ([] ++ [.list ((chkOf r0).map ai)]) ++ [.list ((chkOf r1).map ai)]) (k0' := none) (kk := 2) (Rk := 20) (r := r2) (l0 := l0) (l1 := l1) (l2 := l2) z2 h4 h5 s2 k0 k1 k2 m0 m1 m2 (by omega) rfl (by simp) hwz (by rw [hw]; rfl) (fun vs p X => by rw [← h20]; rfl) hs
  refine ⟨v3, .list (ws.map .str) :: ((([] ++ [.list ((chkOf r0).map ai)]) ++ [.list ((chkOf r1).map ai)]) ++ [.list ((chkOf r2).map ai)]), ?_⟩
  unfold Q_13
  rw [forM_ap, rangeIt_ap]
  simp only [consM_ap, pure_ap, hra, rangeI_nat]
  rw [show (List.range' 0 3).map ai = [ai 0, ai 1, ai 2] from rfl]
  rw [for_cons, hput]
  simp only [e1]
  rw [for_cons, hput]
  simp only [e2]
  rw [for_cons, hput]
  simp only [e3]
  rw [for_nil]
theorem read_pend {a b c : List Nat} (hs : s.length ≤ 900) (he : lexW s ln = some ([], ln', [])) : readW 4 ln s [a, b, c] = some ([a, b, c, []], ln', [], []) := by
  have hb := Nat.ble_eq_true_of_le hs
  have t0 : tokP [] ln s [] = some (.str [], ln', [], []) := by
    show (match lexW s ln with | some (w, ln', s') => some (AV.str w, ln', s', []) | none => none) = _
    rw [he]
  have r1 : readW 1 ln s [] = some ([[]], ln', [], []) := by
    unfold readW; rw [t0]; rfl
  have r2 : readW 2 ln s [c] = some ([c, []], ln', [], []) := by
    unfold readW
    rw [show tokP [] ln s [c] = some (.str c, ln, s, []) from rfl]
    simp only [hb, List.length_nil, show Nat.ble 0 900 = true from rfl, Bool.and_self, r1]
  have r3 : readW 3 ln s [b, c] = some ([b, c, []], ln', [], []) := by
    unfold readW
    rw [show tokP [] ln s [b, c] = some (.str b, ln, s, [c]) from rfl]
    simp only [hb, List.length_cons, List.length_nil, Nat.zero_add, show Nat.ble 1 900 = true from rfl, Bool.and_self, r2]
  unfold readW
  rw [show tokP [] ln s [a, b, c] = some (.str a, ln, s, [b, c]) from rfl]
  simp only [hb, List.length_cons, List.length_nil, Nat.zero_add, Nat.reduceAdd, show Nat.ble 2 900 = true from rfl, Bool.and_self, r3]
theorem q14_2 {k : Option AV} {rws brk : List AV} {a b c : List Nat} (hs : s.length ≤ 900) (he : lexW s ln = some ([], ln', [])) : Q_14 w g2 sa ns (M2 m (SP w) (V3 sz tx k ce ou pu le ch dr (some (.ref 38)) wh bo i0 wo to none) rws brk due ln s [a, b, c] τ)
    = some (.next, M2 m (SP w) (V3 sz tx k ce ou pu le ch dr (some (.ref 38)) wh bo i0 wo to (some (.ref (τ.length + 38)))) rws brk due ln' [] [] (τ ++ [.list (([a, b, c, []] : List (List Nat)).map .str)])) := by
  have hc := compR_tok (C := CLS) (sp := SP w) (g := g2) (k := 34) (cl := 4) (ρ := M2 m (SP w) (V3 sz tx k ce ou pu le ch dr (some (.ref 38)) wh bo i0 wo to none) rws brk due ln s [a, b, c] τ) (vs := (List.range' 0 4).map ai) (lexM2 hs (by simp)) rfl (read_pend hs he) (by decide)
  have hra : rangeArgs [.int (4 : Int)] = some (0, ((4 : Nat) : Int), 1) := by kernel_rfl
  unfold Q_14
  rw [asgM_ap, compM_ap, rangeIt_ap]
  simp only [consM_ap, pure_ap, hra, rangeI_nat]
  rw [show (compR 34 1 (fun f2 => putM f2 34 0) (fun f2 => St.pure true) (fun f2 => methM (cellM 4) (selInst CLS "get_token") (tokG CLS (SP w) g2) (St.pure [])) ((List.range' 0 4).map ai) always (M2 m (SP w) (V3 sz tx k ce ou pu le ch dr (some (.ref 38)) wh bo i0 wo to none) rws brk due ln s [a, b, c] τ)) = _ from hc]
  rfl
theorem q15_2 {vs : List (Option AV)} {rws : List AV} {a b c : List Nat} (v19 : vs[19]? = some (some (.ref (τ.length + 38)))) (v4 : vs[4]? = some (some (.ref 10))) (v6 : vs[6]? = some (some (.str tx))) (hln : ln = 1 + (cntN 10 tx : Nat)) : ∃ σ',
    Q_15 w g2 sa ns (M2 m (SP w) vs rws [.str a, .str b, .str c] due ln [] [] (τ ++ [.list (([a, b, c, []] : List (List Nat)).map .str)])) = some (.ret (.bool true), σ') ∧ σ'[5]? = some .tab := by
  have hsc : ∀ σ, scountF [.str tx, .str [10]] σ = some (.int (cntN 10 tx : Nat), σ) := fun σ => by rw [← strCount_one]; rfl
  have h38 : ∀ X, (M2 m (SP w) vs rws [.str a, .str b, .str c] due ln [] [] ((τ ++ [.list (([a, b, c, []] : List (List Nat)).map .str)]) ++ X))[τ.length + 38]? = some (.list (([a, b, c, []] : List (List Nat)).map .str)) := fun X => by
    show ((τ ++ [.list (([a, b, c, []] : List (List Nat)).map .str)]) ++ X)[τ.length]? = _
    rw [List.append_assoc, get_at0]; rfl
  generalize τ.length + 38 = j at *
  generalize hT : τ ++ [.list (([a, b, c, []] : List (List Nat)).map .str)] = T at *
  have hadd := add_list (σ := M2 m (SP w) vs rws [.str a, .str b, .str c] due ln [] [] T ++ [.list [.str []]]) (l := 10) (r := (M2 m (SP w) vs rws [.str a, .str b, .str c] due ln [] [] T).length) (xs := [.str a, .str b, .str c]) (ys := [.str []]) rfl (by rw [get_at0]; rfl) (by simp)
  simp only [List.cons_append, List.nil_append] at hadd
  have heq := eq_list (σ := (M2 m (SP w) vs rws [.str a, .str b, .str c] due ln [] [] T ++ [.list [.str []]]) ++ [.list [.str a, .str b, .str c, .str []]]) (l := j) (r := (M2 m (SP w) vs rws [.str a, .str b, .str c] due ln [] [] T ++ [AO.list [.str []]]).length) (xs := ([a, b, c, []] : List (List Nat)).map .str) (ys := [.str a, .str b, .str c, .str []]) (by rw [List.append_assoc]; exact h38 _) (by rw [get_at0]; rfl) (eqAll_str [a, b, c, []])
  refine ⟨(M2 m (SP w) vs rws [.str a, .str b, .str c] due ln [] [] T ++ [.list [.str []]]) ++ [.list [.str a, .str b, .str c, .str []]], ?_, rfl⟩
  have hl := lexM2 (m := m) (sp := SP w) (c4 := some (.ref 35)) (vs := vs) (rws := rws) (brk := [.str a, .str b, .str c]) (due := due) (ln := ln) (s := []) (p := []) (τ := (T ++ [.list [.str []]]) ++ [.list [.str a, .str b, .str c, .str []]]) (by simp) (by simp)
  have hat : attrV CLS "lineno" (.ref 35) ((M2 m (SP w) vs rws [.str a, .str b, .str c] due ln [] [] T ++ [.list [.str []]]) ++ [.list [.str a, .str b, .str c, .str []]]) = some (.int ln, (M2 m (SP w) vs rws [.str a, .str b, .str c] due ln [] [] T ++ [.list [.str []]]) ++ [.list [.str a, .str b, .str c, .str []]]) := attr_at hl look_line rfl
  have hS : ∀ i, slotM 0 30 i ((M2 m (SP w) vs rws [.str a, .str b, .str c] due ln [] [] T ++ [.list [.str []]]) ++ [.list [.str a, .str b, .str c, .str []]]) = (match vs[i]? with | some (some v) => some (v, (M2 m (SP w) vs rws [.str a, .str b, .str c] due ln [] [] T ++ [.list [.str []]]) ++ [.list [.str a, .str b, .str c, .str []]]) | _ => none) := fun i => slotM2 (τ := (T ++ _) ++ _) i
  have h4 : cellM 4 ((M2 m (SP w) vs rws [.str a, .str b, .str c] due ln [] [] T ++ [.list [.str []]]) ++ [.list [.str a, .str b, .str c, .str []]]) = some (.ref 35, (M2 m (SP w) vs rws [.str a, .str b, .str c] due ln [] [] T ++ [.list [.str []]]) ++ [.list [.str a, .str b, .str c, .str []]]) := rfl
  have hb : (ln == 1 + ((cntN 10 tx : Nat) : Int)) = true := by rw [hln]; exact beq_self_eq_true _
  unfold Q_15
  simp only [retM_ap, andVM_ap, cmpM_ap, binM_ap, slotM2, v19, v4, listM_ap, consM_ap, pure_ap, List.length_cons, List.length_nil, Nat.zero_add, show okSz 1 = true from rfl, hadd, heq, tru_bool, attrM_ap, h4, hat, methM_ap, hS, v6, selStr_ap, hsc, addP_int, List.cons_append, List.nil_append, eqP_int, hb]
end
theorem run2 (ns : List Int) (w : World) (sa : Addr) : ∃ g σ', R_0 w g sa ns (st0 (tbls 30).length [some (.ref sa), none, none, none] PT) = some (.ret (.bool true), σ') ∧ σ'[5]? = some .tab := by
  have hs : st0 (tbls 30).length [some (.ref sa), none, none, none] PT = H2 sa (List.replicate 20 none) none none T2 [] := by kernel_rfl
  obtain ⟨c0, c1, cc, c5, h0⟩ := q01_2 (w := w) (sa := sa) (ns := ns)
  have h2 := p2_2 (w := w) (g := g2) (sa := sa) (ns := ns) (c0 := c0) (c1 := c1) (cc := cc) (c5 := c5)
  have h4 : 4 ≤ 4 + c0 % 2 := by omega
  have h5 : 4 + c0 % 2 ≤ 5 := by omega
  have z0 := rowOf_len c0 (4 + c0 % 2)
  have s0 := rowOf_lt c0 (4 + c0 % 2)
  generalize 4 + c0 % 2 = sz at *
  generalize rowOf c0 sz = r0 at *
  obtain ⟨e, h8⟩ := made_2 (w := w) (g := g2) (sa := sa) (ns := ns) (c0 := c0) (c1 := c1) (cc := cc) (c5 := c5) z0 h4 h5 s0
  have z1 := next_len (c := c1) z0 h4
  have s1 := next_lt (sz := sz) (c := c1) s0
  have k0 := less_len (c := c1) z0 h4
  have m0 := less_lt (sz := sz) (c := c1) s0
  have t0 := rnd_len (c := c1) z0 h4 h5
  have z2 := next_len (c := cc) z1 h4
  have s2 := next_lt (sz := sz) (c := cc) s1
  have k1 := less_len (c := cc) z1 h4
  have m1 := less_lt (sz := sz) (c := cc) s1
  have t1 := rnd_len (c := cc) z1 h4 h5
  have k2 := less_len (c := c5) z2 h4
  have m2 := less_lt (sz := sz) (c := c5) s2
  have t2 := rnd_len (c := c5) z2 h4 h5
  generalize hr1 : nextOf r0 sz c1 = r1 at *
  generalize hr2 : nextOf r1 sz cc = r2 at *
  have hchk : ∀ r : List Nat, 4 ≤ r.length → r.length ≤ 5 → ∀ x ∈ chkOf r, x < 16 := fun r a b x hx => by
    simp only [chkOf, List.mem_cons, List.not_mem_nil, or_false] at hx
    rcases hx with rfl | rfl
    · have := Nat.mod_lt (plc 0 (upsP r)) (show r.length > 0 by omega); omega
    · exact Nat.mod_lt _ (by decide)
  have ok : ∀ l : List Nat, (∀ x ∈ l, x < 16) → ∀ d : Nat, wd l ≠ [] ∧ ∀ c ∈ wd l, okL c = true := fun l h d => ⟨by simp [wd], fun c hc => (wd_ok h c hc).1⟩
  have htl : (txt (rnd r0 sz c1 ++ rnd r1 sz cc ++ rnd r2 sz c5)).length ≤ 90 := by
    simp only [txt, rnd, List.cons_append, List.nil_append, List.flatMap_cons, List.flatMap_nil, List.append_nil, List.length_append] at t0 t1 t2 ⊢
    omega
  have hall : ∀ e ∈ rnd r0 sz c1 ++ rnd r1 sz cc ++ rnd r2 sz c5, e.1 ≠ [] ∧ ∀ c ∈ e.1, okL c = true := fun e he => by
    simp only [rnd, List.cons_append, List.nil_append, List.mem_cons, List.not_mem_nil, or_false] at he
    rcases he with rfl | rfl | rfl | rfl | rfl | rfl
    · exact ok _ m0 0
    · exact ok _ (hchk _ (by omega) (by omega)) 0
    · exact ok _ m1 0
    · exact ok _ (hchk _ (by omega) (by omega)) 0
    · exact ok _ m2 0
    · exact ok _ (hchk _ (by omega) (by omega)) 0
  obtain ⟨ln', s', hrd, hp, hs', hcnt⟩ := read_txt (rnd r0 sz c1 ++ rnd r1 sz cc ++ rnd r2 sz c5) [] 1 (.inl rfl) hall (by rw [List.nil_append]; omega)
  rw [List.nil_append] at hrd hcnt
  obtain ⟨ln2, hlx, hln2⟩ := lex_none hp ln'
  generalize hws : (rnd r0 sz c1 ++ rnd r1 sz cc ++ rnd r2 sz c5).map (·.1) = ws at *
  have hdue : (rnd r0 sz c1 ++ rnd r1 sz cc ++ rnd r2 sz c5).map (fun e => AV.str e.1) = ws.map .str := by rw [← hws, List.map_map]; rfl
  rw [hdue] at h8
  have hws' : ws = [wd (lessOf r0 sz c1), wd (chkOf r0), wd (lessOf r1 sz cc), wd (chkOf r1), wd (lessOf r2 sz c5), wd (chkOf r2)] := by rw [← hws]; rfl
  have hrd6 : readW 6 1 (txt (rnd r0 sz c1 ++ rnd r1 sz cc ++ rnd r2 sz c5)) [] = some (ws, ln', s', []) := hrd
  clear hrd hws hdue
  generalize txt (rnd r0 sz c1 ++ rnd r1 sz cc ++ rnd r2 sz c5) = tx at *
  have o16 : (OB c0 c1 cc c5 sz r0 r1 r2)[10]?.getD .dead = .list (r1.map ai) := by rw [← hr1]; rfl
  have o20 : (OB c0 c1 cc c5 sz r0 r1 r2)[14]?.getD .dead = .list (r2.map ai) := by rw [← hr2]; rfl
  have h9 := file_2 (w := w) (sa := sa) (ns := ns) (c0 := c0) (c1 := c1) (cc := cc) (c5 := c5) (sz := sz) (r0 := r0) (r1 := r1) (r2 := r2) (tx := tx) (ce := some (ai c5)) (ou := e 0) (pu := e 1) (le := e 2) (ch := e 3) (dr := e 4) (rws := [.ref 8, .ref 16, .ref 20]) (brk := [.str (wd (lessOf r0 sz c1)), .str (wd (lessOf r1 sz cc)), .str (wd (lessOf r2 sz c5))]) (due := ws.map .str) (by omega)
  have hm8 : mX2 sa tx (OB c0 c1 cc c5 sz r0 r1 r2) 8 = .list (r0.map ai) := rfl
  have hm16 : mX2 sa tx (OB c0 c1 cc c5 sz r0 r1 r2) 16 = .list (r1.map ai) := o16
  have hm20 : mX2 sa tx (OB c0 c1 cc c5 sz r0 r1 r2) 20 = .list (r2.map ai) := o20
  generalize mX2 sa tx (OB c0 c1 cc c5 sz r0 r1 r2) = m at *
  have h10 := words_2 (w := w) (sa := sa) (ns := ns) (sz := sz) (tx := tx) (ce := some (ai c5)) (ou := e 0) (pu := e 1) (le := e 2) (ch := e 3) (dr := e 4) (rws := [.ref 8, .ref 16, .ref 20]) (brk := [.str (wd (lessOf r0 sz c1)), .str (wd (lessOf r1 sz cc)), .str (wd (lessOf r2 sz c5))]) (due := ws.map .str) (m := m) (ln := 1) (s := tx) (by omega) hrd6
  have h11 := q11_2 (w := w) (sa := sa) (ns := ns) (vs := V3 sz tx none (some (ai c5)) (e 0) (e 1) (e 2) (e 3) (e 4) (some (.ref 38)) none none none none none none) (rws := [.ref 8, .ref 16, .ref 20]) (brk := [.str (wd (lessOf r0 sz c1)), .str (wd (lessOf r1 sz cc)), .str (wd (lessOf r2 sz c5))]) (due := ws.map .str) (m := m) (ln := ln') (s := s') (ws := ws) (τ := []) (p := []) rfl rfl rfl
  have h12 := q12_2 (w := w) (sa := sa) (ns := ns) (sz := sz) (tx := tx) (ce := some (ai c5)) (ou := e 0) (pu := e 1) (le := e 2) (ch := e 3) (dr := e 4) (rws := [.ref 8, .ref 16, .ref 20]) (brk := [.str (wd (lessOf r0 sz c1)), .str (wd (lessOf r1 sz cc)), .str (wd (lessOf r2 sz c5))]) (due := ws.map .str) (m := m) (ln := ln') (s := s') (a0 := wd (lessOf r0 sz c1)) (b0 := wd (chkOf r0)) (a1 := wd (lessOf r1 sz cc)) (b1 := wd (chkOf r1)) (a2 := wd (lessOf r2 sz c5)) (b2 := wd (chkOf r2)) hs'
  rw [← hws'] at h12
  obtain ⟨v2, τ', h13⟩ := q13_2 (w := w) (sa := sa) (ns := ns) (sz := sz) (tx := tx) (ce := some (ai c5)) (ou := e 0) (pu := e 1) (le := e 2) (ch := e 3) (dr := e 4) (wh := none) (bo := none) (i0 := none) (wo := none) (to := none) (la := none) (due := ws.map .str) (m := m) (ln := ln') (s := s') (k0' := some (ai 2)) h4 h5 z0 z1 z2 s0 s1 s2 k0 k1 k2 m0 m1 m2 hws' hm8 hm16 hm20 hs'
  have h14 := q14_2 (w := w) (sa := sa) (ns := ns) (sz := sz) (tx := tx) (ce := some (ai c5)) (ou := e 0) (pu := e 1) (le := e 2) (ch := v2 0) (dr := e 4) (wh := v2 1) (bo := v2 2) (i0 := v2 3) (wo := v2 4) (to := v2 5) (due := ws.map .str) (m := m) (ln := ln') (ln' := ln2) (s := s') (k := some (ai 2)) (rws := [.ref 8, .ref 16, .ref 20]) (brk := [.str (wd (lessOf r0 sz c1)), .str (wd (lessOf r1 sz cc)), .str (wd (lessOf r2 sz c5))]) (a := wd (lessOf r0 sz c1)) (b := wd (lessOf r1 sz cc)) (c := wd (lessOf r2 sz c5)) (τ := τ') hs' hlx
  obtain ⟨σ', h15, hσ⟩ := q15_2 (w := w) (sa := sa) (ns := ns) (m := m) (due := ws.map .str) (ln := ln2) (τ := τ') (tx := tx) (vs := V3 sz tx (some (ai 2)) (some (ai c5)) (e 0) (e 1) (e 2) (v2 0) (e 4) (some (.ref 38)) (v2 1) (v2 2) (v2 3) (v2 4) (v2 5) (some (.ref (τ'.length + 38)))) (rws := [.ref 8, .ref 16, .ref 20]) (a := wd (lessOf r0 sz c1)) (b := wd (lessOf r1 sz cc)) (c := wd (lessOf r2 sz c5)) rfl rfl rfl (by omega)
  rw [hs]
  refine ⟨g2, σ', ((h0 g2).trans (h2.trans (h8.trans h9))).trans ?_, hσ⟩
  unfold R_10
  rw [seq_next h10]
  unfold R_11
  rw [seq_next h11]
  unfold R_12
  rw [seq_next h12]
  unfold R_13
  refine (seq_next h13).trans ?_
  unfold R_14
  refine (seq_next h14).trans ?_
  exact h15
end Mine
end
section
namespace Mine
open PySem PySem.Spec PySem.Calls PyProof.Rows PySem.W
theorem fin2 {w : World} {base : Heap} {mg mb : Str → Option Value} {mean : ExcName → Option Value} {loose : List Str} {L : Nat} {fa : Addr} {cd : Value} {m cm : Str → Option Value} {cells : List (Addr × Obj)} {s : Shared} {sa : Addr} {vs : List Value} {ns : List Int} {D : DefRec}
    (F : Fr base L s.heap m) (N : News base L s.heap (cells ++ [(79, tabObj #[])])) (X0 : CellsAre cm (cellsFrom (L + 1) D.scope.names []) cells) (T : Top topProg loose mean mg mb base) (X : (KK w).In base) (hList : base.IsList sa vs.toArray) (hInts : IntsAre vs ns) (hCd : CodeHd base 83 79)
    (l0 : 79 < L) (hlen : ns.length ≤ 63) (hsc : D.scope = scopeOf (KK w) 135) (hm : ((tbls 30).all fun x => (m x).isNone) = true)
    (hcs : (cellsFrom (L + 1) D.scope.names []).map (fun p => (cm p.1, p.2)) = mkc (L + 1) [some (.ref sa), none, none, none]) (hcl : cellsFrom (L + 1) D.scope.names [] = ([("line", 4), ("cells", 3), ("starts", 2), ("script", 1)] : List (Str × Nat)).map fun p => (p.1, L + p.2))
    (hbody : D.body = (List.range 16).map (stAt (KK w) 135)) {Q : Flow → Shared → Prop} {E : Value → Shared → Prop}
    (hQ : ∀ s', (∀ b o, base.get? b = some o → s'.heap.get? b = some o) → (∃ ps, s'.heap.get? 79 = some (tabObj ps)) → s'.os = s.os → s'.gens = s.gens → Q (.ret (.bool true)) s') :
    wpAny (model PySem.Challenge.pw_sc0037_02 w) (callerA.deeper (envOfC D.name D.scope L fa cd)) (execs D.body (envOfC D.name D.scope L fa cd)) Q E s := by
  have B : Base (cx w base) (KK w) mg mb := ⟨X, T.g, T.b, T.builtins, ⟨T.nolimit⟩⟩
  obtain ⟨g, σ', h1, h2⟩ := run2 ns w sa
  have hBI : ∃ bm o, mg "__builtins__" = some (.ref bm) ∧ bm ≠ builtinsNs ∧ bm ≠ mainGlobals ∧ base.get? bm = some o ∧ o.cls = .type "module" ∧ o.dict = some builtinsNs ∧ ∀ P, base.get? P = none → base.BuiltinsAt mg P := by
    obtain ⟨bm, ob, a1, a2, a3, a4, a5, a6⟩ := T.bmain
    refine ⟨bm, ob, a1, a2, fun e => ?_, a3, a4, a5, fun P hP => ⟨bm, ob, a1, a2, ?_, fun e => ?_, a3, a4, a5, a6⟩⟩
    · obtain ⟨o, es, ep, ho, hd, _⟩ := T.g
      rw [← e, a3] at ho; cases ho
      rw [a6] at hd; cases hd
    · intro e
      obtain ⟨o, es, ep, ho, hd, _⟩ := T.g
      rw [← e, a3] at ho; cases ho
      rw [a6] at hd; cases hd
    · rw [e, hP] at a3; cases a3
  have hCH : ∀ (θ : Th) (σ : List AO) (s : Shared), R (cx w base) θ σ s.heap → σ[PL]? = some (.raw PT (tabObj #[])) → CodeHd s.heap 83 (θ PL) := fun θ σ s r e => by
    obtain ⟨e1, e2⟩ := r.get e
    rw [e1]; exact hCd.keeps r.keep
  exact head_law B (sc := scopeOf (KK w) 135) F N X0 l0 hsc hm (show List.Nodup (tbls 30) from by decide) hcs hcl rfl rfl hbody (fun cd q => rr_0 B g hBI hCH hList hInts hlen) ⟨σ', h1, h2⟩ hQ
theorem law2 : PySem.Challenge.rw_sc0037_02.Holds := by
  refine hd ?_
  intro w s₀ s₁ mg mb G Y fa o pm cd doc dV kV ho hd hcd hD hmg hg args vals as hpre hlay hrd hwl hlo
  have KX := km_in_of Y
  have hT8 := km_tabs_of Y
  have X := (Ground.X G).1
  have V := (Ground.X G).2
  refine Ground.open G ?_
  intro T B D TE TW
  try (refine guard_noD D (by decide +kernel) ?_; clear D)
  have hT9 : TabsAt [(83,79)] _ := List.forall_mem_cons.mpr ⟨⟨codeHd_of_K (c := 83) (P := 79) KX (by kernel_rfl), hT8 79 (List.mem_cons_self ..)⟩, fun _ h => nomatch h⟩
  clear hmg
  wrow_args hpre hlay hrd hwl hlo
  all_goals (
    first | refine callC_kw (enter_call ?_) | refine enter_call ?_
    w_top on
    kn_posts
    w_call any ho hd hcd hD T F
    clear hd
    kn_ghosts F T
    k_drop
    skip)
  rename Fr _ _ _ _ => F
  rename News _ _ _ _ => N
  rename CellsAre _ _ _ => X0
  rename Top topProg _ _ _ _ _ => T'
  rename Frag.In _ (ghostOf _ _) => X'
  rename Heap.IsList (ghostOf _ _) _ _ => hList
  rename IntsAre _ _ => hInts
  rename CodeHd (ghostOf _ _) _ _ => hCd
  rename _ < _ => l0
  rename ¬ (_ : Int) < _ => hlen
  rename _ = #[] => hg
  have hlen' := Int.ofNat_le.mp (Int.not_lt.mp hlen)
  refine fin2 (cells := [_, _, _, _]) F N X0 T' X' hList hInts hCd l0 hlen' (by kernel_rfl) (by kernel_rfl) (by kernel_rfl) (by kernel_rfl) (Eq.trans (b := bodyOf (KK _) 135) (by kernel_rfl) (body_eta (by kernel_rfl))) ?_
  intro s' hk hp ho hg'
  exact ⟨good_true (fun _ => rfl) (by kernel_rfl) hk ho (hg'.trans hg), hp, trivial⟩
end Mine
end
theorem PySem.Challenge.cw_sc0037_02_holds : PySem.Challenge.rw_sc0037_02.Holds := by
  exact Mine.law2
