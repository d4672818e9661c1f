import PyProof.Rows.All
import Wide.All
import OpenK.AllK
import Wide.FinOn
import PySem.Challenge.RW_am6019_01
section
open PySem PySem.W PySem.Calls PyProof.Rows
set_option Elab.async false
set_option maxRecDepth 100000
namespace Mine

/-! ## the text's own parts, by their places -/
noncomputable def nth : Nat → List Stmt → Stmt
  | _, [] => .Pass default
  | 0, st :: _ => st
  | n + 1, _ :: r => nth n r
def bodyOf : Stmt → List Stmt
  | .FunctionDef _ _ b _ _ _ _ _ _ _ => b
  | .ClassDef _ _ _ b _ _ _ _ _ _ _ => b
  | _ => []
def scopeOf : Stmt → Scope
  | .FunctionDef _ _ _ _ _ _ s _ _ _ => s
  | _ => default
def argsOf : Stmt → Arguments
  | .FunctionDef _ a _ _ _ _ _ _ _ _ => a
  | _ => default
noncomputable def top (i : Nat) : Stmt := nth i PySem.Challenge.pw_am6019_01.main.body
noncomputable def meth (i j : Nat) : Stmt := nth j (bodyOf (top i))

/-! ## a ghost map of the made objects -/
abbrev Tag := Nat × Nat × Int
abbrev Cel := Tag × (Obj → Prop)
abbrev TM := Addr → Option Cel
def upd (T : TM) (a : Addr) (c : Cel) : TM := fun b => if b = a then some c else T b
theorem upd_self {T : TM} {a : Addr} {c : Cel} : upd T a c a = some c := if_pos rfl
theorem upd_ne {T : TM} {a b : Addr} {c : Cel} (h : b ≠ a) : upd T a c b = T b := if_neg h
theorem upd_upd {T : TM} {a : Addr} {c c' : Cel} : upd (upd T a c) a c' = upd T a c' := by
  funext b; unfold upd; by_cases h : b = a <;> simp [h]
theorem upd_same {T : TM} {a : Addr} {c : Cel} (h : T a = some c) : upd T a c = T := by
  funext b; unfold upd; by_cases e : b = a
  · rw [if_pos e, e, h]
  · rw [if_neg e]
/-- one map holds what another holds -/
def Sub (T T' : TM) : Prop := ∀ a c, T a = some c → T' a = some c
theorem Sub.refl (T : TM) : Sub T T := fun _ _ h => h
theorem Sub.trans {T₁ T₂ T₃ : TM} (h : Sub T₁ T₂) (h' : Sub T₂ T₃) : Sub T₁ T₃ := fun a c e => h' a c (h a c e)
theorem Sub.upd {T T' : TM} {a : Addr} {c : Cel} (h : Sub T T') (hn : T a = none) : Sub T (upd T' a c) := fun b d e => by
  have : b ≠ a := fun q => by rw [q, hn] at e; cases e
  rw [upd_ne this]; exact h b d e
theorem Sub.new {T : TM} {a : Addr} {c : Cel} (hn : T a = none) : Sub T (Mine.upd T a c) := Sub.upd (Sub.refl T) hn
theorem ne_of_tag {T : TM} {a b : Addr} {c d : Cel} (ha : T a = some c) (hb : T b = some d) (h : c.1 ≠ d.1) : a ≠ b := fun e => by
  subst e; rw [ha] at hb; exact h (congrArg Prod.fst (Option.some.inj hb))
theorem ne_of_none {T : TM} {a b : Addr} {c : Cel} (ha : T a = some c) (hb : T b = none) : a ≠ b := fun e => by
  subst e; rw [ha] at hb; cases hb

abbrev OG := OsState × Array GenState

theorem nm_upd {T : TM} {d a : Addr} {c x : Cel} (h : ∀ a c, T a = some c → sysModules < a) (hd : sysModules < d) (e : upd T d c a = some x) : sysModules < a := by
  unfold upd at e
  split at e
  · rename_i q; rw [q]; exact hd
  · exact h _ _ e

structure StH (B : Heap) (L : Addr) (T : TM) (m : Str → Option Value) (O : OG) (h : Heap) (g : Array GenState) (os : OsState) : Prop where
  ns : h.Ns L m
  keep : ∀ b o, B.get? b = some o → h.get? b = some o
  LB : B.get? L = none
  sat : ∀ a c, T a = some c → a ≠ L ∧ B.get? a = none ∧ ∃ o, h.get? a = some o ∧ c.2 o
  gens : g = O.2
  os : os = O.1
  nm : ∀ a c, T a = some c → sysModules < a
  big : sysModules < L

abbrev St (B : Heap) (L : Addr) (T : TM) (m : Str → Option Value) (O : OG) (s : Shared) : Prop := StH B L T m O s.heap s.gens s.os

section
variable {B : Heap} {L : Addr} {T : TM} {m : Str → Option Value} {O : OG} {s : Shared}

theorem St.neL (S : St B L T m O s) {a : Addr} {c : Cel} (h : T a = some c) : a ≠ L := (S.sat a c h).1
theorem St.neB (S : St B L T m O s) {a : Addr} {c : Cel} (h : T a = some c) : B.get? a = none := (S.sat a c h).2.1
theorem St.obj (S : St B L T m O s) {a : Addr} {c : Cel} (h : T a = some c) : ∃ o, s.heap.get? a = some o ∧ c.2 o := (S.sat a c h).2.2
theorem St.lt (S : St B L T m O s) {a : Addr} {c : Cel} (h : T a = some c) : a < s.heap.objs.size := let ⟨_, e, _⟩ := S.obj h; Heap.lt_size e
theorem St.none_of (S : St B L T m O s) {a : Addr} (h : s.heap.objs.size ≤ a) : T a = none := by
  cases e : T a with
  | none => rfl
  | some c => exact absurd (S.lt e) (Nat.not_lt.mpr h)
theorem St.new_none (S : St B L T m O s) : T s.heap.objs.size = none := S.none_of (Nat.le_refl _)
theorem St.B_none (S : St B L T m O s) {a : Addr} (h : s.heap.get? a = none) : B.get? a = none := by
  cases e : B.get? a with
  | none => rfl
  | some o => rw [S.keep _ _ e] at h; cases h
theorem get_size_none (h : Heap) : h.get? h.objs.size = none := by
  cases e : h.get? h.objs.size with
  | none => rfl
  | some o => exact absurd (Heap.lt_size e) (Nat.lt_irrefl _)
theorem St.newB (S : St B L T m O s) : B.get? s.heap.objs.size = none := S.B_none (get_size_none _)
theorem St.Lnone (S : St B L T m O s) : T L = none := by
  cases e : T L with
  | none => rfl
  | some c => exact absurd rfl (S.neL e)
theorem St.ltL (S : St B L T m O s) : L < s.heap.objs.size := S.ns.lt

theorem St.tok (S : St B L T m O s) (t : Nat) : St B L T m O { s with toks := t } := ⟨S.ns, S.keep, S.LB, S.sat, S.gens, S.os, S.nm, S.big⟩
/-- more is in the heap, and what was there stands -/
theorem St.keeps (S : St B L T m O s) {h' : Heap} (k : ∀ b o, s.heap.get? b = some o → h'.get? b = some o) : St B L T m O { s with heap := h' } :=
  ⟨S.ns.keeps k, fun b o e => k _ _ (S.keep b o e), S.LB, fun a c e => let ⟨h1, h2, o, ho, hp⟩ := S.sat a c e; ⟨h1, h2, o, k _ _ ho, hp⟩, S.gens, S.os, S.nm, S.big⟩
/-- an object that the map does not name may turn -/
theorem St.but (S : St B L T m O s) {h' : Heap} {d : Addr} (hL : d ≠ L) (hB : B.get? d = none) (hT : T d = none) (k : ∀ b o, b ≠ d → s.heap.get? b = some o → h'.get? b = some o) : St B L T m O { s with heap := h' } :=
  ⟨S.ns.at' fun o e => k _ o (Ne.symm hL) e, fun b o e => k b o (fun q => by rw [q, hB] at e; cases e) (S.keep b o e), S.LB,
    fun a c e => let ⟨h1, h2, o, ho, hp⟩ := S.sat a c e; ⟨h1, h2, o, k _ _ (fun q => by rw [q, hT] at e; cases e) ho, hp⟩, S.gens, S.os, S.nm, S.big⟩
theorem St.push (S : St B L T m O s) (o : Obj) {c : Cel} (hc : c.2 o) (hf : o.isFreed = false) : St B L (upd T s.heap.objs.size c) m O { s with heap := s.heap.push o } :=
  ⟨S.ns.push o, fun b o' e => Heap.get?_push_of_some o (S.keep b o' e), S.LB, fun a d e => by
    unfold upd at e
    split at e
    · rename_i q; cases e; rw [q]
      exact ⟨Nat.ne_of_gt S.ltL, S.newB, o, Heap.get?_push_size _ hf, hc⟩
    · let ⟨h1, h2, o', ho, hp⟩ := S.sat a d e
      exact ⟨h1, h2, o', Heap.get?_push_of_some o ho, hp⟩, S.gens, S.os, fun a d e => nm_upd S.nm (Nat.lt_trans S.big S.ltL) e, S.big⟩
/-- the same, with no word of the new one -/
theorem St.pushN (S : St B L T m O s) (o : Obj) : St B L T m O { s with heap := s.heap.push o } := S.keeps fun _ _ e => Heap.get?_push_of_some o e
theorem St.change (S : St B L T m O s) {h' : Heap} {d : Addr} {c c' : Cel} {o' : Obj} (hd : T d = some c) (k : ∀ b o, b ≠ d → s.heap.get? b = some o → h'.get? b = some o) (ho : h'.get? d = some o') (hp : c'.2 o') :
    St B L (upd T d c') m O { s with heap := h' } :=
  ⟨S.ns.at' fun o e => k _ o (Ne.symm (S.neL hd)) e, fun b o e => k b o (fun q => by rw [q, S.neB hd] at e; cases e) (S.keep b o e), S.LB,
    fun a x e => by
      unfold upd at e
      split at e
      · rename_i q; cases e; rw [q]; exact ⟨S.neL hd, S.neB hd, o', ho, hp⟩
      · rename_i q
        let ⟨h1, h2, o, ho, hp⟩ := S.sat a x e
        exact ⟨h1, h2, o, k _ _ q ho, hp⟩, S.gens, S.os, fun a d e => nm_upd S.nm (S.nm _ _ hd) e, S.big⟩
theorem St.forget (S : St B L T m O s) {T' : TM} (h : Sub T' T) : St B L T' m O s := ⟨S.ns, S.keep, S.LB, fun a c e => S.sat a c (h a c e), S.gens, S.os, fun a c e => S.nm a c (h a c e), S.big⟩
theorem St.local (S : St B L T m O s) {h' : Heap} {m' : Str → Option Value} (hn : h'.Ns L m') (hs : Heap.SameBut L s.heap h') : St B L T m' O { s with heap := h' } :=
  ⟨hn, fun b o e => (hs.2 b (fun q => by rw [q, S.LB] at e; cases e)).trans (S.keep b o e), S.LB, fun a c e => let ⟨h1, h2, o, ho, hp⟩ := S.sat a c e; ⟨h1, h2, o, (hs.2 a h1).trans ho, hp⟩, S.gens, S.os, S.nm, S.big⟩
/-- what a cell says may be read otherwise -/
theorem St.retag (S : St B L T m O s) {d : Addr} {c c' : Cel} (hd : T d = some c) (hp : ∀ o, c.2 o → c'.2 o) : St B L (upd T d c') m O s :=
  ⟨S.ns, S.keep, S.LB, fun a x e => by
      unfold upd at e
      split at e
      · rename_i q; cases e; rw [q]
        let ⟨h1, h2, o, ho, h⟩ := S.sat d c hd
        exact ⟨h1, h2, o, ho, hp o h⟩
      · exact S.sat a x e, S.gens, S.os, fun a d e => nm_upd S.nm (S.nm _ _ hd) e, S.big⟩
theorem St.mapEq (S : St B L T m O s) {m' : Str → Option Value} (h : m = m') : St B L T m' O s := h ▸ S
end

/-! ## a new base: all that the map does not name stands still -/
def mask (h : Heap) (T : TM) (L : Addr) : Heap := ⟨h.objs.mapIdx fun i o => if (T i).isSome || i == L then { o with data := .freed } else o, h.life⟩
theorem mask_none {h : Heap} {T : TM} {L b : Addr} (hb : (T b).isSome = true ∨ b = L) : (mask h T L).get? b = none := by
  unfold Heap.get? mask
  simp only [Array.getElem?_mapIdx]
  cases h.objs[b]? with
  | none => rfl
  | some o =>
    have : ((T b).isSome || b == L) = true := by rcases hb with e | e; simp [e]; simp [e]
    simp [this]
theorem mask_get {h : Heap} {T : TM} {L b : Addr} (h1 : T b = none) (h2 : b ≠ L) : (mask h T L).get? b = h.get? b := by
  unfold Heap.get? mask
  simp only [Array.getElem?_mapIdx]
  cases h.objs[b]? with
  | none => rfl
  | some o => simp [h1, h2]
theorem of_mask {h : Heap} {T : TM} {L b : Addr} {o : Obj} (e : (mask h T L).get? b = some o) : T b = none ∧ b ≠ L ∧ h.get? b = some o := by
  have h1 : T b = none := by
    cases q : T b with
    | none => rfl
    | some c => rw [mask_none (.inl (by rw [q]; rfl))] at e; cases e
  have h2 : b ≠ L := fun q => by rw [mask_none (.inr q)] at e; cases e
  exact ⟨h1, h2, by rw [mask_get h1 h2] at e; exact e⟩
section
variable {B : Heap} {L : Addr} {T : TM} {m : Str → Option Value} {O : OG} {s : Shared}
theorem St.into (S : St B L T m O s) : St (mask s.heap T L) L T m O s :=
  ⟨S.ns, fun _ _ e => (of_mask e).2.2, mask_none (.inr rfl), fun a c e => let ⟨h1, _, r⟩ := S.sat a c e; ⟨h1, mask_none (.inl (by rw [e]; rfl)), r⟩, S.gens, S.os, S.nm, S.big⟩
theorem St.under (S : St B L T m O s) {b : Addr} {o : Obj} (e : B.get? b = some o) : (mask s.heap T L).get? b = some o := by
  have h1 : T b = none := by
    cases q : T b with
    | none => rfl
    | some c => rw [S.neB q] at e; cases e
  have h2 : b ≠ L := fun q => by rw [q, S.LB] at e; cases e
  rw [mask_get h1 h2]; exact S.keep b o e
/-- back to the old base -/
theorem St.back {B₁ : Heap} {T' : TM} {m' : Str → Option Value} {s' : Shared} (S' : St B₁ L T' m' O s') (hB : ∀ b o, B.get? b = some o → B₁.get? b = some o) : St B L T' m' O s' :=
  have none {a : Addr} (h : B₁.get? a = none) : B.get? a = none := by
    cases e : B.get? a with
    | none => rfl
    | some o => rw [hB _ _ e] at h; cases h
  ⟨S'.ns, fun b o e => S'.keep b o (hB b o e), none S'.LB, fun a c e => let ⟨h1, h2, r⟩ := S'.sat a c e; ⟨h1, none h2, r⟩, S'.gens, S'.os, S'.nm, S'.big⟩
end

/-! ## names -/
def fs (m : Str → Option Value) (x : Str) (v : Value) : Str → Option Value := fun y => if y = x then some v else m y
theorem fs_eq {m : Str → Option Value} {x : Str} {v : Value} : fs m x v x = some v := if_pos rfl
theorem fs_ne {m : Str → Option Value} {x y : Str} {v : Value} {o : Option Value} (h : (x == y) = false) (e : m x = o) : fs m y v x = o := (if_neg (fun q => by rw [q, beq_self_eq_true] at h; cases h)).trans e
theorem fs_fs {m : Str → Option Value} {x : Str} {v v' : Value} : fs (fs m x v) x v' = fs m x v' := by funext y; unfold fs; split <;> rfl
section
variable {M : Model} {A : Around} {E : Value → Shared → Prop} {B : Heap} {T : TM} {m : Str → Option Value} {O : OG} {s : Shared} {env : Env} {x : Str} {pos : Pos} {v : Value} {Q : Value → Shared → Prop}

def CellP (v : Option Value) (o : Obj) : Prop := o.data = .cell v

theorem ldS (S : St B env.locals T m O s) (hv : m x = some v) (h : Q v s) (hk : env.scope.kind = .function := by rfl) (hl : env.kindOf x = some .local := by rfl) (hd : (x == ("__debug__" : Str)) = false := by decide) :
    wpAny M A (eval (.Name x pos) env) Q E s := wpAny_Name (wpAny_loadName_local hk hl S.ns hv h) hd
theorem ldnS (S : St B env.locals T m O s) (hv : m x = some v) (h : Q v s) (hk : env.scope.kind = .function := by rfl) (hl : env.kindOf x = some .local := by rfl) :
    wpAny M A (loadName env x) Q E s := wpAny_loadName_local hk hl S.ns hv h
theorem stS {Q : Unit → Shared → Prop} (S : St B env.locals T m O s) (h : ∀ s', St B env.locals T (fs m x v) O s' → Q () s') (hk : env.scope.kind = .function := by rfl) (hl : env.kindOf x = some .local := by rfl) :
    wpAny M A (storeName env x v) Q E s :=
  wpAny_storeName_local hl S.ns (fun h' hn hs => h _ ((S.local hn hs).tok _)) (by rw [hk]; rfl)
theorem ldCellS {L : Addr} {c : Addr} {t : Tag} (S : St B L T m O s) (hc : env.cells.lookup x = some c) (hT : T c = some (t, CellP (some v))) (h : Q v s) (hk : env.scope.kind = .function := by rfl) (hl : env.kindOf x = some .cell := by rfl) (hd : (x == ("__debug__" : Str)) = false := by decide) :
    wpAny M A (eval (.Name x pos) env) Q E s := wpAny_Name (wpAny_loadName_cell hk hl hc (S.obj hT) h) hd
theorem ldFreeS {L : Addr} {c : Addr} {t : Tag} (S : St B L T m O s) (hc : env.cells.lookup x = some c) (hT : T c = some (t, CellP (some v))) (h : Q v s) (hk : env.scope.kind = .function := by rfl) (hl : env.kindOf x = some .free := by rfl) (hd : (x == ("__debug__" : Str)) = false := by decide)
    (hcd : (x == ("__classdict__" : Str)) = false := by decide) :
    wpAny M A (eval (.Name x pos) env) Q E s := wpAny_Name (wpAny_loadName_free hk hl hc (S.obj hT) h hcd) hd
theorem stCellS {L : Addr} {c : Addr} {t : Tag} {v₀ : Option Value} {Q : Unit → Shared → Prop} (S : St B L T m O s) (hc : env.cells.lookup x = some c) (hT : T c = some (t, CellP v₀)) (h : ∀ s', St B L (upd T c (t, CellP (some v))) m O s' → Q () s')
    (hk : env.scope.kind = .function := by rfl) (hl : env.kindOf x = some .cell := by rfl) : wpAny M A (storeName env x v) Q E s :=
  wpAny_storeName_cell hk hl hc (S.obj hT) fun h' hc' hs => let ⟨_, ho, hp⟩ := hc'; h _ (S.change hT (fun b o hb e => (hs.2 b hb).trans e) ho hp)

/-- the world's names -/
structure Wd (K : Frag) (mg mb : Str → Option Value) (B : Heap) : Prop where
  X : K.In B
  g : B.Ns mainGlobals mg
  b : B.Ns builtinsNs mb
  bi : ∀ x, x ≠ ("__name__" : Str) → mb x = bootBuiltins x
  lim : B.NoLimit
  bm : ∃ a o, mg "__builtins__" = some (.ref a) ∧ a ≠ builtinsNs ∧ B.get? a = some o ∧ o.cls = .type "module" ∧ o.dict = some builtinsNs ∧ o.data = .plain

theorem Wd.keeps {K : Frag} {mg mb : Str → Option Value} {B' : Heap} (W : Wd K mg mb B) (k : ∀ b o, B.get? b = some o → B'.get? b = some o) : Wd K mg mb B' := ⟨W.X.keeps k, W.g.keeps k, W.b.keeps k, W.bi, W.lim.keeps k, let ⟨a, o, h1, h2, h3, r⟩ := W.bm; ⟨a, o, h1, h2, k _ _ h3, r⟩⟩
theorem ldGlobS {K : Frag} {mg mb : Str → Option Value} {L : Addr} (W : Wd K mg mb B) (S : St B L T m O s) (e : nsIn K mainGlobals x = some (some v)) (h : Q v s)
    (hk : env.scope.kind = .function := by rfl) (hl : env.kindOf x = some .globalImplicit := by rfl) (hg : env.globals = mainGlobals := by rfl) (hd : (x == ("__debug__" : Str)) = false := by decide) : wpAny M A (eval (.Name x pos) env) Q E s := by
  have hn := W.g.keeps S.keep
  rw [← hg] at hn
  exact Calls.Name_function_global hk hl (Calls.loadGlobal_global hn (mg_of W.X W.g e) h) hd
theorem ldBuilS {K : Frag} {mg mb : Str → Option Value} {L : Addr} (W : Wd K mg mb B) (S : St B L T m O s) (e : nsIn K mainGlobals x = some none) (hv : bootBuiltins x = some v) (hx : x ≠ ("__name__" : Str)) (h : Q v s)
    (hk : env.scope.kind = .function := by rfl) (hl : env.kindOf x = some .globalImplicit := by rfl) (hg : env.globals = mainGlobals := by rfl) (hb : env.builtins = builtinsNs := by rfl) (hd : (x == ("__debug__" : Str)) = false := by decide) : wpAny M A (eval (.Name x pos) env) Q E s := by
  have hn := W.g.keeps S.keep
  rw [← hg] at hn
  have hn2 := W.b.keeps S.keep
  rw [← hb] at hn2
  exact Calls.Name_function_global hk hl (Calls.loadGlobal_builtin hn (mg_none_of W.X W.g e) hn2 ((W.bi x hx).trans hv) h) hd
end
end Mine
end
section
open PySem PySem.W PySem.Calls PyProof.Rows
set_option Elab.async false
set_option maxRecDepth 100000
namespace Mine

abbrev NoR : Value → Shared → Prop := fun _ _ => False
theorem noR {α : Type} {M : Model} {A : Around} {t : Sem α} {Q : α → Shared → Prop} {E : Value → Shared → Prop} {s : Shared} (h : wpAny M A t Q NoR s) : wpAny M A t Q E s := wpAny_mono h (fun _ _ x => x) fun _ _ x => x.elim

abbrev envF (qual : Str) (st : Stmt) (L f : Addr) (cdv : Value) (cells : List (Str × Addr)) : Env :=
  { scope := scopeOf st, locals := L, globals := mainGlobals, cells := cells, qual := qual ++ ".<locals>.", func := some f, code := cdv, frame := some L, builtins := builtinsNs }

structure FnIs (K : Frag) (f : Addr) (st : Stmt) (qual : Str) (dV cdv : Value) : Prop where
  ex : ∃ name kV doc pm an ct oc od sl, K.lookup f = some ⟨oc, od, .func (fnOf name qual (argsOf st) (bodyOf st) (scopeOf st) dV kV doc pm an cdv ct), sl⟩
  cd : codeIn K cdv qual = true

def valOf : Flow → Value
  | .ret v => v
  | _ => .none

section
variable {prog : Program} {w : World} {A : Around} {E : Value → Shared → Prop} {K : Frag} {mg mb : Str → Option Value} {B : Heap} {L : Addr} {T : TM} {m : Str → Option Value} {O : OG} {s : Shared}

/-- a call's end: the frame is left, the made objects stand -/
def Ends (B' : Heap) (L' : Addr) (B : Heap) (L : Addr) (m : Str → Option Value) (O : OG) (Q : Value → Shared → Prop) (fl : Flow) (s'' : Shared) : Prop :=
  ∃ T' m', St B' L' T' m' O s'' ∧ (St B L T' m O s'' → Q (valOf fl) s'')

theorem St.call (S : St B L T m O s) {h₁ : Heap} {m₁ : Str → Option Value} {tk : Nat} (hn : h₁.Ns s.heap.objs.size m₁) (hk : ∀ b o, s.heap.get? b = some o → h₁.get? b = some o) :
    St (mask s.heap T s.heap.objs.size) s.heap.objs.size T m₁ O { s with heap := h₁, toks := tk } :=
  ⟨hn, fun b o e => hk b o (of_mask e).2.2, mask_none (.inr rfl), fun a c e => let ⟨_, _, o, ho, hp⟩ := S.sat a c e; ⟨Nat.ne_of_lt (S.lt e), mask_none (.inl (by rw [e]; rfl)), o, hk _ _ ho, hp⟩, S.gens, S.os, S.nm, Nat.lt_trans S.big S.ltL⟩
theorem St.underC (S : St B L T m O s) {b : Addr} {o : Obj} (e : B.get? b = some o) : (mask s.heap T s.heap.objs.size).get? b = some o := by
  have h1 : T b = none := by
    cases q : T b with
    | none => rfl
    | some c => rw [S.neB q] at e; cases e
  have h2 : b ≠ s.heap.objs.size := Nat.ne_of_lt (Heap.lt_size (S.keep _ _ e))
  rw [mask_get h1 h2]; exact S.keep b o e
theorem St.ret (S : St B L T m O s) {L' : Addr} {T' : TM} {m' : Str → Option Value} {s' : Shared} (S' : St (mask s.heap T s.heap.objs.size) L' T' m' O s') : St B L T' m O s' := by
  obtain ⟨oL, es, ep, hL, r⟩ := S.ns
  have hLm : (mask s.heap T s.heap.objs.size).get? L = some oL := by rw [mask_get S.Lnone (Nat.ne_of_lt S.ltL)]; exact hL
  have nn {a : Addr} (h : (mask s.heap T s.heap.objs.size).get? a = none) : B.get? a = none := by
    cases e : B.get? a with
    | none => rfl
    | some o => rw [S.underC e] at h; cases h
  refine ⟨⟨oL, es, ep, S'.keep _ _ hLm, r⟩, fun b o e => S'.keep b o (S.underC e), S.LB, fun a c e => ?_, S'.gens, S'.os, S'.nm, S.big⟩
  obtain ⟨_, h2, h3⟩ := S'.sat a c e
  exact ⟨(fun q => by rw [q, hLm] at h2; cases h2), nn h2, h3⟩

theorem callF {f : Addr} {st : Stmt} {qual : Str} {dV cdv : Value} {args : Args} {binds : List (Str × Value)} {Q : Value → Shared → Prop}
    (W : Wd K mg mb B) (S : St B L T m O s) (hroom : A.depth < recursionLimit) (hf : FnIs K f st qual dV cdv)
    (hbind : ∀ name kV doc pm an ct, BindsTo s (fnOf name qual (argsOf st) (bodyOf st) (scopeOf st) dV kV doc pm an cdv ct) args binds)
    (hcell : ∀ x ∈ (scopeOf st).names, x.2 ≠ .cell) (hloc : ∀ x ∈ binds, (scopeOf st).names.lookup x.1 = some .local)
    (hco : (scopeOf st).isCoroutine = false) (hgen : (scopeOf st).isGenerator = false) (hk : (scopeOf st).kind = .function)
    (h : ∀ B' L' s', (∀ b o, B.get? b = some o → B'.get? b = some o) → Wd K mg mb B' → St B' L' T (fun x => binds.reverse.lookup x) O s' →
      wpAny (model prog w) (A.deeper (envF qual st L' f cdv [])) (execs (bodyOf st) (envF qual st L' f cdv [])) (Ends B' L' B L m O Q) NoR s') :
    wpAny (model prog w) A (call (.ref f) args.pos args.kw) Q E s := by
  refine wpAny_call ?_
  obtain ⟨name, kV, doc, pm, an, ct, oc, od, sl, ho⟩ := hf.ex
  refine codeAny_call_def (fd := fnOf name qual (argsOf st) (bodyOf st) (scopeOf st) dV kV doc pm an cdv ct) (body := bodyOf st) (binds := binds) hroom (S.keep _ _ (W.X _ _ ho)) rfl (W.lim.keeps S.keep) (codeRec_of (W.X.keeps S.keep) hf.cd) rfl (hbind _ _ _ _ _ _)
    hcell hloc (fun h₁ hns hk₁ => ?_) hco hgen hk
  have S₁ := S.call (tk := s.toks + binds.length) hns hk₁
  refine wpAny_mono (h _ _ _ (fun b o e => S.underC e) (W.keeps fun b o e => S.underC e) S₁) (fun fl s'' hE => ?_) fun _ _ x => x.elim
  obtain ⟨T', m', S', q⟩ := hE
  have z := q (S.ret S')
  cases fl <;> exact z

/-- the cells of a frame -/
theorem callFC {f : Addr} {st : Stmt} {qual : Str} {dV cdv : Value} {args : Args} {binds : List (Str × Value)} {Q : Value → Shared → Prop}
    (W : Wd K mg mb B) (S : St B L T m O s) (hroom : A.depth < recursionLimit) (hf : FnIs K f st qual dV cdv)
    (hbind : ∀ name kV doc pm an ct, BindsTo s (fnOf name qual (argsOf st) (bodyOf st) (scopeOf st) dV kV doc pm an cdv ct) args binds)
    (hkind : ∀ n, ∀ x ∈ binds, (scopeOf st).names.lookup x.1 = some .local ∨ ((scopeOf st).names.lookup x.1 = some .cell ∧ ((cellsFrom n (scopeOf st).names []).lookup x.1).isSome = true))
    (hnd : ((cellsFrom 0 (scopeOf st).names []).map (·.1)).Nodup)
    (hco : (scopeOf st).isCoroutine = false) (hgen : (scopeOf st).isGenerator = false) (hk : (scopeOf st).kind = .function)
    (h : ∀ B' L' s' T₁, (∀ b o, B.get? b = some o → B'.get? b = some o) → Wd K mg mb B' → Sub T T₁ →
      (∀ n c, (cellsFrom (L' + 1) (scopeOf st).names []).lookup n = some c → T₁ c = some ((9, 0, (c : Int)), CellP (bindC (fun y => (scopeOf st).names.lookup y) binds (fun _ => none) n)) ∧ T c = none) →
      (∀ c d, T₁ c = some d → T c = none → d.1.1 = 9) →
      St B' L' T₁ (bindL (fun y => (scopeOf st).names.lookup y) binds fun _ => none) O s' →
      wpAny (model prog w) (A.deeper (envF qual st L' f cdv (cellsFrom (L' + 1) (scopeOf st).names []))) (execs (bodyOf st) (envF qual st L' f cdv (cellsFrom (L' + 1) (scopeOf st).names []))) (Ends B' L' B L m O Q) NoR s') :
    wpAny (model prog w) A (call (.ref f) args.pos args.kw) Q E s := by
  refine wpAny_call ?_
  obtain ⟨name, kV, doc, pm, an, ct, oc, od, sl, ho⟩ := hf.ex
  refine codeAny_call_function hroom (S.keep _ _ (W.X _ _ ho)) rfl hco hgen rfl (codeRec_of (W.X.keeps S.keep) hf.cd) (hbind _ _ _ _ _ _ _ _ _ _ ?_)
  refine wpAny_newFunctionEnv_cells hk (hkind _) fun env' he s' x => ?_
  subst he
  refine ⟨(W.lim.keeps S.keep).keeps x.toInCall.keep, codeAny_func ?_⟩
  obtain ⟨h₁, tk, rfl, hs⟩ := x.done
  have hk₁ := x.toInCall.keep
  have S₁ := S.call (tk := tk) x.toInCall.ns hk₁
  -- the cells go onto the map
  let cs := cellsFrom (s.heap.objs.size + 1) (scopeOf st).names []
  let cm := bindC (fun y => (scopeOf st).names.lookup y) binds (fun _ => Option.none)
  have hcs : ∀ n c, cs.lookup n = some c → h₁.IsCell c (cm n) ∧ s.heap.objs.size < c := fun n c e => ⟨x.cell n c e, x.above n c (mem_of_lookup e)⟩
  have hnd' : (cs.map (·.1)).Nodup := cellsFrom_names (scopeOf st).names 0 (s.heap.objs.size + 1) [] [] rfl ▸ hnd
  let T₁ : TM := fun a => match cs.find? (fun p => p.2 == a) with
    | some p => some ((9, 0, (a : Int)), CellP (cm p.1))
    | Option.none => T a
  have hmem : ∀ p ∈ cs, s.heap.objs.size < p.2 := fun p hp => (hcs p.1 p.2 (lookup_of_mem_nodup hnd' hp)).2
  have hT₁ : ∀ a, a < s.heap.objs.size → T₁ a = T a := fun a ha => by
    show (match cs.find? (fun p => p.2 == a) with | some p => some ((9, 0, (a : Int)), CellP (cm p.1)) | Option.none => T a) = T a
    cases q : cs.find? (fun p => p.2 == a) with
    | none => rfl
    | some p =>
      have h1 : p.2 = a := by have z := List.find?_some q; simpa using z
      have h2 := hmem p (List.mem_of_find?_eq_some q)
      rw [h1] at h2
      omega
  have hc₁ : ∀ n c, cs.lookup n = some c → T₁ c = some ((9, 0, (c : Int)), CellP (cm n)) := fun n c e => by
    show (match cs.find? (fun p => p.2 == c) with | some p => some ((9, 0, (c : Int)), CellP (cm p.1)) | Option.none => T c) = _
    cases q : cs.find? (fun p => p.2 == c) with
    | none => exact absurd (List.find?_eq_none.mp q (n, c) (mem_of_lookup e)) (by simp)
    | some p =>
      have h1 : p.2 = c := by have z := List.find?_some q; simpa using z
      have h2 : (p.1, c) ∈ cs := by rw [← h1]; exact List.mem_of_find?_eq_some q
      have h3 : p.1 = n := name_of_addr x.apart h2 (mem_of_lookup e)
      simp only [h3]
  have old : ∀ a c, T₁ a = some c → (T a = some c ∧ a < s.heap.objs.size) ∨ (∃ n, cs.lookup n = some a ∧ c = ((9, 0, (a : Int)), CellP (cm n))) := fun a c e => by
    have e' : (match cs.find? (fun p => p.2 == a) with | some p => some ((9, 0, (a : Int)), CellP (cm p.1)) | Option.none => T a) = some c := e
    cases q : cs.find? (fun p => p.2 == a) with
    | none => rw [q] at e'; exact .inl ⟨e', S.lt e'⟩
    | some p =>
      rw [q] at e'
      have h1 : p.2 = a := by have z := List.find?_some q; simpa using z
      have h2 : (p.1, a) ∈ cs := by rw [← h1]; exact List.mem_of_find?_eq_some q
      exact .inr ⟨p.1, lookup_of_mem_nodup hnd' h2, (Option.some.inj e').symm⟩
  have S₂ : St (mask s.heap T s.heap.objs.size) s.heap.objs.size T₁ (bindL (fun y => (scopeOf st).names.lookup y) binds fun _ => Option.none) O { s with heap := h₁, toks := tk } := by
    refine ⟨S₁.ns, S₁.keep, S₁.LB, fun a c e => ?_, S₁.gens, S₁.os, fun a c e => ?_, S₁.big⟩
    case refine_2 =>
      rcases old a c e with ⟨h1, _⟩ | ⟨n, h1, _⟩
      · exact S.nm _ _ h1
      · exact Nat.lt_trans (Nat.lt_trans S.big S.ltL) (hcs n a h1).2
    rcases old a c e with ⟨h1, _⟩ | ⟨n, h1, rfl⟩
    · exact S₁.sat a c h1
    · obtain ⟨⟨o, ho, hp⟩, hlt⟩ := hcs n a h1
      exact ⟨Nat.ne_of_gt hlt, by
        cases q : (mask s.heap T s.heap.objs.size).get? a with
        | none => rfl
        | some o' => exact absurd (Nat.lt_trans hlt (Heap.lt_size (of_mask q).2.2)) (Nat.lt_irrefl _), o, ho, hp⟩
  refine wpAny_mono (h _ _ _ T₁ (fun b o e => S.underC e) (W.keeps fun b o e => S.underC e) (fun a c e => (hT₁ a (S.lt e)).trans e) (fun n c e => ⟨hc₁ n c e, S.none_of (Nat.le_of_lt (hcs n c e).2)⟩) (fun c d e hn => ?_) S₂) (fun fl s'' hE => ?_) fun _ _ x => x.elim
  · rcases old c d e with ⟨h1, _⟩ | ⟨n, h1, rfl⟩
    · rw [h1] at hn; cases hn
    · rfl
  · obtain ⟨T', m', S', q⟩ := hE
    have z := q (S.ret S')
    cases fl <;> exact z
end
end Mine
end
section
open PySem PySem.W PySem.Calls PyProof.Rows
set_option Elab.async false
set_option maxRecDepth 100000
namespace Mine

/-! ## iterators and loops -/
def Free (B : Heap) (L : Addr) (T : TM) (X : List Addr) : Prop := ∀ b ∈ X, T b = none ∧ b ≠ L ∧ B.get? b = none

structure Itr (prog : Program) (w : World) (A : Around) (I : Addr) (X : List Addr) (n : Nat) (P : Nat → Value → Prop) (IT : Nat → Heap → Prop) (Need : TM → Prop) (Os : Nat → OG) : Prop where
  frame : ∀ i h h', IT i h → (∀ b ∈ X, ∀ o, h.get? b = some o → h'.get? b = some o) → IT i h'
  has : ∀ i h, IT i h → ∀ b ∈ X, ∃ o, h.get? b = some o
  item : ∀ i B L T m s (Q : Option Value → Shared → Prop), i < n → St B L T m (Os i) s → Need T → Free B L T X → IT i s.heap →
    (∀ v s', P i v → St B L T m (Os (i + 1)) s' → IT (i + 1) s'.heap → Q (some v) s') → wpAny (model prog w) A (pyNext (.ref I)) Q NoR s
  done : ∀ B L T m s (Q : Option Value → Shared → Prop), St B L T m (Os n) s → Need T → Free B L T X → IT n s.heap → (∀ s', St B L T m (Os (n + 1)) s' → Q none s') → wpAny (model prog w) A (pyNext (.ref I)) Q NoR s
  self : ∀ B L T m s (Q : Value → Shared → Prop), St B L T m (Os 0) s → IT 0 s.heap → Q (.ref I) s → wpAny (model prog w) A (pyIter (.ref I)) Q NoR s

section
variable {prog : Program} {w : World} {A : Around} {E : Value → Shared → Prop} {B : Heap} {T : TM} {m : Str → Option Value} {O : OG} {s : Shared} {env : Env}

/-- the body's end of a turn -/
def TurnS (B₁ : Heap) (L : Addr) (O : OG) (Inv : TM → (Str → Option Value) → Prop) (Q : Flow → Shared → Prop) (f : Flow) (s' : Shared) : Prop := match f with
  | .next | .cont => ∃ T' m', St B₁ L T' m' O s' ∧ Inv T' m'
  | .brk => Q .next s'
  | .ret v => Q (.ret v) s'

structure ForGoal (prog : Program) (w : World) (A : Around) (B : Heap) (env : Env) (x : Str) (body : List Stmt) (Q : Flow → Shared → Prop) (it : Value) (s₂ : Shared) : Prop where
  ex : ∃ I X n P IT Need Os T m, ∃ Inv : Nat → TM → (Str → Option Value) → Prop, it = .ref I ∧ Itr prog w A I X n P IT Need Os ∧ St B env.locals T m (Os 0) s₂ ∧ Free B env.locals T X ∧ IT 0 s₂.heap ∧ Inv 0 T m ∧ (∀ i T m, i ≤ n → Inv i T m → Need T) ∧
    (∀ i v T m B₁ s, i < n → P i v → Inv i T m → (∀ b o, B.get? b = some o → B₁.get? b = some o) → St B₁ env.locals T (fs m x v) (Os (i + 1)) s →
      wpAny (model prog w) A (execs body env) (TurnS B₁ env.locals (Os (i + 1)) (Inv (i + 1)) Q) NoR s) ∧
    (∀ T m s, Inv n T m → St B env.locals T m (Os (n + 1)) s → Q .next s)

theorem forS {x : Str} {px : Pos} {iter : Expr} {body : List Stmt} {pos : Pos} {Q : Flow → Shared → Prop}
    (h : wpAny (model prog w) A (eval iter env) (fun xv s₁ => wpAny (model prog w) A (pyIter xv) (ForGoal prog w A B env x body Q) NoR s₁) NoR s)
    (hk : env.scope.kind = .function := by rfl) (hl : env.kindOf x = some .local := by rfl) (hs : ∀ x, foldedSetIterable iter env x = pure x := by intro _; rfl) :
    wpAny (model prog w) A (exec (.For (.Name x px) iter body [] pos) env) Q E s := by
  refine wpAny_For (wpAny_mono h (fun xv s₁ h₁ => wpAny_mono h₁ (fun it s₂ h₂ => ?_) fun _ _ e => e.elim) fun _ _ e => e.elim) hs
  obtain ⟨I, X, n, P, IT, Need, Os, T, m, Inv, rfl, W, S, hX, hIT, hI, hN, turn, fin⟩ := h₂.ex
  refine codeAny_forLoop_any (fun k s' => ∃ i T m, k = n - i ∧ i ≤ n ∧ St B env.locals T m (Os i) s' ∧ Free B env.locals T X ∧ IT i s'.heap ∧ Inv i T m) ?_ n ⟨0, T, m, rfl, Nat.zero_le _, S, hX, hIT, hI⟩
  rintro k s' ⟨i, T, m, rfl, hi, S, hX, hIT, hI⟩
  rcases Nat.lt_or_ge i n with hlt | hge
  · refine noR (W.item i B env.locals T m s' _ hlt S (hN i T m hi hI) hX hIT fun v s₁ hP S₁ hIT₁ => ?_)
    refine wpAny_of_eq (a := ()) rfl ?_
    refine wpAny_assign_Name (wpAny_storeName_local hl S₁.ns (fun h' hn hs => ?_) (by rw [hk]; rfl))
    have S₂ := ((S₁.local hn hs).tok (s₁.toks + 1)).into
    have hIT₂ : IT (i + 1) h' := W.frame _ _ _ hIT₁ fun b hb o e => (hs.2 b (hX b hb).2.1).trans e
    have under : ∀ b o, B.get? b = some o → (mask h' T env.locals).get? b = some o := fun b o e => ((S₁.local hn hs).under e)
    refine noR (wpAny_mono (turn i v T m _ _ hlt hP hI under S₂) (fun f s₃ hT => ?_) fun _ _ e => e.elim)
    have inB : ∀ b ∈ X, ∃ o, h'.get? b = some o ∧ (mask h' T env.locals).get? b = some o := fun b hb => by
      obtain ⟨o, ho⟩ := W.has _ _ hIT₂ b hb
      exact ⟨o, ho, by rw [mask_get (hX b hb).1 (hX b hb).2.1]; exact ho⟩
    have nxt : (∃ T' m', St (mask h' T env.locals) env.locals T' m' (Os (i + 1)) s₃ ∧ Inv (i + 1) T' m') → ∃ k, k < n - i ∧ ∃ j T m, k = n - j ∧ j ≤ n ∧ St B env.locals T m (Os j) s₃ ∧ Free B env.locals T X ∧ IT j s₃.heap ∧ Inv j T m := by
      rintro ⟨T', m', S', hI'⟩
      refine ⟨n - (i + 1), by omega, i + 1, T', m', rfl, hlt, S'.back under, fun b hb => ⟨?_, (hX b hb).2⟩, W.frame _ _ _ hIT₂ fun b hb o e => ?_, hI'⟩
      · obtain ⟨o, _, ho⟩ := inB b hb
        cases q : T' b with
        | none => rfl
        | some c => rw [S'.neB q] at ho; cases ho
      · obtain ⟨o', e', ho⟩ := inB b hb
        rw [e] at e'; cases e'
        exact S'.keep _ _ ho
    cases f with
    | next => exact nxt hT
    | cont => exact nxt hT
    | brk => exact hT
    | ret v => exact hT
  · obtain rfl : i = n := Nat.le_antisymm hi hge
    refine noR (W.done B env.locals T m s' _ S (hN i T m hi hI) hX hIT fun s₁ S₁ => ?_)
    exact wpAny_execs_nil (fin T m s₁ hI S₁)

theorem whileS {test : Expr} {body : List Stmt} {pos : Pos} {Q : Flow → Shared → Prop} (Inv : Nat → TM → (Str → Option Value) → Prop) {k : Nat} (S : St B env.locals T m O s) (hI : Inv k T m)
    (turn : ∀ n T m s, Inv n T m → St B env.locals T m O s → wpAny (model prog w) A (isTrue test env (eval test env)) (fun b s₂ =>
      if b = true then wpAny (model prog w) A (execs body env) (TurnS B env.locals O (fun T' m' => ∃ k, k < n ∧ Inv k T' m') Q) NoR s₂ else Q .next s₂) NoR s) :
    wpAny (model prog w) A (exec (.While test body [] pos) env) Q E s := by
  refine wpAny_While (codeAny_whileLoop (fun k s' => ∃ T m, St B env.locals T m O s' ∧ Inv k T m) ?_ k ⟨T, m, S, hI⟩)
  rintro n s' ⟨T, m, S, hI⟩
  refine noR (wpAny_mono (turn n T m s' hI S) (fun b s₂ h₂ => ?_) fun _ _ e => e.elim)
  cases b with
  | false => exact wpAny_execs_nil h₂
  | true =>
    refine noR (wpAny_mono h₂ (fun f s₃ h₃ => ?_) fun _ _ e => e.elim)
    cases f with
    | next => obtain ⟨T', m', S', j, hj, hI'⟩ := h₃; exact ⟨j, hj, T', m', S', hI'⟩
    | cont => obtain ⟨T', m', S', j, hj, hI'⟩ := h₃; exact ⟨j, hj, T', m', S', hI'⟩
    | brk => exact h₃
    | ret v => exact h₃
end
end Mine
end
section
open PySem PySem.W PySem.Calls PyProof.Rows
set_option Elab.async false
set_option maxRecDepth 100000
namespace Mine

/-! ## what the made objects are -/
def LsP (xs : List Value) (o : Obj) : Prop := ∃ n, o = { cls := .type "list", data := .seq xs.toArray n }
/-- a list of these items, of whatever make -/
def LiP (xs : List Value) (o : Obj) : Prop := o.cls = .type "list" ∧ ∃ n, o.data = .seq xs.toArray n
theorem LsP.li {xs : List Value} {o : Obj} (h : LsP xs o) : LiP xs o := by obtain ⟨n, rfl⟩ := h; exact ⟨rfl, n, rfl⟩
def TupP (xs : List Value) (o : Obj) : Prop := ∃ n, o = { cls := .type "tuple", data := .seq xs.toArray n }
def DI (prog : Program) (w : World) (kvs : List (Int × Value)) (ep : Nat) (o : Obj) : Prop := ∃ es, o.ExactDict ∧ o.data = .dict es ep ∧ PySem.KeysOf (PySem.intKind prog w) es ∧ Pairs (PySem.intKind prog w) es.toList kvs ∧ (kvs.map (·.1)).Nodup

section
variable {prog : Program} {w : World} {A : Around} {E : Value → Shared → Prop} {B : Heap} {L : Addr} {T : TM} {m : Str → Option Value} {O : OG} {s : Shared} {t : Tag}

theorem St.list (S : St B L T m O s) {l : Addr} {xs : List Value} {P : Obj → Prop} (h : T l = some (t, P)) (hP : ∀ o, P o → LiP xs o) : s.heap.IsList l xs.toArray := by
  obtain ⟨o, ho, hp⟩ := S.obj h
  obtain ⟨hc, n, hd⟩ := hP o hp
  exact ⟨o, ho, hc, n, hd⟩
theorem St.tup (S : St B L T m O s) {l : Addr} {xs : List Value} (h : T l = some (t, TupP xs)) : IsTup s.heap l xs.toArray := by
  obtain ⟨o, ho, n, rfl⟩ := S.obj h; exact ⟨_, ho, rfl, n, rfl⟩
theorem St.dictAt (S : St B L T m O s) {d : Addr} {kvs : List (Int × Value)} {ep : Nat} (h : T d = some (t, DI prog w kvs ep)) : s.heap.DictAt (PySem.intKind prog w) d kvs ep := by
  obtain ⟨o, ho, es, r⟩ := S.obj h; exact ⟨o, es, ho, r⟩
theorem St.dict (S : St B L T m O s) {d : Addr} {kvs : List (Int × Value)} {ep : Nat} (h : T d = some (t, DI prog w kvs ep)) : s.heap.DictOf (PySem.intKind prog w) d kvs := (S.dictAt h).dictOf
theorem St.notMods (S : St B L T m O s) {d : Addr} {c : Cel} (h : T d = some c) : (d == sysModules) = false := by
  have := S.nm d c h
  rw [beq_eq_false_iff_ne]; exact Nat.ne_of_gt this

theorem newListS {vs : List Value} {Q : Value → Shared → Prop} (S : St B L T m O s) (t : Tag) (h : ∀ l s', T l = none → St B L (upd T l (t, LsP vs)) m O s' → Q (.ref l) s') (hsz : vs.length ≤ sizeLine := by size_fits) :
    wpAny (model prog w) A (newList vs) Q E s :=
  wpAny_newObj_type (h _ _ S.new_none (S.push { cls := .type "list", data := .seq vs.toArray } ⟨0, rfl⟩ rfl)) (by show vs.toArray.size ≤ sizeLine; rw [List.size_toArray]; exact hsz)
theorem newTupleS {vs : List Value} {Q : Value → Shared → Prop} (S : St B L T m O s) (t : Tag) (h : ∀ l s', T l = none → St B L (upd T l (t, TupP vs)) m O s' → Q (.ref l) s') (hsz : vs.length ≤ sizeLine := by size_fits) :
    wpAny (model prog w) A (newTuple vs) Q E s :=
  wpAny_newObj_type (h _ _ S.new_none (S.push { cls := .type "tuple", data := .seq vs.toArray } ⟨0, rfl⟩ rfl)) (by show vs.toArray.size ≤ sizeLine; rw [List.size_toArray]; exact hsz)
theorem di_nil {ep : Nat} : DI prog w [] ep { cls := .type "dict", data := .dict #[] ep } := ⟨#[], ⟨rfl, rfl, rfl⟩, rfl, fun _ he => by simp at he, Pairs.nil, List.nodup_nil⟩
theorem newDictS {env : Env} {pos : Pos} {Q : Value → Shared → Prop} (S : St B L T m O s) (t : Tag) (h : ∀ d s', T d = none → St B L (upd T d (t, DI prog w [] 0)) m O s' → Q (.ref d) s') :
    wpAny (model prog w) A (eval (.Dict [] [] pos) env) Q E s :=
  wpAny_Dict_empty (h _ _ S.new_none (S.push { cls := .type "dict", data := .dict #[] } di_nil rfl))

/-! ### lists -/
theorem lenListS {l : Addr} {xs : List Value} {Q : Value → Shared → Prop} (S : St B L T m O s) {P : Obj → Prop} (hl : T l = some (t, P)) (hP : ∀ o, P o → LiP xs o) (hfit : xs.length < 2 ^ 63) (h : ∀ u tk, Q (.int (xs.length : Int) u) { s with toks := tk }) :
    wpAny (model prog w) A (call (.builtin "len") [.ref l]) Q E s := by
  refine Calls.call_len_list (S.list hl hP) (by rw [List.size_toArray]; omega) ?_
  rw [List.size_toArray]; exact h _ _
theorem getListS {l : Addr} {xs : List Value} {k : Int} {u : Tok} {x : Value} {Q : Value → Shared → Prop} (S : St B L T m O s) {P : Obj → Prop} (hl : T l = some (t, P)) (hP : ∀ o, P o → LiP xs o) (h0 : 0 ≤ k) (hfit : k < 2 ^ 63) (hx : xs[k.toNat]? = some x) (h : Q x s) :
    wpAny (model prog w) A (getItem (.ref l) (.int k u)) Q E s := wpAny_getItem_list (S.list hl hP) h0 hfit (by simpa using hx) h
theorem subListS {value slice : Expr} {l : Addr} {xs : List Value} {k : Int} {u : Tok} {x : Value} {Q : Value → Shared → Prop} (S : St B L T m O s) {P : Obj → Prop} (hl : T l = some (t, P)) (hP : ∀ o, P o → LiP xs o) (h0 : 0 ≤ k) (hfit : k < 2 ^ 63) (hx : xs[k.toNat]? = some x) (h : Q x s)
    (hs : subscripted slice false (.ref l) (.int k u) = operate [.ref l, .int k u] (getItem (.ref l) (.int k u)) := by with_unfolding_all rfl) :
    wpAny (model prog w) A (subscriptTail value slice (.ref l) (.int k u)) Q E s := tail_any (S.list hl hP).typeIs slot_list_getitem.lookup (getListS S hl hP h0 hfit hx h) hs
theorem setListS {l : Addr} {xs : List Value} {k : Int} {u : Tok} {v : Value} {Q : Unit → Shared → Prop} (S : St B L T m O s) {P : Obj → Prop} (hl : T l = some (t, P)) (hP : ∀ o, P o → LiP xs o) (h0 : 0 ≤ k) (hfit : k < 2 ^ 63) (hn : k < xs.length)
    (h : ∀ s', St B L (upd T l (t, LiP (xs.set k.toNat v))) m O s' → Q () s') : wpAny (model prog w) A (setItem (.ref l) (.int k u) v) Q E s := by
  refine wpAny_setItem_list (S.list hl hP) h0 hfit (by simpa using hn) fun h' hl' hs => ?_
  obtain ⟨o', ho', hc, n', hd⟩ := hl'
  have e : xs.toArray.setIfInBounds k.toNat v = (xs.set k.toNat v).toArray := by simp
  exact h _ (S.change hl (fun b o hb e => (hs.2 b hb).trans e) ho' ⟨hc, n', by rw [hd, e]⟩)
theorem appendS {l : Addr} {xs : List Value} {x : Value} {Q : Value → Shared → Prop} (S : St B L T m O s) (hl : T l = some (t, LsP xs)) (h : ∀ s', St B L (upd T l (t, LsP (xs ++ [x]))) m O s' → Q .none s') (hsz : xs.length ≤ sizeLine) :
    wpAny (model prog w) A (call (.builtin "list.append") [.ref l, x]) Q E s := by
  obtain ⟨o, ho, n, rfl⟩ := S.obj hl
  refine append_at (hsz := by rw [List.size_toArray]; exact hsz) ho fun h' hs ho' => h _ (S.change hl (fun b o hb e => (hs.2 b hb).trans e) ho' ⟨n + 1, by simp⟩)
theorem methAppendS {l : Addr} {xs : List Value} {pl : Sem Bool} {Q : Value × List Value → Shared → Prop} (S : St B L T m O s) (hl : T l = some (t, LsP xs)) (h : Q (.builtin "list.append", [.ref l]) s) :
    wpAny (model prog w) A (getMethod (.ref l) "append" pl) Q E s := by
  obtain ⟨o, ho, n, rfl⟩ := S.obj hl
  exact Calls.getMethod_list_append ho rfl rfl h
theorem truthyListS {l : Addr} {xs : List Value} {Q : Bool → Shared → Prop} (S : St B L T m O s) {P : Obj → Prop} (hl : T l = some (t, P)) (hP : ∀ o, P o → LiP xs o) (hfit : xs.length < 2 ^ 63) (h : ∀ tk, Q (!xs.isEmpty) { s with toks := tk }) :
    wpAny (model prog w) A (truthy (.ref l)) Q E s := wpAny_truthy_list (S.list hl hP) (by rw [List.size_toArray]; omega) (by rw [List.isEmpty_toArray]; exact h _)

/-! ### dicts by ints -/
theorem getDictS {d : Addr} {kvs : List (Int × Value)} {ep : Nat} {k : Int} {u : Tok} {v : Value} {Q : Value → Shared → Prop} (S : St B L T m O s) (hd : T d = some (t, DI prog w kvs ep)) (hv : valueAt kvs k = some v) (h : ∀ tk, Q v { s with toks := tk }) :
    wpAny (model prog w) A (getItem (.ref d) (.int k u)) Q E s := wpAny_getItem_of (intKind_is prog w k u) (S.dict hd).mapOf hv (h _)
theorem subDictS {value slice : Expr} {d : Addr} {kvs : List (Int × Value)} {ep : Nat} {k : Int} {u : Tok} {v : Value} {Q : Value → Shared → Prop} (S : St B L T m O s) (hd : T d = some (t, DI prog w kvs ep)) (hv : valueAt kvs k = some v) (h : ∀ tk, Q v { s with toks := tk })
    (hs : subscripted slice false (.ref d) (.int k u) = operate [.ref d, .int k u] (getItem (.ref d) (.int k u)) := by with_unfolding_all rfl) :
    wpAny (model prog w) A (subscriptTail value slice (.ref d) (.int k u)) Q E s := tail_any (S.dict hd).typeIs slot_dict_getitem.lookup (getDictS S hd hv h) hs
theorem inDictS {d : Addr} {kvs : List (Int × Value)} {ep : Nat} {k : Int} {u : Tok} {Q : Value → Shared → Prop} (S : St B L T m O s) (hd : T d = some (t, DI prog w kvs ep)) (h : ∀ tk, Q (.bool (valueAt kvs k).isSome) { s with toks := tk }) :
    wpAny (model prog w) A (compareOp .In (.int k u) (.ref d)) Q E s := wpAny_in_of (intKind_is prog w k u) (S.notMods hd) (S.dict hd).mapOf (h _)
theorem St.setDict (S : St B L T m O s) {d : Addr} {kvs kvs' : List (Int × Value)} {ep : Nat} {h' : Heap} (hd : T d = some (t, DI prog w kvs ep)) (hD : h'.DictOf (PySem.intKind prog w) d kvs') (hs : Heap.SameBut d s.heap h') :
    ∃ ep', St B L (upd T d (t, DI prog w kvs' ep')) m O { s with heap := h' } := by
  obtain ⟨o, es, ep', ho, r⟩ := hD
  exact ⟨ep', S.change hd (fun b o hb e => (hs.2 b hb).trans e) ho ⟨es, r⟩⟩
theorem setDictS {d : Addr} {kvs : List (Int × Value)} {ep : Nat} {k : Int} {u : Tok} {v : Value} {Q : Unit → Shared → Prop} (S : St B L T m O s) (hd : T d = some (t, DI prog w kvs ep)) (hsz : kvs.length ≤ sizeLine)
    (h : ∀ ep' s', St B L (upd T d (t, DI prog w (stored kvs k v) ep')) m O s' → Q () s') : wpAny (model prog w) A (setItem (.ref d) (.int k u) v) Q E s :=
  wpAny_setItem_pairs (hsz := hsz) (intKind_is prog w k u) (S.dict hd) fun _ hD hs => let ⟨_, S'⟩ := S.setDict hd hD hs; h _ _ S'
theorem truthyDictS {d : Addr} {kvs : List (Int × Value)} {ep : Nat} {Q : Bool → Shared → Prop} (S : St B L T m O s) (hd : T d = some (t, DI prog w kvs ep)) (hfit : kvs.length < 2 ^ 63) (h : ∀ tk, Q (!kvs.isEmpty) { s with toks := tk }) :
    wpAny (model prog w) A (truthy (.ref d)) Q E s := wpAny_truthy_dict (S.notMods hd) (S.dict hd) (by omega) (h _)
theorem methDictS {name : Str} {id : String} {pl : Sem Bool} {d : Addr} {kvs : List (Int × Value)} {ep : Nat} {Q : Value × List Value → Shared → Prop} (slot : Slot "dict" name id) (hty : typeOf (.builtin id) = pure (.type "method_descriptor"))
    (S : St B L T m O s) (hd : T d = some (t, DI prog w kvs ep)) (h : Q (.builtin id, [.ref d]) s) : wpAny (model prog w) A (getMethod (.ref d) name pl) Q E s :=
  getMethod_builtin (S.dict hd).typeIs PySem.F.plainAttrs_dict slot hty (S.dict hd).mapOf.noDict h
theorem get2S {d : Addr} {kvs : List (Int × Value)} {ep : Nat} {k : Int} {u : Tok} {v : Value} {Q : Value → Shared → Prop} (S : St B L T m O s) (hd : T d = some (t, DI prog w kvs ep)) (h : ∀ tk, Q ((valueAt kvs k).getD v) { s with toks := tk }) :
    wpAny (model prog w) A (call (.builtin "dict.get") [.ref d, .int k u, v]) Q E s :=
  call_meetsIn PySem.F.slot_dict_get (S.dict hd).typeIs PySem.F.entry_dict_get (PySem.F.args_dict_get_3 _ _ _) (meets_dict_get_default (PySem.intKind prog w) d (intKind_is prog w k u) (S.notMods hd) v) ⟨_, (S.dict hd).mapOf, h _⟩
theorem updateS {d e : Addr} {t' : Tag} {kvs more : List (Int × Value)} {ep ep₂ : Nat} {Q : Value → Shared → Prop} (S : St B L T m O s) (hd : T d = some (t, DI prog w kvs ep)) (he : T e = some (t', DI prog w more ep₂)) (hne : d ≠ e) (hsz : kvs.length + more.length ≤ sizeLine)
    (h : ∀ ep' s', St B L (upd T d (t, DI prog w (merged kvs more) ep')) m O s' → Q .none s') : wpAny (model prog w) A (call (.builtin "dict.update") [.ref d, .ref e]) Q E s :=
  call_meetsIn PySem.F.slot_dict_update (S.dict hd).typeIs PySem.F.entry_dict_update (PySem.F.args_dict_update_2 _ _) (meets_dict_update (PySem.intKind prog w) d e hne (S.notMods he))
    ⟨kvs, more, S.dict hd, S.dict he, hsz, fun _ hD _ hs => let ⟨_, S'⟩ := S.setDict hd hD hs; h _ _ S'⟩
end
end Mine
end
section
open PySem PySem.W PySem.Calls PyProof.Rows
set_option Elab.async false
set_option maxRecDepth 100000
namespace Mine

section
variable {prog : Program} {w : World} {A : Around} {E : Value → Shared → Prop} {B : Heap} {L : Addr} {T : TM} {m : Str → Option Value} {O : OG} {s : Shared} {t : Tag} {env : Env}

theorem St.new_free (S : St B L T m O s) : Free B L T [s.heap.objs.size] := fun b hb => by
  rw [List.mem_singleton.mp hb]; exact ⟨S.new_none, Nat.ne_of_gt S.ltL, S.newB⟩
theorem Free.one {I : Addr} (h : Free B L T [I]) : T I = none ∧ I ≠ L ∧ B.get? I = none := h I (List.mem_singleton.mpr rfl)

def NeedL (l : Addr) (xs : List Value) (T : TM) : Prop := ∃ t P, T l = some (t, P) ∧ ∀ o, P o → LiP xs o
theorem itrList (hh : A.handled = none) (I l : Addr) (xs : List Value) (Os : OG) :
    Itr prog w A I [I] xs.length (fun i v => xs[i]? = some v) (fun i h => h.IsListIter I l i) (NeedL l xs) (fun _ => Os) where
  frame := fun _ _ _ st hk => st.at fun o e => hk I (by simp) o e
  has := fun _ _ st b hb => by obtain ⟨o, ho, _⟩ := st; rw [List.mem_singleton.mp hb]; exact ⟨o, ho⟩
  item := fun i B L T m s Q hi S hN hF st h => by
    obtain ⟨t, P, hl, hP⟩ := hN
    obtain ⟨f1, f2, f3⟩ := hF.one
    refine wpAny_pyNext_list_item st (S.list hl hP) (x := xs[i]) (by simp [hi]) fun h' hit' hs' => ?_
    exact h _ _ (by simp [hi]) (S.but f2 f3 f1 fun b o hb e => (hs'.2 b hb).trans e) hit'
  done := fun B L T m s Q S hN hF st h => by
    obtain ⟨t, P, hl, hP⟩ := hN
    obtain ⟨f1, f2, f3⟩ := hF.one
    exact wpAny_pyNext_list_end hh st (S.list hl hP) (by simp) fun h' he' => h _ (S.but f2 f3 f1 fun b o hb e => he' b o hb e)
  self := fun _ _ _ _ _ _ _ st h => wpAny_pyIter_listiter st h

theorem pyIterList {l : Addr} {xs : List Value} {P : Obj → Prop} {Q : Value → Shared → Prop} (S : St B L T m O s) (hl : T l = some (t, P)) (hP : ∀ o, P o → LiP xs o)
    (h : ∀ I s', St B L T m O s' → Free B L T [I] → s'.heap.IsListIter I l 0 → Q (.ref I) s') : wpAny (model prog w) A (pyIter (.ref l)) Q E s :=
  wpAny_pyIter_list (S.list hl hP) (h _ _ (S.pushN _) S.new_free ⟨_, Heap.get?_push_size _ rfl, rfl, rfl⟩)

theorem forList {x : Str} {body : List Stmt} {Q : Flow → Shared → Prop} {l : Addr} {xs : List Value} {P : Obj → Prop} (hh : A.handled = none) (S : St B env.locals T m O s) (hl : T l = some (t, P)) (hP : ∀ o, P o → LiP xs o)
    (Inv : Nat → TM → (Str → Option Value) → Prop) (h0 : Inv 0 T m) (hN : ∀ i T m, i ≤ xs.length → Inv i T m → NeedL l xs T)
    (turn : ∀ i v T m B₁ s, xs[i]? = some v → Inv i T m → (∀ b o, B.get? b = some o → B₁.get? b = some o) → St B₁ env.locals T (fs m x v) O s →
      wpAny (model prog w) A (execs body env) (TurnS B₁ env.locals O (Inv (i + 1)) Q) NoR s)
    (done : ∀ T m s, Inv xs.length T m → St B env.locals T m O s → Q .next s) : wpAny (model prog w) A (pyIter (.ref l)) (ForGoal prog w A B env x body Q) E s :=
  pyIterList S hl hP fun I _ S' hF hit => ⟨⟨I, [I], _, _, _, _, _, T, m, Inv, rfl, itrList hh I l xs O, S', hF, hit, h0, hN, fun i v T m B₁ s _ hv hI hB S => turn i v T m B₁ s hv hI hB S, done⟩⟩

def NeedD (prog : Program) (w : World) (d : Addr) (kvs : List (Int × Value)) (ep : Nat) (T : TM) : Prop := ∃ t, T d = some (t, DI prog w kvs ep)
theorem isInt_of {k : Int} {v : Value} (h : (PySem.intKind prog w).is k v = true) : ∃ u, v = .int k u := by
  have h' : Value.isInt k v = true := h
  cases v <;> simp [Value.isInt] at h'
  subst h'; exact ⟨_, rfl⟩
theorem itrDict (hh : A.handled = none) (I d : Addr) (kvs : List (Int × Value)) (ep : Nat) (Os : OG) :
    Itr prog w A I [I] kvs.length (fun i v => ∃ k u, (kvs.map (·.1))[i]? = some k ∧ v = .int k u) (fun i h => h.IsKeyIter I d i kvs.length ep) (NeedD prog w d kvs ep) (fun _ => Os) where
  frame := fun _ _ _ st hk => st.at fun o e => hk I (by simp) o e
  has := fun _ _ st b hb => by obtain ⟨o, ho, _⟩ := st; rw [List.mem_singleton.mp hb]; exact ⟨o, ho⟩
  item := fun i B L T m s Q hi S hN hF st h => by
    obtain ⟨t, hd⟩ := hN
    obtain ⟨f1, f2, f3⟩ := hF.one
    refine wpAny_pyNext_dict_item st (S.dictAt hd) (k := kvs[i].1) (v := kvs[i].2) (by simp [hi]) fun key h' hkey hit' hs' => ?_
    obtain ⟨u, rfl⟩ := isInt_of hkey
    exact h _ _ ⟨_, u, by simp [hi], rfl⟩ (S.but f2 f3 f1 fun b o hb e => (hs'.2 b hb).trans e) hit'
  done := fun B L T m s Q S hN hF st h => by
    obtain ⟨t, hd⟩ := hN
    obtain ⟨f1, f2, f3⟩ := hF.one
    exact wpAny_pyNext_dict_end hh st (S.dictAt hd) (by simp) fun h' he' => h _ (S.but f2 f3 f1 fun b o hb e => he' b o hb e)
  self := fun _ _ _ _ _ _ _ st h => wpAny_pyIter_keyiter st h

theorem pyIterDict {d : Addr} {kvs : List (Int × Value)} {ep : Nat} {Q : Value → Shared → Prop} (S : St B L T m O s) (hd : T d = some (t, DI prog w kvs ep))
    (h : ∀ I s', St B L T m O s' → Free B L T [I] → s'.heap.IsKeyIter I d 0 kvs.length ep → Q (.ref I) s') : wpAny (model prog w) A (pyIter (.ref d)) Q E s :=
  wpAny_pyIter_dict (S.notMods hd) (S.dictAt hd) (h _ _ (S.pushN _) S.new_free ⟨_, Heap.get?_push_size _ rfl, rfl, rfl⟩)

theorem forDict {x : Str} {body : List Stmt} {Q : Flow → Shared → Prop} {d : Addr} {kvs : List (Int × Value)} {ep : Nat} (hh : A.handled = none) (S : St B env.locals T m O s) (hd : T d = some (t, DI prog w kvs ep))
    (Inv : Nat → TM → (Str → Option Value) → Prop) (h0 : Inv 0 T m) (hN : ∀ i T m, i ≤ kvs.length → Inv i T m → NeedD prog w d kvs ep T)
    (turn : ∀ i k u T m B₁ s, (kvs.map (·.1))[i]? = some k → Inv i T m → (∀ b o, B.get? b = some o → B₁.get? b = some o) → St B₁ env.locals T (fs m x (.int k u)) O s →
      wpAny (model prog w) A (execs body env) (TurnS B₁ env.locals O (Inv (i + 1)) Q) NoR s)
    (done : ∀ T m s, Inv kvs.length T m → St B env.locals T m O s → Q .next s) : wpAny (model prog w) A (pyIter (.ref d)) (ForGoal prog w A B env x body Q) E s :=
  pyIterDict S hd fun I _ S' hF hit => ⟨⟨I, [I], _, _, _, _, _, T, m, Inv, rfl, itrDict hh I d kvs ep O, S', hF, hit, h0, hN, fun i v T m B₁ s _ ⟨k, u, hk, hv⟩ hI hB S => turn i k u T m B₁ s hk hI hB (hv ▸ S), done⟩⟩

theorem itrRange (hh : A.handled = none) (I : Addr) (n : Nat) (Os : OG) :
    Itr prog w A I [I] n (fun i v => i < n ∧ ∃ u, v = .int (i : Int) u) (fun i h => IsRangeIter h I (i : Int) ((n : Int) - (i : Nat)) 1) (fun _ => True) (fun _ => Os) where
  frame := fun _ _ _ st hk => hk I (by simp) _ st
  has := fun _ _ st b hb => by rw [List.mem_singleton.mp hb]; exact ⟨_, st⟩
  item := fun i B L T m s Q hi S hN hF st h => by
    obtain ⟨f1, f2, f3⟩ := hF.one
    refine wpAny_pyNext_range_item st (by omega) fun h' hit' hs' => ?_
    refine h _ _ ⟨hi, _, rfl⟩ (S.but f2 f3 f1 fun b o hb e => (hs'.2 b hb).trans e) ?_
    have e1 : ((i + 1 : Nat) : Int) = (i : Int) + 1 := by push_cast; rfl
    have e2 : (n : Int) - ((i + 1 : Nat) : Int) = (n : Int) - (i : Int) - 1 := by push_cast; omega
    show IsRangeIter h' I ((i + 1 : Nat) : Int) ((n : Int) - ((i + 1 : Nat) : Int)) 1
    rw [e2, e1]; exact hit'
  done := fun B L T m s Q S hN hF st h => by
    obtain ⟨f1, f2, f3⟩ := hF.one
    exact wpAny_pyNext_range_end hh st (by omega) fun h' he' => h _ (S.but f2 f3 f1 fun b o hb e => he' b o hb e)
  self := fun _ _ _ _ _ _ _ st h => wpAny_pyIter_rangeiter st h

/-- range(n): the object, then its iterator -/
theorem callRangeS {n : Int} {u : Tok} {Q : Value → Shared → Prop} (S : St B L T m O s) (h : ∀ r s' a b, St B L T m O s' → IsRange s'.heap r 0 n 1 a u b → Q (.ref r) s') :
    wpAny (model prog w) A (call (.type "range") [.int n u]) Q E s :=
  call_range_1 (h _ _ _ _ (S.pushN _) (Heap.get?_push_size _ rfl))
theorem pyIterRange {n : Nat} {r : Addr} {a u b : Tok} {Q : Value → Shared → Prop} (S : St B L T m O s) (hr : IsRange s.heap r 0 (n : Int) 1 a u b) (hn : n < 1000000)
    (h : ∀ I s', St B L T m O s' → Free B L T [I] → IsRangeIter s'.heap I 0 (n : Int) 1 → Q (.ref I) s') : wpAny (model prog w) A (pyIter (.ref r)) Q E s := by
  have e : Builtin.Range.rangeSize 0 (n : Int) 1 = (n : Int) := by
    unfold Builtin.Range.rangeSize
    split
    · omega
    · omega
  have hs : Builtin.Range.small 0 (n : Int) 1 = true := by
    unfold Builtin.Range.small
    rw [e]
    unfold Builtin.Range.rangeFitsLong
    simp
    omega
  refine wpAny_pyIter_range hr hs ?_
  rw [e]
  exact h _ _ (S.pushN _) S.new_free (Heap.get?_push_size _ rfl)
end
end Mine
end
section
open PySem PySem.W PySem.Calls PyProof.Rows
set_option Elab.async false
set_option maxRecDepth 100000
namespace Mine

theorem neLt {a b : Nat} (h : a < b) : a ≠ b := Nat.ne_of_lt h
theorem neGt {a b : Nat} (h : b < a) : a ≠ b := Nat.ne_of_gt h

/-! ## comprehensions -/
section
variable {B : Heap} {L : Addr} {T : TM} {m : Str → Option Value} {O : OG} {s : Shared}
/-- from a frame into a frame within it -/
theorem St.enter (S : St B L T m O s) {C : Addr} {mC : Str → Option Value} (hC : s.heap.Ns C mC) (hT : T C = none) (hb : sysModules < C) : St (mask s.heap T C) C T mC O s :=
  ⟨hC, fun _ _ e => (of_mask e).2.2, mask_none (.inr rfl), fun a c e => let ⟨_, _, r⟩ := S.sat a c e; ⟨(fun q => by rw [q, hT] at e; cases e), mask_none (.inl (by rw [e]; rfl)), r⟩, S.gens, S.os, S.nm, hb⟩
theorem St.exit (S : St B L T m O s) {C : Addr} (hB : B.get? C = none) (hLC : L ≠ C) {T' : TM} {m' : Str → Option Value} {O' : OG} {s' : Shared} (S' : St (mask s.heap T C) C T' m' O' s') : St B L T' m O' s' := by
  obtain ⟨oL, es, ep, hL, r⟩ := S.ns
  have hLm : (mask s.heap T C).get? L = some oL := by rw [mask_get S.Lnone hLC]; exact hL
  have up : ∀ b o, B.get? b = some o → (mask s.heap T C).get? b = some o := fun b o e => by
    have h1 : T b = none := by
      cases q : T b with
      | none => rfl
      | some c => rw [S.neB q] at e; cases e
    rw [mask_get h1 (fun q => by rw [q, hB] at e; cases e)]; exact S.keep b o e
  have nn {a : Addr} (h : (mask s.heap T C).get? a = none) : B.get? a = none := by
    cases e : B.get? a with
    | none => rfl
    | some o => rw [up _ _ e] at h; cases h
  refine ⟨⟨oL, es, ep, S'.keep _ _ hLm, r⟩, fun b o e => S'.keep b o (up b o e), S.LB, fun a c e => ?_, S'.gens, S'.os, S'.nm, S.big⟩
  obtain ⟨_, h2, h3⟩ := S'.sat a c e
  exact ⟨(fun q => by rw [q, hLm] at h2; cases h2), nn h2, h3⟩
theorem St.upC (S : St B L T m O s) {C : Addr} (hB : B.get? C = none) {b : Addr} {o : Obj} (e : B.get? b = some o) : (mask s.heap T C).get? b = some o := by
  have h1 : T b = none := by
    cases q : T b with
    | none => rfl
    | some c => rw [S.neB q] at e; cases e
  rw [mask_get h1 (fun q => by rw [q, hB] at e; cases e)]; exact S.keep b o e
end

section
variable {B : Heap} {L : Addr} {T : TM} {m : Str → Option Value} {O : OG} {s : Shared}
def maskP (h : Heap) (p : Addr → Bool) : Heap := ⟨h.objs.mapIdx fun i o => if p i then { o with data := .freed } else o, h.life⟩
theorem maskP_none {h : Heap} {p : Addr → Bool} {b : Addr} (hb : p b = true) : (maskP h p).get? b = none := by
  unfold Heap.get? maskP
  simp only [Array.getElem?_mapIdx]
  cases h.objs[b]? with
  | none => rfl
  | some o => simp [hb]
theorem maskP_get {h : Heap} {p : Addr → Bool} {b : Addr} (hb : p b = false) : (maskP h p).get? b = h.get? b := by
  unfold Heap.get? maskP
  simp only [Array.getElem?_mapIdx]
  cases h.objs[b]? with
  | none => rfl
  | some o => simp [hb]
theorem of_maskP {h : Heap} {p : Addr → Bool} {b : Addr} {o : Obj} (e : (maskP h p).get? b = some o) : p b = false ∧ h.get? b = some o := by
  cases q : p b with
  | true => rw [maskP_none q] at e; cases e
  | false => rw [maskP_get q] at e; exact ⟨rfl, e⟩
/-- a base that leaves out the map, the frame and some more -/
def butX (T : TM) (L : Addr) (X : List Addr) (b : Addr) : Bool := (T b).isSome || b == L || X.contains b
theorem St.intoX (S : St B L T m O s) (X : List Addr) : St (maskP s.heap (butX T L X)) L T m O s :=
  ⟨S.ns, fun _ _ e => (of_maskP e).2, maskP_none (by simp [butX]), fun a c e => let ⟨h1, _, r⟩ := S.sat a c e; ⟨h1, maskP_none (by simp [butX, e]), r⟩, S.gens, S.os, S.nm, S.big⟩
theorem free_intoX {h : Heap} {X : List Addr} (hX : Free B L T X) : Free (maskP h (butX T L X)) L T X := fun b hb => ⟨(hX b hb).1, (hX b hb).2.1, maskP_none (by simp [butX, hb])⟩
theorem butX_false {X : List Addr} {b : Addr} (h1 : T b = none) (h2 : b ≠ L) (h3 : b ∉ X) : butX T L X b = false := by simp [butX, h1, h2, h3]
/-- what the map does not name may turn -/
theorem St.butP (S : St B L T m O s) {s' : Shared} (p : Addr → Prop) (hp : ∀ b, p b → T b = none ∧ b ≠ L ∧ B.get? b = none) (k : ∀ b o, ¬ p b → s.heap.get? b = some o → s'.heap.get? b = some o) (hg : s'.gens = s.gens) (ho : s'.os = s.os) : St B L T m O s' :=
  ⟨S.ns.at' fun o e => k _ o (fun q => (hp _ q).2.1 rfl) e, fun b o e => k b o (fun q => by rw [(hp _ q).2.2] at e; cases e) (S.keep b o e), S.LB,
    fun a c e => let ⟨h1, h2, o, ho, hq⟩ := S.sat a c e; ⟨h1, h2, o, k _ _ (fun q => by rw [(hp _ q).1] at e; cases e) ho, hq⟩, hg.trans S.gens, ho.trans S.os, S.nm, S.big⟩
end

abbrev cEnv (scope : Scope) (cl : List (Str × Addr)) (C : Addr) (env : Env) : Env :=
  { scope := relabel scope env, locals := C, globals := env.globals, cells := cellsFrom (C + 1) scope.names cl, qual := env.qual, func := none, code := env.code, frame := env.frame, builtins := env.builtins }

theorem cf_mem : ∀ (names : List (Str × NameKind)) (acc : List (Str × Addr)) (h : Heap), ∀ x ∈ cellsFrom h.objs.size names acc, x ∈ acc ∨ (h.objs.size ≤ x.2 ∧ (pushCells h names).IsCell x.2 none)
  | [], acc, h, x, hx => .inl hx
  | (nm, kind) :: r, acc, h, x, hx => by
    unfold cellsFrom at hx
    unfold pushCells
    split at hx
    · rename_i hk
      rw [if_pos hk]
      have e : (h.push { cls := .type "cell", data := .cell none }).objs.size = h.objs.size + 1 := Heap.size_push ..
      rw [← e] at hx
      rcases cf_mem r _ _ x hx with h1 | ⟨h1, h2⟩
      · rcases List.mem_cons.mp h1 with rfl | h1
        · exact .inr ⟨Nat.le_refl _, _, pushCells_keeps _ _ _ _ (Heap.get?_push_size _ rfl), rfl⟩
        · exact .inl h1
      · rw [e] at h1; exact .inr ⟨by omega, h2⟩
    · rename_i hk
      rw [if_neg hk]
      exact cf_mem r _ _ x hx

section
variable {M : Model} {A : Around} {E : Value → Shared → Prop} {s : Shared} {env : Env}
theorem newCompEnv {scope : Scope} {cl : List (Str × Addr)} {Q : Env → Shared → Prop}
    (h : ∀ h', (∀ b o, s.heap.get? b = some o → h'.get? b = some o) → h'.Ns s.heap.objs.size (fun _ => none) → (∀ x ∈ cellsFrom (s.heap.objs.size + 1) scope.names [], s.heap.objs.size < x.2 ∧ h'.IsCell x.2 none) →
      Q { scope := scope, locals := s.heap.objs.size, globals := env.globals, cells := cellsFrom (s.heap.objs.size + 1) scope.names cl, qual := env.qual, func := none, code := env.code, frame := env.frame, builtins := env.builtins } { s with heap := h' }) :
    wpAny M A (newFunctionEnv scope env.globals cl [] env.qual none .none (some env)) Q E s := by
  simp only [newFunctionEnv, Option.isSome_some, if_true]
  refine wpAny_bind (wpAny_alloc ?_)
  refine wpAny_bind (wpAny_layCells _ (fun name kind cells => by cases hkc : kind == NameKind.cell <;> simp [hkc]) _ _ _ _ ?_)
  have e : (s.heap.push { cls := .type "dict", data := .dict #[] }).objs.size = s.heap.objs.size + 1 := Heap.size_push ..
  rw [show ({ s with heap := s.heap.push { cls := .type "dict", data := .dict #[] } } : Shared).heap.objs.size = s.heap.objs.size + 1 from e]
  refine wpAny_bind (wpAny_pure (wpAny_pure ?_))
  refine h _ (fun b o e => pushCells_keeps _ _ b o (Heap.get?_push_of_some _ e)) ((Heap.Ns.new s.heap (.type "dict")).keeps (pushCells_keeps _ _)) fun x hx => ?_
  rw [← e] at hx
  rcases cf_mem _ _ _ x hx with h1 | ⟨h1, h2⟩
  · cases h1
  · rw [e] at h1; exact ⟨h1, h2⟩
end

section
variable {prog : Program} {w : World} {A : Around} {E : Value → Shared → Prop} {B : Heap} {T : TM} {m : Str → Option Value} {O : OG} {s : Shared} {env : Env}

/-- the tests of a clause -/
abbrev testsOf (ifs : List Expr) (env : Env) : Sem Bool := forIn ifs true fun c r => if r = true then do let ok ← isTrue c env (eval c env); pure (ForInStep.yield ok) else pure (ForInStep.yield r)

theorem tests_nil {M : Model} {Q : Bool → Shared → Prop} (h : Q true s) : wpAny M A (testsOf [] env) Q E s := by
  unfold testsOf; rw [List.forIn_nil]; exact wpAny_pure h
theorem tests_one {M : Model} {c : Expr} {Q : Bool → Shared → Prop} (h : wpAny M A (isTrue c env (eval c env)) Q E s) : wpAny M A (testsOf [c] env) Q E s := by
  unfold testsOf
  rw [List.forIn_cons]
  simp only [if_true]
  refine wpAny_bind (wpAny_bind (wpAny_mono h (fun b s' hb => wpAny_pure ?_) fun _ _ e => e))
  show wpAny M A (forIn [] b _) Q E s'
  rw [List.forIn_nil]
  exact wpAny_pure hb

structure CompGoal (prog : Program) (w : World) (A : Around) (B : Heap) (env : Env) (t : Tag) (target : Expr) (ifs : List Expr) (elt : Expr) (scope : Scope) (cl : List (Str × Addr)) (Fin : TM → List Value → Addr → (Str → Option Value) → OG → Shared → Prop) (it : Value) (s₂ : Shared) : Prop where
  ex : ∃ I X n P IT Need Os T m, ∃ (Inv : Nat → TM → List Value → Prop) (Got : Addr → Value → (Str → Option Value) → Heap → Prop), it = .ref I ∧ Itr prog w A I X n P IT Need Os ∧ n ≤ 1000000 ∧ St B env.locals T m (Os 0) s₂ ∧ Free B env.locals T X ∧ IT 0 s₂.heap ∧ Inv 0 T [] ∧
    (∀ i T ys, i ≤ n → Inv i T ys → Need T) ∧
    (∀ C v mC h T, Got C v mC h → (∀ x ∈ cellsFrom (C + 1) scope.names [], T x.2 = none ∧ x.2 ≠ C) → Got C v mC (mask h T C)) ∧
    -- the target
    (∀ C i v T mC s (R : Shared → Prop), P i v → St B env.locals T m (Os (i + 1)) s → s.heap.Ns C mC → (∀ x ∈ cellsFrom (C + 1) scope.names [], ∃ u, s.heap.IsCell x.2 u) →
      (∀ s' mC', s'.gens = s.gens → s'.os = s.os → s'.heap.Ns C mC' → (∀ b o, b ≠ C → (∀ x ∈ cellsFrom (C + 1) scope.names [], b ≠ x.2) → s.heap.get? b = some o → s'.heap.get? b = some o) → (∀ x ∈ cellsFrom (C + 1) scope.names [], ∃ u, s'.heap.IsCell x.2 u) → Got C v mC' s'.heap → R s') →
      wpAny (model prog w) A (assign target (cEnv scope cl C env) v) (fun _ => R) NoR s) ∧
    -- the tests and the item
    (∀ C i v T ys mC B₁ s, i < n → P i v → Inv i T ys → (∀ b o, B.get? b = some o → B₁.get? b = some o) → Got C v mC B₁ → St B₁ C T mC (Os (i + 1)) s →
      wpAny (model prog w) A (testsOf ifs (cEnv scope cl C env)) (fun ok s₃ => if ok = true then wpAny (model prog w) A (eval elt (cEnv scope cl C env)) (fun y s₄ => ∃ T' m', St B₁ C T' m' (Os (i + 1)) s₄ ∧ Inv (i + 1) T' (ys ++ [y])) NoR s₃
        else ∃ T' m', St B₁ C T' m' (Os (i + 1)) s₃ ∧ Inv (i + 1) T' ys) NoR s) ∧
    (∀ T ys D s, Inv n T ys → T D = none → St B env.locals (upd T D (t, LsP ys)) m (Os (n + 1)) s → Fin T ys D m (Os (n + 1)) s)

set_option maxHeartbeats 2000000 in
theorem compBlock {t : Tag} {target iter : Expr} {ifs : List Expr} {elt : Expr} {scope : Scope} {pos : Pos} {cl : List (Str × Addr)} {it : Value} {s₂ : Shared} {Fin : TM → List Value → Addr → (Str → Option Value) → OG → Shared → Prop} {R : Value → Addr → Result → Shared → Prop}
    (h₂ : CompGoal prog w A B env t target ifs elt scope cl Fin it s₂) (ht : ∀ v, letOwnedTupleGo target it v = pure ())
    (hR : ∀ T ys D C mC m O s, T D = none → T C = none → B.get? C = none → C ≠ env.locals → D ≠ C → s.heap.Ns C mC → St B env.locals (upd T D (t, LsP ys)) m O s → Fin T ys D m O s → R (.ref D) C (.ok .next) s)
    (hFin : True) :
    wpAny (model prog w) A (newList []) (fun acc s₃ => wpAny (model prog w) A (newFunctionEnv scope env.globals cl [] env.qual none .none (some env)) (fun cenv s₄ =>
      codeAny (model prog w) A (.compStart (.ListComp elt [⟨target, iter, ifs, 0⟩] scope pos) 0 it acc { cenv with scope := relabel scope env }) (R acc cenv.locals) s₄) E s₃) E s₂ := by
  obtain ⟨I, X, n, P, IT, Need, Os, T, m, Inv, Got, rfl, W, hn, S, hX, hIT, hI, hN, hGot, asg, turn, fin⟩ := h₂.ex
  refine wpAny_newObj_type ?_
  refine newCompEnv fun h₁ k₁ ns₁ cells₁ => ?_
  -- the list, the frame, its cells
  have hD0 : (s₂.heap.push { cls := .type "list", data := .seq ([] : List Value).toArray }).get? s₂.heap.objs.size = some { cls := .type "list", data := .seq #[] 0 } := Heap.get?_push_size _ rfl
  have hsz : (s₂.heap.push { cls := .type "list", data := .seq ([] : List Value).toArray }).objs.size = s₂.heap.objs.size + 1 := Heap.size_push ..
  dsimp only at h₁ k₁ ns₁ cells₁ ⊢
  rw [hsz] at ns₁ cells₁ ⊢
  generalize hDe : s₂.heap.objs.size = D at *
  generalize hCe : D + 1 = C at *
  have hlt : ∀ (b : Nat) o, s₂.heap.get? b = some o → b < D := fun b o e => hDe ▸ Heap.lt_size e
  have hLD : @LT.lt Nat _ env.locals D := hDe ▸ S.ltL
  have hBn : ∀ b : Nat, D ≤ b → B.get? b = none := fun b hb => by
    cases e : B.get? b with
    | none => rfl
    | some o => exact absurd (hlt _ _ (S.keep _ _ e)) (Nat.not_lt.mpr hb)
  have hXD : ∀ b ∈ X, @LT.lt Nat _ b D := fun b hb => by obtain ⟨o, ho⟩ := W.has 0 _ hIT b hb; exact hlt _ _ ho
  have hTD : ∀ b : Nat, D ≤ b → T b = none := fun b hb => S.none_of (hDe ▸ hb)
  have kD : ∀ b o, s₂.heap.get? b = some o → h₁.get? b = some o := fun b o e => k₁ _ _ (Heap.get?_push_of_some _ e)
  have S₁ : St B env.locals T m (Os 0) { s₂ with heap := h₁ } := S.keeps kD
  have hIT₁ : IT 0 h₁ := W.frame _ _ _ hIT fun b _ o e => kD b o e
  have hX₁ : ∀ b ∈ X, T b = none ∧ b ≠ env.locals ∧ B.get? b = none := hX
  let cs := cellsFrom (C + 1) scope.names []
  have hcs : ∀ x ∈ cs, @LT.lt Nat _ C x.2 := fun x hx => (cells₁ x hx).1
  let J : Nat → Shared → Prop := fun k s' => ∃ i T ys mC, k = n - i ∧ i ≤ n ∧ St B env.locals T m (Os i) s' ∧ Free B env.locals T X ∧ IT i s'.heap ∧ Inv i T ys ∧ s'.heap.Ns C mC ∧ (∃ q, s'.heap.get? D = some { cls := .type "list", data := .seq ys.toArray q }) ∧
    T C = none ∧ T D = none ∧ (∀ x ∈ cs, T x.2 = none ∧ ∃ u, s'.heap.IsCell x.2 u) ∧ ys.length ≤ i
  have loop : codeAny (model prog w) A (.compLoop (.ListComp elt [⟨target, iter, ifs, 0⟩] scope pos) 0 (.ref I) (.ref D) (cEnv scope cl C env)) (R (.ref D) C) { s₂ with heap := h₁ } := by
    refine codeAny_compLoop_tests J ?_ n ⟨0, T, [], _, rfl, Nat.zero_le _, S₁, hX, hIT₁, hI, ns₁, ⟨0, k₁ _ _ hD0⟩, hTD _ (by omega), hTD _ (Nat.le_refl _), fun x hx => ⟨hTD _ (by have := hcs x hx; omega), _, (cells₁ x hx).2⟩, Nat.le_refl _⟩ ht
    rintro k s' ⟨i, T, ys, mC, rfl, hi, S, hX, hIT, hI, hnC, ⟨q, hDo⟩, hTC, hTD, hcells, hlen⟩
    have hCL : C ≠ env.locals := neGt (by omega)
    have hDL : D ≠ env.locals := Nat.ne_of_gt hLD
    have hCX : C ∉ X := fun h => by have := hXD _ h; omega
    have hDX : D ∉ X := fun h => Nat.lt_irrefl _ (hXD _ h)
    have hcX : ∀ x ∈ cs, x.2 ∉ X ∧ x.2 ≠ env.locals ∧ x.2 ≠ D ∧ x.2 ≠ C ∧ B.get? x.2 = none := fun x hx => by
      have h1 := hcs x hx
      exact ⟨fun h => by have := hXD _ h; omega, neGt (by omega), neGt (by omega), neGt (by omega), hBn _ (by omega)⟩
    -- the base with the list, the frame and the cells
    have SX := S.intoX X
    have inX : ∀ b o, T b = none → b ≠ env.locals → b ∉ X → s'.heap.get? b = some o → (maskP s'.heap (butX T env.locals X)).get? b = some o := fun b o h1 h2 h3 e => by rw [maskP_get (butX_false h1 h2 h3)]; exact e
    have upX : ∀ b o, B.get? b = some o → (maskP s'.heap (butX T env.locals X)).get? b = some o := fun b o e => by
      have h1 : T b = none := by
        cases q : T b with
        | none => rfl
        | some c => rw [S.neB q] at e; cases e
      exact inX b o h1 (fun q => by rw [q, S.LB] at e; cases e) (fun q => by rw [(hX b q).2.2] at e; cases e) (S.keep b o e)
    rcases Nat.lt_or_ge i n with hlti | hge
    · refine noR (W.item i _ env.locals T m s' _ hlti SX (hN i T ys hi hI) (free_intoX hX) hIT fun v s₁ hP SX₁ hIT₁ => ?_)
      have S₁ : St B env.locals T m (Os (i + 1)) s₁ := SX₁.back upX
      have hnC₁ : s₁.heap.Ns C mC := by
        obtain ⟨o, es, ep, ho, r⟩ := hnC
        exact ⟨o, es, ep, SX₁.keep _ _ (inX _ _ hTC hCL hCX ho), r⟩
      have hDo₁ := SX₁.keep _ _ (inX _ _ hTD hDL hDX hDo)
      have hcells₁ : ∀ x ∈ cs, ∃ u, s₁.heap.IsCell x.2 u := fun x hx => by
        obtain ⟨h1, u, o, ho, hu⟩ := hcells x hx
        exact ⟨u, o, SX₁.keep _ _ (inX _ _ h1 (hcX x hx).2.1 (hcX x hx).1 ho), hu⟩
      refine noR (asg C i v T mC s₁ _ hP S₁ hnC₁ hcells₁ fun s₂ mC₂ hg ho hnC₂ hk hcells₂ hgot => ?_)
      have S₂ : St B env.locals T m (Os (i + 1)) s₂ := S₁.butP (fun b => b = C ∨ ∃ x ∈ cs, b = x.2) (fun b hb => by
          rcases hb with rfl | ⟨x, hx, rfl⟩
          · exact ⟨hTC, hCL, hBn _ (by omega)⟩
          · exact ⟨(hcells x hx).1, (hcX x hx).2.1, (hcX x hx).2.2.2.2⟩)
        (fun b o hb e => hk b o (fun h => hb (.inl h)) (fun x hx h => hb (.inr ⟨x, hx, h⟩)) e) hg ho
      have hDo₂ := hk D _ (neLt (by omega)) (fun x hx => Ne.symm (hcX x hx).2.2.1) hDo₁
      have hIT₂ : IT (i + 1) s₂.heap := W.frame _ _ _ hIT₁ fun b hb o e => hk b o (fun q => hCX (q ▸ hb)) (fun x hx q => (hcX x hx).1 (q ▸ hb)) e
      have hBC : B.get? C = none := hBn _ (by omega)
      have hbig : @LT.lt Nat _ sysModules C := by
        have h1 : @LT.lt Nat _ sysModules env.locals := S.big
        omega
      have SC := S₂.enter hnC₂ hTC hbig
      have inC : ∀ b o, T b = none → b ≠ C → s₂.heap.get? b = some o → (mask s₂.heap T C).get? b = some o := fun b o h1 h2 e => by rw [mask_get h1 h2]; exact e
      have fin1 : ∀ T' m' s₄ ys', St (mask s₂.heap T C) C T' m' (Os (i + 1)) s₄ → Inv (i + 1) T' ys' → ∀ h₅ : Heap, (∃ q, h₅.get? D = some { cls := .type "list", data := .seq ys'.toArray q }) → (∀ b o, b ≠ D → s₄.heap.get? b = some o → h₅.get? b = some o) → ys'.length ≤ i + 1 → ∃ mm, mm < n - i ∧ J mm { s₄ with heap := h₅ } := by
        intro T' m' s₄ ys' S₄ hI₄ h₅ hD₅ hk₅ hlen₅
        have hn0 : ∀ b o, (mask s₂.heap T C).get? b = some o → T' b = none := fun b o e => by
          cases q : T' b with
          | none => rfl
          | some c => rw [S₄.neB q] at e; cases e
        have hT'D : T' D = none := hn0 _ _ (inC _ _ hTD (neLt (by omega)) hDo₂)
        refine ⟨n - (i + 1), by omega, i + 1, T', ys', m', rfl, hlti, ?_, ?_, ?_, hI₄, ?_, hD₅, S₄.Lnone, hT'D, ?_, hlen₅⟩
        · exact (S₂.exit hBC (Ne.symm hCL) S₄).but hDL (hBn _ (Nat.le_refl _)) hT'D hk₅
        · intro b hb
          obtain ⟨o, ho⟩ := W.has _ _ hIT₂ b hb
          exact ⟨hn0 b o (inC b o (hX b hb).1 (fun q => hCX (q ▸ hb)) ho), (hX b hb).2⟩
        · exact W.frame _ _ _ hIT₂ fun b hb o e => hk₅ b o (fun q => hDX (q ▸ hb)) (S₄.keep _ _ (inC b o (hX b hb).1 (fun q => hCX (q ▸ hb)) e))
        · exact S₄.ns.at' fun o e => hk₅ C o (neGt (by omega)) e
        · intro x hx
          obtain ⟨u, o, ho, hu⟩ := hcells₂ x hx
          have := inC _ _ (hcells x hx).1 (hcX x hx).2.2.2.1 ho
          exact ⟨hn0 _ _ this, u, o, hk₅ _ _ (hcX x hx).2.2.1 (S₄.keep _ _ this), hu⟩
      refine noR (wpAny_mono (turn C i v T ys mC₂ _ s₂ hlti hP hI (fun b o e => S₂.upC hBC e) (hGot C v mC₂ s₂.heap T hgot fun x hx => ⟨(hcells x hx).1, (hcX x hx).2.2.2.1⟩) SC) (fun ok s₃ hok => ?_) fun _ _ e => e.elim)
      cases ok with
      | false =>
        obtain ⟨T', m', S', hI'⟩ := hok
        have hDB := inC _ _ hTD (neLt (by omega)) hDo₂
        obtain ⟨mm, h1, h2⟩ := fin1 T' m' s₃ ys S' hI' s₃.heap ⟨q, S'.keep _ _ hDB⟩ (fun b o _ e => e) (by omega)
        exact ⟨mm, h1, h2⟩
      | true =>
        refine noR (wpAny_mono hok (fun y s₄ hy => ?_) fun _ _ e => e.elim)
        obtain ⟨T', m', S', hI'⟩ := hy
        have hDB := inC _ _ hTD (neLt (by omega)) hDo₂
        refine append_at (hsz := by rw [List.size_toArray, sizeLine_eq]; omega) (S'.keep _ _ hDB) fun h₅ hs₅ hD₅ => ?_
        exact fin1 T' m' s₄ (ys ++ [y]) S' hI' h₅ ⟨q + 1, by rw [hD₅]; simp⟩ (fun b o hb e => (hs₅.2 b hb).trans e) (by rw [List.length_append, List.length_singleton]; omega)
    · obtain rfl : i = n := Nat.le_antisymm hi hge
      refine noR (W.done _ env.locals T m s' _ SX (hN i T ys hi hI) (free_intoX hX) hIT fun s₁ SX₁ => ?_)
      have S₁ : St B env.locals T m (Os (i + 1)) s₁ := SX₁.back upX
      have hnC₁ : s₁.heap.Ns C mC := by
        obtain ⟨o, es, ep, ho, r⟩ := hnC
        exact ⟨o, es, ep, SX₁.keep _ _ (inX _ _ hTC hCL hCX ho), r⟩
      have hDo₁ := SX₁.keep _ _ (inX _ _ hTD hDL hDX hDo)
      have SD : St B env.locals (upd T D (t, LsP ys)) m (Os (i + 1)) s₁ := by
        refine ⟨S₁.ns, S₁.keep, S₁.LB, fun a c e => ?_, S₁.gens, S₁.os, fun a c e => nm_upd S₁.nm (Nat.lt_trans S.big hLD) e, S₁.big⟩
        unfold upd at e
        split at e
        · rename_i q'; cases e; rw [q']
          exact ⟨hDL, hBn _ (Nat.le_refl _), _, hDo₁, q, rfl⟩
        · exact S₁.sat a c e
      exact hR T ys D C mC m _ s₁ hTD hTC (hBn _ (by omega)) hCL (neLt (by omega)) hnC₁ SD (fin T ys D s₁ hI hTD SD)
  exact codeAny_compStart_list loop (W.self B env.locals T m _ _ S₁ hIT₁ loop |> noR)
end
end Mine
end
section
open PySem PySem.W PySem.Calls PyProof.Rows
set_option Elab.async false
set_option maxRecDepth 100000
namespace Mine
section
variable {prog : Program} {w : World} {A : Around} {E : Value → Shared → Prop} {B : Heap} {T : TM} {m : Str → Option Value} {O : OG} {s : Shared} {env : Env}

abbrev FinE (B : Heap) (L : Addr) (t : Tag) (Q : Value → Shared → Prop) (T : TM) (ys : List Value) (D : Addr) (m : Str → Option Value) (O : OG) (_ : Shared) : Prop := ∀ s, St B L (upd T D (t, LsP ys)) m O s → Q (.ref D) s
abbrev FinA (B : Heap) (L : Addr) (t : Tag) (y : Str) (Q : Flow → Shared → Prop) (T : TM) (ys : List Value) (D : Addr) (m : Str → Option Value) (O : OG) (_ : Shared) : Prop := ∀ s, St B L (upd T D (t, LsP ys)) (fs m y (.ref D)) O s → Q .next s

theorem compE {t : Tag} {target iter : Expr} {ifs : List Expr} {elt : Expr} {scope : Scope} {pos : Pos} {cl : List (Str × Addr)} {Q : Value → Shared → Prop}
    (_S : St B env.locals T m O s) (hclos : closureFor scope env = pure cl) (h : wpAny (model prog w) A (eval iter env) (fun xv s₁ => wpAny (model prog w) A (pyIter xv) (CompGoal prog w A B env t target ifs elt scope cl (FinE B env.locals t Q)) NoR s₁) NoR s)
    (hkind : scope.kind = .function := by rfl) (hnames : ∀ x ∈ scope.names, x.2 = .local → scope.names.lookup x.1 = some .local := by decide) (hs : ∀ x, foldedSetIterable iter env x = pure x := by intro _; rfl) (ht : ∀ it v, letOwnedTupleGo target it v = pure () := by intro _ _; rfl) :
    wpAny (model prog w) A (eval (.ListComp elt [⟨target, iter, ifs, 0⟩] scope pos) env) Q E s := by
  rw [eval_ListComp]
  refine wpAny_comprehension_free (use := none) rfl hs hclos hkind hnames (wpAny_mono h (fun xv s₁ h₁ => wpAny_mono h₁ (fun it s₂ h₂ => ?_) fun _ _ e => e.elim) fun _ _ e => e.elim)
  refine compBlock (R := fun acc C => compPost (model prog w) A E none Q acc C) h₂ (ht it) (fun T ys D C mC m O s hTD hTC hBC hCL hDC hn S fin => ?_) trivial
  exact ⟨mC, hn, fun h' hs' => fin _ (S.but hCL hBC (by rw [upd_ne (Ne.symm hDC)]; exact hTC) fun b o hb e => (hs'.2 b hb).trans e)⟩

theorem compA {t : Tag} {target iter : Expr} {ifs : List Expr} {elt : Expr} {scope : Scope} {y : Str} {py : Pos} {pos spos : Pos} {cl : List (Str × Addr)} {Q : Flow → Shared → Prop}
    (_S : St B env.locals T m O s) (hclos : closureFor scope env = pure cl) (h : wpAny (model prog w) A (eval iter env) (fun xv s₁ => wpAny (model prog w) A (pyIter xv) (CompGoal prog w A B env t target ifs elt scope cl (FinA B env.locals t y Q)) NoR s₁) NoR s)
    (hsw : swapsWith (.ListComp elt [⟨target, iter, ifs, 0⟩] scope pos) (some (.Name y py)) spos.line env = pure true := by rfl)
    (hk : env.scope.kind = .function := by rfl) (hy : env.kindOf y = some .local := by rfl)
    (hkind : scope.kind = .function := by rfl) (hnames : ∀ x ∈ scope.names, x.2 = .local → scope.names.lookup x.1 = some .local := by decide) (hs : ∀ x, foldedSetIterable iter env x = pure x := by intro _; rfl) (ht : ∀ it v, letOwnedTupleGo target it v = pure () := by intro _ _; rfl) :
    wpAny (model prog w) A (exec (.Assign [.Name y py] (.ListComp elt [⟨target, iter, ifs, 0⟩] scope pos) spos) env) Q E s := by
  rw [exec_Assign_Name_used _ _ _ _ hsw]
  refine wpAny_bind (wpAny_standAt (wpAny_bind ?_))
  show wpAny _ A (do let _ ← comprehension (.ListComp elt [⟨target, iter, ifs, 0⟩] scope pos) scope env _ (newList []) false (eval iter env) (some (assign (.Name y py) env))) _ _ s
  refine wpAny_bind (wpAny_mono (wpAny_comprehension_free (use := some (assign (.Name y py) env)) (Q := fun _ s' => Q .next s') rfl hs hclos hkind hnames
    (wpAny_mono h (fun xv s₁ h₁ => wpAny_mono h₁ (fun it s₂ h₂ => ?_) fun _ _ e => e.elim) fun _ _ e => e.elim)) (fun _ s' hq => wpAny_pure (wpAny_pure hq)) fun _ _ e => e)
  refine compBlock (R := fun acc C => compPost (model prog w) A E (some (assign (.Name y py) env)) (fun _ s' => Q .next s') acc C) h₂ (ht it) (fun T ys D C mC m O s hTD hTC hBC hCL hDC hn S fin => ?_) trivial
  show wpAny _ A (assign (.Name y py) env (.ref D)) _ _ _
  refine wpAny_assign_Name (wpAny_storeName_local hy S.ns (fun h₂ hn₂ hs₂ => ?_) (by rw [hk]; rfl))
  have S₂ := S.local hn₂ hs₂
  refine ⟨mC, hn.sameBut hs₂ hCL, fun h₃ hs₃ => ?_⟩
  exact fin _ (S₂.but hCL hBC (by rw [upd_ne (Ne.symm hDC)]; exact hTC) fun b o hb e => (hs₃.2 b hb).trans e)

/-! ### targets -/
/-- a name of the clause's own frame -/
theorem asgLocal {scope : Scope} {cl : List (Str × Addr)} {x : Str} {px : Pos} (hx : scope.names.lookup x = some .local) (hkind : scope.kind = .function) {C : Addr} {v : Value} {mC : Str → Option Value} {s : Shared} {R : Shared → Prop} (hn : s.heap.Ns C mC)
    (hcells : ∀ x ∈ cellsFrom (C + 1) scope.names [], ∃ u, s.heap.IsCell x.2 u) (hC : ∀ x ∈ cellsFrom (C + 1) scope.names [], x.2 ≠ C)
    (h : ∀ s' mC', s'.gens = s.gens → s'.os = s.os → s'.heap.Ns C mC' → (∀ b o, b ≠ C → (∀ x ∈ cellsFrom (C + 1) scope.names [], b ≠ x.2) → s.heap.get? b = some o → s'.heap.get? b = some o) → (∀ x ∈ cellsFrom (C + 1) scope.names [], ∃ u, s'.heap.IsCell x.2 u) → mC' x = some v → R s') :
    wpAny (model prog w) A (assign (.Name x px) (cEnv scope cl C env) v) (fun _ => R) NoR s := by
  have hp : ((cEnv scope cl C env).scope.kind == .class || ((cEnv scope cl C env).scope.kind == .module && (cEnv scope cl C env).locals != (cEnv scope cl C env).globals)) = false := by
    show ((relabel scope env).kind == .class || ((relabel scope env).kind == .module && _)) = false
    have : (relabel scope env).kind = .function := hkind
    rw [this]; rfl
  refine wpAny_assign_Name (wpAny_storeName_local (lookup_relabel_local hx) hn (fun h' hn' hs' => ?_) hp)
  exact h _ _ rfl rfl hn' (fun b o hb _ e => (hs'.2 b hb).trans e) (fun y hy => let ⟨u, hu⟩ := hcells y hy; ⟨u, hu.sameBut hs' (hC y hy)⟩) (if_pos rfl)
theorem cellsFrom_gt : ∀ (names : List (Str × NameKind)) (n : Nat), ∀ x ∈ cellsFrom n names [], n ≤ x.2 := by
  have gen : ∀ (names : List (Str × NameKind)) (n : Nat) (acc : List (Str × Addr)), ∀ x ∈ cellsFrom n names acc, x ∈ acc ∨ n ≤ x.2 := by
    intro names
    induction names with
    | nil => intro n acc x hx; exact .inl hx
    | cons y r ih =>
      intro n acc x hx
      obtain ⟨nm, kd⟩ := y
      unfold cellsFrom at hx
      split at hx
      · rcases ih _ _ x hx with h | h
        · rcases List.mem_cons.mp h with rfl | h
          · exact .inr (Nat.le_refl _)
          · exact .inl h
        · exact .inr (by omega)
      · exact ih _ _ x hx
  exact fun names n x hx => (gen names n [] x hx).resolve_left (by simp)
theorem cells_ne {scope : Scope} {C : Addr} : ∀ x ∈ cellsFrom (C + 1) scope.names [], x.2 ≠ C := fun x hx => neGt (cellsFrom_gt _ _ x hx)

/-- over range(n), a local target -/
theorem compRange {t : Tag} {x : Str} {px : Pos} {ifs : List Expr} {elt : Expr} {scope : Scope} {cl : List (Str × Addr)} {Fin : TM → List Value → Addr → (Str → Option Value) → OG → Shared → Prop} {n : Nat} {r : Addr} {a u b : Tok}
    (hh : A.handled = none) (S : St B env.locals T m O s) (hr : IsRange s.heap r 0 (n : Int) 1 a u b) (hn : n < 1000000) (hx : scope.names.lookup x = some .local) (hkind : scope.kind = .function)
    (Inv : Nat → TM → List Value → Prop) (h0 : Inv 0 T [])
    (turn : ∀ C i u T ys mC B₁ s, i < n → Inv i T ys → (∀ b o, B.get? b = some o → B₁.get? b = some o) → mC x = some (.int (i : Int) u) → St B₁ C T mC O s →
      wpAny (model prog w) A (testsOf ifs (cEnv scope cl C env)) (fun ok s₃ => if ok = true then wpAny (model prog w) A (eval elt (cEnv scope cl C env)) (fun y s₄ => ∃ T' m', St B₁ C T' m' O s₄ ∧ Inv (i + 1) T' (ys ++ [y])) NoR s₃
        else ∃ T' m', St B₁ C T' m' O s₃ ∧ Inv (i + 1) T' ys) NoR s)
    (done : ∀ T ys D s, Inv n T ys → T D = none → St B env.locals (upd T D (t, LsP ys)) m O s → Fin T ys D m O s) :
    wpAny (model prog w) A (pyIter (.ref r)) (CompGoal prog w A B env t (.Name x px) ifs elt scope cl Fin) E s :=
  pyIterRange S hr hn fun I _ S' hF hit => ⟨⟨I, [I], _, _, _, _, _, T, m, Inv, fun _ v mC _ => mC x = some v, rfl, itrRange hh I n O, Nat.le_of_lt hn, S', hF, by simpa using hit, h0, fun _ _ _ _ _ => trivial, fun _ _ _ _ _ h _ => h,
    fun C i v T mC s R _ _ hC hcells h => asgLocal hx hkind hC hcells cells_ne h,
    fun C i v T ys mC B₁ s hi ⟨_, u, hv⟩ hI hB hg S => turn C i u T ys mC B₁ s hi hI hB (hv ▸ hg) S, done⟩⟩
/-- over a list, a local target -/
theorem compList {t tl : Tag} {x : Str} {px : Pos} {ifs : List Expr} {elt : Expr} {scope : Scope} {cl : List (Str × Addr)} {Fin : TM → List Value → Addr → (Str → Option Value) → OG → Shared → Prop} {l : Addr} {xs : List Value} {P : Obj → Prop}
    (hh : A.handled = none) (S : St B env.locals T m O s) (hl : T l = some (tl, P)) (hP : ∀ o, P o → LiP xs o) (hn : xs.length ≤ 1000000) (hx : scope.names.lookup x = some .local) (hkind : scope.kind = .function)
    (Inv : Nat → TM → List Value → Prop) (h0 : Inv 0 T []) (hN : ∀ i T ys, i ≤ xs.length → Inv i T ys → NeedL l xs T)
    (turn : ∀ C i v T ys mC B₁ s, xs[i]? = some v → Inv i T ys → (∀ b o, B.get? b = some o → B₁.get? b = some o) → mC x = some v → St B₁ C T mC O s →
      wpAny (model prog w) A (testsOf ifs (cEnv scope cl C env)) (fun ok s₃ => if ok = true then wpAny (model prog w) A (eval elt (cEnv scope cl C env)) (fun y s₄ => ∃ T' m', St B₁ C T' m' O s₄ ∧ Inv (i + 1) T' (ys ++ [y])) NoR s₃
        else ∃ T' m', St B₁ C T' m' O s₃ ∧ Inv (i + 1) T' ys) NoR s)
    (done : ∀ T ys D s, Inv xs.length T ys → T D = none → St B env.locals (upd T D (t, LsP ys)) m O s → Fin T ys D m O s) :
    wpAny (model prog w) A (pyIter (.ref l)) (CompGoal prog w A B env t (.Name x px) ifs elt scope cl Fin) E s :=
  pyIterList S hl hP fun I _ S' hF hit => ⟨⟨I, [I], _, _, _, _, _, T, m, Inv, fun _ v mC _ => mC x = some v, rfl, itrList hh I l xs O, hn, S', hF, hit, h0, hN, fun _ _ _ _ _ h _ => h,
    fun C i v T mC s R _ _ hC hcells h => asgLocal hx hkind hC hcells cells_ne h,
    fun C i v T ys mC B₁ s _ hv hI hB hg S => turn C i v T ys mC B₁ s hv hI hB hg S, done⟩⟩
end
end Mine
end
section
open PySem PySem.W PySem.Calls PyProof.Rows
set_option Elab.async false
set_option maxRecDepth 100000
namespace Mine
section
variable {M : Model} {prog : Program} {w : World} {A : Around} {E : Value → Shared → Prop} {B : Heap} {L : Addr} {T : TM} {m : Str → Option Value} {O : OG} {s : Shared} {env : Env}
/-! ## the rules, their side conditions ahead -/
theorem asgN {x : Str} {pos' pos : Pos} {value : Expr} {Q : Flow → Shared → Prop} (hs : swapsWith value (some (.Name x pos')) pos.line env = pure false) (h : wpAny M A (eval value env) (fun v s₁ => wpAny M A (storeName env x v) (fun _ => Q .next) E s₁) E s) :
    wpAny M A (exec (.Assign [.Name x pos'] value pos) env) Q E s := wpAny_Assign_Name h hs
theorem asgS {o i : Expr} {pos' pos : Pos} {value : Expr} {Q : Flow → Shared → Prop} (hs : swapsWith value (some (.Subscript o i pos')) pos.line env = pure false)
    (h : wpAny M A (eval value env) (fun v s₁ => wpAny M A (eval o env) (fun ov s₂ => wpAny M A (eval i env) (fun iv s₃ => wpAny M A (setItem ov iv v) (fun _ => Q .next) E s₃) E s₂) E s₁) E s) :
    wpAny M A (exec (.Assign [.Subscript o i pos'] value pos) env) Q E s := wpAny_Assign_Subscript h hs
theorem asgA {o : Expr} {attr : Str} {pos' pos : Pos} {value : Expr} {Q : Flow → Shared → Prop} (hs : swapsWith value (some (.Attribute o attr pos')) pos.line env = pure false)
    (h : wpAny M A (eval value env) (fun v s₁ => wpAny M A (eval o env) (fun ov s₂ => wpAny M A (setAttr ov attr v) (fun _ => Q .next) E s₂) E s₁) E s) :
    wpAny M A (exec (.Assign [.Attribute o attr pos'] value pos) env) Q E s := plainObj_wpAny_Assign_Attribute h hs
theorem attrE {value : Expr} {attr : Str} {pos : Pos} {Q : Value → Shared → Prop} (he : eval (.Attribute value attr pos) env = (do
      let o ← eval value env
      standAt pos.atName
      let r ← holding [o] (getAttr o attr true)
      letTemporaryGo value o r
      pure r))
    (h : wpAny (model prog w) A (eval value env) (fun o s₁ => wpAny (model prog w) A (getAttr o attr true) Q E s₁) E s) : wpAny (model prog w) A (eval (.Attribute value attr pos) env) Q E s := Attribute_any_ h he
theorem exprE {e : Expr} {pos : Pos} {Q : Flow → Shared → Prop} (hs : swapsWith e none pos.line env = pure false) (hi : interactive env = false) (h : wpAny M A (eval e env) (fun v s' => match v with | .ref _ => False | _ => Q .next s') E s) :
    wpAny M A (exec (.Expr e pos) env) Q E s := wpAny_Expr h hi hs
theorem callC {func : Expr} {args : List Expr} {pos : Pos} {Q : Value → Shared → Prop} (he : eval (.Call func args [] pos) env = (do callWith pos (← eval func env) [] (backTo pos (starEach args env)) (backToKw pos (keywordEach [] env))))
    (h : wpAny M A (eval func env) (fun f s₁ => wpAny M A (callWith pos f [] (backTo pos (starEach args env)) []) Q E s₁) E s) : wpAny M A (eval (.Call func args [] pos) env) Q E s := Call_ h he
theorem methC {o : Expr} {name : Str} {apos pos : Pos} {args : List Expr} {pl : Sem Bool} {Q : Value → Shared → Prop}
    (he : eval (.Call (.Attribute o name apos) args [] pos) env = (do
      let ov ← eval o env
      standAt apos.atName
      let (f, first) ← holding [ov] (getMethod ov name pl)
      callWith pos f first (backTo pos (starEach args env)) []))
    (h : wpAny M A (eval o env) (fun ov s₁ => wpAny M A (getMethod ov name pl) (fun fx s₂ => wpAny M A (callWith pos fx.1 fx.2 (backTo pos (starEach args env)) []) Q E s₂) E s₁) E s) :
    wpAny M A (eval (.Call (.Attribute o name apos) args [] pos) env) Q E s := MethodCall_ h he
theorem nameG {x : Str} {pos : Pos} {Q : Value → Shared → Prop} (h : wpAny M A (eval (.Name x pos) env) Q E s) : wpAny M A (eval (.Name x pos) env) Q E s := h
theorem loadG {x : Str} {Q : Value → Shared → Prop} (h : wpAny M A (loadName env x) Q E s) : wpAny M A (loadName env x) Q E s := h
theorem stG {x : Str} {v : Value} {Q : Unit → Shared → Prop} (h : wpAny M A (storeName env x v) Q E s) : wpAny M A (storeName env x v) Q E s := h
theorem isG {a : Value} {Q : Value → Shared → Prop} (h : wpAny M A (compareOp .Is a .none) Q E s) : wpAny M A (compareOp .Is a .none) Q E s := h
theorem trG {x : Str} {p : Pos} {whole : Sem Value} {Q : Bool → Shared → Prop} (h : wpAny M A (isTrue (.Name x p) env whole) Q E s) : wpAny M A (isTrue (.Name x p) env whole) Q E s := h
theorem splG {e : Expr} {rest : List Expr} {pos : Pos} {Q : List Value → Shared → Prop} (h : wpAny M A (spliced (backTo pos (starEach (e :: rest) env))) Q E s) : wpAny M A (spliced (backTo pos (starEach (e :: rest) env))) Q E s := h
theorem splE {pos : Pos} {Q : List Value → Shared → Prop} (h : Q [] s) : wpAny M A (spliced (backTo pos (starEach [] env))) Q E s := spliced_none h
theorem cwB1 {pos : Pos} {id : String} {e : Expr} {rest : List Expr} {Q : Value → Shared → Prop} (he : starEach (e :: rest) env = (false, eval e env) :: starEach rest env) (hplain : (backTo pos (starEach rest env)).any (·.1) = false)
    (h : wpAny M A (spliced (backTo pos (starEach (e :: rest) env))) (fun vs s₁ => wpAny M A (call (.builtin id) vs) Q E s₁) E s) :
    wpAny M A (callWith pos (.builtin id) [] (backTo pos (starEach (e :: rest) env)) []) Q E s := PyProof.Rows.callWith_builtin1 h he hplain
theorem cwT1 {pos : Pos} {id : String} {e : Expr} {rest : List Expr} {Q : Value → Shared → Prop} (he : starEach (e :: rest) env = (false, eval e env) :: starEach rest env) (hplain : (backTo pos (starEach rest env)).any (·.1) = false)
    (h : wpAny M A (spliced (backTo pos (starEach (e :: rest) env))) (fun vs s₁ => wpAny M A (call (.type id) vs) Q E s₁) E s) :
    wpAny M A (callWith pos (.type id) [] (backTo pos (starEach (e :: rest) env)) []) Q E s := PyProof.Rows.callWith_type1 h he hplain
theorem cwM1 {pos : Pos} {id : String} {first : List Value} {e : Expr} {rest : List Expr} {Q : Value → Shared → Prop} (he : starEach (e :: rest) env = (false, eval e env) :: starEach rest env) (hplain : (backTo pos (starEach rest env)).any (·.1) = false)
    (h : wpAny M A (spliced (backTo pos (starEach (e :: rest) env))) (fun vs s₁ => wpAny M A (call (.builtin id) (first ++ vs)) Q E s₁) E s) :
    wpAny M A (callWith pos (.builtin id) first (backTo pos (starEach (e :: rest) env)) []) Q E s := callWith_method1 h he hplain
end
theorem take_snoc {xs : List Value} {i : Nat} {v : Value} (h : xs[i]? = some v) : xs.take i ++ [v] = xs.take (i + 1) := by rw [List.take_add_one, h]; rfl
theorem upd_none {T : TM} {d x : Addr} {c : Cel} (h : upd T d c x = none) : x ≠ d ∧ T x = none := by
  unfold upd at h
  split at h
  · cases h
  · exact ⟨by assumption, h⟩
/-- a short-lived object is forgotten -/
theorem sub_drop {T : TM} {d D : Addr} {c c' : Cel} (hd : T d = none) : Sub (upd T D c) (upd (upd T d c') D c) := fun a x e => by
  by_cases q : a = D
  · subst q; rw [upd_self] at e ⊢; exact e
  · rw [upd_ne q] at e
    rw [upd_ne q, upd_ne (ne_of_none e hd)]; exact e
end Mine
end
section
open PySem PySem.W PySem.Calls PyProof.Rows
set_option Elab.async false
set_option maxRecDepth 100000
namespace Mine

/-! ## instances of own classes -/
abbrev stk (prog : Program) (w : World) := PySem.strKind prog w
/-- a dict by names -/
def DS (prog : Program) (w : World) (f : Str → Option Value) (k : Nat) (o : Obj) : Prop := ∃ es ep, (o.cls = .type "dict" ∧ o.dict = none) ∧ o.data = .dict es ep ∧ PySem.KeysOf (stk prog w) es ∧ (∀ x, findBy (stk prog w).is es x = f x) ∧ es.size ≤ k

section
variable {prog : Program} {w : World} {f : Str → Option Value} {k : Nat} {o : Obj}
theorem ds_nil {ep : Nat} : DS prog w (fun _ => none) 0 { cls := .type "dict", data := .dict #[] ep } := ⟨#[], ep, ⟨rfl, rfl⟩, rfl, fun _ he => by simp at he, fun _ => rfl, Nat.le_refl _⟩
theorem isStr_eq (n : Str) (v : Value) : v.isStr n = (stk prog w).is n v := by cases v <;> rfl
theorem ds_look (h : DS prog w f k o) (name : Str) : lookIn name o = some (f name) := by
  obtain ⟨es, ep, hx, hd, hk, hf, _⟩ := h
  unfold lookIn
  rw [hd]
  have e := hf name
  unfold findBy at e
  dsimp only
  have e' : es.toList.find? (·.key.isStr name) = es.find? fun d => (stk prog w).is name d.key := by rw [Array.find?_toList]; congr 1; funext d; exact isStr_eq _ _
  rw [e']
  cases q : es.find? fun d => (stk prog w).is name d.key with
  | some d => rw [q] at e; rw [← e]; rfl
  | none =>
    rw [q] at e
    dsimp only
    rw [if_neg, ← e]; rfl
    intro z
    obtain ⟨d, hd1, hd2⟩ := List.any_eq_true.mp z
    obtain ⟨n, hn, _⟩ := hk d (by simpa using hd1)
    obtain ⟨t, ht⟩ := Value.isStrOf_shape hn
    unfold DictEntry.refKey at hd2
    rw [ht] at hd2; cases hd2
theorem ds_put (h : DS prog w f k o) (name : Str) (tk : Tok) (v : Value) : DS prog w (fun x => if x = name then some v else f x) (k + 1) (Obj.putName name (PyData.keyHash w.params name) (.str name tk) v o) ∧ (Obj.putName name (PyData.keyHash w.params name) (.str name tk) v o).isFreed = false := by
  obtain ⟨es, ep, ⟨h1, h2⟩, hd, hk, hf, hz⟩ := h
  obtain ⟨c, d, dt, sl⟩ := o
  dsimp only at h1 h2 hd
  subst h1 h2 hd
  rw [Obj.putName_eq]
  unfold Obj.putNameByArray
  dsimp only
  have e' : (es.findIdx? (·.key.isStr name)) = es.findIdx? fun d => (stk prog w).is name d.key := by congr 1; funext d; exact isStr_eq _ _
  rw [e']
  have hkey : (stk prog w).is name (.str name tk) = true := strKind_is prog w name tk
  cases hi : es.findIdx? fun d => (stk prog w).is name d.key with
  | some i =>
    refine ⟨⟨_, ep, ⟨rfl, rfl⟩, rfl, hk.modify _ _, fun x => ?_, by rw [Array.size_modify]; omega⟩, rfl⟩
    rw [findBy_modify (stk prog w).is (stk prog w).inj es name x v i hi, hf]
  | none =>
    refine ⟨⟨_, ep + 1, ⟨rfl, rfl⟩, rfl, hk.push hkey _, fun x => ?_, by rw [Array.size_push]; omega⟩, rfl⟩
    rw [findBy_push (stk prog w).is es name x _ _ v (KeyKind.is_eq_decide hkey) hi, hf]
end

/-- an own object and its dict -/
structure Inst (prog : Program) (w : World) (T : TM) (gid : Nat) (C x dx : Addr) (k : Nat) (f : Str → Option Value) : Prop where
  i : T x = some ((1, gid, 0), fun o => o = instObj C dx)
  d : T dx = some ((1, gid, 1), DS prog w f k)

section
variable {prog : Program} {w : World} {A : Around} {E : Value → Shared → Prop} {K : Frag} {mg mb : Str → Option Value} {B : Heap} {L : Addr} {T : TM} {m : Str → Option Value} {O : OG} {s : Shared} {t : Tag} {env : Env}
  {gid k : Nat} {C x dx : Addr} {f : Str → Option Value} {name : Str}

theorem Inst.ne (I : Inst prog w T gid C x dx k f) : x ≠ dx := ne_of_tag I.i I.d (by intro e; cases e)
theorem Inst.at (I : Inst prog w T gid C x dx k f) (S : St B L T m O s) : ∃ od, InstAt s.heap x (instObj C dx) C (some od) ∧ DS prog w f k od := by
  obtain ⟨o, ho, rfl⟩ := S.obj I.i
  obtain ⟨od, hod, hp⟩ := S.obj I.d
  exact ⟨od, ⟨ho, rfl, rfl, hod⟩, hp⟩
theorem getOwnS {v : Value} {attr : Option Value} {expr : Bool} {Q : Value → Shared → Prop} (W : Wd K mg mb B) (S : St B L T m O s) (I : Inst prog w T gid C x dx k f) (hv : f name = some v) (hg : plainGet K C name = true) (hh : hasDictIn K C = true)
    (ha : findIn K (.ref C) name = some attr) (hn : noGet K attr = true) (hd : handedIn v = true) (h : ∀ tk, Q v { s with toks := tk }) : wpAny (model prog w) A (getAttr (.ref x) name expr) Q E s := by
  obtain ⟨od, IA, hp⟩ := I.at S
  exact get_value (W.X.keeps S.keep) IA (plainGet_of hg).1 (findObj_own hh ha hn (by rw [ds_look hp, hv])) hd (h _)
theorem getMethS {fn : Addr} {pl : Sem Bool} {Q : Value × List Value → Shared → Prop} (W : Wd K mg mb B) (S : St B L T m O s) (I : Inst prog w T gid C x dx k f) (hv : f name = none) (hg : plainGet K C name = true)
    (hf : findIn K (.ref C) name = some (some (.ref fn))) (ht : isFn K (.ref fn) = true) (h : Q (.ref fn, [.ref x]) s) : wpAny (model prog w) A (getMethod (.ref x) name pl) Q E s := by
  obtain ⟨od, IA, hp⟩ := I.at S
  exact method_fn (W.X.keeps S.keep) IA (plainGet_of hg).1 (plainGet_of hg).2 hf (beq_iff_eq.mp ht) (by show (lookIn name od).map _ = _; rw [ds_look hp, hv]; rfl) h
theorem setAttrS {v : Value} {Q : Unit → Shared → Prop} (W : Wd K mg mb B) (S : St B L T m O s) (I : Inst prog w T gid C x dx k f) (hk : k < 900) (hs : findIn K (.ref C) "__setattr__" = some (some (.builtin "object.__setattr__")))
    (hp : plainOver K C = true) (ht : takerIn K C name = some none) (hh : hasDictIn K C = true)
    (h : ∀ s', St B L (upd T dx ((1, gid, 1), DS prog w (fs f name v) (k + 1))) m O s' → Q () s') : wpAny (model prog w) A (setAttr (.ref x) name v) Q E s := by
  obtain ⟨od, IA, hd⟩ := I.at S
  have X := W.X.keeps S.keep
  refine set_plain X IA hs ?_
  refine osa_open (s := { s with toks := s.toks + 1 }) X IA hp ht fun b => ?_
  obtain ⟨cd, hc, hd'⟩ := any_some hh
  have D := IA.dict
  dsimp only at D
  refine wpAny_bind (wpAny_pure (wpAny_bind (wpAny_bind (wpAny_loadPart IA.at_ (wpAny_bind ((looks_clsIn X hc).at ?_))))))
  rw [hd']
  refine wpAny_pure (a := some dx) (wpAny_bind (wpAny_pure (wpAny_bind ?_)))
  unfold nsSet
  refine wpAny_bind (wpAny_bind (wpAny_askSetting (wpAny_pure (wpAny_bind (wpAny_mkText (wpAny_bind (wpAny_loadPart D ?_)))))))
  have look := ds_look hd name
  obtain ⟨hq1, hq2⟩ := ds_put hd name (s.toks + 1) v
  obtain ⟨es₀, n₀, hx, q, _⟩ := id hd
  rw [q]
  dsimp only
  have c : (!es₀.any (·.key.isStr name) && es₀.any (·.refKey)) = false := by
    unfold lookIn at look
    rw [q] at look
    dsimp only at look
    rw [← Array.any_toList, ← Array.any_toList]
    split at look
    · rename_i en he
      rw [List.any_eq_true.mpr ⟨en, List.mem_of_find?_eq_some he, List.find?_some he⟩]; rfl
    · split at look
      · cases look
      · rename_i z; rw [Bool.not_eq_true] at z; rw [z, Bool.and_false]
  rw [aRefKeyMayBeTheName_at, c]
  refine wpAny_updatePart D ?_
  have D' := Heap.get?_update_self (h := s.heap) (Obj.putName name (PyData.keyHash w.params name) (.str name (s.toks + 1)) v) D hq2
  obtain ⟨es₁, n₁, hx₁, q₁, _, _, hz₁⟩ := id hq1
  refine wpAny_bind (wpAny_lookBehind D' (by rw [q₁]; exact pastItsLine_dict (by rw [sizeLine_eq]; omega)) ?_)
  refine wpAny_pure (h _ (S.change I.d (fun b o hb e => ?_) D' hq1))
  rw [Heap.get?_update_ne _ _ _ _ hb]; exact e
end
end Mine
end
section
open PySem PySem.W PySem.Calls PyProof.Rows
set_option Elab.async false
set_option maxRecDepth 100000
namespace Mine

section
variable {prog : Program} {w : World} {A : Around} {E : Value → Shared → Prop} {K : Frag} {mg mb : Str → Option Value} {B : Heap} {L : Addr} {T : TM} {m : Str → Option Value} {O : OG} {s : Shared} {t : Tag} {env : Env}
  {gid k : Nat} {C x dx fn : Addr} {f : Str → Option Value} {ox : Obj} {od : Option Obj}

/-! ### an own object is walked and measured by its class's functions -/
theorem pyIterI {Q : Value → Shared → Prop} (X : K.In s.heap) (I : InstAt s.heap x ox C od) (hs : findIn K (.ref C) "__iter__" = some (some (.ref fn))) (hf : isFn K (.ref fn) = true)
    (h : wpAny (model prog w) A (call (.ref fn) [.ref x]) (fun it s' => ∃ T' r, s'.TypeIs it T' ∧ typeLookup (.type T') "__next__" = pure (some r) ∧ Q it s') E s) : wpAny (model prog w) A (pyIter (.ref x)) Q E s := by
  unfold pyIter
  refine wpAny_bind (wpAny_bind (I.type.here ((looks_findIn X hs).here ?_)))
  dsimp only
  simp only [callSpecialIfBoundUnlessNone?, bindSpecialIfBound?]
  refine wpAny_bind (wpAny_holding (wpAny_bind ?_))
  refine wpAny_bind (wpAny_bind (I.type.here ((looks_findIn X hs).here ?_)))
  dsimp only
  refine wpAny_bind (wpAny_askSetting (wpAny_ite ?_))
  have fin : wpAny (model prog w) A (call (.ref fn) [.ref x] >>= fun v => pure (some v)) (fun v s' => wpAny (model prog w) A (match v with
      | some it => do match ← specialOf it "__next__" with
                      | none => rule "iter.non-iterator"; raiseError "TypeError" s!"iter() returned non-iterator of type '{← typeNameOf it}'"
                      | some _ => pure it
      | none => do match ← bindSpecialIfBound? (.ref x) "__getitem__" with
                    | none => rule "iter.not-iterable"; raiseError "TypeError" s!"'{← typeNameOf (.ref x)}' object is not iterable"
                    | some _ => rule "iter.getitem-fallback"; newFields "iterator" [.ref x, ← mkInt 0]) Q E s') E s := by
    refine wpAny_bind (wpAny_mono h (fun v s' h' => ?_) fun _ _ e => e)
    obtain ⟨T', r, hT, hl, hq⟩ := h'
    exact wpAny_pure (wpAny_bind (wpAny_specialOf hT hl (wpAny_pure hq)))
  split
  · refine wpAny_bind ((bind_fn X _ (beq_iff_eq.mp hf)).here (wpAny_pure ?_))
    exact fin
  · refine wpAny_tryCatch (wpAny_bind ((bind_fn X _ (beq_iff_eq.mp hf)).here (wpAny_pure ?_)))
    exact fin

theorem lenI {n : Nat} {Q : Value → Shared → Prop} (X : K.In s.heap) (I : InstAt s.heap x ox C od) (hs : findIn K (.ref C) "__len__" = some (some (.ref fn))) (hf : isFn K (.ref fn) = true) (hn : n < 2 ^ 62)
    (h : wpAny (model prog w) A.in1 (call (.ref fn) [.ref x]) (fun v s' => ∃ u, v = .int n u ∧ ∀ u tk, Q (.int n u) { s' with toks := tk }) E s) : wpAny (model prog w) A (call (.builtin "len") [.ref x]) Q E s := by
  refine Calls.call_function_entry kind_len plain_len entry_len (args_len1 _) ?_
  unfold Builtin.«len»
  refine wpAny_bind (m := oneArg "len" _) (wpAny_pure ?_)
  refine wpAny_bind (special_fn X I hs (beq_iff_eq.mp hf) (wpAny_mono h (fun v s' h' => ?_) fun _ _ e => e))
  obtain ⟨u, rfl, hq⟩ := h'
  dsimp only
  refine wpAny_bind (wpAny_holding (wpAny_pure ?_))
  refine wpAny_bind (wpAny_letGo ?_)
  rw [if_neg (by omega)]
  show wpAny _ _ (if ((n : Nat) : Int) ≥ 2 ^ 63 then _ else _) _ _ _
  rw [if_neg (by omega)]
  exact wpAny_bind (wpAny_mkInt (wpAny_pure ⟨_, rfl, hq _ _⟩))

/-! ### a sequence of an iterator's items -/
theorem extendLoopS {I D : Addr} {X : List Addr} {n : Nat} {P : Nat → Value → Prop} {IT : Nat → Heap → Prop} {Need : TM → Prop} {Os : Nat → OG} {res : Value} {R : Result → Shared → Prop} (W : Itr prog w A.in1 I X n P IT Need Os) (hn : n ≤ sizeLine)
    (hDX : D ∉ X) (hF : Free B L T X) (hN : ∀ ys, Need (upd T D (t, LsP ys))) :
    ∀ (j i : Nat) (s : Shared) (ys : List Value), n - i = j → i ≤ n → St B L (upd T D (t, LsP ys)) m (Os i) s → IT i s.heap → ys.length = i → (∀ i v, ys[i]? = some v → P i v) →
      (∀ ys s', St B L (upd T D (t, LsP ys)) m (Os (n + 1)) s' → ys.length = n → (∀ i v, ys[i]? = some v → P i v) → R (.ok (.ret res)) s') →
      codeAny (model prog w) A (.builtin "list.extend.loop" ⟨[.ref D, .ref I, res], []⟩) R s := by
  have fr : ∀ ys, Free B L (upd T D (t, LsP ys)) X := fun ys b hb => ⟨by rw [upd_ne (fun q => hDX (by rw [← q]; exact hb))]; exact (hF b hb).1, (hF b hb).2⟩
  intro j
  induction j with
  | zero =>
    intro i s ys hj hi S hit hl hP hR
    obtain rfl : i = n := by omega
    refine codeAny_builtin PySem.F.entry_extend_loop ?_
    rw [Around.under_plainId PySem.F.plain_extend_loop _]
    show wpAny _ A.in1 (pyNext (.ref I) >>= _) _ _ s
    refine wpAny_bind (noR (W.done B L _ m s _ S (hN ys) (fr ys) hit fun s' S' => ?_))
    exact wpAny_pure (hR ys s' S' hl hP)
  | succ j ih =>
    intro i s ys hj hi S hit hl hP hR
    refine codeAny_builtin PySem.F.entry_extend_loop ?_
    rw [Around.under_plainId PySem.F.plain_extend_loop _]
    show wpAny _ A.in1 (pyNext (.ref I) >>= _) _ _ s
    refine wpAny_bind (noR (W.item i B L _ m s _ (by omega) S (hN ys) (fr ys) hit fun v s' hv S' hit' => ?_))
    obtain ⟨o, ho, c, rfl⟩ := S'.obj upd_self
    show wpAny _ A.in1 (updateSeq D (·.push v) >>= _) _ _ _
    refine wpAny_bind ?_
    have hs : ∀ b o, b ≠ D → s'.heap.get? b = some o → (s'.heap.update D (Obj.mapSeq (·.push v))).get? b = some o := fun b o hb e => (Heap.get?_update_other _ _ (Ne.symm hb)).trans e
    have hup := Heap.get?_update_self (Obj.mapSeq (·.push v)) ho rfl
    have S₂ := S'.change (h' := s'.heap.update D (Obj.mapSeq (·.push v))) (c' := (t, LsP (ys ++ [v]))) upd_self hs hup ⟨c + 1, by simp [Obj.mapSeq]⟩
    rw [upd_upd] at S₂
    refine wpAny_updateSeq ho rfl (wpAny_pure ⟨plainId_quiet PySem.F.plain_extend_loop _, ih (i + 1) _ (ys ++ [v]) (by omega) (by omega) S₂ (W.frame _ _ _ hit' fun b hb o e => hs b o (fun q => hDX (by rw [← q]; exact hb)) e) (by simp [hl]) (fun i' v' e => ?_) hR⟩) (by rw [List.size_toArray]; omega) (by rw [Array.size_push, List.size_toArray]; omega)
    rcases Nat.lt_or_ge i' ys.length with h1 | h1
    · rw [List.getElem?_append_left h1] at e; exact hP _ _ e
    · rw [List.getElem?_append_right h1] at e
      have h2 : i' = i := by
        rcases Nat.eq_or_lt_of_le h1 with h2 | h2
        · omega
        · rw [List.getElem?_eq_none (by simp; omega)] at e; cases e
      subst h2
      rw [← hl, Nat.sub_self] at e
      cases e
      exact hv
theorem touchS {D : Addr} {ys : List Value} {Q : Unit → Shared → Prop} (S : St B L (upd T D (t, LsP ys)) m O s) (hsz : ys.length < sizeLine)
    (h : ∀ s', St B L (upd T D (t, LsP ys)) m O s' → (∀ b o, b ≠ D → s.heap.get? b = some o → s'.heap.get? b = some o) → Q () s') : wpAny (model prog w) A (Builtin.List.listTouch (.ref D)) Q E s := by
  obtain ⟨o, ho, c, rfl⟩ := S.obj upd_self
  show wpAny _ _ (updateSeq D (·.push .none) >>= fun _ => updateSeq D (·.pop)) _ _ _
  refine wpAny_bind (wpAny_updateSeq ho rfl ?_ (by rw [List.size_toArray]; omega) (by rw [Array.size_push, List.size_toArray]; omega))
  have h2 := Heap.get?_update_self (Obj.mapSeq (·.push Value.none)) ho rfl
  refine wpAny_updateSeq h2 rfl ?_ (by rw [Array.size_push, List.size_toArray]; omega) (by rw [Array.size_pop, Array.size_push, List.size_toArray]; omega)
  have h3 := Heap.get?_update_self (Obj.mapSeq (·.pop)) h2 rfl
  have hs : ∀ b o, b ≠ D → s.heap.get? b = some o → ((s.heap.update D (Obj.mapSeq (·.push Value.none))).update D (Obj.mapSeq (·.pop))).get? b = some o :=
    fun b o hb e => (Heap.get?_update_other _ _ (Ne.symm hb)).trans ((Heap.get?_update_other _ _ (Ne.symm hb)).trans e)
  have S₂ := S.change (h' := (s.heap.update D (Obj.mapSeq (·.push Value.none))).update D (Obj.mapSeq (·.pop))) (c' := (t, LsP ys)) upd_self hs h3 ⟨c + 1 + 1, by simp [Obj.mapSeq]⟩
  rw [upd_upd] at S₂
  exact h _ S₂ hs

structure CollGoal (prog : Program) (w : World) (A : Around) (B : Heap) (L : Addr) (T T' : TM) (m : Str → Option Value) (O : OG) (V : List Value → Prop) (it : Value) (s₂ : Shared) : Prop where
  ex : ∃ I X n P IT Need Os, it = .ref I ∧ Itr prog w A I X n P IT Need Os ∧ n < sizeLine ∧ St B L T' m (Os 0) s₂ ∧ Free B L T' X ∧ IT 0 s₂.heap ∧ (∀ T'', Sub T T'' → Need T'') ∧ O = Os 0 ∧ O = Os (n + 1) ∧
    ∀ ys : List Value, ys.length = n → (∀ i v, ys[i]? = some v → P i v) → V ys

set_option maxHeartbeats 1000000 in
theorem collectS {x : Addr} {V : List Value → Prop} {Q : List Value → Shared → Prop} (S : St B L T m O s) (hx : x < s.heap.objs.size)
    (hT : ∀ B' T' s', (∀ b o, B.get? b = some o → B'.get? b = some o) → Sub T T' → St B' L T' m O s' → ∃ v, Looks (model prog w) s'.heap (typeOf (.ref x)) v ∧ (v == Value.type "list") = false ∧ (v == Value.type "tuple") = false)
    (hit : ∀ B' T' s', (∀ b o, B.get? b = some o → B'.get? b = some o) → Sub T T' → St B' L T' m O s' → wpAny (model prog w) A.in1 (pyIter (.ref x)) (CollGoal prog w A.in1 B' L T T' m O V) NoR s')
    (hh : ∀ B' T' s', (∀ b o, B.get? b = some o → B'.get? b = some o) → Sub T T' → St B' L T' m O s' → wpAny (model prog w) A.in1 (Builtin.List.listLengthHint (.ref x)) (fun _ => St B' L T' m O) NoR s')
    (h : ∀ ys s', V ys → St B L T m O s' → Q ys s') : wpAny (model prog w) A (collect (.ref x)) Q E s := by
  unfold collect
  refine wpAny_bind (wpAny_runValue (codeAny_builtin PySem.F.entry_proto_collect ?_))
  rw [Around.under_plainId PySem.F.plain_proto_collect _]
  show wpAny _ A.in1 (newList [] >>= fun l => again (.builtin "list.__iadd__" ⟨[l, .ref x], []⟩)) _ _ s
  refine wpAny_bind (wpAny_newObj_type ?_)
  have S₁ := S.push { cls := .type "list", data := .seq ([] : List Value).toArray } (c := ((0, 0, 1), LsP [])) ⟨0, rfl⟩ rfl
  have hTD := S.new_none
  have hDx' : s.heap.objs.size ≠ x := neGt hx
  generalize ({ s with heap := s.heap.push { cls := .type "list", data := .seq ([] : List Value).toArray } } : Shared) = s₁ at S₁ ⊢
  generalize s.heap.objs.size = D at hTD hDx' S₁ ⊢
  refine wpAny_pure ⟨plainId_quiet PySem.F.plain_list_iadd _, codeAny_builtin PySem.F.entry_list_iadd ?_⟩
  rw [Around.under_plainId PySem.F.plain_list_iadd _]
  show wpAny _ A.in1 (Builtin.List.listExtendWith (.ref D) (.ref x) (.ref D)) _ _ _
  unfold Builtin.List.listExtendWith
  obtain ⟨v, hv, hv1, hv2⟩ := hT B _ s₁ (fun _ _ e => e) (Sub.new hTD) S₁
  refine wpAny_bind (hv.here ?_)
  have hDx : Builtin.List.listSameRef (.ref D) (.ref x) = false := by
    show (D == x) = false
    exact beq_eq_false_iff_ne.mpr hDx'
  rw [if_neg (by rw [hDx, hv1, hv2]; decide)]
  refine wpAny_bind (noR (wpAny_mono (hit B _ s₁ (fun _ _ e => e) (Sub.new hTD) S₁) (fun it s₂ hg => ?_) fun _ _ e => e.elim))
  obtain ⟨I, X, n, P, IT, Need, Os, rfl, W, hn, S₂, hX, hI, hN, hO, hO', hV⟩ := hg.ex
  refine wpAny_bind (wpAny_holding ?_)
  -- the iterator lies in the base
  have up : ∀ b o, B.get? b = some o → (mask s₂.heap (upd T D ((0, 0, 1), LsP [])) L).get? b = some o := fun b o e => S₂.under e
  refine noR (wpAny_mono (hh _ _ s₂ up (Sub.new hTD) (hO ▸ S₂.into)) (fun room s₃ S₃ => ?_) fun _ _ e => e.elim)
  have inB : ∀ b ∈ X, ∀ o, s₂.heap.get? b = some o → s₃.heap.get? b = some o := fun b hb o e => S₃.keep b o (by rw [mask_get (hX b hb).1 (hX b hb).2.1]; exact e)
  have hI₃ : IT 0 s₃.heap := W.frame _ _ _ hI inB
  replace S₃ := S₃.back up
  have hDX : D ∉ X := fun q => by have := (hX D q).1; rw [upd_self] at this; cases this
  dsimp only
  split
  · refine wpAny_bind (wpAny_rule (wpAny_bind (touchS S₃ (by rw [sizeLine_eq]; simp) fun s₄ S₄ hk => ?_)))
    have hI₄ : IT 0 s₄.heap := W.frame _ _ _ hI₃ fun b hb o e => hk b o (fun q => hDX (by rw [← q]; exact hb)) e
    refine wpAny_pure ⟨plainId_quiet PySem.F.plain_extend_loop _, extendLoopS W (Nat.le_of_lt hn) hDX (fun b hb => ⟨(upd_none (hX b hb).1).2, (hX b hb).2⟩) (fun ys => hN _ (Sub.new hTD)) n 0 s₄ [] (by omega) (Nat.zero_le _) (hO ▸ S₄) hI₄ rfl (fun _ _ e => by simp at e) fun ys s' S' hl hP => ?_⟩
    obtain ⟨o, ho, c, rfl⟩ := S'.obj upd_self
    show wpAny _ A (load D >>= _) _ _ s'
    refine wpAny_bind (wpAny_load ho (wpAny_pure (h ys _ (hV ys hl hP) ?_)))
    rw [hO']; exact S'.forget (Sub.new hTD)
  · refine wpAny_pure ⟨plainId_quiet PySem.F.plain_extend_loop _, extendLoopS W (Nat.le_of_lt hn) hDX (fun b hb => ⟨(upd_none (hX b hb).1).2, (hX b hb).2⟩) (fun ys => hN _ (Sub.new hTD)) n 0 s₃ [] (by omega) (Nat.zero_le _) (hO ▸ S₃) hI₃ rfl (fun _ _ e => by simp at e) fun ys s' S' hl hP => ?_⟩
    obtain ⟨o, ho, c, rfl⟩ := S'.obj upd_self
    show wpAny _ A (load D >>= _) _ _ s'
    refine wpAny_bind (wpAny_load ho (wpAny_pure (h ys _ (hV ys hl hP) ?_)))
    rw [hO']; exact S'.forget (Sub.new hTD)
/-! ### sorted -/
theorem sortedS {v : Value} {ns : List Int} {Q : Value → Shared → Prop} (t : Tag) (h64 : ns.length < 64)
    (hcol : ∀ {Q' : List Value → Shared → Prop} {E' : Value → Shared → Prop}, (∀ ys s', IntsAre ys ns → St B L T m O s' → Q' ys s') → wpAny (model prog w) A.in1 (collect v) Q' E' s)
    (h : ∀ l ws ns' s', IntsAre ws ns' → ns'.Perm ns → ns'.Pairwise (· ≤ ·) → T l = none → St B L (upd T l (t, LsP ws)) m O s' → Q (.ref l) s') :
    wpAny (model prog w) A (call (.builtin "sorted") [v]) Q E s := by
  refine Calls.call_function_entry kind_sorted plain_sorted entry_sorted (args_sorted1 _) ?_
  unfold Builtin.«sorted»
  refine wpAny_bind (m := checkCount "sorted" 1 1 _) (wpAny_pure ?_)
  refine wpAny_bind (hcol fun ys s₁ hI S₁ => ?_)
  have hlen := hI.length
  refine wpAny_bind (newListS S₁ t (fun l s₂ hl S₂ => ?_) (by rw [sizeLine_eq]; omega))
  obtain ⟨o, ho, n, rfl⟩ := S₂.obj upd_self
  refine wpAny_bind (wpAny_holding (wpAny_call_entry slot_list_sort ⟨_, ho, rfl⟩ entry_list_sort (list_sort_tree ho hI (by omega) fun out ns' a1 a2 a3 => ⟨_, rfl, ?_⟩) (args_list_sort _)))
  have S₃ : St B L (upd (upd T l (t, LsP ys)) l (t, LsP out.toList)) m O { s₂ with heap := sortedHeap s₂.heap l ys out } := by
    obtain ⟨e, he⟩ := sortedHeap_at (vs := ys) (out := out) ho
    exact S₂.change upd_self (fun b o hb hq => (sortedHeap_old hb (Heap.lt_size hq)).trans hq) he ⟨e, by simp⟩
  rw [upd_upd] at S₃
  exact wpAny_pure ⟨_, rfl, h l _ ns' _ a1 a2 a3 hl S₃⟩
theorem sortedListS {l : Addr} {tl : Tag} {P : Obj → Prop} {vs : List Value} {ns : List Int} {Q : Value → Shared → Prop} (t : Tag) (S : St B L T m O s) (hl : T l = some (tl, P)) (hP : ∀ o, P o → LiP vs o) (hI : IntsAre vs ns) (h64 : ns.length < 64)
    (h : ∀ l ws ns' s', IntsAre ws ns' → ns'.Perm ns → ns'.Pairwise (· ≤ ·) → T l = none → St B L (upd T l (t, LsP ws)) m O s' → Q (.ref l) s') :
    wpAny (model prog w) A (call (.builtin "sorted") [.ref l]) Q E s := by
  refine sortedS t h64 (fun {Q' E'} hq => ?_) h
  have hlen := hI.length
  refine collect_list (S.list hl hP) (hq vs _ hI ?_) (by rw [sizeLine_eq]; omega)
  refine S.keeps fun b o e => ?_
  rw [Heap.get?_update_ne _ _ _ _ (Nat.ne_of_lt (Heap.lt_size e))]
  exact Heap.get?_push_of_some _ e

/-! ### the int keyed dict, gathered -/
theorem ints_of_keys {kvs : List (Int × Value)} : ∀ {ys : List Value}, ys.length = kvs.length → (∀ (i : Nat) (v : Value), ys[i]? = some v → ∃ (k : Int) (u : Tok), (kvs.map (·.1))[i]? = some k ∧ v = Value.int k u) → IntsAre ys (kvs.map (·.1)) := by
  induction kvs with
  | nil => intro ys h _; cases ys with | nil => exact .nil | cons _ _ => cases h
  | cons kv r ih =>
    intro ys h hP
    cases ys with
    | nil => cases h
    | cons y ys =>
      obtain ⟨k, u, h1, rfl⟩ := hP 0 y (by simp)
      cases h1
      exact .cons _ _ (ih (by simpa using h) fun i v e => hP (i + 1) v (by simpa using e))
theorem collGoalDict {d : Addr} {kvs : List (Int × Value)} {ep : Nat} {T' : TM} {td : Tag} {I : Addr} (hh : A.handled = none) (hn : kvs.length < sizeLine) (hd : T d = some (td, DI prog w kvs ep)) (S : St B L T' m O s) (hF : Free B L T' [I]) (hI : s.heap.IsKeyIter I d 0 kvs.length ep) :
    CollGoal prog w A B L T T' m O (fun ys => IntsAre ys (kvs.map (·.1))) (.ref I) s :=
  ⟨⟨I, [I], _, _, _, _, _, rfl, itrDict hh I d kvs ep O, hn, S, hF, hI, fun T'' hs => ⟨td, hs _ _ hd⟩, rfl, rfl, fun _ h hP => ints_of_keys h hP⟩⟩
end
end Mine
end
section
open PySem PySem.W PySem.Calls PyProof.Rows
set_option Elab.async false
set_option maxRecDepth 100000
namespace Mine

section
variable {prog : Program} {w : World} {A : Around} {E : Value → Shared → Prop} {K : Frag} {mg mb : Str → Option Value} {B : Heap} {L : Addr} {T : TM} {m : Str → Option Value} {O : OG} {s : Shared} {t : Tag} {env : Env}
  {gid k : Nat} {C x dx fn : Addr} {f : Str → Option Value} {ox : Obj} {od : Option Obj}

theorem hintDict {d : Addr} {Q : Bool → Shared → Prop} (hT : s.TypeIs (.ref d) "dict") (h : ∀ b, Q b s) : wpAny (model prog w) A (Builtin.List.listLengthHint (.ref d)) Q E s := by
  unfold Builtin.List.listLengthHint
  refine wpAny_bind (wpAny_specialOf hT PySem.F.slot_dict_len.lookup ?_)
  (generalize hid : ("dict.__len__" : String) = id0; (fail_if_success (clear hid id0)); wp_delta; rw [show splitId id0 = some ("dict", "__len__") from by subst hid; decide +kernel]; subst hid)
  refine wpAny_bind (wpAny_isInstance (b := true) hT (by rw [isSubtype_type]; kernel_rfl) ?_)
  rw [if_neg (by decide)]
  refine wpAny_bind (wpAny_typeOf hT ?_)
  exact wpAny_pure (h _)
theorem hintInst {n : Nat} {Q : Bool → Shared → Prop} (X : K.In s.heap) (I : InstAt s.heap x ox C od) (hs : findIn K (.ref C) "__len__" = some (some (.ref fn))) (hf : isFn K (.ref fn) = true) (hn : n ≤ 1000)
    (h : wpAny (model prog w) A.in1 (call (.ref fn) [.ref x]) (fun v s' => ∃ u, v = .int n u ∧ ∀ b tk, Q b { s' with toks := tk }) NoR s) : wpAny (model prog w) A (Builtin.List.listLengthHint (.ref x)) Q E s := by
  unfold Builtin.List.listLengthHint
  refine wpAny_bind (wpAny_bind (I.type.here ((looks_findIn X hs).here ?_)))
  show wpAny _ _ (rule "list.length-hint.len" >>= _) _ _ _
  refine wpAny_bind (wpAny_rule (wpAny_bind (wpAny_attempt (lenI (n := n) X I hs hf (by omega) (wpAny_mono h (fun v s' h' => ?_) fun _ _ e => e.elim)))))
  obtain ⟨u, rfl, hq⟩ := h'
  refine ⟨u, rfl, fun u tk => ?_⟩
  show wpAny _ _ (if Builtin.List.listTooLong (n : Int).toNat then _ else _) _ _ _
  have : Builtin.List.listTooLong (n : Int).toNat = false := by unfold Builtin.List.listTooLong; rw [sizeLine_eq]; simp; omega
  rw [if_neg (by rw [this]; decide)]
  exact wpAny_pure (hq _ _)
end
end Mine
end
section
open PySem PySem.W PySem.Calls PyProof.Rows
open Sem (wp)
set_option Elab.async false
set_option maxRecDepth 100000
namespace Mine

/-! ## runs in contexts without a finaliser -/
def isFin : Code → Bool
  | .builtin id _ => id == "lifetime.gc.finalise"
  | _ => false
def NoFin (Γ : Ctx) : Prop := isFin Γ.code = false ∧ ∀ x ∈ Γ.below, isFin x.1 = false
def NoFinB (Γ : Ctx) : Prop := ∀ x ∈ Γ.below, isFin x.1 = false
def wpN {α : Type} (M : Model) (A : Around) (t : Sem α) (Q : α → Shared → Prop) (E : Value → Shared → Prop) (s : Shared) : Prop :=
  ∀ Γ p, Γ.In A → NoFin Γ → wp M Γ t (fun a _ s' => Q a s') (fun e _ s' => E e s') p s
def codeN (M : Model) (A : Around) (c : Code) (R : Result → Shared → Prop) (s : Shared) : Prop :=
  ∀ Γ p, Γ.code = c → Γ.Below A → NoFinB Γ → wpCode M Γ R p s

section
variable {α β : Type} {M : Model} {A : Around} {E : Value → Shared → Prop} {s : Shared}
theorem toN {t : Sem α} {Q : α → Shared → Prop} (h : wpAny M A t Q E s) : wpN M A t Q E s := fun Γ p hΓ _ => h Γ p hΓ
theorem codeN_of {c : Code} {R : Result → Shared → Prop} (h : codeAny M A c R s) : codeN M A c R s := fun Γ p hc hΓ _ => h Γ p hc hΓ
theorem n_pure {a : α} {Q : α → Shared → Prop} (h : Q a s) : wpN M A (pure a) Q E s := fun _ _ _ _ => h
theorem n_mono {t : Sem α} {Q Q' : α → Shared → Prop} {E' : Value → Shared → Prop} (h : wpN M A t Q E s) (hQ : ∀ a s, Q a s → Q' a s) (hE : ∀ e s, E e s → E' e s) : wpN M A t Q' E' s :=
  fun Γ p hΓ hN => Sem.wp_mono M Γ t (fun a _ s => hQ a s) (fun e _ s => hE e s) p s (h Γ p hΓ hN)
theorem n_bind {m : Sem α} {f : α → Sem β} {Q : β → Shared → Prop} (h : wpN M A m (fun a s' => wpN M A (f a) Q E s') E s) : wpN M A (m >>= f) Q E s := fun Γ p hΓ hN => by
  rw [Sem.wp_bind']
  exact Sem.wp_mono M Γ m (fun a p' s' h' => h' Γ p' hΓ hN) (fun _ _ _ h' => h') p s (h Γ p hΓ hN)
theorem n_holding {vs : List Value} {m : Sem α} {Q : α → Shared → Prop} (h : wpN M A m Q E s) : wpN M A (holding vs m) Q E s := fun Γ p hΓ hN => by rw [Sem.wp_holding]; exact h Γ p hΓ hN
theorem n_onRaise {m : Sem α} {k : Value → Sem Unit} {Q : α → Shared → Prop} (h : wpN M A m Q (fun e s' => wpN M A (k e) (fun _ s'' => E e s'') E s') s) : wpN M A (m.onRaise k) Q E s := fun Γ p hΓ hN => by
  rw [Sem.wp_onRaise]
  exact Sem.wp_mono M Γ m (fun _ _ _ h' => h') (fun e p' s' h' => h' Γ p' hΓ hN) p s (h Γ p hΓ hN)
theorem n_tryCatch {m : Sem α} {k : Value → Sem α} {Q : α → Shared → Prop} (h : wpN M A m Q (fun e s' => wpN M A (k e) Q E s') s) : wpN M A (tryCatch m k) Q E s := fun Γ p hΓ hN => by
  rw [Sem.wp_tryCatch']
  exact Sem.wp_mono M Γ m (fun _ _ _ h' => h') (fun e p' s' h' => h' Γ p' hΓ hN) p s (h Γ p hΓ hN)
theorem n_standAt {pos : Pos} {Q : Unit → Shared → Prop} (h : Q () s) : wpN M A (standAt pos) Q E s := toN (wpAny_standAt h)
theorem n_noR {t : Sem α} {Q : α → Shared → Prop} (h : wpN M A t Q NoR s) : wpN M A t Q E s := n_mono h (fun _ _ x => x) fun _ _ x => x.elim

theorem noFin_enter {Γ : Ctx} (hN : NoFin Γ) (c : Code) (h : Option Value) (p : Pos) : NoFinB (Γ.enter c h p) := fun x hx => by
  rcases List.mem_cons.mp hx with rfl | hx
  · exact hN.1
  · exact hN.2 x hx
theorem n_run {c : Code} {h : Option Value} {Q : Flow → Shared → Prop} (hc : codeN M (A.mark h) c (fun r s' => match r with | .ok f => Q f s' | .error e => E e s') s) (hnb : h ≠ some byPass := by intro x; cases x) : wpN M A (run c h) Q E s :=
  fun Γ p hΓ hN => by rw [Sem.wp_run]; exact hc _ p rfl (hΓ.enter c h p hnb) (noFin_enter hN c h p)
theorem n_runValue {c : Code} {Q : Value → Shared → Prop} (hc : codeN M A c (fun r s' => match r with | .ok (.ret v) => Q v s' | .ok _ => False | .error e => E e s') s) : wpN M A (runValue c) Q E s :=
  fun Γ p hΓ hN => by rw [Sem.wp_runValue]; exact hc _ p rfl (hΓ.enter c none p (by intro x; cases x)) (noFin_enter hN c none p)
theorem n_call {f : Value} {pos : List Value} {kw : List (Str × Value)} {Q : Value → Shared → Prop} (hc : codeN M A (.call f ⟨pos, kw⟩) (fun r s' => match r with | .ok (.ret v) => Q v s' | .ok _ => False | .error e => E e s') s) : wpN M A (call f pos kw) Q E s := n_runValue hc
theorem codeN_mono {c : Code} {R R' : Result → Shared → Prop} (h : codeN M A c R s) (hR : ∀ r s, R r s → R' r s) : codeN M A c R' s := fun Γ p hc hΓ hN => wpCode_mono hR (h Γ p hc hΓ hN)
theorem codeN_tree {c : Code} {R : Result → Shared → Prop} (hf : isFin c = false) (h : wpN M (A.under c) (M.den c) (fun fin s' => match fin with | .done f => R (.ok f) s' | .again c' => c'.quiet = true ∧ codeN M A c' R s') (fun e s' => R (.error e) s') s) : codeN M A c R s := fun Γ p hc hΓ hN => by
  rw [wpCode_iff_wp, hc]
  refine Sem.wp_mono M Γ _ (fun fin p' s' h' => ?_) (fun _ _ _ h' => h') p s (h Γ p (hc ▸ hΓ.in) ⟨hc ▸ hf, hN⟩)
  cases fin with
  | done f => exact h'
  | again c' => exact ⟨h'.1, h'.2 (Γ.goto c') p' rfl (hΓ.goto c') hN⟩
theorem n_stack {Q : List (Code × Pos) → Shared → Prop} (h : ∀ st : List (Code × Pos), (∀ x ∈ st, isFin x.1 = false) → Q st s) : wpN M A stack Q E s := fun Γ p _ hN => by
  show Q ((Γ.code, p) :: Γ.below) s
  refine h _ fun x hx => ?_
  rcases List.mem_cons.mp hx with rfl | hx
  · exact hN.1
  · exact hN.2 x hx
end

section
variable {prog : Program} {w : World} {A : Around} {E : Value → Shared → Prop} {s : Shared} {R : Result → Shared → Prop}
theorem codeN_builtin {id : String} {args : Args} {b : Builtin} (hb : entryFor table id = some b) (hid : (id == "lifetime.gc.finalise") = false)
    (h : wpN (model prog w) (A.under (.builtin id args)) (b args) (fun fin s' => match fin with | .done f => R (.ok f) s' | .again c' => c'.quiet = true ∧ codeN (model prog w) A c' R s') (fun e s' => R (.error e) s') s) :
    codeN (model prog w) A (.builtin id args) R s := by
  refine codeN_tree hid ?_
  show wpN _ _ (match entryFor table id with | some b => b args | none => unsupported ((withoutEnding? id "#data").getD id)) _ _ s
  rw [hb]; exact h
theorem codeN_func {body env} (h : wpN (model prog w) (A.deeper env) (execs body env) (fun f s' => R (.ok (.ret (match f with | .ret v => v | _ => .none))) s') NoR s) : codeN (model prog w) A (.func body env) R s := by
  refine codeN_tree rfl ?_
  show wpN _ (A.deeper env) (do point; match ← (execs body env).onRaise (leaving env) with | .ret v => ret v | _ => ret .none) _ _ s
  refine n_bind (toN (wpAny_point ?_))
  refine n_bind (n_onRaise (n_mono h (fun f s' h' => ?_) fun _ _ h' => h'.elim))
  cases f <;> exact n_pure h'
end

/-! ### the object's dict is handed out -/
section
variable {prog : Program} {w : World} {A : Around} {E : Value → Shared → Prop} {K : Frag} {mg mb : Str → Option Value} {B : Heap} {L : Addr} {T : TM} {m : Str → Option Value} {O : OG} {s : Shared} {t : Tag} {env : Env}
  {gid k : Nat} {C x dx fn : Addr} {f : Str → Option Value} {ox : Obj} {od : Option Obj}

theorem ds_slots {o : Obj} (h : DS prog w f k o) : DS prog w f k (if o.slots.isEmpty = true then { o with slots := #[none] } else o) ∧ (if o.slots.isEmpty = true then { o with slots := #[none] } else o).isFreed = false := by
  obtain ⟨es, ep, ⟨h1, h2⟩, hd, hk, hf, hz⟩ := h
  split
  · exact ⟨⟨es, ep, ⟨h1, h2⟩, hd, hk, hf, hz⟩, Obj.isFreed_of_dict hd⟩
  · exact ⟨⟨es, ep, ⟨h1, h2⟩, hd, hk, hf, hz⟩, Obj.isFreed_of_dict hd⟩
theorem handOutN {Q : Option Addr → Shared → Prop} (W : Wd K mg mb B) (S : St B L T m O s) (I : Inst prog w T gid C x dx k f) (hh : hasDictIn K C = true) (hst : nsIn K cStatics "_thread.count" = some none)
    (h : ∀ s', St B L T m O s' → Q (some dx) s') : wpN (model prog w) A (instanceDictHandedOut x) Q E s := by
  obtain ⟨od, IA, hd⟩ := I.at S
  have X := W.X.keeps S.keep
  have D := IA.dict
  dsimp only at D
  obtain ⟨cd, hc, hd'⟩ := any_some hh
  unfold instanceDictHandedOut
  refine n_bind (toN ?_)
  unfold instanceDict
  refine wpAny_bind (wpAny_loadPart IA.at_ ?_)
  dsimp only
  refine wpAny_bind ((looks_clsIn X hc).here ?_)
  rw [hd']
  refine wpAny_pure (a := some dx) ?_
  refine n_bind (toN (wpAny_loadPart IA.at_ ?_))
  dsimp only
  have fin : wpN (model prog w) A (update dx (fun o => if o.slots.isEmpty then { o with slots := #[none] } else o) >>= fun _ => pure (some dx)) Q E s := by
    obtain ⟨q1, q2⟩ := ds_slots hd
    refine n_bind (toN (wpAny_updatePart (part := none) D ?_))
    have D' := Heap.get?_update_self (h := s.heap) (fun o => if o.slots.isEmpty then { o with slots := #[none] } else o) D q2
    have S' := S.change (h' := s.heap.update dx _) (c' := ((1, gid, 1), DS prog w f k)) I.d (fun b o hb e => (Heap.get?_update_ne _ _ _ _ hb).trans e) D' q1
    rw [upd_same I.d] at S'
    exact n_pure (h _ S')
  refine n_bind ?_
  refine n_bind (toN (wpAny_load D ?_))
  extract_lets ofTheHeap holdsSuch
  split
  · exact n_pure fin
  · refine n_bind (n_stack fun st hst' => ?_)
    have none_ : ∀ (F : Code × Pos → Option (Option Value × List (Str × Value))), (∀ x, isFin x.1 = false → F x = none) → st.findSome? F = none := fun F hF => List.findSome?_eq_none_iff.mpr fun x hx => hF x (hst' x hx)
    rw [none_ _ fun x hx => ?_]
    · refine n_bind (toN ((looks_nsIn X hst).here ?_))
      exact n_pure fin
    · obtain ⟨c, p⟩ := x
      dsimp only at hx ⊢
      split
      · cases hx
      · rfl
end
end Mine
end
section
open PySem PySem.W PySem.Calls PyProof.Rows PySem.Spec
set_option Elab.async false
set_option maxRecDepth 100000
namespace Mine

/-! ## the head, for runs in the caller's own context -/
theorem caller_noFin : NoFin ⟨.builtin "claim.caller" {}, none, none, [], none⟩ := ⟨by decide +kernel, fun _ h => by simp at h⟩
theorem wp_of_wpN {M : Model} {t : Sem Fin} {R : Result → Shared → Prop} {s : Shared} (h : wpN M callerA t (fun fin s' => ∃ f, fin = .done f ∧ R (.ok f) s') (fun e s' => R (.error e) s') s) (p : Pos) :
    Sem.wp M ⟨.builtin "claim.caller" {}, none, none, [], none⟩ t (Sem.finPost M ⟨.builtin "claim.caller" {}, none, none, [], none⟩ R) (fun e _ s' => R (.error e) s') p s := by
  refine Sem.wp_mono M _ t (fun fin p' s' h' => ?_) (fun _ _ _ h' => h') p s (h _ p caller_in caller_noFin)
  obtain ⟨f, rfl, hf⟩ := h'
  exact hf
theorem thread_endsN {prog : Program} {w : World} {t : Sem Fin} {s : Shared} {R : Result → Shared → Prop} (hreg : s.asleep)
    (h : wpN (model prog w) callerA t (fun fin s' => ∃ f, fin = .done f ∧ (R (.ok f) s' ∧ leftWithCleanup s'.gens = false)) (fun e s' => R (.error e) s' ∧ leftWithCleanup s'.gens = false) s) :
    ∃ n r s' s'', runN (denote table) prog w n s ⟨t, .builtin "claim.caller" {}, default, []⟩ = .halted (outcomeOf r) s' ∧
      schedN (denote table) prog w n (.single s ⟨t, .builtin "claim.caller" {}, default, []⟩) = .halted (outcomeOf r) s' ∧ s'.forget = s''.forget ∧ R r s'' := by
  obtain ⟨n, r, s₁, s₂, hs, hn, hfo, hR⟩ := wp_halts_full (M := model prog w) (R := R) hreg (wp_of_wpN (R := fun r s' => R r s' ∧ leftWithCleanup s'.gens = false) h default)
  exact ⟨n, r, s₂, s₁, hn, hs, hfo, hR⟩
theorem callFromN {c : ClaimW} {tree : List Value → Sem Fin} {w : World} {s : Shared} {free : Addr → Prop} {gens : Prop} {kept : Heap → Prop} (hz : s.asleep) (hgens : s.gens = #[])
    (hspec : ∀ args, c.pre args = true → WData.layableAll args = true → ∀ ord : List DictEntry → List DictEntry, (∀ l, (ord l).Perm l) →
      ∃ vs s₁, layAllW c.records (classAt s.heap) w.params ord args s = some (vs, s₁) ∧
        wpN (model c.prog w) callerA (tree vs) (fun fin s' => ∃ f, fin = .done f ∧ (c.Ends s args vs s₁ (.ok f) s' ∧ s'.os = s.os ∧ AllBare s'.gens ∧ kept s'.heap))
          (fun e s' => c.Ends s args vs s₁ (.error e) s' ∧ s'.os = s.os ∧ AllBare s'.gens ∧ kept s'.heap) s₁) :
    c.CallFrom (fun vs => ⟨tree vs, .builtin "claim.caller" {}, default, []⟩) w free gens kept s := by
  intro args hpre hlay ord hord
  obtain ⟨vs, s₁, hlaid, hcode⟩ := hspec args hpre hlay ord hord
  have hal := layAllW_rest _ _ _ hlaid
  obtain ⟨k, r, s', s'', hrun, hsched, hfo, hcase, hos, hkp⟩ := thread_endsN (prog := c.prog) (w := w) (t := tree vs) (s := s₁) (R := fun r s' => c.Ends s args vs s₁ r s' ∧ s'.os = s.os ∧ kept s'.heap)
    (Shared.asleep_of_life hal.2.2.2 hz)
    (n_mono hcode (by
      rintro fin s' ⟨f, e, h1, h2, h3, h4⟩
      exact ⟨f, e, ⟨h1, h2, h4⟩, leftWithCleanup_false_of_bare h3⟩) (by
      rintro e s' ⟨h1, h2, h3, h4⟩
      exact ⟨⟨h1, h2, h4⟩, leftWithCleanup_false_of_bare h3⟩))
  obtain ⟨eh, _, _, eo, _⟩ := Shared.forget_eq hfo
  have hcase := hcase.congr eh
  have hkp : kept s'.heap := by first | exact eh ▸ hkp | (rw [eh] at hkp; exact hkp) | (rw [← eh] at hkp; exact hkp)
  rw [← eo] at hos
  have hlife : s'.heap.life = s.heap.life := (runN_life _ _ _ hrun).trans hal.2.2.2
  refine ⟨vs, s₁, hlaid, k, _, s', hsched, ?_, (fun _ i x hx => by rw [hgens] at hx; simp at hx), hkp, by rw [hlife], Shared.rest_eq hos⟩
  rcases hcase with ⟨v, rfl, d1, d2, d3, d4, d5⟩ | ⟨e, ob, cls, rfl, d1, d2, d3, d4, d5⟩
  · exact .inl ⟨v, rfl, d1, d2, d3, fun b o y _ => d4 b o y, d5⟩
  · exact .inr ⟨e, ob, cls, rfl, d1, d2, d3, d4, fun b o y _ => d5 b o y⟩

/-- the law's walk, in the caller's own context -/
abbrev Walk1 (q : Program) (loose : List Str) (XP : (Str → Option Value) → Heap → Prop) (YP : World → Heap → Prop) (r : RowW) (d : DefRec) (kwd : List (Str × Expr)) : Prop :=
  ∀ (w : World) (s₀ s₁ : Shared) (mg mb : Str → Option Value), Ground q loose r.records XP w s₀ mg mb s₁.heap → YP w s₁.heap → ∀ (a : Addr) (o : Obj) (pm cd doc dV kV : Value), s₁.heap.get? a = some o →
    o.data = .func { docDef d.name d.params d.body d.scope pm cd doc with defaults := dV, kwdefaults := kV } → s₁.heap.CodeRec cd d.name → Dflts mg s₁.heap d.params kwd dV kV → mg d.name = some (.ref a) → s₁.gens = #[] →
    ∀ (args : List WData) (vals : List Value) (as : List Addr), r.claim.pre args = true → WData.layableAll args = true → ReadsAllW r.records (classAt s₀.heap) s₁.heap vals args as → WellAll w.params s₁.heap vals args → (∀ a ∈ as, (a == sysModules) = false) → (∃ h₂ : Heap, YP w h₂ ∧ ∀ a ∈ as, h₂.objs.size ≤ a) →
      wpN (model r.prog w) callerA (PySem.call (.ref a) vals) (fun v s' => GoodWG r.claim (classAt s₀.heap) (ExcName.means s₀.heap) args s₁ (.ok (.ret v)) s')
        (fun e s' => GoodWG r.claim (classAt s₀.heap) (ExcName.means s₀.heap) args s₁ (.error e) s') s₁

end Mine
namespace Mine.PySem.W
/-- the head for runs in the caller's own context: the shape of the library's head of the same last name, which asks for all contexts -/
theorem holds_open {r : OpenRow} {q : Program} {loose : List Str} {Xt : Shared → Bool} {XP : (Str → Option Value) → Heap → Prop} {α : Type} {Yf : Shared → α} {Ya : World → α} {YP : World → Heap → Prop} {d : DefRec} {kwd : List (Str × Expr)} {N : Nat}
    (left : LeftO r.prog q loose Xt Yf Ya N) (hY : ∀ w s, Yf s = Ya w → YP w s.heap) (hYk : ∀ w h h', YP w h → (∀ b o, h.get? b = some o → h'.get? b = some o) → YP w h')
    (hX : ∀ s, Xt s = true → XP (s.heap.nsMap mainGlobals) s.heap) (hXk : ∀ mg h h', XP mg h → (∀ b o, h.get? b = some o → h'.get? b = some o) → XP mg h')
    (hdef : defOf q r.name = some (d, kwd)) (hp : r.prog.theDef r.name = some (d.params, d.body, d.scope)) (hk : kwWritten? d.params.kwonlyargs d.params.kw_defaults = some kwd) (hRf : ∀ s, Xt s = true → RecFacts r.records s.heap) (hwr : (!r.writes || r.records.isEmpty) = true)
    (k1 : r.wellSaid = true) (ok : (chainsOk q && opensWell r.prog && (frees r.toRowW && r.within.isEmpty)) = true) (hb : r.prog.bare) (hw : r.toRowW.promised)
    (call : Walk1 q loose XP YP r.toRowW d kwd) : r.Holds := by
  refine ⟨k1, hw, ?_⟩
  obtain ⟨ok, k5⟩ := Bool.and_eq_true_iff.mp ok
  obtain ⟨hch, o1⟩ := Bool.and_eq_true_iff.mp ok
  obtain ⟨k5, k6⟩ := Bool.and_eq_true_iff.mp k5
  obtain ⟨hsame, hu, ha, hap, hm⟩ := frees_parts k5
  refine ⟨⟨hb, o1, by show r.makers.map _ = []; rw [hm]; rfl⟩, hw.witness, fun w => ⟨(left.behind hX hch w).1, fun s' hs' => ?_⟩⟩
  obtain ⟨s₀, hf, hg0, s, hT, hz, hgens, hg, G00, y⟩ := (left.behind (XP := fun mg h => XP mg h ∧ RecFacts r.records h) (fun s hs => ⟨hX s hs, hRf s hs⟩) hch w).2 s' hs'
  have G0 : Ground q loose [] XP w s (s.heap.nsMap mainGlobals) (s.heap.nsMap builtinsNs) s.heap := ⟨G00.T, G00.B, G00.D, G00.TE, G00.TD, G00.W, G00.X.1, G00.cls, G00.has, G00.apart, G00.once, G00.K⟩
  have RF := G00.X.2
  refine ⟨s₀, hf, hg0, s, hT, fun n hn => ?_, RF.1, RF.2.1, ?_⟩
  · obtain rfl : n = r.name := by split at hn <;> simp_all
    exact pinned_of_view hg G0 hdef hp hk
  have hgens : s.gens = #[] := Array.eq_empty_of_size_eq_zero (beq_iff_eq.mp hgens)
  have G : Ground q loose r.records XP w s _ _ s.heap := RF.ground G0
  refine callFromN (c := r.claim) hz hgens fun args hpre hlay ord hord => ?_
  obtain ⟨⟨vs, s₁⟩, hlaid⟩ := Option.isSome_iff_exists.mp (layAllW_isSome (P := w.params) (ord := ord) G.has args r.args s (pre_splitW hpre).1)
  have keeps := layAllW_keeps _ _ _ hlaid
  have hal := layAllW_rest _ _ _ hlaid
  obtain ⟨as, hrd, hin, hold⟩ := reads_layAllW hord _ _ _ hlaid hlay s₁.heap (fun _ _ e => e)
  have L : Laid r.records w s s₁ args vs as := ⟨⟨ord, hord, hlaid⟩, hrd, hin, hold, keeps, hal.1.trans hgens, hal.2.2.1⟩
  have G₁ := G.keeps hXk keeps
  have Y₁ := hYk _ _ _ (hY w s y) keeps
  obtain ⟨a, o, pm, cd, doc, dV, kV, h1, h2, h3, h4, h5⟩ := G₁.fn hdef
  have h := call w s s₁ _ _ G₁ Y₁ a o pm cd doc dV kV h2 h3 h4 h5 (defOf_name hdef ▸ h1) L.gens args vs as hpre hlay L.reads L.well (L.low G.low) ⟨s.heap, hY w s y, fun a ha => (hin.2.2 a ha).1⟩
  have hi := ident_freeW hu ha hap
  have hwi : r.claim.within = [] := List.isEmpty_iff.mp k6
  refine ⟨vs, s₁, hlaid, ?_⟩
  refine n_bind (toN (wpAny_nsGet G₁.T.g ?_))
  rw [h1]
  refine n_bind (n_mono h (fun v s' g => n_pure ⟨_, rfl, ?_⟩) fun e s' g => ?_)
  · have z := g.laid (c := r.claim) hsame hwi hi L
    exact ⟨z.1, z.2.1, z.2.2, fun q => ⟨namesKept_of hT hg _ keeps g.2.1.old, noTable hwr q⟩⟩
  · have z := g.laid (c := r.claim) hsame hwi hi L
    exact ⟨z.1, z.2.1, z.2.2, fun q => ⟨namesKept_of hT hg _ keeps g.2.1.old, noTable hwr q⟩⟩
end Mine.PySem.W
end
section
open PySem PySem.W PySem.Calls PyProof.Rows Builtin Builtin.ObjectAttr Builtin.Getset_descriptor
open Sem (wp)
set_option Elab.async false
set_option maxRecDepth 100000
namespace Mine
theorem entry_fdict : entryFor table "function.__dict__" = some Builtin.«function.__dict__» := entryFor_of_fast (by kernel_rfl)
section
variable {prog : Program} {w : World} {A : Around} {E : Value → Shared → Prop} {K : Frag} {mg mb : Str → Option Value} {B : Heap} {L : Addr} {T : TM} {m : Str → Option Value} {O : OG} {s : Shared} {t : Tag} {env : Env}
  {gid k : Nat} {C x dx fn : Addr} {f : Str → Option Value} {ox : Obj} {od : Option Obj} {name : Str} {R : Result → Shared → Prop}

theorem codeN_call_builtin {id : String} {args : Args} {b : Builtin} (hq : plainId id = true) (hb : entryFor table id = some b) (hid : (id == "lifetime.gc.finalise") = false)
    (h : wpAny (model prog w) A.in1 (checkBuiltinCall id args) (fun _ s₁ => wpN (model prog w) A.in1 (b args) (fun fin s' => match fin with | .done f => R (.ok f) s' | .again c' => c'.quiet = true ∧ codeN (model prog w) A c' R s') (fun e s' => R (.error e) s') s₁)
      (fun e s' => R (.error e) s') s) : codeN (model prog w) A (.call (.builtin id) args) R s := by
  refine codeN_tree rfl ?_
  show wpN _ A.in1 (do checkBuiltinCall id args; again (.builtin id args)) _ _ s
  refine n_bind (toN (wpAny_mono h (fun _ s₁ h₁ => n_pure (And.intro (plainId_quiet hq args) ?_)) fun _ _ h' => h'))
  refine codeN_builtin hb hid ?_
  rw [Around.under_plainId hq args]; exact h₁

/-- a field is asked for, in such contexts -/
theorem getOpenN {Q : Value → Shared → Prop} {expr : Bool} (X : K.In s.heap) (I : InstAt s.heap x ox C od) (hga : findIn K (.ref C) "__getattribute__" = some (some (.builtin "object.__getattribute__")))
    (h : wpN (model prog w) A.in1 (Builtin.«proto.getattr_hooked» ⟨[.ref x, .str name s.toks], []⟩)
      (fun fin s' => match fin with | .done (.ret v) => wpAny (model prog w) A (handedOut v) Q NoR s' | _ => False) NoR { s with toks := s.toks + 1 }) :
    wpN (model prog w) A (getAttr (.ref x) name expr) Q E s := by
  obtain ⟨hh, g, d, t, os⟩ := s
  have L0 := I.type (M := model prog w)
  have L1 := looks_findIn (M := model prog w) X hga
  unfold getAttr getAttrBy
  refine n_bind (toN (wpAny_mkText ?_))
  refine n_holding (n_bind (toN (L0.at ?_)))
  refine n_bind (toN (L1.at ?_))
  show wpN _ _ (getAttrEveryday _ _ _) _ _ _
  refine n_bind (n_onRaise (n_runValue (codeN_builtin F.plainObj_entry_getattr_hooked rfl (n_mono h (fun fin s' z => ?_) fun _ _ z => z.elim))))
  rcases fin with (_ | _ | _ | _) | _ <;> first | exact z.elim | skip
  exact toN (wpAny_mono z (fun _ _ q => q) fun _ _ q => q.elim)
theorem getBindN {Q : Value → Shared → Prop} {expr : Bool} {g a : Value} (X : K.In s.heap) (I : InstAt s.heap x ox C od) (hga : findIn K (.ref C) "__getattribute__" = some (some (.builtin "object.__getattribute__")))
    (hf : findObj K C od name = some (.bind g a)) (hk : findIn K (.ref C) "__getattr__" = some none)
    (h : wpN (model prog w) A.in1 (call g [a, .ref x, .ref C]) (fun v s' => handedIn v = true ∧ Q v s') NoR { s with toks := s.toks + 1 }) :
    wpN (model prog w) A (getAttr (.ref x) name expr) Q E s := by
  refine getOpenN X I hga ?_
  obtain ⟨hh', gg, d, t, os⟩ := s
  have L0 := I.type (M := model prog w)
  have L1 := looks_find (M := model prog w) X I hf
  have L2 := looks_findIn (M := model prog w) X hk
  refine n_bind (n_pure (n_bind (toN (L0.at ?_))))
  refine n_bind (toN (L1.at ?_))
  refine n_bind (toN (L2.at ?_))
  show wpN _ _ (holding [a] (call g [a, .ref x, .ref C]) >>= ret) _ _ _
  refine n_bind (n_holding (n_mono h (fun v s' z => n_pure ?_) fun _ _ z => z))
  show wpAny _ _ (handedOut v) _ _ _
  rw [handedOut_of z.1]; exact wpAny_pure z.2
theorem getDictN {Q : Value → Shared → Prop} {expr : Bool} {gs Co : Addr} {u v : Tok} {y : Value} (W : Wd K mg mb B) (S : St B L T m O s) (I : Inst prog w T gid C x dx k f) (hg : plainGet K C "__dict__" = true) (hh : hasDictIn K C = true)
    (ha : findIn K (.ref C) "__dict__" = some (some (.ref gs))) (hn : specialIn K (.ref gs) "__get__" = some (some (.builtin "getset_descriptor.__get__"))) (ht : takesIn K (.ref gs) = some true)
    (hp : recIn K gs "getset_descriptor" = some [.str "__dict__" u, .ref Co, .builtin "function.__dict__", y]) (hm : mroIn K C (.ref Co) = some true)
    (hs1 : subIn K (.ref C) (.type "staticmethod") = some false) (hs2 : subIn K (.ref C) (.type "classmethod") = some false) (hst : nsIn K cStatics "_thread.count" = some none)
    (h : ∀ s', St B L T m O s' → Q (.ref dx) s') : wpN (model prog w) A (getAttr (.ref x) "__dict__" expr) Q E s := by
  obtain ⟨od, IA, hd⟩ := I.at S
  have X := W.X.keeps S.keep
  refine getBindN X IA (plainGet_of hg).1 (findObj_data (by obtain ⟨cd, hc, _⟩ := any_some hh; rw [hc]; rfl) ha hn ht) (plainGet_of hg).2 ?_
  have S₁ : St B L T m O { s with toks := s.toks + 1 } := S
  obtain ⟨hh', gg, d, t, os⟩ := s
  obtain ⟨d', sl, ho⟩ := rec_of X hp
  have L0 := IA.type (M := model prog w)
  have L1 := looks_mroIn (M := model prog w) X hm
  have f0 := looks_field (M := model prog w) ho 0 (v := .str "__dict__" u) rfl
  have f1 := looks_field (M := model prog w) ho 1 (v := .ref Co) rfl
  have f2 := looks_field (M := model prog w) ho 2 (v := .builtin "function.__dict__") rfl
  refine n_call (codeN_call_builtin KF.slot_gs.plain KF.entry_gs (by decide) (KF.slot_gs.check _ _ _ _ _ _ _ _ ⟨_, ho, rfl⟩ (KF.args_gs _ _ _) ?_))
  unfold Builtin.«getset_descriptor.__get__» descrGet
  rw [dga_obj]
  refine n_bind (n_pure ?_)
  unfold descrGetter
  refine n_bind (toN ?_)
  unfold descrCheckInstance descrNameAndClass isInstance
  dsimp only at ho f0 f1 f2 L0 L1
  repeat lk
  refine n_bind (toN (f2.at ?_))
  refine n_bind (toN (wpAny_rule ?_))
  have f5 : Looks (model prog w) hh' (descrItself (.ref gs)) [] := ((Looks.ld (part := none) ho).andThen .now).andThen (Looks.of_pure (by kernel_rfl))
  refine n_bind (toN (f5.at ?_))
  refine n_pure ⟨Code.quiet_builtin _ (by decide +kernel), codeN_builtin entry_fdict (by decide) ?_⟩
  rw [Around.under_plainId (by decide +kernel) _]
  unfold Builtin.«function.__dict__»
  dsimp only
  have L2 := looks_subIn (M := model prog w) X hs1
  have L3 := looks_subIn (M := model prog w) X hs2
  have g0 : Looks (model prog w) hh' (isInstance (.ref x) (.type "staticmethod") <||> isInstance (.ref x) (.type "classmethod")) false :=
    Looks.andThen (a := false) (L0.andThen L2) (L0.andThen L3)
  refine n_bind (toN (g0.at ?_))
  rw [if_neg (by decide)]
  refine n_bind (handOutN (s := ⟨hh', gg, d, t + 1, os⟩) W S₁ I hh hst fun s' S' => ?_)
  exact n_pure ⟨rfl, h s' S'⟩
end
end Mine
end
section
open PySem PySem.W PySem.Calls PyProof.Rows
open Sem (wp)
set_option Elab.async false
set_option maxRecDepth 100000
namespace Mine
section
variable {M : Model} {prog : Program} {w : World} {A : Around} {E : Value → Shared → Prop} {s : Shared} {env : Env}

theorem n_execs_cons {st : Stmt} {rest : List Stmt} {Q : Flow → Shared → Prop} (h : wpN M A (exec st env) (fun f s' => match f with | .next => wpN M A (execs rest env) Q E s' | f => Q f s') E s) : wpN M A (execs (st :: rest) env) Q E s := by
  rw [execs_cons]
  refine n_bind (n_mono h (fun f s' h' => ?_) fun _ _ e => e)
  cases f <;> first | exact h' | exact n_pure h'
theorem n_asgN {x : Str} {pos' pos : Pos} {value : Expr} {Q : Flow → Shared → Prop} (hs : swapsWith value (some (.Name x pos')) pos.line env = pure false) (h : wpN M A (eval value env) (fun v s₁ => wpAny M A (storeName env x v) (fun _ => Q .next) E s₁) E s) :
    wpN M A (exec (.Assign [.Name x pos'] value pos) env) Q E s := by
  rw [exec_Assign_Name _ _ _ _ _ hs]
  refine n_bind (n_standAt (n_bind (n_mono h (fun v s₁ h₁ => n_bind (n_standAt (n_bind (toN (wpAny_bindName (wpAny_mono h₁ (fun _ _ q => n_pure q) fun _ _ e => e)))))) fun _ _ e => e)))
theorem n_Return {e : Expr} {pos : Pos} {Q : Flow → Shared → Prop} (h : wpN M A (eval e env) (fun v => Q (.ret v)) E s) : wpN M A (exec (.Return (some e) pos) env) Q E s := by
  rw [exec_Return_some]
  exact n_bind (n_standAt (n_bind (n_mono h (fun v s' q => n_pure q) fun _ _ e => e)))
theorem n_Try {body orelse : List Stmt} {h₀ : ExceptHandler} {hs : List ExceptHandler} {pos : Pos} {Q : Flow → Shared → Prop}
    (h : wpN M A (execs body env) (fun f s₁ => match f with | .next => wpN M A (execs orelse env) Q E s₁ | f => Q f s₁) NoR s) : wpN M A (exec (.Try body (h₀ :: hs) orelse [] pos) env) Q E s := by
  rw [arm_exec_Try]
  refine n_bind (n_standAt ?_)
  unfold tryStmt
  simp only [List.isEmpty_nil, if_true, List.isEmpty_cons, Bool.false_and, Bool.false_eq_true, if_false]
  refine n_bind ?_
  intro Γ p hΓ hN
  rw [Sem.wp_attempt]
  refine n_mono (Q' := fun f s₁ => wpN M A _ Q E s₁) h (fun f s₁ h₁ => ?_) (fun e s₁ h₁ => h₁.elim) Γ p hΓ hN
  cases f <;> first | exact h₁ | exact n_pure h₁
theorem n_Attr {value : Expr} {attr : Str} {pos : Pos} {Q : Value → Shared → Prop} (he : eval (.Attribute value attr pos) env = (do
      let o ← eval value env
      standAt pos.atName
      let r ← holding [o] (getAttr o attr true)
      letTemporaryGo value o r
      pure r))
    (h : wpN (model prog w) A (eval value env) (fun o s₁ => wpN (model prog w) A (getAttr o attr true) Q E s₁) E s) : wpN (model prog w) A (eval (.Attribute value attr pos) env) Q E s := by
  rw [he]
  refine n_bind (n_mono h (fun o s₁ h₁ => n_bind (n_standAt (n_bind (n_holding (n_mono h₁ (fun r s₂ h₂ => ?_) fun _ _ x => x))))) fun _ _ x => x)
  exact n_bind (toN (wpAny_letTemporaryGo (n_pure h₂)))
theorem n_Sub {value slice pos} {Q : Value → Shared → Prop} (h : wpN M A (eval value env) (fun o s₁ => wpN M A (eval slice env) (fun i s₂ => wpN M A (subscriptTail value slice o i) Q E s₂) E s₁) E s) :
    wpN M A (eval (.Subscript value slice pos) env) Q E s := by
  rw [eval_Subscript]
  exact n_bind (n_mono h (fun o s₁ h₁ => n_bind (n_holding (n_mono h₁ (fun i s₂ h₂ => n_bind (n_standAt h₂)) fun _ _ x => x))) fun _ _ x => x)
end

section
variable {prog : Program} {w : World} {A : Around} {E : Value → Shared → Prop} {K : Frag} {mg mb : Str → Option Value} {B : Heap} {L : Addr} {T : TM} {m : Str → Option Value} {O : OG} {s : Shared}
/-- a call of a def without cells, in such contexts -/
theorem callFN {f : Addr} {st : Stmt} {qual : Str} {dV cdv : Value} {args : Args} {binds : List (Str × Value)} {Q : Value → Shared → Prop}
    (W : Wd K mg mb B) (S : St B L T m O s) (hroom : A.depth < recursionLimit) (hf : FnIs K f st qual dV cdv)
    (hbind : ∀ name kV doc pm an ct, BindsTo s (fnOf name qual (argsOf st) (bodyOf st) (scopeOf st) dV kV doc pm an cdv ct) args binds)
    (hcell : ∀ x ∈ (scopeOf st).names, x.2 ≠ .cell) (hloc : ∀ x ∈ binds, (scopeOf st).names.lookup x.1 = some .local)
    (hco : (scopeOf st).isCoroutine = false) (hgen : (scopeOf st).isGenerator = false) (hk : (scopeOf st).kind = .function)
    (h : ∀ B' L' s', (∀ b o, B.get? b = some o → B'.get? b = some o) → Wd K mg mb B' → St B' L' T (fun x => binds.reverse.lookup x) O s' →
      wpN (model prog w) (A.deeper (envF qual st L' f cdv [])) (execs (bodyOf st) (envF qual st L' f cdv [])) (Ends B' L' B L m O Q) NoR s') :
    wpN (model prog w) A (call (.ref f) args.pos args.kw) Q E s := by
  refine n_call ?_
  obtain ⟨name, kV, doc, pm, an, ct, oc, od, sl, ho⟩ := hf.ex
  let fd := fnOf name qual (argsOf st) (bodyOf st) (scopeOf st) dV kV doc pm an cdv ct
  have ho' := S.keep _ _ (W.X _ _ ho)
  obtain ⟨c, oc', vs, tq, hc, hoc, hdc, hq⟩ := codeRec_of (W.X.keeps S.keep) hf.cd
  refine codeN_tree rfl (toN ?_)
  show wpAny _ A.in1 (callAny (.ref f) args) _ _ s
  simp only [callAny]
  refine wpAny_bind (wpAny_load ho' ?_)
  subst hc
  simp only [callFunction, fnOf, hco, hgen]
  refine wpAny_bind (m := field (.ref c) 1) (wpAny_field hoc hdc hq (wpAny_bind (wpAny_pure ?_)))
  refine wpAny_bind (hbind name kV doc pm an ct _ _ _ _ ?_)
  refine wpAny_bind (wpAny_newFunctionEnv hcell hloc (fun h₀ hns₀ hsb₀ => ?_) hk)
  have keep : ∀ b o, s.heap.get? b = some o → h₀.get? b = some o := fun b o e => hsb₀.extBut b o (Nat.ne_of_lt (Heap.lt_size e)) (Heap.get?_push_of_some _ e)
  refine wpAny_bind (wpAny_enterFrame (((W.lim.keeps S.keep).fresh _ hsb₀)) hroom (wpAny_pure (And.intro rfl ?_)))
  refine codeN_func ?_
  have S₁ := S.call (tk := s.toks + binds.length) hns₀ keep
  refine n_mono (h _ _ _ (fun b o e => S.underC e) (W.keeps fun b o e => S.underC e) S₁) (fun fl s'' hE => ?_) fun _ _ x => x.elim
  obtain ⟨T', m', S', q⟩ := hE
  have z := q (S.ret S')
  cases fl <;> exact z
end
end Mine
end
section
open PySem PySem.W PySem.Calls PyProof.Rows
set_option Elab.async false
set_option maxRecDepth 100000
namespace Mine
section
variable {prog : Program} {w : World} {A : Around} {E : Value → Shared → Prop} {K : Frag} {mg mb : Str → Option Value} {B : Heap} {L : Addr} {T : TM} {m : Str → Option Value} {O : OG} {s : Shared} {t : Tag} {env : Env}
  {gid k : Nat} {C x dx fn : Addr} {f : Str → Option Value} {name : Str}

/-! ### a dict by names: get and store -/
theorem DS.typeIs {d : Addr} (S : St B L T m O s) (hd : T d = some (t, DS prog w f k)) : s.TypeIs (.ref d) "dict" := by
  obtain ⟨o, ho, es, ep, hc, _⟩ := S.obj hd
  exact ⟨o, ho, hc.1⟩
theorem getNameS {d : Addr} {u : Tok} {v : Value} {Q : Value → Shared → Prop} (S : St B L T m O s) (hd : T d = some (t, DS prog w f k)) (h : ∀ tk, Q ((f name).getD v) { s with toks := tk }) :
    wpAny (model prog w) A (call (.builtin "dict.get") [.ref d, .str name u, v]) Q E s := by
  have hmod := S.notMods hd
  refine call_meetsIn (S := fun _ R s => ∃ o es ep, s.heap.get? d = some o ∧ o.data = .dict es ep ∧ PySem.KeysOf (stk prog w) es ∧ (∀ x, findBy (stk prog w).is es x = f x) ∧ R (.ok (.ret ((f name).getD v))) { s with toks := s.toks + 1 }) PySem.F.slot_dict_get (DS.typeIs S hd) PySem.F.entry_dict_get (PySem.F.args_dict_get_3 _ _ _) ?_ ?_
  · refine .of_wp fun A R s ⟨o, es, ep, ho, hd, hk, hf, h⟩ => ?_
    show wpAny _ _ (dictGet d (.str name u) >>= _) _ _ s
    refine wpAny_bind ?_
    unfold dictGet
    refine wpAny_holding ?_
    have hkey := strKind_is prog w name u
    refine wpAny_bind ((stk prog w).pyHash hkey (wpAny_bind (wpAny_dictFind_of (s := { s with toks := s.toks + 1 }) hkey ho hd hk ?_)))
    have hf' := hf name
    rw [findBy_of_findIdx?] at hf'
    cases hi : es.findIdx? fun e => (stk prog w).is name e.key with
    | none =>
      rw [hi] at hf'
      refine wpAny_pure ?_
      rw [← hf'] at h
      show wpAny _ _ (Builtin.Dict.missed d (.str name u) >>= _) _ _ _
      exact wpAny_bind (wpAny_missed_other hmod (wpAny_pure ⟨v, rfl, h⟩))
    | some i =>
      rw [hi] at hf'
      refine wpAny_bind (wpAny_dictEntries (s := { s with toks := s.toks + 1 }) ho hd (wpAny_pure ?_))
      have hi' := Array.findIdx?_eq_some_iff_getElem.mp hi
      obtain ⟨hlt, _⟩ := hi'
      dsimp only at hf'
      rw [Array.getElem?_eq_getElem hlt] at hf' ⊢
      rw [← hf'] at h
      exact wpAny_pure ⟨_, rfl, h⟩
  · obtain ⟨o, ho, es, ep, hc, hdat, hk, hf, _⟩ := S.obj hd
    exact ⟨o, es, ep, ho, hdat, hk, hf, h _⟩
theorem setNameS {d : Addr} {u : Tok} {v : Value} {Q : Unit → Shared → Prop} (S : St B L T m O s) (hd : T d = some (t, DS prog w f k)) (hk : k < 900)
    (h : ∀ s', St B L (upd T d (t, DS prog w (fs f name v) (k + 1))) m O s' → Q () s') : wpAny (model prog w) A (setItem (.ref d) (.str name u) v) Q E s := by
  have hT := DS.typeIs S hd
  unfold setItem
  refine wpAny_holding ?_
  refine wpAny_bind (wpAny_sequenceKey hT (by decide) ?_)
  refine wpAny_bind (wpAny_callSpecial?_slot (name := Str.ofString "__setitem__") hT slot_dict_setitem (wpAny_call_entry slot_dict_setitem hT entry_dict_setitem ?_ (args_dict_setitem _ _ _)))
  show wpAny _ _ (Builtin.Dict.notOrdered "__setitem__" ⟨[.ref d, .str name u, v], []⟩ >>= _) _ _ s
  refine wpAny_bind (wpAny_notOrdered_dict hT ?_)
  show wpAny _ _ (dictSet d (.str name u) v >>= _) _ _ s
  refine wpAny_bind ?_
  obtain ⟨o, ho, es, ep, hc, hdat, hks, hf, hz⟩ := S.obj hd
  have hkey := strKind_is prog w name u
  unfold dictSet
  refine wpAny_holding ?_
  refine wpAny_bind ((stk prog w).pyHash hkey ?_)
  unfold dictSetHashed
  refine wpAny_holding ?_
  refine wpAny_bind (wpAny_dictFind_of (s := { s with toks := s.toks + 1 }) hkey ho hdat hks ?_)
  obtain ⟨c, od, dt, sl⟩ := o
  obtain ⟨hc1, hc2⟩ := hc
  dsimp only at hc1 hc2 hdat
  subst hc1 hc2 hdat
  cases hi : es.findIdx? fun e => (stk prog w).is name e.key with
  | some i =>
    refine wpAny_bind (wpAny_rule (wpAny_bind (wpAny_updateDict (s := { s with toks := s.toks + 1 }) ho rfl (wpAny_point ?_))))
    refine wpAny_pure ⟨.none, rfl, wpAny_pure (h _ (S.change (h' := s.heap.update d _) hd (fun b o hb e => (Heap.get?_update_ne _ _ _ _ hb).trans e) (Heap.get?_update_self _ ho rfl) ⟨_, ep, ⟨rfl, rfl⟩, rfl, hks.modify _ _, fun x => ?_, by rw [Array.size_modify]; omega⟩))⟩
    rw [findBy_modify (stk prog w).is (stk prog w).inj es name x v i hi, hf]; rfl
  | none =>
    refine wpAny_bind (wpAny_rule (wpAny_updateDictKeys (hz := by rw [sizeLine_eq]; omega) (s := { s with toks := s.toks + 1 }) ho rfl ?_))
    refine wpAny_pure ⟨.none, rfl, wpAny_pure (h _ (S.change (h' := s.heap.update d _) hd (fun b o hb e => (Heap.get?_update_ne _ _ _ _ hb).trans e) (Heap.get?_update_self _ ho rfl) ⟨_, ep + 1, ⟨rfl, rfl⟩, rfl, hks.push hkey _, fun x => ?_, by rw [Array.size_push]; omega⟩))⟩
    rw [findBy_push (stk prog w).is es name x _ _ v (KeyKind.is_eq_decide hkey) hi, hf]; rfl
end
end Mine
end
section
open PySem PySem.W PySem.Calls PyProof.Rows
set_option Elab.async false
set_option maxRecDepth 100000
namespace Mine
-- "L": what a name holds
local macro_rules | `(tactic| walk_at "L") => `(tactic| first
  | assumption
  | exact fs_eq
  | (refine fs_ne (by decide) ?_; walk_at "L")
  | rfl)
-- "M": the next step of the walk, where it is the same everywhere
local macro_rules | `(tactic| walk_at "M") => `(tactic| first
  | ((with_reducible refine loadG ?_); refine ldnS (by assumption) (by walk_at "L") ?_)
  | ((with_reducible refine stG ?_); refine stS (by assumption) ?_; intro _ _)
  | ((with_reducible refine nameG ?_); refine ldS (by assumption) (by walk_at "L") ?_)
  | with_reducible refine wpAny_execs_cons ?_
  | with_reducible refine wpAny_execs_nil ?_
  | with_reducible refine wpAny_BinOp ?_
  | with_reducible refine wpAny_Constant_int ?_
  | with_reducible refine Constant_none ?_
  | with_reducible refine Constant_bool ?_
  | with_reducible refine wpAny_Compare1 ?_
  | with_reducible refine wpAny_isTrue_Compare1 ?_
  | with_reducible refine isTrue_not ?_
  | with_reducible refine isTrue_and_nil ?_
  | with_reducible refine isTrue_or_nil ?_
  | with_reducible refine isTrue_and ?_
  | with_reducible refine isTrue_or ?_
  | with_reducible refine IfExp_ ?_
  | with_reducible refine wpAny_If ?_
  | ((with_reducible refine asgN ?_ ?_); (focus rfl))
  | ((with_reducible refine asgS ?_ ?_); (focus rfl))
  | ((with_reducible refine exprE ?_ ?_ ?_); (focus rfl); (focus rfl))
  | with_reducible refine wpAny_AugAssign_Name ?_
  | with_reducible refine wpAny_Return_some ?_
  | with_reducible refine wpAny_Break ?_
  | with_reducible refine wpAny_Continue ?_
  | with_reducible refine wpAny_truthy_bool ?_
  | with_reducible refine add_int ?_
  | with_reducible refine iadd_int ?_
  | with_reducible refine sub_int ?_
  | with_reducible refine lt_int ?_
  | with_reducible refine le_int ?_
  | with_reducible refine gt_int ?_
  | with_reducible refine eq_int ?_
  | with_reducible refine ne_int ?_
  | with_reducible refine splE ?_
  | ((with_reducible refine splG ?_); refine spliced_more ?_)
  | with_reducible refine Tuple_ ?_
  | with_reducible refine List_ ?_
  | ((with_reducible refine methC (pl := ?_) ?_ ?_); rotate_left; (focus rfl))
  | ((with_reducible refine callC ?_ ?_); (focus rfl))
  | ((with_reducible refine cwB1 ?_ ?_ ?_); (focus rfl); (focus rfl))
  | ((with_reducible refine cwT1 ?_ ?_ ?_); (focus rfl); (focus rfl))
  | ((with_reducible refine cwM1 ?_ ?_ ?_); (focus rfl); (focus rfl))
  | with_reducible refine Subscript_ ?_
  | (show wpAny _ _ (execs _ _) _ _ _; first | refine wpAny_execs_cons ?_ | refine wpAny_execs_nil ?_))
section
variable {prog : Program} {w : World} {A : Around} {E : Value → Shared → Prop} {K : Frag} {mg mb : Str → Option Value} {B : Heap} {L : Addr} {T : TM} {m : Str → Option Value} {O : OG} {s : Shared} {t : Tag} {env : Env}
  {gid k : Nat} {C x dx fn : Addr} {f : Str → Option Value} {name : Str}

/-! ### an own object that the text made at its top -/
structure KInst (K : Frag) (C x : Addr) (name : Str) (v : Value) : Prop where
  get : plainGet K C name = true
  has : hasDictIn K C = true
  attr : findIn K (.ref C) name = some none
  val : ∃ dx od sl, K.lookup x = some ⟨.ref C, some dx, .plain, sl⟩ ∧ K.lookup dx = some od ∧ lookIn name od = some (some v)
  hand : handedIn v = true
theorem getK {v : Value} {expr : Bool} {Q : Value → Shared → Prop} (W : Wd K mg mb B) (S : St B L T m O s) (H : KInst K C x name v) (h : ∀ tk, Q v { s with toks := tk }) : wpAny (model prog w) A (getAttr (.ref x) name expr) Q E s := by
  obtain ⟨dx, od, sl, h1, h2, h3⟩ := H.val
  have X := W.X.keeps S.keep
  exact get_value X (InstAt.of_K X h1 h2) (plainGet_of H.get).1 (findObj_own H.has H.attr rfl h3) H.hand (h _)
theorem getMethK {v : Value} {pl : Sem Bool} {Q : Value × List Value → Shared → Prop} (W : Wd K mg mb B) (S : St B L T m O s) (H : KInst K C x name v) (h : ∀ tk, Q (v, []) { s with toks := tk }) : wpAny (model prog w) A (getMethod (.ref x) name pl) Q E s := by
  obtain ⟨dx, od, sl, h1, h2, h3⟩ := H.val
  have X := W.X.keeps S.keep
  exact method_usual X (InstAt.of_K X h1 h2) (plainGet_of H.get).1 (plainGet_of H.get).2 H.attr rfl (getK W S H h)

/-- a call of a def that stands in the text -/
theorem cwF {f : Addr} {first : List Value} {e : Expr} {rest : List Expr} {pos : Pos} {Q : Value → Shared → Prop} (hk : keepIn K (.ref f) = true) (he : starEach (e :: rest) env = (false, eval e env) :: starEach rest env) (hplain : (backTo pos (starEach rest env)).any (·.1) = false)
    (h : wpAny (model prog w) A (spliced (backTo pos (starEach (e :: rest) env))) (fun vs s₁ => K.In s₁.heap ∧ wpAny (model prog w) A (call (.ref f) (first ++ vs)) Q E s₁) E s) :
    wpAny (model prog w) A (callWith pos (.ref f) first (backTo pos (starEach (e :: rest) env)) []) Q E s := by
  rw [he] at h ⊢
  exact callWith_of (by show ((false || (backTo pos (starEach rest env)).any (·.1)) || false) = false; rw [hplain]; rfl) (keeps_K hk) (evalArgs_plain h)
theorem cwF0 {f : Addr} {first : List Value} {pos : Pos} {Q : Value → Shared → Prop} (W : Wd K mg mb B) (S : St B L T m O s) (hk : keepIn K (.ref f) = true) (h : wpAny (model prog w) A (call (.ref f) (first ++ [])) Q E s) :
    wpAny (model prog w) A (callWith pos (.ref f) first (backTo pos (starEach [] env)) []) Q E s := callWith_of rfl (keeps_K hk) (evalArgs_nil3 ⟨W.X.keeps S.keep, h⟩)

theorem methNameS {nm : Str} {id : String} {pl : Sem Bool} {d : Addr} {Q : Value × List Value → Shared → Prop} (slot : Slot "dict" nm id) (hty : typeOf (.builtin id) = pure (.type "method_descriptor"))
    (S : St B L T m O s) (hd : T d = some (t, DS prog w f k)) (h : Q (.builtin id, [.ref d]) s) : wpAny (model prog w) A (getMethod (.ref d) nm pl) Q E s := by
  refine getMethod_builtin (DS.typeIs S hd) PySem.F.plainAttrs_dict slot hty (fun b e => ?_) h
  cases e
  obtain ⟨o, ho, es, ep, hc, _⟩ := S.obj hd
  exact ⟨o, ho, hc.2⟩
theorem typeOf_dget : typeOf (.builtin "dict.get") = pure (.type "method_descriptor") := by show builtinType _ = _; rw [builtinType_eq_fast]; kernel_rfl
theorem tryS {body orelse : List Stmt} {h₀ : ExceptHandler} {hs : List ExceptHandler} {pos : Pos} {Q : Flow → Shared → Prop}
    (h : wpAny (model prog w) A (execs body env) (fun f s₁ => match f with | .next => wpAny (model prog w) A (execs orelse env) Q E s₁ | f => Q f s₁) NoR s) : wpAny (model prog w) A (exec (.Try body (h₀ :: hs) orelse [] pos) env) Q E s :=
  wpAny_Try_except (wpAny_mono h (fun _ _ x => x) fun _ _ e => e.elim)
/-! ### functools.cached_property.__get__, at an object that bears no value yet -/
structure CpK (K : Frag) (cp fA : Addr) (nm : Str) (tk : Tok) : Prop where
  an : KInst K 319 cp "attrname" (.str nm tk)
  fu : KInst K 319 cp "func" (.ref fA)
  ff : keepIn K (.ref fA) = true
structure CpF (K : Frag) (cdv : Value) : Prop where
  fn : FnIs K 309 (meth 12 2) "cached_property.__get__" (.ref 302) cdv
  df : ∃ oc od n sl, K.lookup 302 = some ⟨oc, od, .seq #[.none] n, sl⟩
  nf : nsIn K mainGlobals "_NOT_FOUND" = some (some (.ref 280))
structure DctK (K : Frag) (C : Addr) : Prop where
  hg : plainGet K C "__dict__" = true
  hh : hasDictIn K C = true
  r : ∃ gs Co u y, findIn K (.ref C) "__dict__" = some (some (.ref gs)) ∧ specialIn K (.ref gs) "__get__" = some (some (.builtin "getset_descriptor.__get__")) ∧ takesIn K (.ref gs) = some true ∧
    recIn K gs "getset_descriptor" = some [.str "__dict__" u, .ref Co, .builtin "function.__dict__", y] ∧ mroIn K C (.ref Co) = some true
  hs1 : subIn K (.ref C) (.type "staticmethod") = some false
  hs2 : subIn K (.ref C) (.type "classmethod") = some false
  hst : nsIn K cStatics "_thread.count" = some none

theorem isRefNone {env : Env} {e : Expr} {x : Addr} {p pos : Pos} {kk : Nat} {whole : Sem Value} {Q : Bool → Shared → Prop} (hm : behindInMarks .Is (.Constant .none kk p) = false) (h : wpAny (model prog w) A (eval e env) (fun v s' => v = .ref x ∧ Q false s') E s) :
    wpAny (model prog w) A (isTrue (.Compare e [.Is] [.Constant .none kk p] pos) env whole) Q E s := by
  refine wpAny_isTrue_Compare1 (wpAny_mono h (fun v s' h' => ?_) fun _ _ e => e) hm
  obtain ⟨rfl, hq⟩ := h'
  refine Constant_none (wpAny_is_plain rfl (wpAny_truthy_bool hq))

theorem cpGetN {cp fA da : Addr} {nm : Str} {tk : Tok} {cdv : Value} {Q : Value → Shared → Prop} (W : Wd K mg mb B) (S : St B L T m O s) (I : Inst prog w T gid C x dx k f) (hroom : A.depth < 900) (hh : A.handled = none) (hk : k < 900)
    (F : CpF K cdv) (P : CpK K cp fA nm tk) (D : DctK K C) (hno : f nm = none)
    (hA : ∀ {A' : Around} {B' L' m' s'} {Q' : Value → Shared → Prop}, A'.depth ≤ A.depth + 5 → Wd K mg mb B' → St B' L' T m' O s' → (∀ s'', St B' L' T m' O s'' → Q' (.ref da) s'') → wpAny (model prog w) A' (call (.ref fA) [.ref x]) Q' NoR s')
    (h : ∀ s', St B L (upd T dx ((1, gid, 1), DS prog w (fs f nm (.ref da)) (k + 1))) m O s' → Q (.ref da) s') :
    wpN (model prog w) A (call (.ref 309) [.ref cp, .ref x, .ref C]) Q E s := by
  obtain ⟨oc, od, n, sl, hdf⟩ := F.df
  refine callFN (args := ⟨[.ref cp, .ref x, .ref C], []⟩) (binds := [(Str.ofString "self", .ref cp), (Str.ofString "instance", .ref x), (Str.ofString "owner", .ref C)]) W S (Nat.lt_trans hroom (by decide)) F.fn
    (fun _ _ _ _ _ _ => BindsTo.of_defaults rfl (S.keep _ _ (W.X _ _ hdf)) rfl rfl rfl) (by decide) (locs rfl) rfl rfl rfl fun B' L' s' hB' W' S' => ?_
  refine n_execs_cons (toN ?_)
  refine wpAny_If (isRefNone rfl (ldS S' rfl ⟨rfl, ?_⟩))
  rw [if_neg (by decide)]
  refine wpAny_execs_nil (n_execs_cons (toN ?_))
  refine wpAny_If (wpAny_isTrue_Compare1 (Attribute_any_ (ldS S' rfl (getK W' S' P.an fun tk₁ => ?_))))
  refine Constant_none (wpAny_is_other rfl (by intro e; cases e) (wpAny_truthy_bool ?_))
  rw [if_neg (by decide)]
  refine wpAny_execs_nil (n_execs_cons (n_Try (n_execs_cons (n_asgN rfl (n_Attr (by with_unfolding_all rfl) (toN (ldS S' rfl ?_)))))))
  obtain ⟨gs, Co, u, y, d1, d2, d3, d4, d5⟩ := D.r
  refine getDictN (s := { s' with toks := tk₁ }) (v := 0) W' S' I D.hg D.hh d1 d2 d3 d4 d5 D.hs1 D.hs2 D.hst fun s₁ S₁ => ?_
  refine stS S₁ fun s₂ S₂ => ?_
  refine toN (wpAny_execs_nil (toN (wpAny_execs_nil (toN ?_))))
  clear S₁
  repeat walk_at "M"
  refine methNameS PySem.F.slot_dict_get typeOf_dget S₂ I.d ?_
  walk_at "M"
  walk_at "M"
  refine Attribute_any_ (ldS S₂ rfl (getK W' S₂ P.an fun tk₂ => ?_))
  walk_at "M"
  refine ldGlobS W' S₂ F.nf ?_
  walk_at "M"
  refine getNameS S₂ I.d fun tk₃ => ?_
  rw [hno]
  walk_at "M"
  repeat walk_at "M"
  rename_i s₃ S₃
  refine ldGlobS W' S₃ F.nf ?_
  refine wpAny_is_ref_self ?_
  repeat walk_at "M"
  refine getMethK W' S₃ P.fu fun tk₄ => ?_
  refine cwF P.ff rfl rfl ?_
  repeat walk_at "M"
  refine ⟨W'.X.keeps S₃.keep, ?_⟩
  refine hA (by show A.depth + 1 ≤ _; omega) W' S₃ fun s₄ S₄ => ?_
  clear S₃ S₂ S'
  repeat walk_at "M"
  rename_i s₅ S₅
  refine tryS ?_
  repeat walk_at "M"
  refine Attribute_any_ (ldS S₅ rfl (getK W' S₅ P.an fun tk₅ => ?_))
  refine setNameS S₅ I.d hk fun s₆ S₆ => ?_
  clear S₅ S₄
  repeat walk_at "M"
  exact ⟨_, _, S₆, h _⟩
end
end Mine
end
section
open PySem PySem.W PySem.Calls PyProof.Rows Builtin
set_option Elab.async false
set_option maxRecDepth 100000
namespace Mine
section
variable {prog : Program} {w : World} {A : Around} {E : Value → Shared → Prop} {K : Frag} {mg mb : Str → Option Value} {B : Heap} {L : Addr} {T : TM} {m : Str → Option Value} {O : OG} {s : Shared} {t : Tag} {env : Env}
  {gid k : Nat} {C x dx fn : Addr} {f : Str → Option Value} {name : Str} {ox : Obj} {od : Option Obj}

/-! ### a descriptor without a store -/
structure NDK (K : Frag) (C : Addr) (name : Str) (a g : Value) : Prop where
  hg : plainGet K C name = true
  hh : hasDictIn K C = true
  ha : findIn K (.ref C) name = some (some a)
  hs : specialIn K a "__get__" = some (some g)
  ht : takesIn K a = some false
  hc : copiedNames.contains name = false
theorem findObj_nd {a g : Value} {od : Obj} (H : NDK K C name a g) {r : Option Value} (hl : lookIn name od = some r) : findObj K C (some od) name = some (match r with | some v => .value v | none => .bind g a) := by
  obtain ⟨cd, hc', hd⟩ := any_some H.hh
  unfold findObj
  have ho : PySem.W.ownOf cd (some od) name = some r := by unfold PySem.W.ownOf; rw [if_pos hd]; exact hl
  rw [hc', Option.bind_some, H.ha, Option.bind_some]
  have h1 := H.hs
  have h2 := H.ht
  have h3 := H.hc
  cases r with
  | some v => simp [h1, h2, ho]
  | none => simp only [h1, h2, ho, h3, Option.bind_some, Bool.false_and, Bool.false_eq_true, if_false]
theorem getOwnND {a g v : Value} {expr : Bool} {Q : Value → Shared → Prop} (W : Wd K mg mb B) (S : St B L T m O s) (I : Inst prog w T gid C x dx k f) (H : NDK K C name a g) (hv : f name = some v) (hd : handedIn v = true) (h : ∀ tk, Q v { s with toks := tk }) :
    wpAny (model prog w) A (getAttr (.ref x) name expr) Q E s := by
  obtain ⟨od, IA, hp⟩ := I.at S
  refine get_value (W.X.keeps S.keep) IA (plainGet_of H.hg).1 ?_ hd (h _)
  exact findObj_nd H (r := some v) (by rw [ds_look hp, hv])
theorem getBindND {a g : Value} {expr : Bool} {Q : Value → Shared → Prop} (W : Wd K mg mb B) (S : St B L T m O s) (I : Inst prog w T gid C x dx k f) (H : NDK K C name a g) (hv : f name = none)
    (h : ∀ s', St B L T m O s' → wpN (model prog w) A.in1 (call g [a, .ref x, .ref C]) (fun v s' => handedIn v = true ∧ Q v s') NoR s') : wpN (model prog w) A (getAttr (.ref x) name expr) Q E s := by
  obtain ⟨od, IA, hp⟩ := I.at S
  refine getBindN (g := g) (a := a) (W.X.keeps S.keep) IA (plainGet_of H.hg).1 ?_ (plainGet_of H.hg).2 (h _ S)
  exact findObj_nd H (r := none) (by rw [ds_look hp, hv])

/-! ### an own object is subscripted -/
structure SubK (K : Frag) (C fn : Addr) : Prop where
  hs : findIn K (.ref C) "__getitem__" = some (some (.ref fn))
  hf : fnIn K fn = true
  hfn : isFn K (.ref fn) = true
theorem n_specialFn {name : Str} {args : List Value} {Q : Option Value → Shared → Prop} (X : K.In s.heap) (I : InstAt s.heap x ox C od) (hs : findIn K (.ref C) name = some (some (.ref fn))) (hf : isFn K (.ref fn) = true)
    (h : wpN (model prog w) A (call (.ref fn) (.ref x :: args)) (fun v => Q (some v)) E s) : wpN (model prog w) A (callSpecial? (.ref x) name args) Q E s := by
  unfold callSpecial?
  refine n_bind (toN (wpAny_bind (I.type.here ((looks_findIn X hs).here ?_))))
  dsimp only
  refine n_holding (n_bind (toN ((bind_fn X _ (beq_iff_eq.mp hf)).here ?_)))
  exact n_bind (n_mono h (fun _ _ z => n_pure z) fun _ _ z => z)
theorem n_subI {value slice : Expr} {i : Value} {Q : Value → Shared → Prop} (X : K.In s.heap) (I : InstAt s.heap x ox C od) (H : SubK K C fn) (h : wpN (model prog w) A.in1 (call (.ref fn) [.ref x, i]) Q E s)
    (hsl : subscripted slice true (.ref x) i = runValue (.builtin "lifetime.subscript" ⟨[.ref x, i], []⟩) := by with_unfolding_all rfl) : wpN (model prog w) A (subscriptTail value slice (.ref x) i) Q E s := by
  have hf := H.hf
  unfold fnIn at hf
  split at hf
  · rename_i e
    unfold subscriptTail getitemInPython
    refine n_bind (toN (wpAny_bind (wpAny_bind (I.type.here ((looks_findIn X H.hs).here ?_)))))
    dsimp only
    refine wpAny_bind (wpAny_load (X _ _ e) (wpAny_pure ?_))
    dsimp only
    rw [hsl]
    refine n_bind (n_runValue (codeN_builtin entry_sub (by decide) ?_))
    unfold Builtin.«lifetime.subscript»
    refine n_bind (n_specialFn X I H.hs H.hfn (n_mono h (fun v s' z => ?_) fun _ _ z => z))
    refine n_pure ?_
    show wpN (model prog w) A (letTemporaryGo value (.ref x) v >>= fun _ => pure v) Q E s'
    exact n_bind (toN (wpAny_letTemporaryGo (n_pure z)))
  · cases hf
theorem subI {value slice : Expr} {i : Value} {Q : Value → Shared → Prop} (X : K.In s.heap) (I : InstAt s.heap x ox C od) (H : SubK K C fn) (h : wpAny (model prog w) A.in1 (call (.ref fn) [.ref x, i]) Q E s)
    (hsl : subscripted slice true (.ref x) i = runValue (.builtin "lifetime.subscript" ⟨[.ref x, i], []⟩) := by with_unfolding_all rfl) : wpAny (model prog w) A (subscriptTail value slice (.ref x) i) Q E s := by
  have hf := H.hf
  unfold fnIn at hf
  split at hf
  · rename_i e
    unfold subscriptTail getitemInPython
    refine wpAny_bind (wpAny_bind (wpAny_bind (I.type.here ((looks_findIn X H.hs).here ?_))))
    dsimp only
    refine wpAny_bind (wpAny_load (X _ _ e) (wpAny_pure ?_))
    dsimp only
    rw [hsl]
    refine wpAny_bind (wpAny_runValue (codeAny_builtin entry_sub ?_))
    unfold Builtin.«lifetime.subscript»
    refine wpAny_bind (special_fn X I H.hs (beq_iff_eq.mp H.hfn) (wpAny_mono h (fun v s' z => ?_) fun _ _ z => z))
    refine wpAny_pure ?_
    show wpAny (model prog w) A (letTemporaryGo value (.ref x) v >>= fun _ => pure v) Q E s'
    exact wpAny_bind (wpAny_letTemporaryGo (wpAny_pure z))
  · cases hf

/-! ### tuples -/
theorem lenTupS {d : Addr} {xs : List Value} {Q : Value → Shared → Prop} (S : St B L T m O s) (hd : T d = some (t, TupP xs)) (hz : xs.length < 1000) (h : ∀ u tk, Q (.int (xs.length : Int) u) { s with toks := tk }) :
    wpAny (model prog w) A (call (.builtin "len") [.ref d]) Q E s := by
  refine PyProof.Rows.len_tuple (S.tup hd) (by rw [List.size_toArray]; omega) ?_
  rw [List.size_toArray]; exact h _ _
end
end Mine
end
section
open PySem PySem.W PySem.Calls PyProof.Rows
set_option Elab.async false
set_option maxRecDepth 100000
namespace Mine
section
variable {prog : Program} {w : World} {A : Around} {E : Value → Shared → Prop} {K : Frag} {mg mb : Str → Option Value} {B : Heap} {L : Addr} {T : TM} {m : Str → Option Value} {O : OG} {s : Shared} {t : Tag} {env : Env}
  {gid k : Nat} {C x dx fn : Addr} {f : Str → Option Value} {name : Str} {ox : Obj} {od : Option Obj}

/-! ### a pair is taken apart -/
theorem unpack2S {xu xv : Str} {pu pv tpos pos : Pos} {kk : Nat} {value : Expr} {Q : Flow → Shared → Prop} (hh : A.handled = none) (hk : env.scope.kind = .function) (h1 : env.kindOf xu = some .local) (h2 : env.kindOf xv = some .local)
    (hs : swapsWithSole [.Tuple [.Name xu pu, .Name xv pv] kk tpos] value pos.line env = pure false) (hw : swappedStores [.Tuple [.Name xu pu, .Name xv pv] kk tpos] value env = pure none)
    (h : wpAny (model prog w) A (eval value env) (fun v s₁ => ∃ d a b T m t, v = .ref d ∧ St B env.locals T m O s₁ ∧ T d = some (t, TupP [a, b]) ∧ ∀ s₂, St B env.locals T (fs (fs m xu a) xv b) O s₂ → Q .next s₂) E s) :
    wpAny (model prog w) A (exec (.Assign [.Tuple [.Name xu pu, .Name xv pv] kk tpos] value pos) env) Q E s := by
  refine Assign_Tuple (wpAny_mono h (fun v s₁ hv => ?_) fun _ _ e => e) hs hw
  obtain ⟨d, a, b, T, m, t, rfl, S, hd, hq⟩ := hv
  refine assign_Tuple_tuple hh (S.tup hd) rfl rfl fun h' he => ?_
  have S₁ : St B env.locals T m O { s₁ with heap := h' } := S.but (d := s₁.heap.objs.size) (Nat.ne_of_gt S.ltL) S.newB S.new_none fun b o hb e => he b o hb e
  show wpAny _ A (assignInOrder [assign (.Name xu pu) env, assign (.Name xv pv) env] [a, b]) _ _ _
  refine wpAny_assignInOrder_more (PyProof.Rows.assign_Name (stS S₁ (fun s₂ S₂ => ?_) hk h1))
  refine wpAny_assignInOrder_more (PyProof.Rows.assign_Name (stS S₂ (fun s₃ S₃ => ?_) hk h2))
  exact wpAny_assignInOrder_none (hq _ S₃)

/-! ### empty dicts -/
def EmpP (prog : Program) (w : World) (o : Obj) : Prop := ∃ ep, DI prog w [] ep o
theorem St.emp {d : Addr} (S : St B L T m O s) (h : T d = some (t, EmpP prog w)) : s.heap.DictOf (PySem.intKind prog w) d [] := by
  obtain ⟨o, ho, ep, es, r⟩ := S.obj h; exact ⟨o, es, ep, ho, r⟩
theorem newEmpS {pos : Pos} {Q : Value → Shared → Prop} (S : St B L T m O s) (t : Tag) (h : ∀ d s', T d = none → St B L (upd T d (t, EmpP prog w)) m O s' → Q (.ref d) s') : wpAny (model prog w) A (eval (.Dict [] [] pos) env) Q E s :=
  newDictS S t fun d s' hd S' => h d s' hd (by have := S'.retag (c' := (t, EmpP prog w)) upd_self fun o ho => ⟨0, ho⟩; rwa [upd_upd] at this)
theorem updEmpS {d e : Addr} {t' : Tag} {Q : Value → Shared → Prop} (S : St B L T m O s) (hd : T d = some (t, EmpP prog w)) (he : T e = some (t', EmpP prog w)) (hne : d ≠ e) (h : ∀ s', St B L T m O s' → Q .none s') :
    wpAny (model prog w) A (call (.builtin "dict.update") [.ref d, .ref e]) Q E s :=
  call_meetsIn PySem.F.slot_dict_update (S.emp hd).typeIs PySem.F.entry_dict_update (PySem.F.args_dict_update_2 _ _) (meets_dict_update (PySem.intKind prog w) d e hne (S.notMods he))
    ⟨[], [], S.emp hd, S.emp he, by rw [sizeLine_eq]; simp, fun h' hD _ hs => by
      obtain ⟨o, es, ep', ho, r⟩ := hD
      have S' := S.change (c' := (t, EmpP prog w)) hd (fun b o hb e => (hs.2 b hb).trans e) ho ⟨ep', es, r⟩
      rw [upd_same hd] at S'
      exact h _ S'⟩
theorem methEmpS {nm : Str} {id : String} {pl : Sem Bool} {d : Addr} {Q : Value × List Value → Shared → Prop} (slot : Slot "dict" nm id) (hty : typeOf (.builtin id) = pure (.type "method_descriptor"))
    (S : St B L T m O s) (hd : T d = some (t, EmpP prog w)) (h : Q (.builtin id, [.ref d]) s) : wpAny (model prog w) A (getMethod (.ref d) nm pl) Q E s :=
  getMethod_builtin (S.emp hd).typeIs PySem.F.plainAttrs_dict slot hty (S.emp hd).mapOf.noDict h
theorem typeOf_dupd : typeOf (.builtin "dict.update") = pure (.type "method_descriptor") := by show builtinType _ = _; rw [builtinType_eq_fast]; kernel_rfl
theorem typeOf_dpop : typeOf (.builtin "dict.pop") = pure (.type "method_descriptor") := by show builtinType _ = _; rw [builtinType_eq_fast]; kernel_rfl

/-! ### a call of a def with `**attr` -/
def BindsKw (s : Shared) (fd : FuncData) (args : Args) (binds : Addr → List (Str × Value)) : Prop :=
  ∀ (M : Model) (A : Around) (E : Value → Shared → Prop) (Q : List (Str × Value) → Shared → Prop), Q (binds s.heap.objs.size) { s with heap := s.heap.push { cls := .type "dict", data := .dict #[] } } → wpAny M A (bindArgs fd args) Q E s
theorem BindsKw.of_eq {fd : FuncData} {args : Args} {binds : Addr → List (Str × Value)} (h : bindArgs fd args = (alloc { cls := .type "dict", data := .dict #[] } >>= fun d => pure (binds d))) : BindsKw s fd args binds :=
  fun _ _ _ _ hq => h ▸ wpAny_bind (wpAny_alloc (wpAny_pure hq))
theorem BindsKw.of_defaults {fd : FuncData} {args : Args} {binds : Addr → List (Str × Value)} {T : Addr} {o : Obj} {items : Array Value} {n : Nat} {k : Option (Array Value) → Sem (List (Str × Value))} (hd : fd.defaults = .ref T) (ho : s.heap.get? T = some o) (hs : o.data = .seq items n)
    (h₁ : bindArgs fd args = seqItems? fd.defaults >>= k) (h₂ : k (some items) = (alloc { cls := .type "dict", data := .dict #[] } >>= fun d => pure (binds d))) : BindsKw s fd args binds := fun _ _ _ _ hq => by
  rw [h₁, hd]
  exact wpAny_bind (wpAny_seqItems ho hs (h₂ ▸ wpAny_bind (wpAny_alloc (wpAny_pure hq))))

abbrev RQ (Q : Value → Shared → Prop) (E : Value → Shared → Prop) (r : Result) (s' : Shared) : Prop := match r with | .ok (.ret v) => Q v s' | .ok _ => False | .error e => E e s'
theorem callFKc {f : Addr} {st : Stmt} {qual : Str} {dV cdv : Value} {args : Args} {binds : Addr → List (Str × Value)} {Q : Value → Shared → Prop}
    (W : Wd K mg mb B) (S : St B L T m O s) (hroom : A.depth < recursionLimit) (hf : FnIs K f st qual dV cdv)
    (hbind : ∀ name kV doc pm an ct, BindsKw s (fnOf name qual (argsOf st) (bodyOf st) (scopeOf st) dV kV doc pm an cdv ct) args binds)
    (hcell : ∀ x ∈ (scopeOf st).names, x.2 ≠ .cell) (hloc : ∀ d, ∀ x ∈ binds d, (scopeOf st).names.lookup x.1 = some .local)
    (hco : (scopeOf st).isCoroutine = false) (hgen : (scopeOf st).isGenerator = false) (hk : (scopeOf st).kind = .function)
    (h : ∀ B' L' d s', (∀ b o, B.get? b = some o → B'.get? b = some o) → Wd K mg mb B' → T d = none → St B' L' (upd T d ((8, 0, 0), EmpP prog w)) (fun x => (binds d).reverse.lookup x) O s' →
      wpAny (model prog w) (A.deeper (envF qual st L' f cdv [])) (execs (bodyOf st) (envF qual st L' f cdv [])) (Ends B' L' B L m O Q) NoR s') :
    codeAny (model prog w) A (.call (.ref f) args) (RQ Q E) s := by
  obtain ⟨name, kV, doc, pm, an, ct, oc, od, sl, ho⟩ := hf.ex
  refine codeAny_call_function hroom (S.keep _ _ (W.X _ _ ho)) rfl hco hgen rfl (codeRec_of (W.X.keeps S.keep) hf.cd) (hbind _ _ _ _ _ _ _ _ _ _ ?_)
  have hd := S.new_none
  have S₁ := S.push (L := L) { cls := .type "dict", data := .dict #[] } (c := ((8, 0, 0), EmpP prog w)) ⟨0, di_nil⟩ rfl
  generalize ({ s with heap := s.heap.push { cls := .type "dict", data := .dict #[] } } : Shared) = s₁ at S₁ ⊢
  generalize s.heap.objs.size = d at S₁ hd ⊢
  refine wpAny_newFunctionEnv hcell (hloc d) (fun h₀ hns₀ hsb₀ => ?_) hk
  have keep : ∀ b o, s₁.heap.get? b = some o → h₀.get? b = some o := fun b o e => hsb₀.extBut b o (Nat.ne_of_lt (Heap.lt_size e)) (Heap.get?_push_of_some _ e)
  refine ⟨(W.lim.keeps S₁.keep).fresh _ hsb₀, codeAny_func ?_⟩
  have S₂ := S₁.call (tk := s₁.toks + (binds d).length) hns₀ keep
  refine wpAny_mono (h _ _ d _ (fun b o e => S₁.underC e) (W.keeps fun b o e => S₁.underC e) hd S₂) (fun fl s'' hE => ?_) fun _ _ x => x.elim
  obtain ⟨T', m', S', q⟩ := hE
  have z := q (S₁.ret S')
  cases fl <;> exact z
theorem ctorS {fI : Addr} {gid : Nat} {Q : Value → Shared → Prop} (W : Wd K mg mb B) (S : St B L T m O s) (hm : makesIn K C = true) (hi : findIn K (.ref C) "__init__" = some (some (.ref fI))) (hf : typeIn K (.ref fI) = some (.type "function"))
    (h : ∀ x dx s', T x = none → T dx = none → x ≠ dx → St B L (upd (upd T dx ((1, gid, 1), DS prog w (fun _ => none) 0)) x ((1, gid, 0), fun o => o = instObj C dx)) m O s' →
      codeAny (model prog w) (A.under (.builtin "type.__call__" ⟨[.ref C], []⟩)) (.call (.ref fI) ⟨[.ref x], []⟩) (RQ (fun v s'' => v = .none ∧ Q (.ref x) s'') E) s') :
    wpAny (model prog w) A (call (.ref C) []) Q E s := by
  refine wpAny_call ?_
  have X := W.X.keeps S.keep
  have S₁ := S.push (L := L) emptyDict (c := ((1, gid, 1), DS prog w (fun _ => none) 0)) ds_nil rfl
  have hd := S.new_none
  have S₂ := S₁.push (instObj C s.heap.objs.size) (c := ((1, gid, 0), fun o => o = instObj C s.heap.objs.size)) rfl rfl
  have hx := S₁.new_none
  have e : (s.heap.push emptyDict).objs.size = s.heap.objs.size + 1 := Heap.size_push ..
  dsimp only at S₂ hx
  rw [e] at S₂ hx
  obtain ⟨hh, g, d, tk, os⟩ := s
  refine make_core (makes_of X hm) (looks_findIn X hi) (fun self => bind_fn X self hf) (.inl rfl) ?_
  refine codeAny_mono (h _ _ _ (upd_none hx).2 hd (upd_none hx).1 S₂) fun r s' hr => ?_
  rcases r with e | (v | _ | _ | _) <;> exact hr
end
end Mine
end
section
open PySem PySem.W PySem.Calls PyProof.Rows
set_option Elab.async false
set_option maxRecDepth 100000
namespace Mine
/-! ## what the classes are -/
structure Meth (K : Frag) (C : Addr) (name : Str) (fn : Addr) (st : Stmt) (qual : Str) (dV : Value) : Prop where
  hf : findIn K (.ref C) name = some (some (.ref fn))
  ht : isFn K (.ref fn) = true
  hk : keepIn K (.ref fn) = true
  fd : ∃ cdv, FnIs K fn st qual dV cdv
structure ClsK (K : Frag) (C : Addr) : Prop where
  pg : plainGet K C "" = true
  hd : hasDictIn K C = true
  po : plainOver K C = true
  sa : findIn K (.ref C) "__setattr__" = some (some (.builtin "object.__setattr__"))
  mks : makesIn K C = true
  dct : DctK K C
  aG : findIn K (.ref C) "graph" = some none
  aN : findIn K (.ref C) "_node" = some none
  aA : findIn K (.ref C) "_adj" = some none
  aS : findIn K (.ref C) "_succ" = some none
  aP : findIn K (.ref C) "_pred" = some none
  mN : Meth K C "node_dict_factory" 338 (meth 14 0) "Graph.node_dict_factory" .none
  mNa : Meth K C "node_attr_dict_factory" 345 (meth 14 1) "Graph.node_attr_dict_factory" .none
  mO : Meth K C "adjlist_outer_dict_factory" 352 (meth 14 2) "Graph.adjlist_outer_dict_factory" .none
  mI : Meth K C "adjlist_inner_dict_factory" 359 (meth 14 3) "Graph.adjlist_inner_dict_factory" .none
  mE : Meth K C "edge_attr_dict_factory" 366 (meth 14 4) "Graph.edge_attr_dict_factory" .none
  mG : Meth K C "graph_attr_dict_factory" 373 (meth 14 5) "Graph.graph_attr_dict_factory" .none
  mIt : Meth K C "__iter__" 398 (meth 14 8) "Graph.__iter__" .none
  mLn : Meth K C "__len__" 412 (meth 14 10) "Graph.__len__" .none
  mGi : Meth K C "__getitem__" 419 (meth 14 11) "Graph.__getitem__" .none
  fGi : fnIn K 419 = true
  mHe : Meth K C "has_edge" 513 (meth 14 24) "Graph.has_edge" .none
theorem ClsK.pg' {K : Frag} {C : Addr} (H : ClsK K C) (n : Str) : plainGet K C n = true := H.pg

section
variable {prog : Program} {w : World} {A : Around} {E : Value → Shared → Prop} {K : Frag} {mg mb : Str → Option Value} {B : Heap} {L : Addr} {T : TM} {m : Str → Option Value} {O : OG} {s : Shared} {t : Tag} {env : Env}
  {gid k : Nat} {C x dx fn : Addr} {f : Str → Option Value} {name : Str} {ox : Obj} {od : Option Obj}

/-- a field is read, stored -/
theorem fldS {v : Value} {expr : Bool} {Q : Value → Shared → Prop} (W : Wd K mg mb B) (S : St B L T m O s) (H : ClsK K C) (I : Inst prog w T gid C x dx k f) (ha : findIn K (.ref C) name = some none) (hv : f name = some v) (hd : handedIn v = true) (h : ∀ tk, Q v { s with toks := tk }) :
    wpAny (model prog w) A (getAttr (.ref x) name expr) Q E s := getOwnS W S I hv (H.pg' _) H.hd ha rfl hd h
theorem putS {v : Value} {Q : Unit → Shared → Prop} (W : Wd K mg mb B) (S : St B L T m O s) (H : ClsK K C) (I : Inst prog w T gid C x dx k f) (hk : k < 900) (ha : findIn K (.ref C) name = some none)
    (h : ∀ s', St B L (upd T dx ((1, gid, 1), DS prog w (fs f name v) (k + 1))) m O s' → Q () s') : wpAny (model prog w) A (setAttr (.ref x) name v) Q E s :=
  setAttrS W S I hk H.sa H.po (by unfold takerIn; rw [ha]; rfl) H.hd h
theorem mthS {st : Stmt} {qual : Str} {dV : Value} {pl : Sem Bool} {Q : Value × List Value → Shared → Prop} (W : Wd K mg mb B) (S : St B L T m O s) (H : ClsK K C) (I : Inst prog w T gid C x dx k f) (M : Meth K C name fn st qual dV) (hv : f name = none)
    (h : Q (.ref fn, [.ref x]) s) : wpAny (model prog w) A (getMethod (.ref x) name pl) Q E s := getMethS W S I hv (H.pg' _) M.hf M.ht h
/-- a factory: a new empty dict -/
theorem facS {fn : Addr} {st : Stmt} {qual : Str} {cdv : Value} {p₁ p₂ : Pos} {Q : Value → Shared → Prop} (t : Tag) (W : Wd K mg mb B) (S : St B L T m O s) (hroom : A.depth < recursionLimit) (hf : FnIs K fn st qual .none cdv)
    (hbody : bodyOf st = [.Return (some (.Dict [] [] p₁)) p₂]) (hb : ∀ name kV doc pm an ct, bindArgs (fnOf name qual (argsOf st) (bodyOf st) (scopeOf st) .none kV doc pm an cdv ct) ⟨[.ref x], []⟩ = pure [(Str.ofString "self", .ref x)])
    (hc : ∀ x ∈ (scopeOf st).names, x.2 ≠ .cell) (hl : (scopeOf st).names.lookup (Str.ofString "self") = some .local) (hco : (scopeOf st).isCoroutine = false) (hgen : (scopeOf st).isGenerator = false) (hk : (scopeOf st).kind = .function)
    (h : ∀ d s', T d = none → St B L (upd T d (t, DI prog w [] 0)) m O s' → Q (.ref d) s') : wpAny (model prog w) A (call (.ref fn) [.ref x]) Q E s := by
  refine callF (args := ⟨[.ref x], []⟩) (binds := [(Str.ofString "self", .ref x)]) W S hroom hf (fun _ _ _ _ _ _ => BindsTo.of_eq (hb _ _ _ _ _ _)) hc (fun y hy => ?_) hco hgen hk fun B' L' s' hB' W' S' => ?_
  · rw [List.mem_singleton.mp hy]; exact hl
  · rw [hbody]
    refine wpAny_execs_cons (wpAny_Return_some ?_)
    exact newDictS S' t fun d s₁ hd S₁ => ⟨_, _, S₁, fun z => h d _ hd z⟩
theorem popEmpS {d : Addr} {u : Tok} {key : Str} {Q : Value → Shared → Prop} (S : St B L T m O s) (hd : T d = some (t, EmpP prog w)) (h : ∀ s', St B L T m O s' → Q .none s') :
    wpAny (model prog w) A (call (.builtin "dict.pop") [.ref d, .str key u, .none]) Q E s := by
  refine call_meetsIn PySem.F.slot_dict_pop (S.emp hd).typeIs PySem.F.entry_dict_pop (PySem.F.args_dict_pop_3 _ _ _) (meets_dict_pop_default (stk prog w) d (strKind_is prog w key u) (S.notMods hd) rfl .none) ⟨[], ?_, rfl, h _ S⟩
  obtain ⟨o, es, ep, ho, hx, hdat, hk, hp, _⟩ := S.emp hd
  have hes : es.toList = [] := by cases q : es.toList with | nil => rfl | cons a r => rw [q] at hp; cases hp
  refine ⟨o, es, ep, ho, hx, hdat, fun e he => ?_, by rw [hes]; exact .nil, List.nodup_nil⟩
  rw [← Array.mem_toList_iff, hes] at he; cases he
end
end Mine
end
section
open PySem PySem.W PySem.Calls PyProof.Rows
set_option Elab.async false
set_option maxRecDepth 100000
namespace Mine

/-! ## lists of pairs -/
theorem keys_stored {kvs : List (Int × Value)} {k : Int} {v : Value} : (stored kvs k v).map (·.1) = if k ∈ kvs.map (·.1) then kvs.map (·.1) else kvs.map (·.1) ++ [k] := by
  unfold stored
  by_cases h : k ∈ kvs.map (·.1)
  · rw [if_pos h, if_pos]
    · exact keys_map_store kvs k v
    · obtain ⟨q, hq, rfl⟩ := List.mem_map.mp h
      exact List.any_eq_true.mpr ⟨q, hq, by simp⟩
  · rw [if_neg h, if_neg]
    · simp
    · intro z
      obtain ⟨q, hq, e⟩ := List.any_eq_true.mp z
      exact h (List.mem_map.mpr ⟨q, hq, by simpa using e⟩)
theorem mem_stored {kvs : List (Int × Value)} {k : Int} {v : Value} {q : Int × Value} (h : q ∈ stored kvs k v) : q = (k, v) ∨ (q ∈ kvs ∧ q.1 ≠ k) := by
  unfold stored at h
  split at h
  · obtain ⟨r, hr, rfl⟩ := List.mem_map.mp h
    by_cases e : r.1 = k
    · rw [if_pos e, e]; exact .inl rfl
    · rw [if_neg e]; exact .inr ⟨hr, e⟩
  · rename_i hn
    rcases List.mem_append.mp h with h | h
    · exact .inr ⟨h, fun e => hn (List.any_eq_true.mpr ⟨q, h, by simp [e]⟩)⟩
    · exact .inl (List.mem_singleton.mp h)
theorem val_of_mem {kvs : List (Int × Value)} (hn : (kvs.map (·.1)).Nodup) {k : Int} (h : k ∈ kvs.map (·.1)) : ∃ v, valueAt kvs k = some v ∧ (k, v) ∈ kvs := by
  obtain ⟨⟨k', v⟩, hq, rfl⟩ := List.mem_map.mp h
  obtain ⟨i, hi⟩ := List.mem_iff_getElem?.mp hq
  exact ⟨v, valueAt_of_get hn hi, hq⟩
theorem val_isSome {kvs : List (Int × Value)} (hn : (kvs.map (·.1)).Nodup) {k : Int} : (valueAt kvs k).isSome = decide (k ∈ kvs.map (·.1)) := by
  by_cases h : k ∈ kvs.map (·.1)
  · obtain ⟨v, hv, _⟩ := val_of_mem hn h
    rw [hv]; simp [h]
  · rw [valueAt_none_of_not_mem h]; simp [h]
/-- as many pigeons as holes -/
theorem nodup_le : ∀ {l r : List Int}, l.Nodup → (∀ x ∈ l, x ∈ r) → l.length ≤ r.length
  | [], _, _, _ => Nat.zero_le _
  | a :: l, r, hn, hs => by
    rw [List.nodup_cons] at hn
    have h1 := nodup_le (l := l) (r := r.erase a) hn.2 fun x hx => by
      have hne : x ≠ a := fun e => hn.1 (e ▸ hx)
      exact (List.mem_erase_of_ne hne).mpr (hs x (List.mem_cons_of_mem _ hx))
    have h2 : a ∈ r := hs a List.mem_cons_self
    have h3 := List.length_erase_of_mem h2
    have h4 := List.length_pos_of_mem h2
    rw [List.length_cons]; omega

/-! ## graphs -/
def fieldNames : List Str := ["graph", "_node", "_adj", "_succ", "_pred", "adj"]
/-- every value is an empty dict -/
def Emps (prog : Program) (w : World) (T : TM) (kvs : List (Int × Value)) : Prop := ∀ q ∈ kvs, ∃ e, q.2 = .ref e ∧ T e = some ((4, 0, 0), EmpP prog w)
/-- the dict of one node's neighbours -/
def Nbrs (prog : Program) (w : World) (T : TM) (kind gid : Nat) (n : Int) (P : Int → Prop) (v : Value) : Prop :=
  ∃ a ks ep, v = .ref a ∧ T a = some ((kind, gid, n), DI prog w ks ep) ∧ (∀ j, j ∈ ks.map (·.1) ↔ P j) ∧ Emps prog w T ks

structure GrC (prog : Program) (w : World) (T : TM) (gid : Nat) (C x : Addr) (dir ca : Bool) (ns : List Int) (R : Int → Int → Prop)
    (dx : Addr) (k : Nat) (f : Str → Option Value) (dn da dp : Addr) (nk ak pk : List (Int × Value)) (en ea ep : Nat) : Prop where
  I : Inst prog w T gid C x dx k f
  hk : k ≤ 20 ∧ (ca = false → k ≤ 10)
  fN : f "_node" = some (.ref dn)
  fA : f "_adj" = some (.ref da)
  fC : f "adj" = if ca then some (.ref da) else none
  fO : ∀ n, n ∉ fieldNames → f n = none
  tN : T dn = some ((1, gid, 3), DI prog w nk en)
  kN : nk.map (·.1) = ns
  vN : Emps prog w T nk
  tA : T da = some ((1, gid, 4), DI prog w ak ea)
  kA : ak.map (·.1) = ns
  vA : ∀ q ∈ ak, Nbrs prog w T 2 gid q.1 (R q.1) q.2
  fS : dir = true → f "_succ" = some (.ref da)
  fP : dir = true → f "_pred" = some (.ref dp)
  tP : dir = true → T dp = some ((1, gid, 5), DI prog w pk ep)
  kP : dir = true → pk.map (·.1) = ns
  vP : dir = true → ∀ q ∈ pk, ∃ P : Int → Prop, (∀ j, P j → j ∈ ns) ∧ Nbrs prog w T 3 gid q.1 P q.2
  cl : ∀ a b, R a b → a ∈ ns ∧ b ∈ ns
  len : ns.length ≤ 6
  nd : ns.Nodup
def Gr (prog : Program) (w : World) (T : TM) (gid : Nat) (C x : Addr) (dir ca : Bool) (ns : List Int) (R : Int → Int → Prop) : Prop :=
  ∃ dx k f dn da dp nk ak pk en ea ep, GrC prog w T gid C x dir ca ns R dx k f dn da dp nk ak pk en ea ep

/-- what is not of g stands -/
def Keep (g : Nat) (T T' : TM) : Prop := ∀ a c, T a = some c → c.1.2.1 ≠ g → T' a = some c
theorem Keep.refl (g : Nat) (T : TM) : Keep g T T := fun _ _ h _ => h
theorem Keep.trans {g : Nat} {T₁ T₂ T₃ : TM} (h : Keep g T₁ T₂) (h' : Keep g T₂ T₃) : Keep g T₁ T₃ := fun a c e n => h' a c (h a c e n) n
theorem Keep.of_sub {g : Nat} {T T' : TM} (h : Sub T T') : Keep g T T' := fun a c e _ => h a c e
theorem Keep.upd {g : Nat} {T T' : TM} {a : Addr} {c : Cel} (h : Keep g T T') (hn : T a = none ∨ ∃ c₀, T a = some c₀ ∧ c₀.1.2.1 = g) : Keep g T (Mine.upd T' a c) := fun b d e n => by
  have : b ≠ a := fun q => by
    rw [q] at e
    rcases hn with hn | ⟨c₀, hn, hg⟩
    · rw [hn] at e; cases e
    · rw [hn] at e; cases e; exact n hg
  rw [upd_ne this]; exact h b d e n
/-- no object is of g -/
def NoG (g : Nat) (T : TM) : Prop := ∀ a c, T a = some c → c.1.2.1 ≠ g
theorem Keep.sub {g : Nat} {T T' : TM} (h : Keep g T T') (hn : NoG g T) : Sub T T' := fun a c e => h a c e (hn a c e)

section
variable {prog : Program} {w : World} {T T' : TM} {gid : Nat} {C x : Addr} {dir ca : Bool} {ns : List Int} {R : Int → Int → Prop}
  {dx : Addr} {k : Nat} {f : Str → Option Value} {dn da dp : Addr} {nk ak pk : List (Int × Value)} {en ea ep : Nat}
theorem Emps.mono {kvs : List (Int × Value)} (h : Emps prog w T kvs) (s : ∀ a c, T a = some c → c.1.2.1 = 0 → T' a = some c) : Emps prog w T' kvs := fun q hq => let ⟨e, h1, h2⟩ := h q hq; ⟨e, h1, s _ _ h2 rfl⟩
theorem Nbrs.mono {kind : Nat} {n : Int} {P : Int → Prop} {v : Value} (h : Nbrs prog w T kind gid n P v) (s : ∀ a c, T a = some c → c.1.2.1 = gid ∨ c.1.2.1 = 0 → T' a = some c) : Nbrs prog w T' kind gid n P v :=
  let ⟨a, ks, ep, h1, h2, h3, h4⟩ := h; ⟨a, ks, ep, h1, s _ _ h2 (.inl rfl), h3, h4.mono fun a c e z => s a c e (.inr z)⟩
theorem GrC.mono (h : GrC prog w T gid C x dir ca ns R dx k f dn da dp nk ak pk en ea ep) (s : ∀ a c, T a = some c → c.1.2.1 = gid ∨ c.1.2.1 = 0 → T' a = some c) : GrC prog w T' gid C x dir ca ns R dx k f dn da dp nk ak pk en ea ep :=
  { h with
    I := ⟨s _ _ h.I.i (.inl rfl), s _ _ h.I.d (.inl rfl)⟩
    tN := s _ _ h.tN (.inl rfl)
    vN := h.vN.mono fun a c e z => s a c e (.inr z)
    tA := s _ _ h.tA (.inl rfl)
    vA := fun q hq => (h.vA q hq).mono s
    tP := fun e => s _ _ (h.tP e) (.inl rfl)
    vP := fun e q hq => let ⟨P, h1, h2⟩ := h.vP e q hq; ⟨P, h1, h2.mono s⟩ }
theorem Gr.mono (h : Gr prog w T gid C x dir ca ns R) (s : ∀ a c, T a = some c → c.1.2.1 = gid ∨ c.1.2.1 = 0 → T' a = some c) : Gr prog w T' gid C x dir ca ns R :=
  let ⟨dx, k, f, dn, da, dp, nk, ak, pk, en, ea, ep, z⟩ := h; ⟨dx, k, f, dn, da, dp, nk, ak, pk, en, ea, ep, z.mono s⟩
theorem Gr.keep {g : Nat} (h : Gr prog w T gid C x dir ca ns R) (hk : Keep g T T') (h1 : gid ≠ g) (h2 : g ≠ 0) : Gr prog w T' gid C x dir ca ns R :=
  h.mono fun a c e z => hk a c e (by rcases z with z | z <;> omega)
theorem Gr.sub (h : Gr prog w T gid C x dir ca ns R) (hs : Sub T T') : Gr prog w T' gid C x dir ca ns R := h.mono fun a c e _ => hs a c e
theorem Gr.congr {R' : Int → Int → Prop} (h : Gr prog w T gid C x dir ca ns R) (e : ∀ a b, R a b ↔ R' a b) : Gr prog w T gid C x dir ca ns R' := by
  have : R = R' := by funext a b; exact propext (e a b)
  exact this ▸ h
end
end Mine
end
section
open PySem PySem.W PySem.Calls PyProof.Rows
set_option Elab.async false
set_option maxRecDepth 100000
namespace Mine
-- "L": what a name holds
local macro_rules | `(tactic| walk_at "L") => `(tactic| first
  | assumption
  | exact fs_eq
  | (refine fs_ne (by decide) ?_; walk_at "L")
  | rfl)
-- "M": the next step of the walk, where it is the same everywhere
local macro_rules | `(tactic| walk_at "M") => `(tactic| first
  | ((with_reducible refine loadG ?_); refine ldnS (by assumption) (by walk_at "L") ?_)
  | ((with_reducible refine stG ?_); refine stS (by assumption) ?_; intro _ _)
  | ((with_reducible refine nameG ?_); refine ldS (by assumption) (by walk_at "L") ?_)
  | with_reducible refine wpAny_execs_cons ?_
  | with_reducible refine wpAny_execs_nil ?_
  | with_reducible refine wpAny_BinOp ?_
  | with_reducible refine wpAny_Constant_int ?_
  | with_reducible refine wpAny_Constant_str ?_
  | with_reducible refine Constant_none ?_
  | with_reducible refine Constant_bool ?_
  | with_reducible refine wpAny_Compare1 ?_
  | with_reducible refine wpAny_isTrue_Compare1 ?_
  | with_reducible refine isTrue_not ?_
  | with_reducible refine isTrue_and_nil ?_
  | with_reducible refine isTrue_or_nil ?_
  | with_reducible refine isTrue_and ?_
  | with_reducible refine isTrue_or ?_
  | with_reducible refine IfExp_ ?_
  | with_reducible refine wpAny_If ?_
  | ((with_reducible refine asgN ?_ ?_); (focus rfl))
  | ((with_reducible refine asgS ?_ ?_); (focus rfl))
  | ((with_reducible refine asgA ?_ ?_); (focus rfl))
  | ((with_reducible refine exprE ?_ ?_ ?_); (focus rfl); (focus rfl))
  | with_reducible refine wpAny_AugAssign_Name ?_
  | with_reducible refine wpAny_Return_some ?_
  | with_reducible refine wpAny_Break ?_
  | with_reducible refine wpAny_Continue ?_
  | ((with_reducible refine isG ?_); refine wpAny_is_other (by rfl) (by intro e; cases e) ?_)
  | ((with_reducible refine trG ?_); refine isTrue_plain ?_)
  | with_reducible refine wpAny_truthy_bool ?_
  | with_reducible refine add_int ?_
  | with_reducible refine iadd_int ?_
  | with_reducible refine sub_int ?_
  | with_reducible refine lt_int ?_
  | with_reducible refine le_int ?_
  | with_reducible refine gt_int ?_
  | with_reducible refine eq_int ?_
  | with_reducible refine ne_int ?_
  | with_reducible refine splE ?_
  | ((with_reducible refine splG ?_); refine spliced_more ?_)
  | with_reducible refine Tuple_ ?_
  | with_reducible refine List_ ?_
  | ((with_reducible refine methC (pl := ?_) ?_ ?_); rotate_left; (focus rfl))
  | ((with_reducible refine callC ?_ ?_); (focus rfl))
  | ((with_reducible refine cwB1 ?_ ?_ ?_); (focus rfl); (focus rfl))
  | ((with_reducible refine cwT1 ?_ ?_ ?_); (focus rfl); (focus rfl))
  | ((with_reducible refine cwM1 ?_ ?_ ?_); (focus rfl); (focus rfl))
  | with_reducible refine Subscript_ ?_
  | ((with_reducible refine attrE ?_ ?_); (focus with_unfolding_all rfl))
  | (show wpAny _ _ (execs _ _) _ _ _; first | refine wpAny_execs_cons ?_ | refine wpAny_execs_nil ?_))
/-- the text of a factory -/
structure FacSt (st : Stmt) (qual : Str) : Prop where
  hbody : ∃ p₁ p₂, bodyOf st = [.Return (some (.Dict [] [] p₁)) p₂]
  hb : ∀ (x : Addr) (name : Str) (kV doc pm cdv : Value) an ct, bindArgs (fnOf name qual (argsOf st) (bodyOf st) (scopeOf st) .none kV doc pm an cdv ct) ⟨[.ref x], []⟩ = pure [(Str.ofString "self", .ref x)]
  hc : ∀ x ∈ (scopeOf st).names, x.2 ≠ .cell
  hls : (scopeOf st).names.lookup (Str.ofString "self") = some .local
  hco : (scopeOf st).isCoroutine = false
  hgen : (scopeOf st).isGenerator = false
  hkf : (scopeOf st).kind = .function
theorem fac0 : FacSt (meth 14 0) "Graph.node_dict_factory" := ⟨⟨_, _, rfl⟩, fun _ _ _ _ _ _ _ _ => rfl, by decide, rfl, rfl, rfl, rfl⟩
theorem fac1 : FacSt (meth 14 1) "Graph.node_attr_dict_factory" := ⟨⟨_, _, rfl⟩, fun _ _ _ _ _ _ _ _ => rfl, by decide, rfl, rfl, rfl, rfl⟩
theorem fac2 : FacSt (meth 14 2) "Graph.adjlist_outer_dict_factory" := ⟨⟨_, _, rfl⟩, fun _ _ _ _ _ _ _ _ => rfl, by decide, rfl, rfl, rfl, rfl⟩
theorem fac3 : FacSt (meth 14 3) "Graph.adjlist_inner_dict_factory" := ⟨⟨_, _, rfl⟩, fun _ _ _ _ _ _ _ _ => rfl, by decide, rfl, rfl, rfl, rfl⟩
theorem fac4 : FacSt (meth 14 4) "Graph.edge_attr_dict_factory" := ⟨⟨_, _, rfl⟩, fun _ _ _ _ _ _ _ _ => rfl, by decide, rfl, rfl, rfl, rfl⟩
theorem fac5 : FacSt (meth 14 5) "Graph.graph_attr_dict_factory" := ⟨⟨_, _, rfl⟩, fun _ _ _ _ _ _ _ _ => rfl, by decide, rfl, rfl, rfl, rfl⟩
section
variable {prog : Program} {w : World} {A : Around} {E : Value → Shared → Prop} {K : Frag} {mg mb : Str → Option Value} {B : Heap} {L : Addr} {T : TM} {m : Str → Option Value} {O : OG} {s : Shared} {t : Tag} {env : Env}
  {gid k : Nat} {C x dx fn : Addr} {f : Str → Option Value} {name : Str} {ox : Obj} {od : Option Obj}

theorem facCall {fname : Str} {st : Stmt} {qual : Str} {pl : Sem Bool} {pos : Pos} {Q : Value → Shared → Prop} (t : Tag) (W : Wd K mg mb B) (S : St B L T m O s) (H : ClsK K C) (I : Inst prog w T gid C x dx k f) (hroom : A.depth < 900)
    (M : Meth K C fname fn st qual .none) (F : FacSt st qual) (hv : f fname = none) (h : ∀ d s', T d = none → St B L (upd T d (t, DI prog w [] 0)) m O s' → Q (.ref d) s') :
    wpAny (model prog w) A (getMethod (.ref x) fname pl) (fun fx s₂ => wpAny (model prog w) A (callWith pos fx.1 fx.2 (backTo pos (starEach [] env)) []) Q E s₂) E s := by
  refine mthS W S H I M hv ?_
  refine cwF0 W S M.hk ?_
  obtain ⟨cdv, hf⟩ := M.fd
  obtain ⟨p₁, p₂, hbody⟩ := F.hbody
  exact facS t W S (Nat.lt_trans hroom (by decide)) hf hbody (fun name kV doc pm an ct => F.hb x name kV doc pm cdv an ct) F.hc F.hls F.hco F.hgen F.hkf h
theorem Inst.new (I : Inst prog w T gid C x dx k f) {d : Addr} {c : Cel} (hd : T d = none) : Inst prog w (upd T d c) gid C x dx k f :=
  ⟨by rw [upd_ne (ne_of_none I.i hd)]; exact I.i, by rw [upd_ne (ne_of_none I.d hd)]; exact I.d⟩
theorem Inst.put (I : Inst prog w T gid C x dx k f) {k' : Nat} {f' : Str → Option Value} : Inst prog w (upd T dx ((1, gid, 1), DS prog w f' k')) gid C x dx k' f' :=
  ⟨by rw [upd_ne I.ne]; exact I.i, upd_self⟩
/-- another object's cell, told by its tag -/
theorem upd_tag {d a : Addr} {c c₀ c' : Cel} (ha : T a = some c) (hd : T d = some c₀) (h : c.1 ≠ c₀.1) : upd T d c' a = some c := by rw [upd_ne (ne_of_tag ha hd h)]; exact ha
theorem upd_new {d a : Addr} {c c' : Cel} (ha : T a = some c) (hd : T d = none) : upd T d c' a = some c := by rw [upd_ne (ne_of_none ha hd)]; exact ha

/-- `self.NAME = self.FACTORY()`, from the method's reading on -/
theorem facPut {xs fname : Str} {p4 pos : Pos} {st : Stmt} {qual : Str} {pl : Sem Bool} {Q : Unit → Shared → Prop} (t : Tag) (W : Wd K mg mb B) (S : St B env.locals T m O s) (H : ClsK K C) (I : Inst prog w T gid C x dx k f) (hroom : A.depth < 900) (hk : k < 900)
    (hx : m xs = some (.ref x)) (M : Meth K C fname fn st qual .none) (F : FacSt st qual) (hv : f fname = none) (ha : findIn K (.ref C) name = some none)
    (hke : env.scope.kind = .function) (hl : env.kindOf xs = some .local) (hdb : (xs == ("__debug__" : Str)) = false)
    (h : ∀ d T' s', T d = none → Inst prog w T' gid C x dx (k + 1) (fs f name (.ref d)) → T' d = some (t, DI prog w [] 0) → (∀ a c, T a = some c → a ≠ dx → T' a = some c) → St B env.locals T' m O s' → Q () s') :
    wpAny (model prog w) A (getMethod (.ref x) fname pl) (fun fx s₂ => wpAny (model prog w) A (callWith pos fx.1 fx.2 (backTo pos (starEach [] env)) [])
      (fun v s₁ => wpAny (model prog w) A (eval (.Name xs p4) env) (fun ov s₂ => wpAny (model prog w) A (setAttr ov name v) Q E s₂) E s₁) E s₂) E s := by
  refine facCall t W S H I hroom M F hv fun d s₁ hd S₁ => ldS S₁ hx ?_ hke hl hdb
  have hdx : d ≠ dx := fun q => by rw [q, I.d] at hd; cases hd
  refine putS W S₁ H (I.new hd) hk ha fun s₂ S₂ => h d _ s₂ hd (I.new hd).put (by rw [upd_ne hdx]; exact upd_self) (fun a c e n => by rw [upd_ne n, upd_ne (ne_of_none e hd)]; exact e) S₂
theorem keep_of {T' : TM} (I : Inst prog w T gid C x dx k f) (h : ∀ a c, T a = some c → a ≠ dx → T' a = some c) : Keep gid T T' := fun a c e n => h a c e fun q => by rw [q, I.d] at e; cases e; exact n rfl

theorem initG {Q : Value → Shared → Prop} (W : Wd K mg mb B) (S : St B L T m O s) (hroom : A.depth < 800) (H : ClsK K 624) (M : Meth K 624 "__init__" 381 (meth 14 6) "Graph.__init__" (.ref 374)) (hdf : ∃ oc od n sl, K.lookup 374 = some ⟨oc, od, .seq #[.none] n, sl⟩) (hg0 : gid ≠ 0)
    (I : Inst prog w T gid 624 x dx 0 (fun _ => none))
    (h : ∀ T' s', Keep gid T T' → Gr prog w T' gid 624 x false false [] (fun _ _ => False) → St B L T' m O s' → Q .none s') :
    codeAny (model prog w) A (.call (.ref 381) ⟨[.ref x], []⟩) (RQ Q E) s := by
  obtain ⟨cdv, hf⟩ := M.fd
  obtain ⟨oc, od, n, sl, hdf⟩ := hdf
  refine callFKc (args := ⟨[.ref x], []⟩) (binds := fun d => [(Str.ofString "self", .ref x), (Str.ofString "incoming_graph_data", .none), (Str.ofString "attr", .ref d)]) W S (Nat.lt_trans hroom (by decide)) hf
    (fun _ _ _ _ _ _ => BindsKw.of_defaults rfl (S.keep _ _ (W.X _ _ hdf)) rfl rfl rfl) (by decide) (fun d => locs rfl) rfl rfl rfl fun B' L' d s' hB' W' hd S' => ?_
  have hr : (A.deeper (envF (Str.ofString "Graph.__init__") (meth 14 6) L' 381 cdv [])).depth < 900 := by show A.depth + 1 < 900; omega
  generalize hA : A.deeper (envF (Str.ofString "Graph.__init__") (meth 14 6) L' 381 cdv []) = A' at hr ⊢
  have I₁ := I.new (c := ((8, 0, 0), EmpP prog w)) hd
  have a₁ : upd T d ((8, 0, 0), EmpP prog w) d = some ((8, 0, 0), EmpP prog w) := upd_self
  have K₁ : Keep gid T (upd T d ((8, 0, 0), EmpP prog w)) := .of_sub (.new hd)
  generalize upd T d ((8, 0, 0), EmpP prog w) = T₁ at I₁ S' a₁ K₁
  repeat walk_at "M"
  refine facPut (1, gid, 2) W' S' H I₁ hr (by omega) rfl H.mG fac5 rfl H.aG rfl rfl rfl fun dg T₂ s₂ _ I₂ g₂ k₂ S₂ => ?_
  have K₂ := K₁.trans (keep_of I₁ k₂)
  have a₂ := k₂ _ _ a₁ (ne_of_tag a₁ I₁.d (by intro e; cases e))
  clear S' k₂
  repeat walk_at "M"
  refine facPut (1, gid, 3) W' S₂ H I₂ hr (by omega) rfl H.mN fac0 rfl H.aN rfl rfl rfl fun dn T₃ s₃ _ I₃ g₃ k₃ S₃ => ?_
  have K₃ := K₂.trans (keep_of I₂ k₃)
  have a₃ := k₃ _ _ a₂ (ne_of_tag a₂ I₂.d (by intro e; cases e))
  have q₃ := k₃ _ _ g₂ (ne_of_tag g₂ I₂.d (by intro e; cases e))
  clear S₂ k₃
  repeat walk_at "M"
  refine facPut (1, gid, 4) W' S₃ H I₃ hr (by omega) rfl H.mO fac2 rfl H.aA rfl rfl rfl fun da T₄ s₄ _ I₄ g₄ k₄ S₄ => ?_
  have K₄ := K₃.trans (keep_of I₃ k₄)
  have a₄ := k₄ _ _ a₃ (ne_of_tag a₃ I₃.d (by intro e; cases e))
  have q₄ := k₄ _ _ q₃ (ne_of_tag q₃ I₃.d (by intro e; cases e))
  have n₄ := k₄ _ _ g₃ (ne_of_tag g₃ I₃.d (by intro e; cases e))
  clear S₃ k₄
  repeat walk_at "M"
  refine methEmpS PySem.F.slot_dict_pop typeOf_dpop S₄ a₄ ?_
  repeat walk_at "M"
  refine popEmpS S₄ a₄ fun s₅ S₅ => ?_
  clear S₄
  repeat walk_at "M"
  refine fldS W' S₅ H I₄ H.aG rfl rfl fun tk => ?_
  have S₆ := S₅.retag (c' := ((1, gid, 2), EmpP prog w)) q₄ fun o ho => ⟨0, ho⟩
  have hgd : dg ≠ d := ne_of_tag q₄ a₄ (by intro e; cases e)
  have hgx : dg ≠ dx := ne_of_tag q₄ I₄.d (by intro e; cases e)
  have hgx' : dg ≠ x := ne_of_tag q₄ I₄.i (by intro e; cases e)
  have K₅ : Keep gid T (upd T₄ dg ((1, gid, 2), EmpP prog w)) := fun a c e n => by rw [upd_ne fun q => n (by have := K₄ a c e n; rw [q, q₄] at this; cases this; rfl)]; exact K₄ a c e n
  refine methEmpS PySem.F.slot_dict_update typeOf_dupd S₆ upd_self ?_
  repeat walk_at "M"
  refine updEmpS S₆ upd_self (by rw [upd_ne (Ne.symm hgd)]; exact a₄) hgd fun s₇ S₇ => ?_
  clear S₅ S₆
  repeat walk_at "M"
  have G : GrC prog w (upd T₄ dg ((1, gid, 2), EmpP prog w)) gid 624 x false false [] (fun _ _ => False) dx (0 + 1 + 1 + 1) (fs (fs (fs (fun _ => none) "graph" (.ref dg)) "_node" (.ref dn)) "_adj" (.ref da)) dn da 0 [] [] [] 0 0 0 := by
    refine ⟨⟨?_, ?_⟩, ⟨by omega, fun _ => by omega⟩, rfl, rfl, rfl, fun n hn => ?_, ?_, rfl, fun q hq => (nomatch hq), ?_, rfl, fun q hq => (nomatch hq), fun e => (nomatch e), fun e => (nomatch e), fun e => (nomatch e), fun e => (nomatch e), fun e => (nomatch e), fun a b e => e.elim, by decide, List.nodup_nil⟩
    · rw [upd_ne (Ne.symm hgx')]; exact I₄.i
    · rw [upd_ne (Ne.symm hgx)]; exact I₄.d
    · have h1 : n ≠ Str.ofString "_adj" := fun e => hn (by rw [e]; decide)
      have h2 : n ≠ Str.ofString "_node" := fun e => hn (by rw [e]; decide)
      have h3 : n ≠ Str.ofString "graph" := fun e => hn (by rw [e]; decide)
      exact fs_ne (beq_eq_false_iff_ne.mpr h1) (fs_ne (beq_eq_false_iff_ne.mpr h2) (fs_ne (beq_eq_false_iff_ne.mpr h3) rfl))
    · rw [upd_ne (ne_of_tag n₄ q₄ (by intro e; cases e))]; exact n₄
    · rw [upd_ne (ne_of_tag g₄ q₄ (by intro e; cases e))]; exact g₄
  exact ⟨_, _, S₇, fun z => h _ _ K₅ ⟨_, _, _, _, _, _, _, _, _, _, _, _, G⟩ z⟩
theorem initD {Q : Value → Shared → Prop} (W : Wd K mg mb B) (S : St B L T m O s) (hroom : A.depth < 800) (H : ClsK K 853) (M : Meth K 853 "__init__" 654 (meth 18 0) "DiGraph.__init__" (.ref 647)) (hdf : ∃ oc od n sl, K.lookup 647 = some ⟨oc, od, .seq #[.none] n, sl⟩) (hg0 : gid ≠ 0)
    (I : Inst prog w T gid 853 x dx 0 (fun _ => none))
    (h : ∀ T' s', Keep gid T T' → Gr prog w T' gid 853 x true false [] (fun _ _ => False) → St B L T' m O s' → Q .none s') :
    codeAny (model prog w) A (.call (.ref 654) ⟨[.ref x], []⟩) (RQ Q E) s := by
  obtain ⟨cdv, hf⟩ := M.fd
  obtain ⟨oc, od, n, sl, hdf⟩ := hdf
  refine callFKc (args := ⟨[.ref x], []⟩) (binds := fun d => [(Str.ofString "self", .ref x), (Str.ofString "incoming_graph_data", .none), (Str.ofString "attr", .ref d)]) W S (Nat.lt_trans hroom (by decide)) hf
    (fun _ _ _ _ _ _ => BindsKw.of_defaults rfl (S.keep _ _ (W.X _ _ hdf)) rfl rfl rfl) (by decide) (fun d => locs rfl) rfl rfl rfl fun B' L' d s' hB' W' hd S' => ?_
  have hr : (A.deeper (envF (Str.ofString "DiGraph.__init__") (meth 18 0) L' 654 cdv [])).depth < 900 := by show A.depth + 1 < 900; omega
  generalize hA : A.deeper (envF (Str.ofString "DiGraph.__init__") (meth 18 0) L' 654 cdv []) = A' at hr ⊢
  have I₁ := I.new (c := ((8, 0, 0), EmpP prog w)) hd
  have a₁ : upd T d ((8, 0, 0), EmpP prog w) d = some ((8, 0, 0), EmpP prog w) := upd_self
  have K₁ : Keep gid T (upd T d ((8, 0, 0), EmpP prog w)) := .of_sub (.new hd)
  generalize upd T d ((8, 0, 0), EmpP prog w) = T₁ at I₁ S' a₁ K₁
  repeat walk_at "M"
  refine facPut (1, gid, 2) W' S' H I₁ hr (by omega) rfl H.mG fac5 rfl H.aG rfl rfl rfl fun dg T₂ s₂ _ I₂ g₂ k₂ S₂ => ?_
  have K₂ := K₁.trans (keep_of I₁ k₂)
  have a₂ := k₂ _ _ a₁ (ne_of_tag a₁ I₁.d (by intro e; cases e))
  clear S' k₂
  repeat walk_at "M"
  refine facPut (1, gid, 3) W' S₂ H I₂ hr (by omega) rfl H.mN fac0 rfl H.aN rfl rfl rfl fun dn T₃ s₃ _ I₃ g₃ k₃ S₃ => ?_
  have K₃ := K₂.trans (keep_of I₂ k₃)
  have a₃ := k₃ _ _ a₂ (ne_of_tag a₂ I₂.d (by intro e; cases e))
  have q₃ := k₃ _ _ g₂ (ne_of_tag g₂ I₂.d (by intro e; cases e))
  clear S₂ k₃
  repeat walk_at "M"
  refine facPut (1, gid, 4) W' S₃ H I₃ hr (by omega) rfl H.mO fac2 rfl H.aA rfl rfl rfl fun da T₄ s₄ _ I₄ g₄ k₄ S₄ => ?_
  have K₄ := K₃.trans (keep_of I₃ k₄)
  have a₄ := k₄ _ _ a₃ (ne_of_tag a₃ I₃.d (by intro e; cases e))
  have q₄ := k₄ _ _ q₃ (ne_of_tag q₃ I₃.d (by intro e; cases e))
  have n₄ := k₄ _ _ g₃ (ne_of_tag g₃ I₃.d (by intro e; cases e))
  clear S₃ k₄
  repeat walk_at "M"
  refine fldS W' S₄ H I₄ H.aA rfl rfl fun tk₁ => ?_
  repeat walk_at "M"
  refine putS W' (s := { s₄ with toks := tk₁ }) S₄ H I₄ (by omega) H.aS fun s₅ S₅ => ?_
  have I₅ := I₄.put (k' := 0 + 1 + 1 + 1 + 1) (f' := fs (fs (fs (fs (fun _ => none) "graph" (.ref dg)) "_node" (.ref dn)) "_adj" (.ref da)) "_succ" (.ref da))
  have K₅ : Keep gid T (upd T₄ dx ((1, gid, 1), DS prog w (fs (fs (fs (fs (fun _ => none) "graph" (.ref dg)) "_node" (.ref dn)) "_adj" (.ref da)) "_succ" (.ref da)) (0 + 1 + 1 + 1 + 1))) := fun a c e n => by
    rw [upd_ne fun q => n (by have := K₄ a c e n; rw [q, I₄.d] at this; cases this; rfl)]; exact K₄ a c e n
  have a₅ := upd_tag (c' := ((1, gid, 1), DS prog w (fs (fs (fs (fs (fun _ => none) "graph" (.ref dg)) "_node" (.ref dn)) "_adj" (.ref da)) "_succ" (.ref da)) (0 + 1 + 1 + 1 + 1))) a₄ I₄.d (by intro e; cases e)
  have q₅ := upd_tag (c' := ((1, gid, 1), DS prog w (fs (fs (fs (fs (fun _ => none) "graph" (.ref dg)) "_node" (.ref dn)) "_adj" (.ref da)) "_succ" (.ref da)) (0 + 1 + 1 + 1 + 1))) q₄ I₄.d (by intro e; cases e)
  have n₅ := upd_tag (c' := ((1, gid, 1), DS prog w (fs (fs (fs (fs (fun _ => none) "graph" (.ref dg)) "_node" (.ref dn)) "_adj" (.ref da)) "_succ" (.ref da)) (0 + 1 + 1 + 1 + 1))) n₄ I₄.d (by intro e; cases e)
  have g₅ := upd_tag (c' := ((1, gid, 1), DS prog w (fs (fs (fs (fs (fun _ => none) "graph" (.ref dg)) "_node" (.ref dn)) "_adj" (.ref da)) "_succ" (.ref da)) (0 + 1 + 1 + 1 + 1))) g₄ I₄.d (by intro e; cases e)
  generalize upd T₄ dx ((1, gid, 1), DS prog w (fs (fs (fs (fs (fun _ => none) "graph" (.ref dg)) "_node" (.ref dn)) "_adj" (.ref da)) "_succ" (.ref da)) (0 + 1 + 1 + 1 + 1)) = T₅ at I₅ S₅ K₅ a₅ q₅ n₅ g₅
  clear S₄ a₄ q₄ n₄ g₄ K₄ I₄
  repeat walk_at "M"
  refine facPut (1, gid, 5) W' S₅ H I₅ hr (by omega) rfl H.mO fac2 rfl H.aP rfl rfl rfl fun dp T₄ s₄ _ I₄ p₄ k₄ S₄ => ?_
  have K₄ := K₅.trans (keep_of I₅ k₄)
  have a₄ := k₄ _ _ a₅ (ne_of_tag a₅ I₅.d (by intro e; cases e))
  have q₄ := k₄ _ _ q₅ (ne_of_tag q₅ I₅.d (by intro e; cases e))
  have n₄ := k₄ _ _ n₅ (ne_of_tag n₅ I₅.d (by intro e; cases e))
  have g₄ := k₄ _ _ g₅ (ne_of_tag g₅ I₅.d (by intro e; cases e))
  clear S₅ k₄ K₅
  repeat walk_at "M"
  refine methEmpS PySem.F.slot_dict_pop typeOf_dpop S₄ a₄ ?_
  repeat walk_at "M"
  refine popEmpS S₄ a₄ fun s₅ S₅ => ?_
  clear S₄
  repeat walk_at "M"
  refine fldS W' S₅ H I₄ H.aG rfl rfl fun tk => ?_
  have S₆ := S₅.retag (c' := ((1, gid, 2), EmpP prog w)) q₄ fun o ho => ⟨0, ho⟩
  have hgd : dg ≠ d := ne_of_tag q₄ a₄ (by intro e; cases e)
  have hgx : dg ≠ dx := ne_of_tag q₄ I₄.d (by intro e; cases e)
  have hgx' : dg ≠ x := ne_of_tag q₄ I₄.i (by intro e; cases e)
  have K₅ : Keep gid T (upd T₄ dg ((1, gid, 2), EmpP prog w)) := fun a c e n => by rw [upd_ne fun q => n (by have := K₄ a c e n; rw [q, q₄] at this; cases this; rfl)]; exact K₄ a c e n
  refine methEmpS PySem.F.slot_dict_update typeOf_dupd S₆ upd_self ?_
  repeat walk_at "M"
  refine updEmpS S₆ upd_self (by rw [upd_ne (Ne.symm hgd)]; exact a₄) hgd fun s₇ S₇ => ?_
  clear S₅ S₆
  repeat walk_at "M"
  have G : GrC prog w (upd T₄ dg ((1, gid, 2), EmpP prog w)) gid 853 x true false [] (fun _ _ => False) dx (0 + 1 + 1 + 1 + 1 + 1) (fs (fs (fs (fs (fs (fun _ => none) "graph" (.ref dg)) "_node" (.ref dn)) "_adj" (.ref da)) "_succ" (.ref da)) "_pred" (.ref dp)) dn da dp [] [] [] 0 0 0 := by
    refine ⟨⟨?_, ?_⟩, ⟨by omega, fun _ => by omega⟩, rfl, rfl, rfl, fun n hn => ?_, ?_, rfl, fun q hq => (nomatch hq), ?_, rfl, fun q hq => (nomatch hq), fun e => rfl, fun e => rfl, fun e => ?_, fun e => rfl, fun e q hq => (nomatch hq), fun a b e => e.elim, by decide, List.nodup_nil⟩
    · rw [upd_ne (Ne.symm hgx')]; exact I₄.i
    · rw [upd_ne (Ne.symm hgx)]; exact I₄.d
    · have h1 : n ≠ Str.ofString "_adj" := fun e => hn (by rw [e]; decide)
      have h2 : n ≠ Str.ofString "_node" := fun e => hn (by rw [e]; decide)
      have h3 : n ≠ Str.ofString "graph" := fun e => hn (by rw [e]; decide)
      have h4 : n ≠ Str.ofString "_succ" := fun e => hn (by rw [e]; decide)
      have h5 : n ≠ Str.ofString "_pred" := fun e => hn (by rw [e]; decide)
      exact fs_ne (beq_eq_false_iff_ne.mpr h5) (fs_ne (beq_eq_false_iff_ne.mpr h4) (fs_ne (beq_eq_false_iff_ne.mpr h1) (fs_ne (beq_eq_false_iff_ne.mpr h2) (fs_ne (beq_eq_false_iff_ne.mpr h3) rfl))))
    · rw [upd_ne (ne_of_tag n₄ q₄ (by intro e; cases e))]; exact n₄
    · rw [upd_ne (ne_of_tag g₄ q₄ (by intro e; cases e))]; exact g₄
    · rw [upd_ne (ne_of_tag p₄ q₄ (by intro e; cases e))]; exact p₄
  exact ⟨_, _, S₇, fun z => h _ _ K₅ ⟨_, _, _, _, _, _, _, _, _, _, _, _, G⟩ z⟩

theorem newG {Q : Value → Shared → Prop} (gid : Nat) (W : Wd K mg mb B) (S : St B L T m O s) (hroom : A.depth < 700) (H : ClsK K 624) (M : Meth K 624 "__init__" 381 (meth 14 6) "Graph.__init__" (.ref 374)) (hdf : ∃ oc od n sl, K.lookup 374 = some ⟨oc, od, .seq #[.none] n, sl⟩) (hg0 : gid ≠ 0) (hn : NoG gid T)
    (h : ∀ x T' s', Sub T T' → Gr prog w T' gid 624 x false false [] (fun _ _ => False) → St B L T' m O s' → Q (.ref x) s') : wpAny (model prog w) A (call (.ref 624) []) Q E s := by
  refine ctorS (gid := gid) W S H.mks M.hf (beq_iff_eq.mp M.ht) fun x dx s₁ hx hd hxd S₁ => ?_
  refine initG W S₁ (by show A.depth + _ < 800; have : (Code.builtin "type.__call__" ⟨[.ref 624], []⟩).weight = 1 := (by decide +kernel); omega) H M hdf hg0 ⟨upd_self, by rw [upd_ne (Ne.symm hxd)]; exact upd_self⟩ fun T' s' hk hG S' => ⟨rfl, h x T' s' (fun a c e => hk a c ?_ (hn a c e)) hG S'⟩
  rw [upd_ne (ne_of_none e hx), upd_ne (ne_of_none e hd)]; exact e
theorem newD {Q : Value → Shared → Prop} (gid : Nat) (W : Wd K mg mb B) (S : St B L T m O s) (hroom : A.depth < 700) (H : ClsK K 853) (M : Meth K 853 "__init__" 654 (meth 18 0) "DiGraph.__init__" (.ref 647)) (hdf : ∃ oc od n sl, K.lookup 647 = some ⟨oc, od, .seq #[.none] n, sl⟩) (hg0 : gid ≠ 0) (hn : NoG gid T)
    (h : ∀ x T' s', Sub T T' → Gr prog w T' gid 853 x true false [] (fun _ _ => False) → St B L T' m O s' → Q (.ref x) s') : wpAny (model prog w) A (call (.ref 853) []) Q E s := by
  refine ctorS (gid := gid) W S H.mks M.hf (beq_iff_eq.mp M.ht) fun x dx s₁ hx hd hxd S₁ => ?_
  refine initD W S₁ (by show A.depth + _ < 800; have : (Code.builtin "type.__call__" ⟨[.ref 853], []⟩).weight = 1 := (by decide +kernel); omega) H M hdf hg0 ⟨upd_self, by rw [upd_ne (Ne.symm hxd)]; exact upd_self⟩ fun T' s' hk hG S' => ⟨rfl, h x T' s' (fun a c e => hk a c ?_ (hn a c e)) hG S'⟩
  rw [upd_ne (ne_of_none e hx), upd_ne (ne_of_none e hd)]; exact e
end
end Mine
end
section
open PySem PySem.W PySem.Calls PyProof.Rows
set_option Elab.async false
set_option maxRecDepth 100000
namespace Mine
-- "L": what a name holds
local macro_rules | `(tactic| walk_at "L") => `(tactic| first
  | assumption
  | exact fs_eq
  | (refine fs_ne (by decide) ?_; walk_at "L")
  | rfl)
-- "M": the next step of the walk, where it is the same everywhere
local macro_rules | `(tactic| walk_at "M") => `(tactic| first
  | ((with_reducible refine loadG ?_); refine ldnS (by assumption) (by walk_at "L") ?_)
  | ((with_reducible refine stG ?_); refine stS (by assumption) ?_; intro _ _)
  | ((with_reducible refine nameG ?_); refine ldS (by assumption) (by walk_at "L") ?_)
  | with_reducible refine wpAny_execs_cons ?_
  | with_reducible refine wpAny_execs_nil ?_
  | with_reducible refine wpAny_BinOp ?_
  | with_reducible refine wpAny_Constant_int ?_
  | with_reducible refine wpAny_Constant_str ?_
  | with_reducible refine Constant_none ?_
  | with_reducible refine Constant_bool ?_
  | with_reducible refine wpAny_Compare1 ?_
  | with_reducible refine wpAny_isTrue_Compare1 ?_
  | with_reducible refine isTrue_not ?_
  | with_reducible refine isTrue_and_nil ?_
  | with_reducible refine isTrue_or_nil ?_
  | with_reducible refine isTrue_and ?_
  | with_reducible refine isTrue_or ?_
  | with_reducible refine IfExp_ ?_
  | with_reducible refine wpAny_If ?_
  | ((with_reducible refine asgN ?_ ?_); (focus rfl))
  | ((with_reducible refine asgS ?_ ?_); (focus rfl))
  | ((with_reducible refine asgA ?_ ?_); (focus rfl))
  | ((with_reducible refine exprE ?_ ?_ ?_); (focus rfl); (focus rfl))
  | with_reducible refine wpAny_AugAssign_Name ?_
  | with_reducible refine wpAny_Return_some ?_
  | with_reducible refine wpAny_Break ?_
  | with_reducible refine wpAny_Continue ?_
  | ((with_reducible refine isG ?_); refine wpAny_is_other (by rfl) (by intro e; cases e) ?_)
  | ((with_reducible refine trG ?_); refine isTrue_plain ?_)
  | with_reducible refine wpAny_truthy_bool ?_
  | with_reducible refine add_int ?_
  | with_reducible refine iadd_int ?_
  | with_reducible refine sub_int ?_
  | with_reducible refine lt_int ?_
  | with_reducible refine le_int ?_
  | with_reducible refine gt_int ?_
  | with_reducible refine eq_int ?_
  | with_reducible refine ne_int ?_
  | with_reducible refine splE ?_
  | ((with_reducible refine splG ?_); refine spliced_more ?_)
  | with_reducible refine Tuple_ ?_
  | with_reducible refine List_ ?_
  | ((with_reducible refine methC (pl := ?_) ?_ ?_); rotate_left; (focus rfl))
  | ((with_reducible refine callC ?_ ?_); (focus rfl))
  | ((with_reducible refine cwB1 ?_ ?_ ?_); (focus rfl); (focus rfl))
  | ((with_reducible refine cwT1 ?_ ?_ ?_); (focus rfl); (focus rfl))
  | ((with_reducible refine cwM1 ?_ ?_ ?_); (focus rfl); (focus rfl))
  | with_reducible refine Subscript_ ?_
  | ((with_reducible refine attrE ?_ ?_); (focus with_unfolding_all rfl))
  | (show wpAny _ _ (execs _ _) _ _ _; first | refine wpAny_execs_cons ?_ | refine wpAny_execs_nil ?_))
section
variable {prog : Program} {w : World} {A : Around} {E : Value → Shared → Prop} {K : Frag} {mg mb : Str → Option Value} {B : Heap} {L : Addr} {T : TM} {m : Str → Option Value} {O : OG} {s : Shared} {t : Tag} {env : Env}
  {gid k : Nat} {C x dx fn : Addr} {f : Str → Option Value} {name : Str} {ox : Obj} {od : Option Obj} {dir ca : Bool} {ns : List Int} {R : Int → Int → Prop}
  {dn da dp : Addr} {nk ak pk : List (Int × Value)} {en ea ep : Nat}

/-- what stands for `adj` in a class: the property, its function -/
structure AdjK (K : Frag) (C : Addr) (dir : Bool) : Prop where
  ex : ∃ cp fA tk cdv, CpK K cp fA "adj" tk ∧ NDK K C "adj" (.ref cp) (.ref 309) ∧ CpF K cdv ∧ ((dir = false ∧ ∃ cd, FnIs K fA (meth 14 7) "Graph.adj" .none cd) ∨ (dir = true ∧ ∃ cd, FnIs K fA (meth 18 1) "DiGraph.adj" .none cd))

theorem St.nodup {d : Addr} {kvs : List (Int × Value)} {e : Nat} (S : St B L T m O s) (h : T d = some (t, DI prog w kvs e)) : (kvs.map (·.1)).Nodup := by
  obtain ⟨o, _, es, _, _, _, _, r⟩ := S.obj h; exact r

theorem adjF0 {fA : Addr} {cd : Value} {Q : Value → Shared → Prop} (W : Wd K mg mb B) (S : St B L T m O s) (hroom : A.depth < 900) (H : ClsK K C) (hf : FnIs K fA (meth 14 7) "Graph.adj" .none cd) (G : GrC prog w T gid C x dir ca ns R dx k f dn da dp nk ak pk en ea ep)
    (h : ∀ s', St B L T m O s' → Q (.ref da) s') : wpAny (model prog w) A (call (.ref fA) [.ref x]) Q E s := by
  refine callF (args := ⟨[.ref x], []⟩) (binds := [(Str.ofString "self", .ref x)]) W S (Nat.lt_trans hroom (by decide)) hf (fun _ _ _ _ _ _ => BindsTo.of_eq rfl) (by decide) (locs rfl) rfl rfl rfl fun B' L' s' hB' W' S' => ?_
  repeat walk_at "M"
  refine fldS W' S' H G.I H.aA G.fA rfl fun tk => ?_
  exact ⟨_, _, S', h _⟩
theorem adjF1 {fA : Addr} {cd : Value} {Q : Value → Shared → Prop} (W : Wd K mg mb B) (S : St B L T m O s) (hroom : A.depth < 900) (H : ClsK K C) (hf : FnIs K fA (meth 18 1) "DiGraph.adj" .none cd) (G : GrC prog w T gid C x true ca ns R dx k f dn da dp nk ak pk en ea ep)
    (h : ∀ s', St B L T m O s' → Q (.ref da) s') : wpAny (model prog w) A (call (.ref fA) [.ref x]) Q E s := by
  refine callF (args := ⟨[.ref x], []⟩) (binds := [(Str.ofString "self", .ref x)]) W S (Nat.lt_trans hroom (by decide)) hf (fun _ _ _ _ _ _ => BindsTo.of_eq rfl) (by decide) (locs rfl) rfl rfl rfl fun B' L' s' hB' W' S' => ?_
  repeat walk_at "M"
  refine fldS W' S' H G.I H.aS (G.fS rfl) rfl fun tk => ?_
  exact ⟨_, _, S', h _⟩

theorem GrC.adjAt (G : GrC prog w T gid C x dir ca ns R dx k f dn da dp nk ak pk en ea ep) {n : Int} (hn : n ∈ ns) (hd : (ak.map (·.1)).Nodup) : ∃ v, valueAt ak n = some v ∧ Nbrs prog w T 2 gid n (R n) v := by
  obtain ⟨v, h1, h2⟩ := val_of_mem hd (k := n) (by rw [G.kA]; exact hn)
  exact ⟨v, h1, G.vA _ h2⟩

theorem Emps.at {T' : TM} {kvs : List (Int × Value)} (h : Emps prog w T kvs) (s : ∀ a c, T a = some c → c.1 = (4, 0, 0) → T' a = some c) : Emps prog w T' kvs := fun q hq => let ⟨e, h1, h2⟩ := h q hq; ⟨e, h1, s _ _ h2 rfl⟩
theorem Nbrs.at {T' : TM} {kind : Nat} {n : Int} {P : Int → Prop} {v : Value} (h : Nbrs prog w T kind gid n P v) (s : ∀ a c, T a = some c → c.1 = (kind, gid, n) ∨ c.1 = (4, 0, 0) → T' a = some c) : Nbrs prog w T' kind gid n P v :=
  let ⟨a, ks, ep, h1, h2, h3, h4⟩ := h; ⟨a, ks, ep, h1, s _ _ h2 (.inl rfl), h3, h4.at fun a c e z => s a c e (.inr z)⟩
theorem GrC.withI {T' : TM} {k' : Nat} {f' : Str → Option Value} {ca' : Bool} (G : GrC prog w T gid C x dir ca ns R dx k f dn da dp nk ak pk en ea ep) (I' : Inst prog w T' gid C x dx k' f') (hT : ∀ a c, T a = some c → c.1 ≠ (1, gid, 1) → T' a = some c) (hk : k' ≤ 20 ∧ (ca' = false → k' ≤ 10))
    (hf : ∀ n : Str, n ≠ "adj" → f' n = f n) (hc : f' "adj" = if ca' then some (.ref da) else none) : GrC prog w T' gid C x dir ca' ns R dx k' f' dn da dp nk ak pk en ea ep where
  I := I'
  hk := hk
  fN := (hf _ (by decide)).trans G.fN
  fA := (hf _ (by decide)).trans G.fA
  fC := hc
  fO := fun n hn => (hf n fun e => hn (by rw [e]; decide)).trans (G.fO n hn)
  tN := hT _ _ G.tN (by intro e; cases e)
  kN := G.kN
  vN := G.vN.at fun a c e z => hT a c e (by rw [z]; intro e; cases e)
  tA := hT _ _ G.tA (by intro e; cases e)
  kA := G.kA
  vA := fun q hq => (G.vA q hq).at fun a c e z => hT a c e (by rcases z with z | z <;> (rw [z]; intro e; cases e))
  fS := fun e => (hf _ (by decide)).trans (G.fS e)
  fP := fun e => (hf _ (by decide)).trans (G.fP e)
  tP := fun e => hT _ _ (G.tP e) (by intro e; cases e)
  kP := G.kP
  vP := fun e q hq => let ⟨P, h1, h2⟩ := G.vP e q hq; ⟨P, h1, h2.at fun a c e z => hT a c e (by rcases z with z | z <;> (rw [z]; intro e; cases e))⟩
  cl := G.cl
  len := G.len
  nd := G.nd
/-- G[n], where `adj` stands already -/
theorem getItemS {n : Int} {u : Tok} {Q : Value → Shared → Prop} (W : Wd K mg mb B) (S : St B L T m O s) (hroom : A.depth < 900) (H : ClsK K C) (HA : AdjK K C dir) (G : Gr prog w T gid C x dir true ns R) (hn : n ∈ ns)
    (h : ∀ v s', Nbrs prog w T 2 gid n (R n) v → St B L T m O s' → Q v s') : wpAny (model prog w) A (call (.ref 419) [.ref x, .int n u]) Q E s := by
  obtain ⟨dx, k, f, dn, da, dp, nk, ak, pk, en, ea, ep, G⟩ := G
  obtain ⟨cdv, hf⟩ := H.mGi.fd
  obtain ⟨cp, fA, tk, cdv', P, N, F, _⟩ := HA.ex
  refine callF (args := ⟨[.ref x, .int n u], []⟩) (binds := [(Str.ofString "self", .ref x), (Str.ofString "n", .int n u)]) W S (Nat.lt_trans hroom (by decide)) hf (fun _ _ _ _ _ _ => BindsTo.of_eq rfl) (by decide) (locs rfl) rfl rfl rfl fun B' L' s' hB' W' S' => ?_
  repeat walk_at "M"
  refine getOwnND W' S' G.I N (v := .ref da) (by rw [G.fC]; rfl) rfl fun tk => ?_
  repeat walk_at "M"
  obtain ⟨v, hv, hN⟩ := G.adjAt hn (S'.nodup G.tA)
  refine subDictS S' G.tA hv fun tk' => ?_
  exact ⟨_, _, S', h v _ hN⟩
/-- G[n], the first time -/
theorem getItemN {n : Int} {u : Tok} {Q : Value → Shared → Prop} (W : Wd K mg mb B) (S : St B L T m O s) (hroom : A.depth < 800) (hh : A.handled = none) (H : ClsK K C) (HA : AdjK K C dir) (G : Gr prog w T gid C x dir false ns R) (hn : n ∈ ns)
    (h : ∀ v T' s', Keep gid T T' → Gr prog w T' gid C x dir true ns R → Nbrs prog w T' 2 gid n (R n) v → St B L T' m O s' → Q v s') : wpN (model prog w) A (call (.ref 419) [.ref x, .int n u]) Q E s := by
  obtain ⟨dx, k, f, dn, da, dp, nk, ak, pk, en, ea, ep, G⟩ := G
  obtain ⟨cdv, hf⟩ := H.mGi.fd
  obtain ⟨cp, fA, tk, cdv', P, N, F, hA⟩ := HA.ex
  refine callFN (args := ⟨[.ref x, .int n u], []⟩) (binds := [(Str.ofString "self", .ref x), (Str.ofString "n", .int n u)]) W S (Nat.lt_trans hroom (by decide)) hf (fun _ _ _ _ _ _ => BindsTo.of_eq rfl) (by decide) (locs rfl) rfl rfl rfl fun B' L' s' hB' W' S' => ?_
  refine n_execs_cons (n_Return (n_Sub (n_Attr (by with_unfolding_all rfl) (toN (ldS S' rfl ?_)))))
  refine getBindND W' S' G.I N (by rw [G.fC]; rfl) fun s₁ S₁ => ?_
  refine cpGetN (da := da) W' S₁ G.I (by show A.depth + 1 < 900; omega) hh (by have := G.hk.1; omega) F P H.dct (by rw [G.fC]; rfl) (fun {A' B'' L'' m'' s''} {Q''} hd W'' S'' hq => ?_) fun s₂ S₂ => ⟨rfl, ?_⟩
  · have hr : A'.depth < 900 := by have : A'.depth ≤ A.depth + 1 + 5 := hd; omega
    rcases hA with ⟨rfl, cd, hA⟩ | ⟨rfl, cd, hA⟩
    · exact adjF0 W'' S'' hr H hA G hq
    · exact adjF1 W'' S'' hr H hA G hq
  · have G' : GrC prog w (upd T dx ((1, gid, 1), DS prog w (fs f "adj" (.ref da)) (k + 1))) gid C x dir true ns R dx (k + 1) (fs f "adj" (.ref da)) dn da dp nk ak pk en ea ep :=
      G.withI (G.I.put (k' := k + 1) (f' := fs f "adj" (.ref da))) (fun a c e n => by rw [upd_ne fun q => n (by rw [q, G.I.d] at e; cases e; rfl)]; exact e) ⟨by have := G.hk.2 rfl; omega, fun e => (nomatch e)⟩ (fun n hn => fs_ne (beq_eq_false_iff_ne.mpr hn) rfl) fs_eq
    refine toN (ldS S₂ rfl (toN ?_))
    obtain ⟨v, hv, hN⟩ := G'.adjAt hn (S₂.nodup G'.tA)
    refine subDictS S₂ G'.tA hv fun tk' => ?_
    refine ⟨_, _, S₂, fun z => h v _ _ (fun a c e n => ?_) ⟨_, _, _, _, _, _, _, _, _, _, _, _, G'⟩ hN z⟩
    rw [upd_ne fun q => n (by rw [q, G.I.d] at e; cases e; rfl)]; exact e
end
end Mine
end
section
open PySem PySem.W PySem.Calls PyProof.Rows
set_option Elab.async false
set_option maxRecDepth 100000
namespace Mine
-- "L": what a name holds
local macro_rules | `(tactic| walk_at "L") => `(tactic| first
  | assumption
  | exact fs_eq
  | (refine fs_ne (by decide) ?_; walk_at "L")
  | rfl)
-- "M": the next step of the walk, where it is the same everywhere
local macro_rules | `(tactic| walk_at "M") => `(tactic| first
  | ((with_reducible refine loadG ?_); refine ldnS (by assumption) (by walk_at "L") ?_)
  | ((with_reducible refine stG ?_); refine stS (by assumption) ?_; intro _ _)
  | ((with_reducible refine nameG ?_); refine ldS (by assumption) (by walk_at "L") ?_)
  | with_reducible refine wpAny_execs_cons ?_
  | with_reducible refine wpAny_execs_nil ?_
  | with_reducible refine wpAny_BinOp ?_
  | with_reducible refine wpAny_Constant_int ?_
  | with_reducible refine wpAny_Constant_str ?_
  | with_reducible refine Constant_none ?_
  | with_reducible refine Constant_bool ?_
  | with_reducible refine wpAny_Compare1 ?_
  | with_reducible refine wpAny_isTrue_Compare1 ?_
  | with_reducible refine isTrue_not ?_
  | with_reducible refine isTrue_and_nil ?_
  | with_reducible refine isTrue_or_nil ?_
  | with_reducible refine isTrue_and ?_
  | with_reducible refine isTrue_or ?_
  | with_reducible refine IfExp_ ?_
  | with_reducible refine wpAny_If ?_
  | ((with_reducible refine asgN ?_ ?_); (focus rfl))
  | ((with_reducible refine asgS ?_ ?_); (focus rfl))
  | ((with_reducible refine asgA ?_ ?_); (focus rfl))
  | ((with_reducible refine exprE ?_ ?_ ?_); (focus rfl); (focus rfl))
  | with_reducible refine wpAny_AugAssign_Name ?_
  | with_reducible refine wpAny_Return_some ?_
  | with_reducible refine wpAny_Break ?_
  | with_reducible refine wpAny_Continue ?_
  | ((with_reducible refine isG ?_); refine wpAny_is_other (by rfl) (by intro e; cases e) ?_)
  | ((with_reducible refine trG ?_); refine isTrue_plain ?_)
  | with_reducible refine wpAny_truthy_bool ?_
  | with_reducible refine add_int ?_
  | with_reducible refine iadd_int ?_
  | with_reducible refine sub_int ?_
  | with_reducible refine lt_int ?_
  | with_reducible refine le_int ?_
  | with_reducible refine gt_int ?_
  | with_reducible refine eq_int ?_
  | with_reducible refine ne_int ?_
  | with_reducible refine splE ?_
  | ((with_reducible refine splG ?_); refine spliced_more ?_)
  | with_reducible refine Tuple_ ?_
  | with_reducible refine List_ ?_
  | ((with_reducible refine methC (pl := ?_) ?_ ?_); rotate_left; (focus rfl))
  | ((with_reducible refine callC ?_ ?_); (focus rfl))
  | ((with_reducible refine cwB1 ?_ ?_ ?_); (focus rfl); (focus rfl))
  | ((with_reducible refine cwT1 ?_ ?_ ?_); (focus rfl); (focus rfl))
  | ((with_reducible refine cwM1 ?_ ?_ ?_); (focus rfl); (focus rfl))
  | with_reducible refine Subscript_ ?_
  | ((with_reducible refine attrE ?_ ?_); (focus with_unfolding_all rfl))
  | (show wpAny _ _ (execs _ _) _ _ _; first | refine wpAny_execs_cons ?_ | refine wpAny_execs_nil ?_))
theorem entry_iterB : entryFor table "iter" = some Builtin.«iter» := entryFor_of_fast (by kernel_rfl)
theorem kind_iterB : builtinKind "iter" = none := by decide +kernel
theorem plain_iterB : plainId "iter" = true := by decide +kernel
theorem args_iterB (a : Value) : argsOk "iter" ⟨[a], []⟩ := by unfold argsOk; kernel_rfl
section
variable {prog : Program} {w : World} {A : Around} {E : Value → Shared → Prop} {K : Frag} {mg mb : Str → Option Value} {B : Heap} {L : Addr} {T : TM} {m : Str → Option Value} {O : OG} {s : Shared} {t : Tag} {env : Env}
  {gid k : Nat} {C x dx fn : Addr} {f : Str → Option Value} {name : Str} {ox : Obj} {od : Option Obj} {dir ca : Bool} {ns : List Int} {R : Int → Int → Prop}
  {dn da dp : Addr} {nk ak pk : List (Int × Value)} {en ea ep : Nat}

/-- callF; the caller's frame is known to lie in the callee's base -/
theorem callFL {f : Addr} {st : Stmt} {qual : Str} {dV cdv : Value} {args : Args} {binds : List (Str × Value)} {Q : Value → Shared → Prop}
    (W : Wd K mg mb B) (S : St B L T m O s) (hroom : A.depth < recursionLimit) (hf : FnIs K f st qual dV cdv)
    (hbind : ∀ name kV doc pm an ct, BindsTo s (fnOf name qual (argsOf st) (bodyOf st) (scopeOf st) dV kV doc pm an cdv ct) args binds)
    (hcell : ∀ x ∈ (scopeOf st).names, x.2 ≠ .cell) (hloc : ∀ x ∈ binds, (scopeOf st).names.lookup x.1 = some .local)
    (hco : (scopeOf st).isCoroutine = false) (hgen : (scopeOf st).isGenerator = false) (hk : (scopeOf st).kind = .function)
    (h : ∀ B' L' s', (∀ b o, B.get? b = some o → B'.get? b = some o) → (∃ o, B'.get? L = some o) → Wd K mg mb B' → St B' L' T (fun x => binds.reverse.lookup x) O s' →
      wpAny (model prog w) (A.deeper (envF qual st L' f cdv [])) (execs (bodyOf st) (envF qual st L' f cdv [])) (Ends B' L' B L m O Q) NoR s') :
    wpAny (model prog w) A (call (.ref f) args.pos args.kw) Q E s := by
  refine wpAny_call ?_
  obtain ⟨name, kV, doc, pm, an, ct, oc, od, sl, ho⟩ := hf.ex
  refine codeAny_call_def (fd := fnOf name qual (argsOf st) (bodyOf st) (scopeOf st) dV kV doc pm an cdv ct) (body := bodyOf st) (binds := binds) hroom (S.keep _ _ (W.X _ _ ho)) rfl (W.lim.keeps S.keep) (codeRec_of (W.X.keeps S.keep) hf.cd) rfl (hbind _ _ _ _ _ _)
    hcell hloc (fun h₁ hns hk₁ => ?_) hco hgen hk
  have S₁ := S.call (tk := s.toks + binds.length) hns hk₁
  have hL : ∃ o, (mask s.heap T s.heap.objs.size).get? L = some o := by
    obtain ⟨oL, es, e, hL, r⟩ := S.ns
    exact ⟨oL, by rw [mask_get S.Lnone (Nat.ne_of_lt S.ltL)]; exact hL⟩
  refine wpAny_mono (h _ _ _ (fun b o e => S.underC e) hL (W.keeps fun b o e => S.underC e) S₁) (fun fl s'' hE => ?_) fun _ _ x => x.elim
  obtain ⟨T', m', S', q⟩ := hE
  have z := q (S.ret S')
  cases fl <;> exact z

theorem iterF {Q : Value → Shared → Prop} (W : Wd K mg mb B) (S : St B L T m O s) (hroom : A.depth < 900) (H : ClsK K C) (hit : nsIn K mainGlobals "iter" = some none) (G : GrC prog w T gid C x dir ca ns R dx k f dn da dp nk ak pk en ea ep)
    (h : ∀ I s', St B L T m O s' → Free B L T [I] → s'.heap.IsKeyIter I dn 0 nk.length en → Q (.ref I) s') : wpAny (model prog w) A (call (.ref 398) [.ref x]) Q E s := by
  obtain ⟨cdv, hf⟩ := H.mIt.fd
  refine callFL (args := ⟨[.ref x], []⟩) (binds := [(Str.ofString "self", .ref x)]) W S (Nat.lt_trans hroom (by decide)) hf (fun _ _ _ _ _ _ => BindsTo.of_eq rfl) (by decide) (locs rfl) rfl rfl rfl fun B' L' s' hB' hL W' S' => ?_
  repeat walk_at "M"
  refine ldBuilS (v := .builtin "iter") W' S' hit rfl (by decide) ?_
  repeat walk_at "M"
  refine fldS W' S' H G.I H.aN G.fN rfl fun tk => ?_
  repeat walk_at "M"
  refine Calls.call_function_entry kind_iterB plain_iterB entry_iterB (args_iterB _) ?_
  unfold Builtin.«iter»
  refine wpAny_bind (m := someArgs "iter" 1 2 _) (wpAny_pure ?_)
  refine wpAny_bind (pyIterDict S' G.tN fun I s₁ S₁ hF hI => wpAny_pure ⟨_, rfl, ?_⟩)
  obtain ⟨oL, hL⟩ := hL
  refine ⟨_, _, S₁, fun z => h I s₁ z (fun b hb => ?_) hI⟩
  obtain ⟨f1, f2, f3⟩ := hF b hb
  refine ⟨f1, (fun q => by rw [q, hL] at f3; cases f3), ?_⟩
  cases e : B.get? b with
  | none => rfl
  | some o => rw [hB' _ _ e] at f3; cases f3
theorem pyIterGr {Q : Value → Shared → Prop} (W : Wd K mg mb B) (S : St B L T m O s) (hroom : A.depth < 900) (H : ClsK K C) (hit : nsIn K mainGlobals "iter" = some none) (G : GrC prog w T gid C x dir ca ns R dx k f dn da dp nk ak pk en ea ep)
    (h : ∀ I s', St B L T m O s' → Free B L T [I] → s'.heap.IsKeyIter I dn 0 nk.length en → Q (.ref I) s') : wpAny (model prog w) A (pyIter (.ref x)) Q E s := by
  obtain ⟨od, IA, hp⟩ := G.I.at S
  refine pyIterI (W.X.keeps S.keep) IA H.mIt.hf H.mIt.ht (iterF W S hroom H hit G fun I s' S' hF hI => ⟨"dict_keyiterator", _, hI.typeIs, PySem.F.slot_dict_keyiterator_next.lookup, h I s' S' hF hI⟩)

theorem lenDictS {d : Addr} {kvs : List (Int × Value)} {ep : Nat} {Q : Value → Shared → Prop} (S : St B L T m O s) (hd : T d = some (t, DI prog w kvs ep)) (hfit : kvs.length < 2 ^ 62) (h : ∀ u tk, Q (.int (kvs.length : Int) u) { s with toks := tk }) :
    wpAny (model prog w) A (call (.builtin "len") [.ref d]) Q E s := by
  have hm := S.dict hd
  refine Calls.call_function_entry kind_len plain_len entry_len (args_len1 _) ?_
  unfold Builtin.«len»
  refine wpAny_bind (m := oneArg "len" _) (wpAny_pure ?_)
  refine wpAny_bind (m := callSpecial? (.ref d) (Str.ofString "__len__")) (wpAny_callSpecial?_slot (name := Str.ofString "__len__") hm.typeIs PySem.F.slot_dict_len
    (call_meetsIn PySem.F.slot_dict_len hm.typeIs PySem.F.entry_dict_len (PySem.F.args_dict_len_1 _) (meets_dict_len (PySem.intKind prog w) d (S.notMods hd)) ⟨kvs, hm, ?_⟩))
  refine wpAny_bind (wpAny_holding (wpAny_pure ?_))
  refine wpAny_bind (wpAny_letGo ?_)
  rw [if_neg (by omega)]
  show wpAny _ _ (if ((kvs.length : Nat) : Int) ≥ 2 ^ 63 then _ else _) _ _ _
  rw [if_neg (by omega)]
  exact wpAny_bind (wpAny_mkInt (wpAny_pure ⟨_, rfl, h _ _⟩))
theorem lenF {Q : Value → Shared → Prop} (W : Wd K mg mb B) (S : St B L T m O s) (hroom : A.depth < 900) (H : ClsK K C) (hln : nsIn K mainGlobals "len" = some none) (G : GrC prog w T gid C x dir ca ns R dx k f dn da dp nk ak pk en ea ep)
    (h : ∀ u s', St B L T m O s' → Q (.int (nk.length : Int) u) s') : wpAny (model prog w) A (call (.ref 412) [.ref x]) Q E s := by
  obtain ⟨cdv, hf⟩ := H.mLn.fd
  refine callF (args := ⟨[.ref x], []⟩) (binds := [(Str.ofString "self", .ref x)]) W S (Nat.lt_trans hroom (by decide)) hf (fun _ _ _ _ _ _ => BindsTo.of_eq rfl) (by decide) (locs rfl) rfl rfl rfl fun B' L' s' hB' W' S' => ?_
  repeat walk_at "M"
  refine ldBuilS (v := .builtin "len") W' S' hln rfl (by decide) ?_
  repeat walk_at "M"
  refine fldS W' S' H G.I H.aN G.fN rfl fun tk => ?_
  repeat walk_at "M"
  have hl : nk.length ≤ 6 := by have := G.len; rw [← G.kN, List.length_map] at this; exact this
  refine lenDictS S' G.tN (by omega) fun u tk' => ?_
  exact ⟨_, _, S', h u _⟩

/-- sorted(graph) -/
theorem sortedGr {Q : Value → Shared → Prop} (t : Tag) (W : Wd K mg mb B) (S : St B L T m O s) (hroom : A.depth < 800) (hh : A.handled = none) (H : ClsK K C) (hit : nsIn K mainGlobals "iter" = some none) (hln : nsIn K mainGlobals "len" = some none) (G : Gr prog w T gid C x dir ca ns R)
    (h : ∀ l ws ns' s', IntsAre ws ns' → ns'.Perm ns → ns'.Pairwise (· ≤ ·) → T l = none → St B L (upd T l (t, LsP ws)) m O s' → Q (.ref l) s') : wpAny (model prog w) A (call (.builtin "sorted") [.ref x]) Q E s := by
  obtain ⟨dx, k, f, dn, da, dp, nk, ak, pk, en, ea, ep, G⟩ := G
  have hl : nk.length ≤ 6 := by have := G.len; rw [← G.kN, List.length_map] at this; exact this
  refine sortedS t (by rw [← G.kN, List.length_map]; omega) (fun {Q' E'} hq => ?_) h
  refine collectS (V := fun ys => IntsAre ys ns) S (S.lt G.I.i) (fun B' T' s' hB hs S' => ?_) (fun B' T' s' hB hs S' => ?_) (fun B' T' s' hB hs S' => ?_) hq
  · have G' : GrC prog w T' gid C x dir ca ns R dx k f dn da dp nk ak pk en ea ep := G.mono fun a c e _ => hs a c e
    obtain ⟨od, IA, hp⟩ := G'.I.at S'
    exact ⟨_, IA.type, rfl, rfl⟩
  · have G' : GrC prog w T' gid C x dir ca ns R dx k f dn da dp nk ak pk en ea ep := G.mono fun a c e _ => hs a c e
    refine pyIterGr (W.keeps hB) S' (by show A.depth < 900; omega) H hit G' fun I s₁ S₁ hF hI => ?_
    have := collGoalDict (T := T) (A := A.in1.in1) (prog := prog) (w := w) hh (by rw [sizeLine_eq]; omega) G.tN S₁ hF hI
    rwa [G.kN] at this
  · have G' : GrC prog w T' gid C x dir ca ns R dx k f dn da dp nk ak pk en ea ep := G.mono fun a c e _ => hs a c e
    obtain ⟨od, IA, hp⟩ := G'.I.at S'
    exact hintInst (n := nk.length) ((W.keeps hB).X.keeps S'.keep) IA H.mLn.hf H.mLn.ht (by omega) (lenF (W.keeps hB) S' (by show A.depth < 900; omega) H hln G' fun u s₁ S₁ => ⟨u, rfl, fun _ _ => S₁⟩)
end
end Mine
end
section
open PySem PySem.W PySem.Calls PyProof.Rows
set_option Elab.async false
set_option maxRecDepth 100000
namespace Mine
-- "L": what a name holds
local macro_rules | `(tactic| walk_at "L") => `(tactic| first
  | assumption
  | exact fs_eq
  | (refine fs_ne (by decide) ?_; walk_at "L")
  | rfl)
-- "M": the next step of the walk, where it is the same everywhere
local macro_rules | `(tactic| walk_at "M") => `(tactic| first
  | ((with_reducible refine loadG ?_); refine ldnS (by assumption) (by walk_at "L") ?_)
  | ((with_reducible refine stG ?_); refine stS (by assumption) ?_; intro _ _)
  | ((with_reducible refine nameG ?_); refine ldS (by assumption) (by walk_at "L") ?_)
  | with_reducible refine wpAny_execs_cons ?_
  | with_reducible refine wpAny_execs_nil ?_
  | with_reducible refine wpAny_BinOp ?_
  | with_reducible refine wpAny_Constant_int ?_
  | with_reducible refine wpAny_Constant_str ?_
  | with_reducible refine Constant_none ?_
  | with_reducible refine Constant_bool ?_
  | with_reducible refine wpAny_Compare1 ?_
  | with_reducible refine wpAny_isTrue_Compare1 ?_
  | with_reducible refine isTrue_not ?_
  | with_reducible refine isTrue_and_nil ?_
  | with_reducible refine isTrue_or_nil ?_
  | with_reducible refine isTrue_and ?_
  | with_reducible refine isTrue_or ?_
  | with_reducible refine IfExp_ ?_
  | with_reducible refine wpAny_If ?_
  | ((with_reducible refine asgN ?_ ?_); (focus rfl))
  | ((with_reducible refine asgS ?_ ?_); (focus rfl))
  | ((with_reducible refine asgA ?_ ?_); (focus rfl))
  | ((with_reducible refine exprE ?_ ?_ ?_); (focus rfl); (focus rfl))
  | with_reducible refine wpAny_AugAssign_Name ?_
  | with_reducible refine wpAny_Return_some ?_
  | with_reducible refine wpAny_Break ?_
  | with_reducible refine wpAny_Continue ?_
  | ((with_reducible refine isG ?_); refine wpAny_is_other (by rfl) (by intro e; cases e) ?_)
  | ((with_reducible refine trG ?_); refine isTrue_plain ?_)
  | with_reducible refine wpAny_truthy_bool ?_
  | with_reducible refine add_int ?_
  | with_reducible refine iadd_int ?_
  | with_reducible refine sub_int ?_
  | with_reducible refine lt_int ?_
  | with_reducible refine le_int ?_
  | with_reducible refine gt_int ?_
  | with_reducible refine eq_int ?_
  | with_reducible refine ne_int ?_
  | with_reducible refine splE ?_
  | ((with_reducible refine splG ?_); refine spliced_more ?_)
  | with_reducible refine Tuple_ ?_
  | with_reducible refine List_ ?_
  | ((with_reducible refine methC (pl := ?_) ?_ ?_); rotate_left; (focus rfl))
  | ((with_reducible refine callC ?_ ?_); (focus rfl))
  | ((with_reducible refine cwB1 ?_ ?_ ?_); (focus rfl); (focus rfl))
  | ((with_reducible refine cwT1 ?_ ?_ ?_); (focus rfl); (focus rfl))
  | ((with_reducible refine cwM1 ?_ ?_ ?_); (focus rfl); (focus rfl))
  | with_reducible refine Subscript_ ?_
  | ((with_reducible refine attrE ?_ ?_); (focus with_unfolding_all rfl))
  | (show wpAny _ _ (execs _ _) _ _ _; first | refine wpAny_execs_cons ?_ | refine wpAny_execs_nil ?_))
section
variable {prog : Program} {w : World} {A : Around} {E : Value → Shared → Prop} {K : Frag} {mg mb : Str → Option Value} {B : Heap} {L : Addr} {T : TM} {m : Str → Option Value} {O : OG} {s : Shared} {t : Tag} {env : Env}
  {gid k : Nat} {C x dx fn : Addr} {f : Str → Option Value} {name : Str} {ox : Obj} {od : Option Obj} {dir ca : Bool} {ns : List Int} {R : Int → Int → Prop}
  {dn da dp : Addr} {nk ak pk : List (Int × Value)} {en ea ep : Nat}

/-- has_edge, from a node that is there -/
theorem hasEdgeS {n v : Int} {u u' : Tok} {Q : Value → Shared → Prop} (W : Wd K mg mb B) (S : St B L T m O s) (hroom : A.depth < 900) (H : ClsK K C) (G : Gr prog w T gid C x dir ca ns R) (hn : n ∈ ns)
    (h : ∀ (r : Bool) s', (r = true ↔ R n v) → St B L T m O s' → Q (.bool r) s') : wpAny (model prog w) A (call (.ref 513) [.ref x, .int n u, .int v u']) Q E s := by
  obtain ⟨dx, k, f, dn, da, dp, nk, ak, pk, en, ea, ep, G⟩ := G
  obtain ⟨cdv, hf⟩ := H.mHe.fd
  refine callF (args := ⟨[.ref x, .int n u, .int v u'], []⟩) (binds := [(Str.ofString "self", .ref x), (Str.ofString "u", .int n u), (Str.ofString "v", .int v u')]) W S (Nat.lt_trans hroom (by decide)) hf (fun _ _ _ _ _ _ => BindsTo.of_eq rfl) (by decide) (locs rfl) rfl rfl rfl fun B' L' s' hB' W' S' => ?_
  refine wpAny_execs_cons ?_
  refine tryS ?_
  repeat walk_at "M"
  refine fldS W' S' H G.I H.aA G.fA rfl fun tk => ?_
  repeat walk_at "M"
  obtain ⟨va, hv, hN⟩ := G.adjAt hn (S'.nodup G.tA)
  refine subDictS S' G.tA hv fun tk' => ?_
  obtain ⟨a, ks, ep', rfl, ha, hks, _⟩ := hN
  refine inDictS S' ha fun tk'' => ?_
  refine ⟨_, _, S', h _ _ ?_⟩
  rw [← hks, val_isSome (S'.nodup ha)]
  exact decide_eq_true_iff
/-- Graph.is_directed -/
theorem isDirS {fd : Addr} {Q : Value → Shared → Prop} (W : Wd K mg mb B) (S : St B L T m O s) (hroom : A.depth < 900) (MD : Meth K C "is_directed" fd (meth 14 34) "Graph.is_directed" .none)
    (h : ∀ s', St B L T m O s' → Q (.bool false) s') : wpAny (model prog w) A (call (.ref fd) [.ref x]) Q E s := by
  obtain ⟨cdv, hf⟩ := MD.fd
  refine callF (args := ⟨[.ref x], []⟩) (binds := [(Str.ofString "self", .ref x)]) W S (Nat.lt_trans hroom (by decide)) hf (fun _ _ _ _ _ _ => BindsTo.of_eq rfl) (by decide) (locs rfl) rfl rfl rfl fun B' L' s' hB' W' S' => ?_
  repeat walk_at "M"
  exact ⟨_, _, S', h _⟩
end
end Mine
end
section
open PySem PySem.W PySem.Calls PyProof.Rows
set_option Elab.async false
set_option maxRecDepth 100000
namespace Mine
-- "L": what a name holds
local macro_rules | `(tactic| walk_at "L") => `(tactic| first
  | assumption
  | exact fs_eq
  | (refine fs_ne (by decide) ?_; walk_at "L")
  | rfl)
-- "M": the next step of the walk, where it is the same everywhere
local macro_rules | `(tactic| walk_at "M") => `(tactic| first
  | ((with_reducible refine loadG ?_); refine ldnS (by assumption) (by walk_at "L") ?_)
  | ((with_reducible refine stG ?_); refine stS (by assumption) ?_; intro _ _)
  | ((with_reducible refine nameG ?_); refine ldS (by assumption) (by walk_at "L") ?_)
  | with_reducible refine wpAny_execs_cons ?_
  | with_reducible refine wpAny_execs_nil ?_
  | with_reducible refine wpAny_BinOp ?_
  | with_reducible refine wpAny_Constant_int ?_
  | with_reducible refine wpAny_Constant_str ?_
  | with_reducible refine Constant_none ?_
  | with_reducible refine Constant_bool ?_
  | with_reducible refine wpAny_Compare1 ?_
  | with_reducible refine wpAny_isTrue_Compare1 ?_
  | with_reducible refine isTrue_not ?_
  | with_reducible refine isTrue_and_nil ?_
  | with_reducible refine isTrue_or_nil ?_
  | with_reducible refine isTrue_and ?_
  | with_reducible refine isTrue_or ?_
  | with_reducible refine IfExp_ ?_
  | with_reducible refine wpAny_If ?_
  | ((with_reducible refine asgN ?_ ?_); (focus rfl))
  | ((with_reducible refine asgS ?_ ?_); (focus rfl))
  | ((with_reducible refine asgA ?_ ?_); (focus rfl))
  | ((with_reducible refine exprE ?_ ?_ ?_); (focus rfl); (focus rfl))
  | with_reducible refine wpAny_AugAssign_Name ?_
  | with_reducible refine wpAny_Return_some ?_
  | with_reducible refine wpAny_Break ?_
  | with_reducible refine wpAny_Continue ?_
  | ((with_reducible refine isG ?_); refine wpAny_is_other (by rfl) (by intro e; cases e) ?_)
  | ((with_reducible refine trG ?_); refine isTrue_plain ?_)
  | with_reducible refine wpAny_truthy_bool ?_
  | with_reducible refine add_int ?_
  | with_reducible refine iadd_int ?_
  | with_reducible refine sub_int ?_
  | with_reducible refine lt_int ?_
  | with_reducible refine le_int ?_
  | with_reducible refine gt_int ?_
  | with_reducible refine eq_int ?_
  | with_reducible refine ne_int ?_
  | with_reducible refine splE ?_
  | ((with_reducible refine splG ?_); refine spliced_more ?_)
  | with_reducible refine Tuple_ ?_
  | with_reducible refine List_ ?_
  | ((with_reducible refine methC (pl := ?_) ?_ ?_); rotate_left; (focus rfl))
  | ((with_reducible refine callC ?_ ?_); (focus rfl))
  | ((with_reducible refine cwB1 ?_ ?_ ?_); (focus rfl); (focus rfl))
  | ((with_reducible refine cwT1 ?_ ?_ ?_); (focus rfl); (focus rfl))
  | ((with_reducible refine cwM1 ?_ ?_ ?_); (focus rfl); (focus rfl))
  | with_reducible refine Subscript_ ?_
  | ((with_reducible refine attrE ?_ ?_); (focus with_unfolding_all rfl))
  | (show wpAny _ _ (execs _ _) _ _ _; first | refine wpAny_execs_cons ?_ | refine wpAny_execs_nil ?_))
section
variable {prog : Program} {w : World} {A : Around} {E : Value → Shared → Prop} {K : Frag} {mg mb : Str → Option Value} {B : Heap} {L : Addr} {T : TM} {m : Str → Option Value} {O : OG} {s : Shared} {t : Tag} {env : Env}
  {gid k : Nat} {C x dx fn : Addr} {f : Str → Option Value} {name : Str} {ox : Obj} {od : Option Obj} {dir ca : Bool} {ns : List Int} {R : Int → Int → Prop}
  {dn da dp : Addr} {nk ak pk : List (Int × Value)} {en ea ep : Nat}

theorem notInDictS {d : Addr} {kvs : List (Int × Value)} {ep : Nat} {k : Int} {u : Tok} {Q : Value → Shared → Prop} (S : St B L T m O s) (hd : T d = some (t, DI prog w kvs ep)) (h : ∀ tk, Q (.bool (!(valueAt kvs k).isSome)) { s with toks := tk }) :
    wpAny (model prog w) A (compareOp .NotIn (.int k u) (.ref d)) Q E s := wpAny_notIn_of (intKind_is prog w k u) (S.notMods hd) (S.dict hd).mapOf (h _)

/-- what a loop may walk over: these ints -/
def ISrc (prog : Program) (w : World) (K : Frag) (mg mb : Str → Option Value) (T : TM) (gid : Nat) (O : OG) (dmax : Nat) (v : Value) (xs : List Int) : Prop :=
  ∀ A B' L' T' m' s', A.handled = none → A.depth < dmax → Wd K mg mb B' → Keep gid T T' → St B' L' T' m' O s' → wpAny (model prog w) A (pyIter v) (fun it s'' => ∃ I X P IT Need, it = .ref I ∧ Itr prog w A I X xs.length P IT Need (fun _ => O) ∧
    St B' L' T' m' O s'' ∧ Free B' L' T' X ∧ IT 0 s''.heap ∧ (∀ i v, P i v → ∃ k u, xs[i]? = some k ∧ v = .int k u) ∧ (∀ T'', Keep gid T T'' → Need T'')) NoR s'
theorem ISrc.list {l : Addr} {tl : Tag} {P : Obj → Prop} {vs : List Value} {xs : List Int} {dmax : Nat} (hl : T l = some (tl, P)) (hP : ∀ o, P o → LiP vs o) (hi : IntsAre vs xs) (ht : tl.2.1 ≠ gid) : ISrc prog w K mg mb T gid O dmax (.ref l) xs := by
  intro A B' L' T' m' s' hh _ _ hk S
  refine pyIterList S (hk _ _ hl ht) hP fun I s₁ S₁ hF hI => ?_
  have W := itrList (prog := prog) (w := w) hh I l vs O
  rw [hi.length] at W
  exact ⟨I, [I], _, _, _, rfl, W, S₁, hF, hI, fun i v hv => let ⟨k, u, h1, h2⟩ := hi.at i v hv; ⟨k, u, h2, h1⟩, fun T'' hk'' => ⟨_, _, hk'' _ _ hl ht, hP⟩⟩
theorem ISrc.gr {g : Nat} (H : ClsK K C) (hit : nsIn K mainGlobals "iter" = some none) (G : Gr prog w T gid C x dir ca ns R) (hg : gid ≠ g) (hg0 : g ≠ 0) : ISrc prog w K mg mb T g O 900 (.ref x) ns := by
  intro A B' L' T' m' s' hh hd W hk S
  obtain ⟨dx, k, f, dn, da, dp, nk, ak, pk, en, ea, ep, G⟩ := G
  have G' : GrC prog w T' gid C x dir ca ns R dx k f dn da dp nk ak pk en ea ep := G.mono fun a c e z => hk a c e (by rcases z with z | z <;> omega)
  refine pyIterGr W S hd H hit G' fun I s₁ S₁ hF hI => ?_
  have Wt := itrDict (prog := prog) (w := w) hh I dn nk en O
  have hl : nk.length = ns.length := by rw [← G.kN, List.length_map]
  rw [hl] at Wt hI
  refine ⟨I, [I], _, _, _, rfl, Wt, S₁, hF, hI, fun i v ⟨k, u, h1, h2⟩ => ⟨k, u, by rw [← G.kN]; exact h1, h2⟩, fun T'' hk'' => ⟨_, hk'' _ _ G.tN hg⟩⟩

theorem GrC.addNode {T' : TM} {n : Int} {a e p' : Addr} {ea' en' ep' e0 e1 : Nat} (G : GrC prog w T gid C x dir ca ns R dx k f dn da dp nk ak pk en ea ep) (hn : n ∉ ns) (hl : ns.length ≤ 5)
    (hT : ∀ b c, T b = some c → c.1 ≠ (1, gid, 3) → c.1 ≠ (1, gid, 4) → c.1 ≠ (1, gid, 5) → T' b = some c)
    (h1 : T' da = some ((1, gid, 4), DI prog w (ak ++ [(n, .ref a)]) ea')) (h2 : T' a = some ((2, gid, n), DI prog w [] e0)) (h3 : T' dn = some ((1, gid, 3), DI prog w (nk ++ [(n, .ref e)]) en')) (h4 : T' e = some ((4, 0, 0), EmpP prog w))
    (h5 : dir = true → T' dp = some ((1, gid, 5), DI prog w (pk ++ [(n, .ref p')]) ep')) (h6 : dir = true → T' p' = some ((3, gid, n), DI prog w [] e1)) :
    GrC prog w T' gid C x dir ca (ns ++ [n]) R dx k f dn da dp (nk ++ [(n, .ref e)]) (ak ++ [(n, .ref a)]) (pk ++ [(n, .ref p')]) en' ea' ep' where
  I := ⟨hT _ _ G.I.i (by intro e; cases e) (by intro e; cases e) (by intro e; cases e), hT _ _ G.I.d (by intro e; cases e) (by intro e; cases e) (by intro e; cases e)⟩
  hk := G.hk
  fN := G.fN
  fA := G.fA
  fC := G.fC
  fO := G.fO
  tN := h3
  kN := by rw [List.map_append, G.kN]; rfl
  vN := fun q hq => by
    rcases List.mem_append.mp hq with hq | hq
    · exact (G.vN.at fun a c e z => hT a c e (by rw [z]; intro e; cases e) (by rw [z]; intro e; cases e) (by rw [z]; intro e; cases e)) q hq
    · rw [List.mem_singleton.mp hq]; exact ⟨e, rfl, h4⟩
  tA := h1
  kA := by rw [List.map_append, G.kA]; rfl
  vA := fun q hq => by
    rcases List.mem_append.mp hq with hq | hq
    · exact (G.vA q hq).at fun a c e z => hT a c e (by rcases z with z | z <;> (rw [z]; intro e; cases e)) (by rcases z with z | z <;> (rw [z]; intro e; cases e)) (by rcases z with z | z <;> (rw [z]; intro e; cases e))
    · rw [List.mem_singleton.mp hq]; exact ⟨a, [], e0, rfl, h2, fun j => ⟨fun h => (nomatch h), fun h => absurd (G.cl _ _ h).1 hn⟩, fun q hq => (nomatch hq)⟩
  fS := G.fS
  fP := G.fP
  tP := h5
  kP := fun e => by rw [List.map_append, G.kP e]; rfl
  vP := fun e q hq => by
    rcases List.mem_append.mp hq with hq | hq
    · obtain ⟨P, q1, q2⟩ := G.vP e q hq
      exact ⟨P, fun j hj => List.mem_append_left _ (q1 j hj), q2.at fun a c e z => hT a c e (by rcases z with z | z <;> (rw [z]; intro e; cases e)) (by rcases z with z | z <;> (rw [z]; intro e; cases e)) (by rcases z with z | z <;> (rw [z]; intro e; cases e))⟩
    · rw [List.mem_singleton.mp hq]; exact ⟨fun _ => False, fun _ h => h.elim, p', [], e1, rfl, h6 e, fun j => ⟨fun h => (nomatch h), fun h => h.elim⟩, fun q hq => (nomatch hq)⟩
  cl := fun a b h => ⟨List.mem_append_left _ (G.cl a b h).1, List.mem_append_left _ (G.cl a b h).2⟩
  len := by rw [List.length_append, List.length_singleton]; omega
  nd := List.nodup_append.mpr ⟨G.nd, by simp, fun y hy z hz => by rw [List.mem_singleton.mp hz]; exact fun e => hn (e ▸ hy)⟩
theorem stored_new {kvs : List (Int × Value)} {k : Int} {v : Value} (h : k ∉ kvs.map (·.1)) : stored kvs k v = kvs ++ [(k, v)] := stored_absent (valueAt_none_of_not_mem h) v

theorem not_mem_take : ∀ {xs : List Int} {i : Nat} {n : Int}, xs.Nodup → xs[i]? = some n → n ∉ xs.take i
  | [], _, _, _, h => by simp at h
  | x :: xs, 0, _, _, _ => by simp
  | x :: xs, i + 1, n, hn, h => by
    rw [List.nodup_cons] at hn
    rw [List.take_succ_cons, List.mem_cons, not_or]
    have h' : xs[i]? = some n := by simpa using h
    exact ⟨fun e => hn.1 (e ▸ List.mem_of_getElem? h'), not_mem_take hn.2 h'⟩
theorem addNodesG {xs : List Int} {v : Value} {Q : Value → Shared → Prop} (W : Wd K mg mb B) (S : St B L T m O s) (hroom : A.depth < 700) (hh : A.handled = none) (H : ClsK K 624) (M : Meth K 624 "add_nodes_from" 433 (meth 14 13) "Graph.add_nodes_from" .none) (hg0 : gid ≠ 0)
    (G : Gr prog w T gid 624 x false false [] (fun _ _ => False)) (src : ISrc prog w K mg mb T gid O 900 v xs) (hnd : xs.Nodup) (hlen : xs.length ≤ 6)
    (h : ∀ T' s', Keep gid T T' → Gr prog w T' gid 624 x false false xs (fun _ _ => False) → St B L T' m O s' → Q .none s') : wpAny (model prog w) A (call (.ref 433) [.ref x, v]) Q E s := by
  obtain ⟨cdv, hf⟩ := M.fd
  refine wpAny_call (callFKc (args := ⟨[.ref x, v], []⟩) (binds := fun d => [(Str.ofString "self", .ref x), (Str.ofString "nodes_for_adding", v), (Str.ofString "attr", .ref d)]) W S (Nat.lt_trans hroom (by decide)) hf
    (fun _ _ _ _ _ _ => BindsKw.of_eq rfl) (by decide) (fun d => locs rfl) rfl rfl rfl fun B' L' d s' hB' W' hd S' => ?_)
  have hr : (A.deeper (envF (Str.ofString "Graph.add_nodes_from") (meth 14 13) L' 433 cdv [])).depth < 900 := by show A.depth + 1 < 900; omega
  have hh' : (A.deeper (envF (Str.ofString "Graph.add_nodes_from") (meth 14 13) L' 433 cdv [])).handled = none := hh
  generalize A.deeper (envF (Str.ofString "Graph.add_nodes_from") (meth 14 13) L' 433 cdv []) = A' at hr hh' ⊢
  have a₁ : upd T d ((8, 0, 0), EmpP prog w) d = some ((8, 0, 0), EmpP prog w) := upd_self
  have K₁ : Keep gid T (upd T d ((8, 0, 0), EmpP prog w)) := .of_sub (.new hd)
  have G₁ := G.sub (Sub.new (c := ((8, 0, 0), EmpP prog w)) hd)
  generalize upd T d ((8, 0, 0), EmpP prog w) = T₁ at S' a₁ K₁ G₁
  walk_at "M"
  refine forS (B := B') ?_
  walk_at "M"
  refine wpAny_mono (src A' B' L' T₁ _ _ hh' hr W' K₁ S') (fun it s₁ hs => ?_) fun _ _ e => e.elim
  obtain ⟨I, X, P, IT, Need, rfl, Wt, S₁, hF, hI, hP, hN⟩ := hs
  refine ⟨⟨I, X, xs.length, P, IT, Need, fun _ => O, T₁, _, fun i T' m' => Keep gid T₁ T' ∧ Gr prog w T' gid 624 x false false (xs.take i) (fun _ _ => False) ∧ m' "self" = some (.ref x) ∧ m' "attr" = some (.ref d), rfl, Wt, S₁, hF, hI, ⟨.refl _ _, by simpa using G₁, rfl, rfl⟩, fun i T' m' _ hq => hN _ (K₁.trans hq.1), ?_, ?_⟩⟩
  · rintro i v' T' m' B₂ s₂ hi hPi ⟨hk, ⟨dx, k, f, dn, da, dp, nk, ak, pk, en, ea, ep, G₂⟩, hm1, hm2⟩ hB₂ S₂
    obtain ⟨n, u, hn, rfl⟩ := hP i v' hPi
    have W₂ := W'.keeps hB₂
    have hnn : n ∉ xs.take i := not_mem_take hnd hn
    have a₂ := hk _ _ a₁ (by intro e; exact hg0 e.symm)
    refine wpAny_execs_cons (tryS ?_)
    repeat walk_at "M"
    refine fldS W₂ S₂ H G₂.I H.aN G₂.fN rfl fun tk => ?_
    refine notInDictS S₂ G₂.tN fun tk' => ?_
    rw [valueAt_none_of_not_mem (by rw [G₂.kN]; exact hnn)]
    repeat walk_at "M"
    rename_i s₃ S₃ s₄ S₄
    clear S₃
    have hl1 : (xs.take i).length ≤ 5 := by rw [List.length_take]; omega
    have hka : ak.length ≤ 5 := by rw [← G₂.kA, List.length_map] at hl1; exact hl1
    have hkn : nk.length ≤ 5 := by rw [← G₂.kN, List.length_map] at hl1; exact hl1
    refine facCall (2, gid, n) W₂ S₄ H G₂.I hr H.mI fac3 (G₂.fO _ (by decide)) fun a s₅ ha S₅ => ?_
    have I₅ := G₂.I.new (c := ((2, gid, n), DI prog w [] 0)) ha
    have tA₅ := upd_new (c' := ((2, gid, n), DI prog w [] 0)) G₂.tA ha
    have tN₅ := upd_new (c' := ((2, gid, n), DI prog w [] 0)) G₂.tN ha
    have a₅ := upd_new (c' := ((2, gid, n), DI prog w [] 0)) a₂ ha
    repeat walk_at "M"
    refine fldS W₂ S₅ H I₅ H.aA G₂.fA rfl fun tk₅ => ?_
    repeat walk_at "M"
    refine setDictS S₅ tA₅ (by rw [sizeLine_eq]; omega) fun ea' s₆ S₆ => ?_
    rw [stored_new (by rw [G₂.kA]; exact hnn)] at S₆
    clear S₅ S₄
    generalize hT₆ : upd (upd T' a ((2, gid, n), DI prog w [] 0)) da ((1, gid, 4), DI prog w (ak ++ [(n, .ref a)]) ea') = T₆ at S₆
    have I₆ : Inst prog w T₆ gid 624 x dx k f := by rw [← hT₆]; exact ⟨upd_tag I₅.i tA₅ (by intro e; cases e), upd_tag I₅.d tA₅ (by intro e; cases e)⟩
    have tN₆ : T₆ dn = some ((1, gid, 3), DI prog w nk en) := by rw [← hT₆]; exact upd_tag tN₅ tA₅ (by intro e; cases e)
    have a₆ : T₆ d = some ((8, 0, 0), EmpP prog w) := by rw [← hT₆]; exact upd_tag a₅ tA₅ (by intro e; cases e)
    have tA₆ : T₆ da = some ((1, gid, 4), DI prog w (ak ++ [(n, .ref a)]) ea') := by rw [← hT₆]; exact upd_self
    have ta₆ : T₆ a = some ((2, gid, n), DI prog w [] 0) := by rw [← hT₆]; exact upd_tag upd_self tA₅ (by intro e; cases e)
    have k₆ : ∀ b c, T' b = some c → c.1 ≠ (1, gid, 4) → T₆ b = some c := fun b c e z => by
      rw [← hT₆, upd_ne (fun q => z (by rw [q, G₂.tA] at e; cases e; rfl)), upd_ne (ne_of_none e ha)]; exact e
    clear hT₆ tA₅ tN₅ a₅ I₅
    repeat walk_at "M"
    refine facCall (4, 0, 0) W₂ S₆ H I₆ hr H.mNa fac1 (G₂.fO _ (by decide)) fun e s₇ he S₇ => ?_
    replace S₇ := S₇.retag (c' := ((4, 0, 0), EmpP prog w)) upd_self fun o ho => ⟨0, ho⟩
    rw [upd_upd] at S₇
    have I₇ := I₆.new (c := ((4, 0, 0), EmpP prog w)) he
    have tN₇ := upd_new (c' := ((4, 0, 0), EmpP prog w)) tN₆ he
    have tA₇ := upd_new (c' := ((4, 0, 0), EmpP prog w)) tA₆ he
    have ta₇ := upd_new (c' := ((4, 0, 0), EmpP prog w)) ta₆ he
    have a₇ := upd_new (c' := ((4, 0, 0), EmpP prog w)) a₆ he
    have te₇ : upd T₆ e ((4, 0, 0), EmpP prog w) e = some ((4, 0, 0), EmpP prog w) := upd_self
    have k₇ : ∀ b c, T' b = some c → c.1 ≠ (1, gid, 4) → upd T₆ e ((4, 0, 0), EmpP prog w) b = some c := fun b c q z => upd_new (k₆ b c q z) he
    generalize upd T₆ e ((4, 0, 0), EmpP prog w) = T₇ at S₇ I₇ tN₇ tA₇ ta₇ a₇ te₇ k₇
    clear S₆ k₆ I₆ tN₆ tA₆ ta₆ a₆
    repeat walk_at "M"
    refine fldS W₂ S₇ H I₇ H.aN G₂.fN rfl fun tk₇ => ?_
    repeat walk_at "M"
    refine setDictS S₇ tN₇ (by rw [sizeLine_eq]; omega) fun en' s₈ S₈ => ?_
    rw [stored_new (by rw [G₂.kN]; exact hnn)] at S₈
    have G₈ : GrC prog w (upd T₇ dn ((1, gid, 3), DI prog w (nk ++ [(n, .ref e)]) en')) gid 624 x false false (xs.take i ++ [n]) (fun _ _ => False) dx k f dn da dp (nk ++ [(n, .ref e)]) (ak ++ [(n, .ref a)]) (pk ++ [(n, .ref 0)]) en' ea' 0 :=
      G₂.addNode (e0 := 0) (e1 := 0) hnn hl1 (fun b c q z3 z4 _ => upd_tag (k₇ b c q z4) tN₇ z3) (upd_tag tA₇ tN₇ (by intro e; cases e)) (upd_tag ta₇ tN₇ (by intro e; cases e)) upd_self (upd_tag te₇ tN₇ (by intro e; cases e)) (fun e => (nomatch e)) (fun e => (nomatch e))
    have a₈ := upd_tag (c' := ((1, gid, 3), DI prog w (nk ++ [(n, .ref e)]) en')) a₇ tN₇ (by intro e; cases e)
    have te₈ := upd_tag (c' := ((1, gid, 3), DI prog w (nk ++ [(n, .ref e)]) en')) te₇ tN₇ (by intro e; cases e)
    have k₈ : Keep gid T' (upd T₇ dn ((1, gid, 3), DI prog w (nk ++ [(n, .ref e)]) en')) := fun b c q z => upd_tag (k₇ b c q (by intro z'; rw [z'] at z; exact z rfl)) tN₇ (by intro z'; rw [z'] at z; exact z rfl)
    generalize upd T₇ dn ((1, gid, 3), DI prog w (nk ++ [(n, .ref e)]) en') = T₈ at S₈ G₈ a₈ te₈ k₈
    clear S₇ k₇ I₇ tN₇ tA₇ ta₇ a₇ te₇
    repeat walk_at "M"
    refine fldS W₂ S₈ H G₈.I H.aN G₂.fN rfl fun tk₈ => ?_
    repeat walk_at "M"
    refine subDictS S₈ G₈.tN (v := .ref e) ?_ fun tk₉ => ?_
    · exact valueAt_of_get (i := nk.length) (S₈.nodup G₈.tN) (by simp)
    refine methEmpS PySem.F.slot_dict_update typeOf_dupd S₈ te₈ ?_
    repeat walk_at "M"
    refine updEmpS S₈ te₈ a₈ (ne_of_tag te₈ a₈ (by intro e; cases e)) fun s₉ S₉ => ?_
    clear S₈
    repeat walk_at "M"
    have e' : xs.take i ++ [n] = xs.take (i + 1) := by rw [List.take_add_one, hn]; rfl
    rw [e'] at G₈
    exact ⟨_, _, S₉, hk.trans k₈, ⟨_, _, _, _, _, _, _, _, _, _, _, _, G₈⟩, by walk_at "L", by walk_at "L"⟩
  · rintro T' m' s₂ ⟨hk, hG, _, _⟩ S₂
    rw [List.take_length] at hG
    refine wpAny_execs_nil ⟨_, _, S₂, fun z => h _ _ (K₁.trans hk) hG z⟩
end
end Mine
end
section
open PySem PySem.W PySem.Calls PyProof.Rows
set_option Elab.async false
set_option maxRecDepth 100000
namespace Mine
-- "L": what a name holds
local macro_rules | `(tactic| walk_at "L") => `(tactic| first
  | assumption
  | exact fs_eq
  | (refine fs_ne (by decide) ?_; walk_at "L")
  | rfl)
-- "M": the next step of the walk, where it is the same everywhere
local macro_rules | `(tactic| walk_at "M") => `(tactic| first
  | ((with_reducible refine loadG ?_); refine ldnS (by assumption) (by walk_at "L") ?_)
  | ((with_reducible refine stG ?_); refine stS (by assumption) ?_; intro _ _)
  | ((with_reducible refine nameG ?_); refine ldS (by assumption) (by walk_at "L") ?_)
  | with_reducible refine wpAny_execs_cons ?_
  | with_reducible refine wpAny_execs_nil ?_
  | with_reducible refine wpAny_BinOp ?_
  | with_reducible refine wpAny_Constant_int ?_
  | with_reducible refine wpAny_Constant_str ?_
  | with_reducible refine Constant_none ?_
  | with_reducible refine Constant_bool ?_
  | with_reducible refine wpAny_Compare1 ?_
  | with_reducible refine wpAny_isTrue_Compare1 ?_
  | with_reducible refine isTrue_not ?_
  | with_reducible refine isTrue_and_nil ?_
  | with_reducible refine isTrue_or_nil ?_
  | with_reducible refine isTrue_and ?_
  | with_reducible refine isTrue_or ?_
  | with_reducible refine IfExp_ ?_
  | with_reducible refine wpAny_If ?_
  | ((with_reducible refine asgN ?_ ?_); (focus rfl))
  | ((with_reducible refine asgS ?_ ?_); (focus rfl))
  | ((with_reducible refine asgA ?_ ?_); (focus rfl))
  | ((with_reducible refine exprE ?_ ?_ ?_); (focus rfl); (focus rfl))
  | with_reducible refine wpAny_AugAssign_Name ?_
  | with_reducible refine wpAny_Return_some ?_
  | with_reducible refine wpAny_Break ?_
  | with_reducible refine wpAny_Continue ?_
  | ((with_reducible refine isG ?_); refine wpAny_is_other (by rfl) (by intro e; cases e) ?_)
  | ((with_reducible refine trG ?_); refine isTrue_plain ?_)
  | with_reducible refine wpAny_truthy_bool ?_
  | with_reducible refine add_int ?_
  | with_reducible refine iadd_int ?_
  | with_reducible refine sub_int ?_
  | with_reducible refine lt_int ?_
  | with_reducible refine le_int ?_
  | with_reducible refine gt_int ?_
  | with_reducible refine eq_int ?_
  | with_reducible refine ne_int ?_
  | with_reducible refine splE ?_
  | ((with_reducible refine splG ?_); refine spliced_more ?_)
  | with_reducible refine Tuple_ ?_
  | with_reducible refine List_ ?_
  | ((with_reducible refine methC (pl := ?_) ?_ ?_); rotate_left; (focus rfl))
  | ((with_reducible refine callC ?_ ?_); (focus rfl))
  | ((with_reducible refine cwB1 ?_ ?_ ?_); (focus rfl); (focus rfl))
  | ((with_reducible refine cwT1 ?_ ?_ ?_); (focus rfl); (focus rfl))
  | ((with_reducible refine cwM1 ?_ ?_ ?_); (focus rfl); (focus rfl))
  | with_reducible refine Subscript_ ?_
  | ((with_reducible refine attrE ?_ ?_); (focus with_unfolding_all rfl))
  | (show wpAny _ _ (execs _ _) _ _ _; first | refine wpAny_execs_cons ?_ | refine wpAny_execs_nil ?_))
section
variable {prog : Program} {w : World} {A : Around} {E : Value → Shared → Prop} {K : Frag} {mg mb : Str → Option Value} {B : Heap} {L : Addr} {T : TM} {m : Str → Option Value} {O : OG} {s : Shared} {t : Tag} {env : Env}
  {gid k : Nat} {C x dx fn : Addr} {f : Str → Option Value} {name : Str} {ox : Obj} {od : Option Obj} {dir ca : Bool} {ns : List Int} {R : Int → Int → Prop}
  {dn da dp : Addr} {nk ak pk : List (Int × Value)} {en ea ep : Nat}

theorem addNodesD {xs : List Int} {v : Value} {Q : Value → Shared → Prop} (W : Wd K mg mb B) (S : St B L T m O s) (hroom : A.depth < 700) (hh : A.handled = none) (H : ClsK K 853) (M : Meth K 853 "add_nodes_from" 698 (meth 18 5) "DiGraph.add_nodes_from" .none) (hg0 : gid ≠ 0)
    (G : Gr prog w T gid 853 x true false [] (fun _ _ => False)) (src : ISrc prog w K mg mb T gid O 900 v xs) (hnd : xs.Nodup) (hlen : xs.length ≤ 6)
    (h : ∀ T' s', Keep gid T T' → Gr prog w T' gid 853 x true false xs (fun _ _ => False) → St B L T' m O s' → Q .none s') : wpAny (model prog w) A (call (.ref 698) [.ref x, v]) Q E s := by
  obtain ⟨cdv, hf⟩ := M.fd
  refine wpAny_call (callFKc (args := ⟨[.ref x, v], []⟩) (binds := fun d => [(Str.ofString "self", .ref x), (Str.ofString "nodes_for_adding", v), (Str.ofString "attr", .ref d)]) W S (Nat.lt_trans hroom (by decide)) hf
    (fun _ _ _ _ _ _ => BindsKw.of_eq rfl) (by decide) (fun d => locs rfl) rfl rfl rfl fun B' L' d s' hB' W' hd S' => ?_)
  have hr : (A.deeper (envF (Str.ofString "DiGraph.add_nodes_from") (meth 18 5) L' 698 cdv [])).depth < 900 := by show A.depth + 1 < 900; omega
  have hh' : (A.deeper (envF (Str.ofString "DiGraph.add_nodes_from") (meth 18 5) L' 698 cdv [])).handled = none := hh
  generalize A.deeper (envF (Str.ofString "DiGraph.add_nodes_from") (meth 18 5) L' 698 cdv []) = A' at hr hh' ⊢
  have a₁ : upd T d ((8, 0, 0), EmpP prog w) d = some ((8, 0, 0), EmpP prog w) := upd_self
  have K₁ : Keep gid T (upd T d ((8, 0, 0), EmpP prog w)) := .of_sub (.new hd)
  have G₁ := G.sub (Sub.new (c := ((8, 0, 0), EmpP prog w)) hd)
  generalize upd T d ((8, 0, 0), EmpP prog w) = T₁ at S' a₁ K₁ G₁
  walk_at "M"
  refine forS (B := B') ?_
  walk_at "M"
  refine wpAny_mono (src A' B' L' T₁ _ _ hh' hr W' K₁ S') (fun it s₁ hs => ?_) fun _ _ e => e.elim
  obtain ⟨I, X, P, IT, Need, rfl, Wt, S₁, hF, hI, hP, hN⟩ := hs
  refine ⟨⟨I, X, xs.length, P, IT, Need, fun _ => O, T₁, _, fun i T' m' => Keep gid T₁ T' ∧ Gr prog w T' gid 853 x true false (xs.take i) (fun _ _ => False) ∧ m' "self" = some (.ref x) ∧ m' "attr" = some (.ref d), rfl, Wt, S₁, hF, hI, ⟨.refl _ _, by simpa using G₁, rfl, rfl⟩, fun i T' m' _ hq => hN _ (K₁.trans hq.1), ?_, ?_⟩⟩
  · rintro i v' T' m' B₂ s₂ hi hPi ⟨hk, ⟨dx, k, f, dn, da, dp, nk, ak, pk, en, ea, ep, G₂⟩, hm1, hm2⟩ hB₂ S₂
    obtain ⟨n, u, hn, rfl⟩ := hP i v' hPi
    have W₂ := W'.keeps hB₂
    have hnn : n ∉ xs.take i := not_mem_take hnd hn
    have a₂ := hk _ _ a₁ (by intro e; exact hg0 e.symm)
    refine wpAny_execs_cons (tryS ?_)
    repeat walk_at "M"
    refine fldS W₂ S₂ H G₂.I H.aN G₂.fN rfl fun tk => ?_
    refine notInDictS S₂ G₂.tN fun tk' => ?_
    rw [valueAt_none_of_not_mem (by rw [G₂.kN]; exact hnn)]
    repeat walk_at "M"
    rename_i s₃ S₃ s₄ S₄
    clear S₃
    have hl1 : (xs.take i).length ≤ 5 := by rw [List.length_take]; omega
    have hka : ak.length ≤ 5 := by rw [← G₂.kA, List.length_map] at hl1; exact hl1
    have hkn : nk.length ≤ 5 := by rw [← G₂.kN, List.length_map] at hl1; exact hl1
    refine facCall (2, gid, n) W₂ S₄ H G₂.I hr H.mI fac3 (G₂.fO _ (by decide)) fun a s₅ ha S₅ => ?_
    have I₅ := G₂.I.new (c := ((2, gid, n), DI prog w [] 0)) ha
    have tA₅ := upd_new (c' := ((2, gid, n), DI prog w [] 0)) G₂.tA ha
    have tN₅ := upd_new (c' := ((2, gid, n), DI prog w [] 0)) G₂.tN ha
    have a₅ := upd_new (c' := ((2, gid, n), DI prog w [] 0)) a₂ ha
    repeat walk_at "M"
    refine fldS W₂ S₅ H I₅ H.aS (G₂.fS rfl) rfl fun tk₅ => ?_
    repeat walk_at "M"
    refine setDictS S₅ tA₅ (by rw [sizeLine_eq]; omega) fun ea' s₆ S₆ => ?_
    rw [stored_new (by rw [G₂.kA]; exact hnn)] at S₆
    clear S₅ S₄
    generalize hT₆ : upd (upd T' a ((2, gid, n), DI prog w [] 0)) da ((1, gid, 4), DI prog w (ak ++ [(n, .ref a)]) ea') = T₆ at S₆
    have I₆ : Inst prog w T₆ gid 853 x dx k f := by rw [← hT₆]; exact ⟨upd_tag I₅.i tA₅ (by intro e; cases e), upd_tag I₅.d tA₅ (by intro e; cases e)⟩
    have tN₆ : T₆ dn = some ((1, gid, 3), DI prog w nk en) := by rw [← hT₆]; exact upd_tag tN₅ tA₅ (by intro e; cases e)
    have a₆ : T₆ d = some ((8, 0, 0), EmpP prog w) := by rw [← hT₆]; exact upd_tag a₅ tA₅ (by intro e; cases e)
    have tA₆ : T₆ da = some ((1, gid, 4), DI prog w (ak ++ [(n, .ref a)]) ea') := by rw [← hT₆]; exact upd_self
    have ta₆ : T₆ a = some ((2, gid, n), DI prog w [] 0) := by rw [← hT₆]; exact upd_tag upd_self tA₅ (by intro e; cases e)
    have k₆ : ∀ b c, T' b = some c → c.1 ≠ (1, gid, 4) → T₆ b = some c := fun b c e z => by
      rw [← hT₆, upd_ne (fun q => z (by rw [q, G₂.tA] at e; cases e; rfl)), upd_ne (ne_of_none e ha)]; exact e
    have tP₆ : T₆ dp = some ((1, gid, 5), DI prog w pk ep) := k₆ _ _ (G₂.tP rfl) (by intro e; cases e)
    clear hT₆ tA₅ tN₅ a₅ I₅
    repeat walk_at "M"
    have hkp : pk.length ≤ 5 := by rw [← G₂.kP rfl, List.length_map] at hl1; exact hl1
    refine facCall (3, gid, n) W₂ S₆ H I₆ hr H.mI fac3 (G₂.fO _ (by decide)) fun p' sA hp' SA => ?_
    have IA := I₆.new (c := ((3, gid, n), DI prog w [] 0)) hp'
    have tPA := upd_new (c' := ((3, gid, n), DI prog w [] 0)) tP₆ hp'
    repeat walk_at "M"
    refine fldS W₂ SA H IA H.aP (G₂.fP rfl) rfl fun tkA => ?_
    repeat walk_at "M"
    refine setDictS SA tPA (by rw [sizeLine_eq]; omega) fun ep' sB SB => ?_
    rw [stored_new (by rw [G₂.kP rfl]; exact hnn)] at SB
    generalize hTB : upd (upd T₆ p' ((3, gid, n), DI prog w [] 0)) dp ((1, gid, 5), DI prog w (pk ++ [(n, .ref p')]) ep') = TB at SB
    have kB : ∀ b c, T₆ b = some c → c.1 ≠ (1, gid, 5) → TB b = some c := fun b c e z => by
      rw [← hTB, upd_ne (fun q => z (by rw [q, tP₆] at e; cases e; rfl)), upd_ne (ne_of_none e hp')]; exact e
    have IB : Inst prog w TB gid 853 x dx k f := ⟨kB _ _ I₆.i (by intro e; cases e), kB _ _ I₆.d (by intro e; cases e)⟩
    have tNB := kB _ _ tN₆ (by intro e; cases e)
    have aB := kB _ _ a₆ (by intro e; cases e)
    have tAB := kB _ _ tA₆ (by intro e; cases e)
    have taB := kB _ _ ta₆ (by intro e; cases e)
    have tPB : TB dp = some ((1, gid, 5), DI prog w (pk ++ [(n, .ref p')]) ep') := by rw [← hTB]; exact upd_self
    have tpB : TB p' = some ((3, gid, n), DI prog w [] 0) := by rw [← hTB]; exact upd_tag upd_self tPA (by intro e; cases e)
    have kkB : ∀ b c, T' b = some c → c.1 ≠ (1, gid, 4) → c.1 ≠ (1, gid, 5) → TB b = some c := fun b c e z z' => kB b c (k₆ b c e z) z'
    clear hTB SA S₆ I₆ IA tPA tP₆ tN₆ a₆ tA₆ ta₆ kB k₆
    repeat walk_at "M"
    refine facCall (4, 0, 0) W₂ SB H IB hr H.mNa fac1 (G₂.fO _ (by decide)) fun e s₇ he S₇ => ?_
    replace S₇ := S₇.retag (c' := ((4, 0, 0), EmpP prog w)) upd_self fun o ho => ⟨0, ho⟩
    rw [upd_upd] at S₇
    have I₇ := IB.new (c := ((4, 0, 0), EmpP prog w)) he
    have tN₇ := upd_new (c' := ((4, 0, 0), EmpP prog w)) tNB he
    have tA₇ := upd_new (c' := ((4, 0, 0), EmpP prog w)) tAB he
    have ta₇ := upd_new (c' := ((4, 0, 0), EmpP prog w)) taB he
    have a₇ := upd_new (c' := ((4, 0, 0), EmpP prog w)) aB he
    have tP₇ := upd_new (c' := ((4, 0, 0), EmpP prog w)) tPB he
    have tp₇ := upd_new (c' := ((4, 0, 0), EmpP prog w)) tpB he
    have te₇ : upd TB e ((4, 0, 0), EmpP prog w) e = some ((4, 0, 0), EmpP prog w) := upd_self
    have k₇ : ∀ b c, T' b = some c → c.1 ≠ (1, gid, 4) → c.1 ≠ (1, gid, 5) → upd TB e ((4, 0, 0), EmpP prog w) b = some c := fun b c q z z' => upd_new (kkB b c q z z') he
    generalize upd TB e ((4, 0, 0), EmpP prog w) = T₇ at S₇ I₇ tN₇ tA₇ ta₇ a₇ te₇ k₇ tP₇ tp₇
    clear SB kkB IB tNB tAB taB aB
    repeat walk_at "M"
    refine fldS W₂ S₇ H I₇ H.aN G₂.fN rfl fun tk₇ => ?_
    repeat walk_at "M"
    refine setDictS S₇ tN₇ (by rw [sizeLine_eq]; omega) fun en' s₈ S₈ => ?_
    rw [stored_new (by rw [G₂.kN]; exact hnn)] at S₈
    have G₈ : GrC prog w (upd T₇ dn ((1, gid, 3), DI prog w (nk ++ [(n, .ref e)]) en')) gid 853 x true false (xs.take i ++ [n]) (fun _ _ => False) dx k f dn da dp (nk ++ [(n, .ref e)]) (ak ++ [(n, .ref a)]) (pk ++ [(n, .ref p')]) en' ea' ep' :=
      G₂.addNode (e0 := 0) (e1 := 0) hnn hl1 (fun b c q z3 z4 z5 => upd_tag (k₇ b c q z4 z5) tN₇ z3) (upd_tag tA₇ tN₇ (by intro e; cases e)) (upd_tag ta₇ tN₇ (by intro e; cases e)) upd_self (upd_tag te₇ tN₇ (by intro e; cases e)) (fun _ => upd_tag tP₇ tN₇ (by intro e; cases e)) (fun _ => upd_tag tp₇ tN₇ (by intro e; cases e))
    have a₈ := upd_tag (c' := ((1, gid, 3), DI prog w (nk ++ [(n, .ref e)]) en')) a₇ tN₇ (by intro e; cases e)
    have te₈ := upd_tag (c' := ((1, gid, 3), DI prog w (nk ++ [(n, .ref e)]) en')) te₇ tN₇ (by intro e; cases e)
    have k₈ : Keep gid T' (upd T₇ dn ((1, gid, 3), DI prog w (nk ++ [(n, .ref e)]) en')) := fun b c q z => upd_tag (k₇ b c q (by intro z'; rw [z'] at z; exact z rfl) (by intro z'; rw [z'] at z; exact z rfl)) tN₇ (by intro z'; rw [z'] at z; exact z rfl)
    generalize upd T₇ dn ((1, gid, 3), DI prog w (nk ++ [(n, .ref e)]) en') = T₈ at S₈ G₈ a₈ te₈ k₈
    clear S₇ k₇ I₇ tN₇ tA₇ ta₇ a₇ te₇
    repeat walk_at "M"
    refine fldS W₂ S₈ H G₈.I H.aN G₂.fN rfl fun tk₈ => ?_
    repeat walk_at "M"
    refine subDictS S₈ G₈.tN (v := .ref e) ?_ fun tk₉ => ?_
    · exact valueAt_of_get (i := nk.length) (S₈.nodup G₈.tN) (by simp)
    refine methEmpS PySem.F.slot_dict_update typeOf_dupd S₈ te₈ ?_
    repeat walk_at "M"
    refine updEmpS S₈ te₈ a₈ (ne_of_tag te₈ a₈ (by intro e; cases e)) fun s₉ S₉ => ?_
    clear S₈
    repeat walk_at "M"
    have e' : xs.take i ++ [n] = xs.take (i + 1) := by rw [List.take_add_one, hn]; rfl
    rw [e'] at G₈
    exact ⟨_, _, S₉, hk.trans k₈, ⟨_, _, _, _, _, _, _, _, _, _, _, _, G₈⟩, by walk_at "L", by walk_at "L"⟩
  · rintro T' m' s₂ ⟨hk, hG, _, _⟩ S₂
    rw [List.take_length] at hG
    refine wpAny_execs_nil ⟨_, _, S₂, fun z => h _ _ (K₁.trans hk) hG z⟩
end
end Mine
end
section
open PySem PySem.W PySem.Calls PyProof.Rows
set_option Elab.async false
set_option maxRecDepth 100000
namespace Mine

/-! ## a generator expression of pairs, over a dict's keys -/
structure GSt (prog : Program) (w : World) (C I d cn : Addr) (nv : Value) (kvs : List (Int × Value)) (ep : Nat) (i : Nat) (h : Heap) : Prop where
  ns : ∃ m, h.Ns C m
  it : h.IsKeyIter I d i kvs.length ep
  di : h.DictAt (PySem.intKind prog w) d kvs ep
  ce : h.IsCell cn (some nv)
theorem GSt.frame {prog : Program} {w : World} {C I d cn : Addr} {nv : Value} {kvs : List (Int × Value)} {ep : Nat} {i : Nat} {h h' : Heap} (G : GSt prog w C I d cn nv kvs ep i h) (k : ∀ b ∈ [C, I, d, cn], ∀ o, h.get? b = some o → h'.get? b = some o) : GSt prog w C I d cn nv kvs ep i h' where
  ns := let ⟨m, hm⟩ := G.ns; ⟨m, hm.at' fun o e => k C (by simp) o e⟩
  it := G.it.at fun o e => k I (by simp) o e
  di := let ⟨o, es, ho, r⟩ := G.di; ⟨o, es, k d (by simp) o ho, r⟩
  ce := let ⟨o, ho, r⟩ := G.ce; ⟨o, k cn (by simp) o ho, r⟩
theorem GSt.frame2 {prog : Program} {w : World} {C I d cn : Addr} {nv : Value} {kvs : List (Int × Value)} {ep : Nat} {i : Nat} {h h' : Heap} (G : GSt prog w C I d cn nv kvs ep i h) (k : ∀ b ∈ [C, I], ∀ o, h.get? b = some o → h'.get? b = some o) (hD : h'.DictAt (PySem.intKind prog w) d kvs ep) (hc : h'.IsCell cn (some nv)) : GSt prog w C I d cn nv kvs ep i h' where
  ns := let ⟨m, hm⟩ := G.ns; ⟨m, hm.at' fun o e => k C (by simp) o e⟩
  it := G.it.at fun o e => k I (by simp) o e
  di := hD
  ce := hc
def Since2 (C I : Addr) (s₀ s : Shared) : Prop := ∃ h' tk, s = { s₀ with heap := h', toks := tk } ∧ ∀ b o, b ≠ C → b ≠ I → s₀.heap.get? b = some o → h'.get? b = some o
theorem Since2.refl (C I : Addr) (s : Shared) : Since2 C I s s := ⟨s.heap, s.toks, rfl, fun _ _ _ _ e => e⟩
theorem Since2.step {C I : Addr} {s₀ s : Shared} (x : Since2 C I s₀ s) {h' : Heap} {tk : Nat} (hk : ∀ b o, b ≠ C → b ≠ I → s.heap.get? b = some o → h'.get? b = some o) : Since2 C I s₀ { s with heap := h', toks := tk } := by
  obtain ⟨h₁, tk₁, rfl, hk₁⟩ := x
  exact ⟨h', tk, rfl, fun b o hC hI e => hk b o hC hI (hk₁ b o hC hI e)⟩
/-- what a turn hands out, and how it may go on -/
def pairProto (prog : Program) (w : World) (C I d cn : Addr) (nv : Value) (kvs : List (Int × Value)) (ep : Nat) : Protocol := fun m s₀ v s kap =>
  (∃ a i k u q, i + (m + 1) = kvs.length ∧ (kvs.map (·.1))[i]? = some k ∧ v = .ref a ∧ s.heap.get? a = some { cls := .type "tuple", data := .seq #[nv, .int k u] q } ∧ s₀.heap.get? a = none ∧ C < a ∧ (∃ o, s.heap.get? C = some o) ∧ ∃ o, s.heap.get? I = some o) ∧ Since2 C I s₀ s ∧
    ∀ s'' : Shared, (∀ b ∈ [C, I], ∀ o, s.heap.get? b = some o → s''.heap.get? b = some o) → s''.heap.DictAt (PySem.intKind prog w) d kvs ep → s''.heap.IsCell cn (some nv) → kap (.send .none) s''

section
variable {prog : Program} {w : World} {A : Around}
theorem pairLoop {nn x : Str} {p1 p2 p3 px : Pos} {kk : Nat} {iter : Expr} {scope : Scope} {pos : Pos} {I d cn : Addr} {nv : Value} {kvs : List (Int × Value)} {ep : Nat} {cenv : Env}
    (hh : A.handled = none) (hx : cenv.kindOf x = some .local) (hp : (cenv.scope.kind == .class || (cenv.scope.kind == .module && cenv.locals != cenv.globals)) = false) (hk : cenv.scope.kind = .function)
    (hco : cenv.scope.isCoroutine = false) (hn : cenv.kindOf nn = some .free) (hc : cenv.cells.lookup nn = some cn) (hd1 : (nn == ("__debug__" : Str)) = false) (hd2 : (nn == ("__classdict__" : Str)) = false) (hd3 : (x == ("__debug__" : Str)) = false)
    (hCI : cenv.locals ≠ I) (hCd : cenv.locals ≠ d) (hCc : cenv.locals ≠ cn) (hId : I ≠ d) (hIc : I ≠ cn) :
    ∀ (j i : Nat) (s₀ s : Shared), kvs.length - i = j → i ≤ kvs.length → GSt prog w cenv.locals I d cn nv kvs ep i s.heap → Since2 cenv.locals I s₀ s →
      Seg (model prog w) A (fun n s₀ r s₁ => r = .ok .next ∧ (n = 0 ∧ Since2 cenv.locals I s₀ s₁)) (pairProto prog w cenv.locals I d cn nv kvs ep) j s₀
        (.compLoop (.GeneratorExp (.Tuple [.Name nn p1, .Name x p2] kk p3) [⟨.Name x px, iter, [], 0⟩] scope pos) 0 (.ref I) .none cenv)
        ((model prog w).den (.compLoop (.GeneratorExp (.Tuple [.Name nn p1, .Name x p2] kk p3) [⟨.Name x px, iter, [], 0⟩] scope pos) 0 (.ref I) .none cenv)) [] s := by
  have hh' : (A.over (.compLoop (.GeneratorExp (.Tuple [.Name nn p1, .Name x p2] kk p3) [⟨.Name x px, iter, [], 0⟩] scope pos) 0 (.ref I) .none cenv) []).handled = none := hh
  intro j
  induction j with
  | zero =>
    intro i s₀ s hj hi G hs
    obtain rfl : i = kvs.length := by omega
    show Seg _ A _ _ _ s₀ _ ((compTurn (.GeneratorExp (.Tuple [.Name nn p1, .Name x p2] kk p3) [⟨.Name x px, iter, [], 0⟩] scope pos) 0 (.ref I) .none cenv).onRaise (leaving cenv)) [] s
    rw [compTurn_gen, Sem.onRaise_eq_wrap]
    refine seg_bind_wrap (wpAny_standAt ?_)
    refine seg_bind_wrap (wpAny_pyNext_dict_end hh' G.it G.di (by simp) fun h' he' => ?_)
    exact seg_end (.ok .next) ⟨rfl, rfl, hs.step fun b o _ hbI e => he' b o hbI e⟩
  | succ j ih =>
    intro i s₀ s hj hi G hs
    have hlt : i < kvs.length := by omega
    show Seg _ A _ _ _ s₀ _ ((compTurn (.GeneratorExp (.Tuple [.Name nn p1, .Name x p2] kk p3) [⟨.Name x px, iter, [], 0⟩] scope pos) 0 (.ref I) .none cenv).onRaise (leaving cenv)) [] s
    rw [compTurn_gen, Sem.onRaise_eq_wrap]
    refine seg_bind_wrap (wpAny_standAt ?_)
    refine seg_bind_wrap (wpAny_pyNext_dict_item G.it G.di (k := kvs[i].1) (v := kvs[i].2) (by simp [hlt]) fun key h₁ hkey hit₁ hs₁ => ?_)
    obtain ⟨u, rfl⟩ := isInt_of hkey
    refine seg_bind_wrap (wpAny_of_eq (rfl : letOwnedTupleGo (.Name x px) (.ref I) (.int kvs[i].1 u) = pure ()) ?_)
    have G₁ : GSt prog w cenv.locals I d cn nv kvs ep (i + 1) h₁ := ⟨let ⟨m, hm⟩ := G.ns; ⟨m, hm.sameBut hs₁ hCI⟩, hit₁, let ⟨o, es, ho, r⟩ := G.di; ⟨o, es, (hs₁.2 d (Ne.symm hId)).trans ho, r⟩, let ⟨o, ho, r⟩ := G.ce; ⟨o, (hs₁.2 cn (Ne.symm hIc)).trans ho, r⟩⟩
    obtain ⟨m, hm⟩ := G₁.ns
    refine seg_bind_wrap (wpAny_assign_Name (wpAny_storeName_local hx hm (fun h₂ hn₂ hs₂ => ?_) hp))
    have G₂ : GSt prog w cenv.locals I d cn nv kvs ep (i + 1) h₂ := ⟨⟨_, hn₂⟩, let ⟨o, ho, r⟩ := G₁.it; ⟨o, (hs₂.2 I (Ne.symm hCI)).trans ho, r⟩, let ⟨o, es, ho, r⟩ := G₁.di; ⟨o, es, (hs₂.2 d (Ne.symm hCd)).trans ho, r⟩, let ⟨o, ho, r⟩ := G₁.ce; ⟨o, (hs₂.2 cn (Ne.symm hCc)).trans ho, r⟩⟩
    refine seg_bind_wrap (tests_nil ?_)
    simp only [if_true]
    have hy : ∀ v, yieldOut cenv v = yieldValue v := fun v => by simp only [yieldOut, hco, Bool.false_eq_true, if_false]
    simp only [hy]
    rw [Sem.bind_eq_wrap', Sem.bind_eq_wrap', Sem.wrap_wrap, Sem.wrap_wrap]
    refine seg_wrap (Tuple_ ?_)
    refine spliced_more ?_
    refine wpAny_Name (wpAny_loadName_free hk hn hc G₂.ce ?_ hd2) hd1
    refine spliced_more ?_
    refine wpAny_Name (wpAny_loadName_local hk hx hn₂ (if_pos rfl) ?_) hd3
    refine splE ?_
    refine wpAny_newTuple ?_
    have hs₂' : Heap.SameBut cenv.locals h₁ h₂ := hs₂
    have k₂ : ∀ b o, b ≠ cenv.locals → b ≠ I → s.heap.get? b = some o → h₂.get? b = some o := fun b o h1 h2 e => (hs₂'.2 b h1).trans ((hs₁.2 b h2).trans e)
    have k₃ : ∀ b o, h₂.get? b = some o → (h₂.push { cls := .type "tuple", data := .seq [nv, .int kvs[i].1 u].toArray }).get? b = some o := fun b o e => Heap.get?_push_of_some _ e
    have G₃ : GSt prog w cenv.locals I d cn nv kvs ep (i + 1) (h₂.push { cls := .type "tuple", data := .seq [nv, .int kvs[i].1 u].toArray }) := G₂.frame fun b _ o e => k₃ b o e
    have hs' : Since2 cenv.locals I s₀ { s with heap := h₂, toks := s.toks + 1 } := hs.step k₂
    refine seg_at (seg_yield rfl rfl rfl ⟨⟨h₂.objs.size, i, kvs[i].1, u, 0, by omega, by simp [hlt], rfl, Heap.get?_push_size _ rfl, ?_, hn₂.lt, let ⟨_, o, _, _, ho, _⟩ := G₃.ns; ⟨o, ho⟩, let ⟨o, ho, _⟩ := G₃.it; ⟨o, ho⟩⟩, hs'.step fun b o _ _ e => k₃ b o e, fun s'' hal hD hc' => ?_⟩)
    · obtain ⟨hz, tk, e, hk₀⟩ := hs
      cases q : s₀.heap.get? h₂.objs.size with
      | none => rfl
      | some o =>
        exfalso
        have hC : h₂.objs.size ≠ cenv.locals := Nat.ne_of_gt hn₂.lt
        have hI : h₂.objs.size ≠ I := by obtain ⟨o, ho, _⟩ := G₂.it; exact Nat.ne_of_gt (Heap.lt_size ho)
        have h1 := hk₀ _ o hC hI q
        have h2 : s.heap = hz := by rw [e]
        rw [← h2] at h1
        exact Nat.lt_irrefl _ (Heap.lt_size (k₂ _ o hC hI h1))
    · exact seg_again rfl (ih (i + 1) s'' s'' (by omega) (by omega) (G₃.frame2 hal hD hc') (Since2.refl _ _ _))

theorem pairStart {nn x : Str} {p1 p2 p3 px : Pos} {kk : Nat} {iter : Expr} {scope : Scope} {pos : Pos} {I d cn : Addr} {nv : Value} {kvs : List (Int × Value)} {ep : Nat} {cenv : Env}
    (hh : A.handled = none) (hx : cenv.kindOf x = some .local) (hp : (cenv.scope.kind == .class || (cenv.scope.kind == .module && cenv.locals != cenv.globals)) = false) (hk : cenv.scope.kind = .function)
    (hco : cenv.scope.isCoroutine = false) (hn : cenv.kindOf nn = some .free) (hc : cenv.cells.lookup nn = some cn) (hd1 : (nn == ("__debug__" : Str)) = false) (hd2 : (nn == ("__classdict__" : Str)) = false) (hd3 : (x == ("__debug__" : Str)) = false)
    (hCI : cenv.locals ≠ I) (hCd : cenv.locals ≠ d) (hCc : cenv.locals ≠ cn) (hId : I ≠ d) (hIc : I ≠ cn) (s : Shared) (G : GSt prog w cenv.locals I d cn nv kvs ep 0 s.heap) :
      Seg (model prog w) A (fun n s₀ r s₁ => r = .ok .next ∧ (n = 0 ∧ Since2 cenv.locals I s₀ s₁)) (pairProto prog w cenv.locals I d cn nv kvs ep) kvs.length s
        (.compStart (.GeneratorExp (.Tuple [.Name nn p1, .Name x p2] kk p3) [⟨.Name x px, iter, [], 0⟩] scope pos) 0 (.ref I) .none cenv)
        ((model prog w).den (.compStart (.GeneratorExp (.Tuple [.Name nn p1, .Name x p2] kk p3) [⟨.Name x px, iter, [], 0⟩] scope pos) 0 (.ref I) .none cenv)) [] s := by
  have hh' : (A.over (.compStart (.GeneratorExp (.Tuple [.Name nn p1, .Name x p2] kk p3) [⟨.Name x px, iter, [], 0⟩] scope pos) 0 (.ref I) .none cenv) []).handled = none := hh
  have loop := pairLoop (iter := iter) (p1 := p1) (p2 := p2) (p3 := p3) (px := px) (kk := kk) (scope := scope) (pos := pos) hh hx hp hk hco hn hc hd1 hd2 hd3 hCI hCd hCc hId hIc kvs.length 0 s s (Nat.sub_zero _) (Nat.zero_le _) G (Since2.refl _ _ _)
  show Seg _ A _ _ _ s _ ((compStart (.GeneratorExp (.Tuple [.Name nn p1, .Name x p2] kk p3) [⟨.Name x px, iter, [], 0⟩] scope pos) 0 (.ref I) .none cenv).onRaise (leaving cenv)) [] s
  unfold compStart
  rw [Sem.onRaise_eq_wrap]
  show Seg _ A _ _ _ s _ ((ask >>= _).wrap _ _ _ _) [] s
  refine seg_bind_wrap (wpAny_askSetting ?_)
  split
  · exact seg_again rfl loop
  · refine seg_bind_wrap (wpAny_rule ?_)
    show Seg _ A _ _ _ s _ ((standAt iter.pos >>= _).wrap _ _ _ _) [] s
    exact seg_bind_wrap (wpAny_standAt (seg_bind_wrap (wpAny_pyIter_keyiter G.it (seg_again rfl loop))))
end
end Mine
end
section
open PySem PySem.W PySem.Calls PyProof.Rows
set_option Elab.async false
set_option maxRecDepth 100000
namespace Mine
section
variable {prog : Program} {w : World} {A : Around} {E : Value → Shared → Prop} {K : Frag} {mg mb : Str → Option Value} {B : Heap} {L : Addr} {T : TM} {m : Str → Option Value} {O : OG} {s : Shared} {t : Tag} {env : Env}
  {a C I d cn : Addr} {g : Nat} {nv : Value} {kvs : List (Int × Value)} {ep : Nat}

/-- the generator, before its j-th pair -/
structure GenS (prog : Program) (w : World) (A : Around) (a : Addr) (g : Nat) (C I d cn : Addr) (nv : Value) (kvs : List (Int × Value)) (ep : Nat) (j : Nat) (s : Shared) : Prop where
  is : s.heap.IsGen a g
  ci : (∃ o, s.heap.get? C = some o) ∧ ∃ o, s.heap.get? I = some o
  go : ∃ gs, s.gens[g]? = some gs ∧ ∀ s'' : Shared, (∀ b ∈ [C, I], ∀ o, s.heap.get? b = some o → s''.heap.get? b = some o) → s''.heap.DictAt (PySem.intKind prog w) d kvs ep → s''.heap.IsCell cn (some nv) →
    gs.Goes (model prog w) A.in1 (fun n s₀ r s₁ => r = .ok .next ∧ (n = 0 ∧ Since2 C I s₀ s₁)) (pairProto prog w C I d cn nv kvs ep) (kvs.length - j) (.send .none) s''
theorem GenS.frame {j : Nat} {s s' : Shared} (G : GenS prog w A a g C I d cn nv kvs ep j s) (k : ∀ b ∈ [a, C, I], ∀ o, s.heap.get? b = some o → s'.heap.get? b = some o) (hg : s'.gens = s.gens) : GenS prog w A a g C I d cn nv kvs ep j s' where
  is := let ⟨o, nm, qn, ho, r⟩ := G.is; ⟨o, nm, qn, k a (by simp) o ho, r⟩
  ci := ⟨let ⟨o, ho⟩ := G.ci.1; ⟨o, k C (by simp) o ho⟩, let ⟨o, ho⟩ := G.ci.2; ⟨o, k I (by simp) o ho⟩⟩
  go := let ⟨gs, h1, h2⟩ := G.go; ⟨gs, by rw [hg]; exact h1, fun s'' hal => h2 s'' (fun b hb o e => hal b hb o (k b (List.mem_cons_of_mem _ hb) o e))⟩
def OB (O : OG) : Prop := ∀ y ∈ O.2, y.bare = true

theorem genItem {j : Nat} {Q : Option Value → Shared → Prop} (hh : A.handled = none) (hroom : A.depth < recursionLimit) (hlim : B.NoLimit) (S : St B L T m O s) (G : GenS prog w A a g C I d cn nv kvs ep j s) (hj : j < kvs.length) (haC : a ≠ C) (haI : a ≠ I) (hC0 : sysModules < C)
    (hF : Free B L T [a, C, I]) (hb : OB O) (hD : s.heap.DictAt (PySem.intKind prog w) d kvs ep) (hcn : s.heap.IsCell cn (some nv))
    (h : ∀ k u t O' s', (kvs.map (·.1))[j]? = some k → T t = none → O'.1 = O.1 → OB O' → St B L (upd T t ((7, 0, 0), TupP [nv, .int k u])) m O' s' → GenS prog w A a g C I d cn nv kvs ep (j + 1) s' → t ≠ a ∧ t ≠ C ∧ t ≠ I → Q (some (.ref t)) s') :
    wpAny (model prog w) A (pyNext (.ref a)) Q E s := by
  obtain ⟨hg, ⟨hC, hI⟩, gs, hgs, hgo⟩ := G
  obtain ⟨n, hn⟩ : ∃ n, kvs.length - j = n + 1 := ⟨kvs.length - j - 1, by omega⟩
  rw [hn] at hgo
  refine wpAny_pyNext_genexpQ (P := fun n s₀ s₁ => n = 0 ∧ Since2 C I s₀ s₁) hh (hlim.keeps S.keep) hroom hg hgs (hgo _ (fun _ _ _ e => e) hD hcn) (fun v s₁ gs' hbare hv => ?_) (fun s₁ hp h' hk => absurd hp.1 (Nat.succ_ne_zero n))
  obtain ⟨⟨t, i, k, u, q, hi, hk, rfl, ht, hnew, hCt, hC', hI'⟩, ⟨h₁, tk₁, rfl, hk₁⟩, hkap⟩ := hv
  obtain rfl : i = j := by omega
  have htn : s.heap.get? t = none := hnew
  have hTt : T t = none := by
    cases e : T t with
    | none => rfl
    | some c => obtain ⟨o, ho, _⟩ := S.obj e; rw [htn] at ho; cases ho
  obtain ⟨a1, a2, a3⟩ := hF a (by simp)
  have kp : ∀ b o, b ≠ C → b ≠ I → s.heap.get? b = some o → h₁.get? b = some o := hk₁
  have fr : ∀ b, b = C ∨ b = I → T b = none ∧ b ≠ L ∧ B.get? b = none := fun b hb => by rcases hb with rfl | rfl <;> exact hF _ (by simp)
  have S₁ : St B L T m O { s with heap := h₁ } := S.butP (fun b => b = C ∨ b = I) fr (fun b o hb e => kp b o (fun q => hb (.inl q)) (fun q => hb (.inr q)) e) rfl rfl
  have htL : t ≠ L := fun q => by
    obtain ⟨oL, es, e, hL, r⟩ := S.ns
    rw [← q, htn] at hL; cases hL
  have htB : B.get? t = none := S.B_none htn
  have htC : t ≠ C := fun q => by obtain ⟨o, ho⟩ := hC; rw [← q, htn] at ho; cases ho
  have htI : t ≠ I := fun q => by obtain ⟨o, ho⟩ := hI; rw [← q, htn] at ho; cases ho
  have hta : t ≠ a := fun q => by obtain ⟨o, _, _, ho, _⟩ := hg; rw [← q, htn] at ho; cases ho
  have S₂ : St B L (upd T t ((7, 0, 0), TupP [nv, .int k u])) m (O.1, (s.gens.setIfInBounds g .running).setIfInBounds g gs') ((({ s.setGen g .running with heap := h₁, toks := tk₁ } : Shared)).setGen g gs') :=
    ⟨S₁.ns, S₁.keep, S₁.LB, fun b c e => by
      unfold upd at e
      split at e
      · rename_i q'; cases e; rw [q']
        exact ⟨htL, htB, _, ht, q, rfl⟩
      · exact S₁.sat b c e, rfl, S₁.os, fun b c e => nm_upd S₁.nm (Nat.lt_trans hC0 hCt) e, S₁.big⟩
  have hsg := setGen_self (gs := .running) (x := gs') (setGen_self (x := .running) hgs)
  refine h k u t (O.1, (s.gens.setIfInBounds g .running).setIfInBounds g gs') _ hk hTt rfl (fun y hy => ?_) S₂ ⟨?_, ⟨hC', hI'⟩, gs', hsg, fun s'' hal hD' hc' => ?_⟩ ⟨hta, htC, htI⟩
  · have hlt : g < s.gens.size := by
      rcases Nat.lt_or_ge g s.gens.size with z | z
      · exact z
      · rw [Array.getElem?_eq_none z] at hgs; cases hgs
    obtain ⟨i', hi'⟩ := Array.mem_iff_getElem?.mp hy
    dsimp only at hi'
    by_cases e : g = i'
    · subst e
      rw [Array.getElem?_setIfInBounds_self_of_lt (by simpa using hlt)] at hi'
      cases hi'; exact hbare
    · rw [Array.getElem?_setIfInBounds_ne e, Array.getElem?_setIfInBounds_ne e] at hi'
      exact hb y (by rw [← S.gens]; exact Array.mem_iff_getElem?.mpr ⟨i', hi'⟩)
  · obtain ⟨o, nm, qn, ho, r⟩ := hg
    exact ⟨o, nm, qn, kp a o haC haI ho, r⟩
  · have e : kvs.length - (i + 1) = n := by omega
    rw [e]
    exact hkap s'' hal hD' hc'
theorem genDone {Q : Option Value → Shared → Prop} (hdC : d ≠ C) (hdI : d ≠ I) (hcC : cn ≠ C) (hcI : cn ≠ I) (hh : A.handled = none) (hroom : A.depth < recursionLimit) (hlim : B.NoLimit) (S : St B L T m O s) (G : GenS prog w A a g C I d cn nv kvs ep kvs.length s)
    (hF : Free B L T [a, C, I]) (hb : OB O) (hD : s.heap.DictAt (PySem.intKind prog w) d kvs ep) (hcn : s.heap.IsCell cn (some nv)) (h : ∀ O' s', O'.1 = O.1 → OB O' → St B L T m O' s' → Q none s') : wpAny (model prog w) A (pyNext (.ref a)) Q E s := by
  obtain ⟨hg, ⟨hC, hI⟩, gs, hgs, hgo⟩ := G
  rw [Nat.sub_self] at hgo
  refine wpAny_pyNext_genexpQ (P := fun n s₀ s₁ => n = 0 ∧ Since2 C I s₀ s₁) hh (hlim.keeps S.keep) hroom hg hgs (hgo _ (fun _ _ _ e => e) hD hcn) (fun v s₁ gs' hbare hv => ?_) (fun s₁ hp h' hk => ?_)
  · obtain ⟨_, ⟨h₁, tk₁, rfl, hk₁⟩, hkap⟩ := hv
    exact (hkap _ (fun _ _ _ e => e) (let ⟨o, es, ho, r⟩ := hD; ⟨o, es, hk₁ _ _ hdC hdI ho, r⟩) (let ⟨o, ho, r⟩ := hcn; ⟨o, hk₁ _ _ hcC hcI ho, r⟩)).elim
  · obtain ⟨_, h₁, tk₁, rfl, hk₁⟩ := hp
    have fr : ∀ b, b = C ∨ b = I → T b = none ∧ b ≠ L ∧ B.get? b = none := fun b hb => by rcases hb with rfl | rfl <;> exact hF _ (by simp)
    have S₁ : St B L T m O { s with heap := h' } := S.butP (fun b => b = C ∨ b = I) fr (fun b o hb e => hk b o (hk₁ b o (fun q => hb (.inl q)) (fun q => hb (.inr q)) e)) rfl rfl
    refine h (O.1, (s.gens.setIfInBounds g .running).setIfInBounds g .finished) _ rfl (fun y hy => ?_) ⟨S₁.ns, S₁.keep, S₁.LB, S₁.sat, rfl, S₁.os, S₁.nm, S₁.big⟩
    have hlt : g < s.gens.size := by
      rcases Nat.lt_or_ge g s.gens.size with z | z
      · exact z
      · rw [Array.getElem?_eq_none z] at hgs; cases hgs
    obtain ⟨i', hi'⟩ := Array.mem_iff_getElem?.mp hy
    dsimp only at hi'
    by_cases e : g = i'
    · subst e
      rw [Array.getElem?_setIfInBounds_self_of_lt (by simpa using hlt)] at hi'
      cases hi'; rfl
    · rw [Array.getElem?_setIfInBounds_ne e, Array.getElem?_setIfInBounds_ne e] at hi'
      exact hb y (by rw [← S.gens]; exact Array.mem_iff_getElem?.mpr ⟨i', hi'⟩)

/-- a loop over the generator's pairs -/
theorem forGen {o1 : OsState} {x : Str} {px : Pos} {iter : Expr} {body : List Stmt} {pos : Pos} {Q : Flow → Shared → Prop} (hh : A.handled = none) (hroom : A.depth < recursionLimit) (hlim : B.NoLimit) (haC : a ≠ C) (haI : a ≠ I) (hC0 : sysModules < C)
    (Inv : Nat → TM → (Str → Option Value) → Prop) (hN : ∀ i T m, Inv i T m → (∃ t, T d = some (t, DI prog w kvs ep)) ∧ ∃ t, T cn = some (t, CellP (some nv)))
    (h : wpAny (model prog w) A (eval iter env) (fun xv s₁ => ∃ T m O, xv = .ref a ∧ St B env.locals T m O s₁ ∧ GenS prog w A a g C I d cn nv kvs ep 0 s₁ ∧ Free B env.locals T [a, C, I] ∧ OB O ∧ Inv 0 T m ∧ O.1 = o1) NoR s)
    (turn : ∀ i k u t T m O B₁ s, (kvs.map (·.1))[i]? = some k → Inv i T m → T t = none → OB O → (∀ b o, B.get? b = some o → B₁.get? b = some o) → St B₁ env.locals (upd T t ((7, 0, 0), TupP [nv, .int k u])) (fs m x (.ref t)) O s →
      wpAny (model prog w) A (execs body env) (TurnS B₁ env.locals O (Inv (i + 1)) Q) NoR s)
    (done : ∀ T m O s, Inv kvs.length T m → O.1 = o1 → OB O → St B env.locals T m O s → Q .next s)
    (hk : env.scope.kind = .function := by rfl) (hl : env.kindOf x = some .local := by rfl) (hs : ∀ x, foldedSetIterable iter env x = pure x := by intro _; rfl) :
    wpAny (model prog w) A (exec (.For (.Name x px) iter body [] pos) env) Q E s := by
  refine wpAny_For (wpAny_mono h (fun xv s₁ h₁ => ?_) fun _ _ e => e.elim) hs
  obtain ⟨T, m, O, rfl, S, G, hF, hb, hI, ho1⟩ := h₁
  refine wpAny_pyIter_gen G.is ?_
  have dAt : ∀ {B : Heap} {i T m O s}, St B env.locals T m O s → Inv i T m → s.heap.DictAt (PySem.intKind prog w) d kvs ep := fun S hI => let ⟨⟨t, h⟩, _⟩ := hN _ _ _ hI; S.dictAt h
  have cAt : ∀ {B : Heap} {i T m O s}, St B env.locals T m O s → Inv i T m → s.heap.IsCell cn (some nv) := fun S hI => let ⟨_, t, h⟩ := hN _ _ _ hI; let ⟨o, ho, hp⟩ := S.obj h; ⟨o, ho, hp⟩
  refine codeAny_forLoop_any (fun k s' => ∃ i T m O, k = kvs.length - i ∧ i ≤ kvs.length ∧ St B env.locals T m O s' ∧ GenS prog w A a g C I d cn nv kvs ep i s' ∧ Free B env.locals T [a, C, I] ∧ OB O ∧ Inv i T m ∧ O.1 = o1) ?_ kvs.length ⟨0, T, m, O, rfl, Nat.zero_le _, S, G, hF, hb, hI, ho1⟩
  rintro k s' ⟨i, T, m, O, rfl, hi, S, G, hF, hb, hI, ho1⟩
  rcases Nat.lt_or_ge i kvs.length with hlt | hge
  · refine noR (genItem hh hroom hlim S G hlt haC haI hC0 hF hb (dAt S hI) (cAt S hI) fun k u t O' s₁ hk' hTt hO' hb' S₁ G₁ ht => ?_)
    refine wpAny_of_eq (a := ()) rfl ?_
    refine wpAny_assign_Name (wpAny_storeName_local hl S₁.ns (fun h' hn hs => ?_) (by rw [hk]; rfl))
    have hF₁ : Free B env.locals (upd T t ((7, 0, 0), TupP [nv, .int k u])) [a, C, I] := fun b hb => ⟨by
      rw [upd_ne]; exact (hF b hb).1
      simp only [List.mem_cons, List.not_mem_nil, or_false] at hb
      rcases hb with rfl | rfl | rfl
      · exact fun e => ht.1 e.symm
      · exact fun e => ht.2.1 e.symm
      · exact fun e => ht.2.2 e.symm, (hF b hb).2⟩
    have S₂' := (S₁.local hn hs).tok (s₁.toks + 1)
    have S₂ := S₂'.into
    have G₂ : GenS prog w A a g C I d cn nv kvs ep (i + 1) { s₁ with heap := h', toks := s₁.toks + 1 } := G₁.frame (fun b hb o e => (hs.2 b (hF₁ b hb).2.1).trans e) rfl
    have under : ∀ b o, B.get? b = some o → (mask h' (upd T t ((7, 0, 0), TupP [nv, .int k u])) env.locals).get? b = some o := fun b o e => S₂'.under e
    refine noR (wpAny_mono (turn i k u t T m O' _ _ hk' hI hTt hb' under S₂) (fun f s₃ hT => ?_) fun _ _ e => e.elim)
    have nxt : (∃ T' m', St (mask h' (upd T t ((7, 0, 0), TupP [nv, .int k u])) env.locals) env.locals T' m' O' s₃ ∧ Inv (i + 1) T' m') → ∃ k, k < kvs.length - i ∧ ∃ j T m O, k = kvs.length - j ∧ j ≤ kvs.length ∧ St B env.locals T m O s₃ ∧ GenS prog w A a g C I d cn nv kvs ep j s₃ ∧ Free B env.locals T [a, C, I] ∧ OB O ∧ Inv j T m ∧ O.1 = o1 := by
      rintro ⟨T', m', S', hI'⟩
      refine ⟨kvs.length - (i + 1), by omega, i + 1, T', m', O', rfl, hlt, S'.back under, G₂.frame (fun b hb o e => S'.keep b o (by rw [mask_get (hF₁ b hb).1 (hF₁ b hb).2.1]; exact e)) (S'.gens.trans S₂.gens.symm), fun b hb => ⟨?_, (hF b hb).2⟩, hb', hI', hO'.trans ho1⟩
      obtain ⟨o, ho⟩ : ∃ o, h'.get? b = some o := by
        simp only [List.mem_cons, List.not_mem_nil, or_false] at hb
        rcases hb with rfl | rfl | rfl
        · obtain ⟨o, _, _, ho, _⟩ := G₂.is; exact ⟨o, ho⟩
        · exact G₂.ci.1
        · exact G₂.ci.2
      cases q : T' b with
      | none => rfl
      | some c => have := S'.neB q; rw [mask_get (hF₁ b hb).1 (hF₁ b hb).2.1, ho] at this; cases this
    cases f with
    | next => exact nxt hT
    | cont => exact nxt hT
    | brk => exact hT
    | ret v => exact hT
  · obtain rfl : i = kvs.length := Nat.le_antisymm hi hge
    obtain ⟨⟨td, hTd⟩, tc, hTc⟩ := hN _ _ _ hI
    have c1 := (hF C (by simp)).1
    have c2 := (hF I (by simp)).1
    refine noR (genDone (ne_of_none hTd c1) (ne_of_none hTd c2) (ne_of_none hTc c1) (ne_of_none hTc c2) hh hroom hlim S G hF hb (dAt S hI) (cAt S hI) fun O' s₁ hO' hb' S₁ => ?_)
    exact wpAny_execs_nil (done T m O' s₁ hI (hO'.trans ho1) hb' S₁)
end
end Mine
end
section
open PySem PySem.W PySem.Calls PyProof.Rows
set_option Elab.async false
set_option maxRecDepth 100000
namespace Mine
/-- a def's code and its table of inner codes -/
structure CodeK (K : Frag) (c P : Addr) : Prop where
  ex : ∃ vs file tf flags tg inF text tt sl, K.lookup c = some ⟨.type "code", none, .fields vs, sl⟩ ∧ vs[11]? = some (.ref P) ∧ vs.getD 11 .none = .ref P ∧ vs.getD 18 .none = .str file tf ∧
    vs.getD 7 .none = .int flags tg ∧ vs.getD 9 .none = .bool inF ∧ vs.getD 10 .none = .int text tt ∧ c ≠ P
def TabP (p0 : Array Value) (o : Obj) : Prop := ∃ more, o = { cls := .none, data := .fields (p0 ++ more) } ∧ TriplesOk (p0 ++ more).toList
section
variable {prog : Program} {w : World} {A : Around} {E : Value → Shared → Prop} {K : Frag} {mg mb : Str → Option Value} {B : Heap} {L : Addr} {T : TM} {m : Str → Option Value} {O : OG} {s : Shared} {t : Tag} {env : Env}
  {a C I d cn c P : Addr} {g : Nat} {nv : Value} {kvs : List (Int × Value)} {ep : Nat} {p0 : Array Value}
theorem CodeK.at (H : CodeK K c P) (X : K.In s.heap) {ps : Array Value} (hP : s.heap.get? P = some { cls := .none, data := .fields ps }) (ht : TriplesOk ps.toList) : s.heap.IsCode c P ps ∧ s.heap.TableAt c P ps := by
  obtain ⟨vs, file, tf, flags, tg, inF, text, tt, sl, e1, e2, f3, f4, f5, f6, f7, f11⟩ := H.ex
  have ho := X _ _ e1
  exact ⟨⟨_, vs, file, tf, flags, tg, inF, text, tt, _, ho, rfl, f3, f4, f5, f6, f7, hP, rfl, ht, f11⟩, ⟨_, vs, ho, rfl, rfl, e2⟩, hP⟩
theorem genCodeS {pos : Pos} {qual : Str} {scope : Scope} {Q : Value → Shared → Prop} (W : Wd K mg mb B) (S : St B L T m O s) (H : CodeK K c P) (hc : env.code = .ref c) (hP : T P = some (t, TabP p0)) (h : ∀ code s', St B L T m O s' → (∀ b o, b ≠ P → s.heap.get? b = some o → s'.heap.get? b = some o) → s'.gens = s.gens → Q code s') :
    wpAny (model prog w) A (genexprCode env pos qual scope) Q E s := by
  obtain ⟨o, ho, mr, rfl, htr⟩ := S.obj hP
  generalize hps : p0 ++ mr = ps at ho htr
  obtain ⟨hC, hT⟩ := H.at (W.X.keeps S.keep) ho htr
  cases hf : codeAmong pos ps.toList with
  | some c' => exact wpAny_genexprCode_hit hc hC hf (h _ s S (fun _ _ _ e => e) rfl)
  | none =>
    refine wpAny_genexprCodeX hc hC hT hf fun c' h' tk he _ _ _ _ hT' _ => ?_
    obtain ⟨_, hP'⟩ := hT'
    have S' := S.change (h' := h') (c' := (t, TabP p0)) hP (fun b o hb e => he b o hb e) hP' ⟨mr ++ _, by rw [← hps, Array.append_assoc], ?_⟩
    · rw [upd_same hP] at S'
      exact h _ _ S' (fun b o hb e => he b o hb e) rfl
    · rw [← Array.append_assoc, hps]
      simp only [Array.toList_append]
      exact TriplesOk_snoc _ _ _ _ htr
theorem builtinsForS {gl : Addr} {running : Addr} {Q : Addr → Shared → Prop} (W : Wd K mg mb B) (S : St B L T m O s) (hg : gl = mainGlobals) (h : Q builtinsNs s) : wpAny (model prog w) A (builtinsFor gl running) Q E s := by
  subst hg
  obtain ⟨bm, o, h1, h2, h3, h4, h5, h6⟩ := W.bm
  exact wpAny_builtinsFor (W.g.keeps S.keep) h1 h2 (S.keep _ _ h3) h4 h5 h6 h

/-- `((n, x) for x in d)` -/
theorem genE {nn x dn : Str} {p1 p2 p3 px pd : Pos} {kk : Nat} {scope : Scope} {pos : Pos} {cl : List (Str × Addr)} {td tc tP : Tag} {Q : Value → Shared → Prop}
    (W : Wd K mg mb B) (S : St B env.locals T m O s) (H : CodeK K c P) (hcode : env.code = .ref c) (hP : T P = some (tP, TabP p0)) (hd : T d = some (td, DI prog w kvs ep)) (hcn : T cn = some (tc, CellP (some nv))) (hm : m dn = some (.ref d))
    (hroom : A.depth < recursionLimit) (hb : OB O) (hgl : env.globals = mainGlobals)
    (hclos : closureFor scope env = pure cl) (hcl : cl.lookup nn = some cn) (hcell : ∀ y ∈ scope.names, y.2 ≠ .cell) (h0 : scope.names.lookup (".0" : Str) = some NameKind.local) (hx : scope.names.lookup x = some .local) (hn : scope.names.lookup nn = some .free)
    (hkind : scope.kind = .function) (hco : scope.isCoroutine = false) (hd1 : (nn == ("__debug__" : Str)) = false) (hd2 : (nn == ("__classdict__" : Str)) = false) (hd3 : (x == ("__debug__" : Str)) = false) (hd4 : (dn == ("__debug__" : Str)) = false)
    (hek : env.scope.kind = .function) (hel : env.kindOf dn = some .local) (hs : ∀ x, genFold (.Name dn pd) env x = pure x)
    (h : ∀ a C I g O' s', O'.1 = O.1 → OB O' → St B env.locals T m O' s' → Free B env.locals T [a, C, I] → a ≠ C → a ≠ I → sysModules < C → (∀ A' : Around, A'.handled = none → GenS prog w A' a g C I d cn nv kvs ep 0 s') → Q (.ref a) s') :
    wpAny (model prog w) A (eval (.GeneratorExp (.Tuple [.Name nn p1, .Name x p2] kk p3) [⟨.Name x px, .Name dn pd, [], 0⟩] scope pos) env) Q E s := by
  refine wpAny_GeneratorExp_make hco hclos hcell h0 hkind hroom (ldS S hm ?_ hek hel hd4) hs
  refine pyIterDict S hd fun I s₁ S₁ hF hI => ⟨W.lim.keeps S₁.keep, ?_⟩
  refine genCodeS W S₁ H hcode hP fun code s₂ S₂ hk₂ hg₂ => ?_
  have hIP : I ≠ P := fun q => by have := (hF I (by simp)).1; rw [q, hP] at this; cases this
  have hI₂ : s₂.heap.IsKeyIter I d 0 kvs.length ep := let ⟨o, ho, r⟩ := hI; ⟨o, hk₂ I o hIP ho, r⟩
  refine builtinsForS W S₂ hgl fun h' hn' hs' => ?_
  have hsz : h'.objs.size = s₂.heap.objs.size + 1 := by rw [hs'.1, Heap.size_push]
  have keep' : ∀ b o, s₂.heap.get? b = some o → h'.get? b = some o := fun b o e => hs'.extBut b o (Nat.ne_of_lt (Heap.lt_size e)) (Heap.get?_push_of_some _ e)
  have hIlt : @LT.lt Nat _ I s₂.heap.objs.size := let ⟨o, ho, _⟩ := hI₂; Heap.lt_size ho
  have hLlt : @LT.lt Nat _ env.locals s₂.heap.objs.size := S₂.ltL
  have hF₂ : ∀ b : Nat, s₂.heap.objs.size ≤ b → T b = none ∧ b ≠ env.locals ∧ B.get? b = none := fun b hb => ⟨S₂.none_of hb, neGt (by omega), by
    cases e : B.get? b with
    | none => rfl
    | some o => exact absurd (Heap.lt_size (S₂.keep _ _ e)) (Nat.not_lt.mpr hb)⟩
  have hdlt : @LT.lt Nat _ d s₂.heap.objs.size := S₂.lt hd
  have hclt : @LT.lt Nat _ cn s₂.heap.objs.size := S₂.lt hcn
  have keep₂ : ∀ b o, s₂.heap.get? b = some o → (h'.push { cls := .type "generator", data := .fields #[.int s₂.gens.size 0, .str "<genexpr>" (s₂.toks + 1), .str (env.qual ++ "<genexpr>") (s₂.toks + 1 + 1)] }).get? b = some o :=
    fun b o e => Heap.get?_push_of_some _ (keep' b o e)
  have S₃ := S₂.keeps keep₂
  refine h h'.objs.size s₂.heap.objs.size I s₂.gens.size (O.1, _) _ (by rfl) (fun y hy => ?_) ⟨S₃.ns, S₃.keep, S₃.LB, S₃.sat, rfl, S₃.os, S₃.nm, S₃.big⟩ (fun b hb => ?_) (neGt (by omega)) (neGt (by omega)) (Nat.lt_trans S₂.big S₂.ltL) fun A' hh => ?_
  · rcases Array.mem_push.mp hy with hy | rfl
    · exact hb y (by rw [← S₂.gens]; exact hy)
    · rfl
  · simp only [List.mem_cons, List.not_mem_nil, or_false] at hb
    rcases hb with rfl | rfl | rfl
    · exact hF₂ _ (by omega)
    · exact hF₂ _ (Nat.le_refl _)
    · exact hF b (by simp)
  · have hn₃ := hn'.push { cls := .type "generator", data := .fields #[.int s₂.gens.size 0, .str "<genexpr>" (s₂.toks + 1), .str (env.qual ++ "<genexpr>") (s₂.toks + 1 + 1)] }
    have hI₃ := hI₂.at fun o e => keep₂ I o e
    refine ⟨⟨_, _, _, Heap.get?_push_size _ rfl, rfl, rfl, rfl⟩, ⟨let ⟨o, _, _, ho, _⟩ := hn₃; ⟨o, ho⟩, let ⟨o, ho, _⟩ := hI₃; ⟨o, ho⟩⟩, _, Array.getElem?_push_size .., fun s'' hal hD hc' => ⟨rfl, ?_⟩⟩
    have G₀ : GSt prog w s₂.heap.objs.size I d cn nv kvs ep 0 s''.heap := ⟨⟨_, hn₃.at' fun o e => hal _ (by simp) o e⟩, hI₃.at fun o e => hal I (by simp) o e, hD, hc'⟩
    exact pairStart (A := A'.in1) (cenv := genEnv scope cl s₂.heap.objs.size code builtinsNs env) hh hx (by show (scope.kind == .class || (scope.kind == .module && _)) = false; rw [hkind]; rfl) hkind hco hn hcl hd1 hd2 hd3 (neGt hIlt) (neGt hdlt) (neGt hclt)
      (ne_of_none hd (hF I (by simp)).1).symm (ne_of_none hcn (hF I (by simp)).1).symm s'' G₀
end
end Mine
end
section
open PySem PySem.W PySem.Calls PyProof.Rows
set_option Elab.async false
set_option maxRecDepth 100000
namespace Mine
-- "L": what a name holds
local macro_rules | `(tactic| walk_at "L") => `(tactic| first
  | assumption
  | exact fs_eq
  | (refine fs_ne (by decide) ?_; walk_at "L")
  | rfl)
-- "M": the next step of the walk, where it is the same everywhere
local macro_rules | `(tactic| walk_at "M") => `(tactic| first
  | ((with_reducible refine loadG ?_); refine ldnS (by assumption) (by walk_at "L") ?_)
  | ((with_reducible refine stG ?_); refine stS (by assumption) ?_; intro _ _)
  | ((with_reducible refine nameG ?_); refine ldS (by assumption) (by walk_at "L") ?_)
  | with_reducible refine wpAny_execs_cons ?_
  | with_reducible refine wpAny_execs_nil ?_
  | with_reducible refine wpAny_BinOp ?_
  | with_reducible refine wpAny_Constant_int ?_
  | with_reducible refine wpAny_Constant_str ?_
  | with_reducible refine Constant_none ?_
  | with_reducible refine Constant_bool ?_
  | with_reducible refine wpAny_Compare1 ?_
  | with_reducible refine wpAny_isTrue_Compare1 ?_
  | with_reducible refine isTrue_not ?_
  | with_reducible refine isTrue_and_nil ?_
  | with_reducible refine isTrue_or_nil ?_
  | with_reducible refine isTrue_and ?_
  | with_reducible refine isTrue_or ?_
  | with_reducible refine IfExp_ ?_
  | with_reducible refine wpAny_If ?_
  | ((with_reducible refine asgN ?_ ?_); (focus rfl))
  | ((with_reducible refine asgS ?_ ?_); (focus rfl))
  | ((with_reducible refine asgA ?_ ?_); (focus rfl))
  | ((with_reducible refine exprE ?_ ?_ ?_); (focus rfl); (focus rfl))
  | with_reducible refine wpAny_AugAssign_Name ?_
  | with_reducible refine wpAny_Return_some ?_
  | with_reducible refine wpAny_Break ?_
  | with_reducible refine wpAny_Continue ?_
  | ((with_reducible refine isG ?_); refine wpAny_is_other (by rfl) (by intro e; cases e) ?_)
  | ((with_reducible refine trG ?_); refine isTrue_plain ?_)
  | with_reducible refine wpAny_truthy_bool ?_
  | with_reducible refine add_int ?_
  | with_reducible refine iadd_int ?_
  | with_reducible refine sub_int ?_
  | with_reducible refine lt_int ?_
  | with_reducible refine le_int ?_
  | with_reducible refine gt_int ?_
  | with_reducible refine eq_int ?_
  | with_reducible refine ne_int ?_
  | with_reducible refine splE ?_
  | ((with_reducible refine splG ?_); refine spliced_more ?_)
  | with_reducible refine Tuple_ ?_
  | with_reducible refine List_ ?_
  | ((with_reducible refine methC (pl := ?_) ?_ ?_); rotate_left; (focus rfl))
  | ((with_reducible refine callC ?_ ?_); (focus rfl))
  | ((with_reducible refine cwB1 ?_ ?_ ?_); (focus rfl); (focus rfl))
  | ((with_reducible refine cwT1 ?_ ?_ ?_); (focus rfl); (focus rfl))
  | ((with_reducible refine cwM1 ?_ ?_ ?_); (focus rfl); (focus rfl))
  | with_reducible refine Subscript_ ?_
  | ((with_reducible refine attrE ?_ ?_); (focus with_unfolding_all rfl))
  | (show wpAny _ _ (execs _ _) _ _ _; first | refine wpAny_execs_cons ?_ | refine wpAny_execs_nil ?_))
section
variable {prog : Program} {w : World} {A : Around} {E : Value → Shared → Prop} {K : Frag} {mg mb : Str → Option Value} {B : Heap} {L : Addr} {T : TM} {m : Str → Option Value} {O : OG} {s : Shared} {t : Tag} {env : Env}
  {gid k : Nat} {C x dx fn : Addr} {f : Str → Option Value} {name : Str} {ox : Obj} {od : Option Obj} {dir ca : Bool} {ns : List Int} {R : Int → Int → Prop}
  {dn da dp : Addr} {nk ak pk : List (Int × Value)} {en ea ep : Nat}

def forBody : Stmt → List Stmt
  | .For _ _ b _ _ => b
  | _ => []
theorem val_mem {kvs : List (Int × Value)} (hn : (kvs.map (·.1)).Nodup) {q : Int × Value} (hq : q ∈ kvs) : valueAt kvs q.1 = some q.2 := by
  obtain ⟨i, hi⟩ := List.mem_iff_getElem?.mp hq
  exact valueAt_of_get hn hi
theorem GrC.keysA (G : GrC prog w T gid C x dir ca ns R dx k f dn da dp nk ak pk en ea ep) : (ak.map (·.1)).Nodup := by rw [G.kA]; exact G.nd
theorem GrC.addEdge {T' : TM} {u v : Int} {a e : Addr} {ks : List (Int × Value)} {ei ei' : Nat} (G : GrC prog w T gid C x dir ca ns R dx k f dn da dp nk ak pk en ea ep) (hu : u ∈ ns) (hv : v ∈ ns) (ha : valueAt ak u = some (.ref a)) (hTa : T a = some ((2, gid, u), DI prog w ks ei))
    (h1 : T' a = some ((2, gid, u), DI prog w (stored ks v (.ref e)) ei')) (hT : ∀ b c, T b = some c → c.1 ≠ (2, gid, u) → T' b = some c) (he : T' e = some ((4, 0, 0), EmpP prog w)) (hk : ∀ j, j ∈ ks.map (·.1) ↔ R u j) (hE : Emps prog w T ks) :
    GrC prog w T' gid C x dir ca ns (fun p q => R p q ∨ (p = u ∧ q = v)) dx k f dn da dp nk ak pk en ea ep where
  I := ⟨hT _ _ G.I.i (by intro e; cases e), hT _ _ G.I.d (by intro e; cases e)⟩
  hk := G.hk
  fN := G.fN
  fA := G.fA
  fC := G.fC
  fO := G.fO
  tN := hT _ _ G.tN (by intro e; cases e)
  kN := G.kN
  vN := G.vN.at fun a c e z => hT a c e (by rw [z]; intro e; cases e)
  tA := hT _ _ G.tA (by intro e; cases e)
  kA := G.kA
  vA := fun q hq => by
    by_cases e' : q.1 = u
    · have hq2 : q.2 = .ref a := by have := val_mem G.keysA hq; rw [e', ha] at this; exact (Option.some.inj this).symm
      rw [hq2, e']
      refine ⟨a, _, ei', rfl, h1, fun j => ?_, fun p hp => ?_⟩
      · rw [keys_stored]
        constructor
        · intro h
          split at h
          · exact .inl ((hk j).mp h)
          · rcases List.mem_append.mp h with h | h
            · exact .inl ((hk j).mp h)
            · exact .inr ⟨rfl, List.mem_singleton.mp h⟩
        · rintro (h | ⟨_, rfl⟩)
          · split
            · exact (hk j).mpr h
            · exact List.mem_append_left _ ((hk j).mpr h)
          · split
            · assumption
            · exact List.mem_append_right _ (List.mem_singleton.mpr rfl)
      · rcases mem_stored hp with rfl | ⟨hp, _⟩
        · exact ⟨e, rfl, he⟩
        · obtain ⟨e₀, q1, q2⟩ := hE p hp
          exact ⟨e₀, q1, hT _ _ q2 (by intro e; cases e)⟩
    · have h := (G.vA q hq).at (T' := T') fun b c hb z => hT b c hb (by rcases z with z | z <;> (rw [z]; intro e; cases e; try exact e' rfl))
      obtain ⟨a', ks', ep', q1, q2, q3, q4⟩ := h
      exact ⟨a', ks', ep', q1, q2, fun j => (q3 j).trans ⟨.inl, fun h => h.resolve_right fun z => e' z.1⟩, q4⟩
  fS := G.fS
  fP := G.fP
  tP := fun e => hT _ _ (G.tP e) (by intro e; cases e)
  kP := G.kP
  vP := fun e q hq => let ⟨P, h1, h2⟩ := G.vP e q hq; ⟨P, h1, h2.at fun a c e z => hT a c e (by rcases z with z | z <;> (rw [z]; intro e; cases e))⟩
  cl := fun p q h => by
    rcases h with h | ⟨rfl, rfl⟩
    · exact G.cl p q h
    · exact ⟨hu, hv⟩
  len := G.len
  nd := G.nd

/-- one pair is put in: the body's turn, in Graph -/
theorem edgeTurnG {u v : Int} {uu uv : Tok} {tt d : Addr} {tg : Tag} {Q : Flow → Shared → Prop} {L : Addr} {cdv : Value} (W : Wd K mg mb B) (S : St B L T m O s) (hr : A.depth < 900) (hh : A.handled = none) (hln : nsIn K mainGlobals "len" = some none) (H : ClsK K 624) (hg0 : gid ≠ 0)
    (G : Gr prog w T gid 624 x false ca ns R) (hu : u ∈ ns) (hv : v ∈ ns) (ht : T tt = some (tg, TupP [.int u uu, .int v uv])) (hm1 : m "self" = some (.ref x)) (hm2 : m "attr" = some (.ref d)) (hm3 : m "e" = some (.ref tt)) (ha : T d = some ((8, 0, 0), EmpP prog w))
    (h : ∀ T' m' s', Keep gid T T' → Gr prog w T' gid 624 x false ca ns (fun p q => (R p q ∨ (p = u ∧ q = v)) ∨ (p = v ∧ q = u)) → m' "self" = some (.ref x) → m' "attr" = some (.ref d) → St B L T' m' O s' → Q .next s') :
    wpAny (model prog w) A (execs (forBody (nth 0 (bodyOf (meth 14 21)))) (envF "Graph.add_edges_from" (meth 14 21) L 492 cdv [])) Q NoR s := by
  obtain ⟨dx, k, f, dn, da, dp, nk, ak, pk, en, ea, ep, G⟩ := G
  walk_at "M"
  walk_at "M"
  repeat walk_at "M"
  refine ldBuilS (v := .builtin "len") W S hln rfl (by decide) ?_
  repeat walk_at "M"
  refine lenTupS S ht (by simp) fun ul tk => ?_
  repeat walk_at "M"
  rename_i s₁ S₁
  clear S
  refine unpack2S (B := B) (O := O) hh rfl rfl rfl rfl rfl (ldS S₁ (by walk_at "L") ⟨tt, _, _, T, _, tg, rfl, S₁, ht, fun s₂ S₂ => ?_⟩)
  clear S₁
  repeat walk_at "M"
  refine newEmpS S₂ (8, 0, 1) fun dd s₃ hdd S₃ => ?_
  clear S₂
  have G₁ : GrC prog w (upd T dd ((8, 0, 1), EmpP prog w)) gid 624 x false ca ns R dx k f dn da dp nk ak pk en ea ep := G.mono fun a c e _ => upd_new e hdd
  have a₁ := upd_new (c' := ((8, 0, 1), EmpP prog w)) ha hdd
  have d₁ : upd T dd ((8, 0, 1), EmpP prog w) dd = some ((8, 0, 1), EmpP prog w) := upd_self
  have K₁ : Keep gid T (upd T dd ((8, 0, 1), EmpP prog w)) := .of_sub (.new hdd)
  generalize upd T dd ((8, 0, 1), EmpP prog w) = T₁ at S₃ G₁ a₁ d₁ K₁
  clear G ha ht
  walk_at "M"
  rename_i s₄ S₄
  clear S₃
  repeat walk_at "M"
  refine fldS W S₄ H G₁.I H.aN G₁.fN rfl fun tk₁ => ?_
  refine notInDictS S₄ G₁.tN fun tk₂ => ?_
  rw [val_isSome (S₄.nodup G₁.tN), G₁.kN, decide_eq_true hu]
  repeat walk_at "M"
  refine fldS W S₄ H G₁.I H.aN G₁.fN rfl fun tk₃ => ?_
  refine notInDictS S₄ G₁.tN fun tk₄ => ?_
  rw [val_isSome (S₄.nodup G₁.tN), G₁.kN, decide_eq_true hv]
  repeat walk_at "M"
  refine fldS W S₄ H G₁.I H.aA G₁.fA rfl fun tk₅ => ?_
  repeat walk_at "M"
  obtain ⟨vv, hvv, au, ks, ei, rfl, hau, hks, hEs⟩ := G₁.adjAt hu G₁.keysA
  refine subDictS S₄ G₁.tA hvv fun tk₆ => ?_
  refine methDictS PySem.F.slot_dict_get typeOf_dget S₄ hau ?_
  repeat walk_at "M"
  refine facCall (4, 0, 0) W S₄ H G₁.I hr H.mE fac4 (G₁.fO _ (by decide)) fun e s₅ he S₅ => ?_
  replace S₅ := S₅.retag (c' := ((4, 0, 0), EmpP prog w)) upd_self fun o ho => ⟨0, ho⟩
  rw [upd_upd] at S₅
  have G₂ : GrC prog w (upd T₁ e ((4, 0, 0), EmpP prog w)) gid 624 x false ca ns R dx k f dn da dp nk ak pk en ea ep := G₁.mono fun a c q _ => upd_new q he
  have a₂ := upd_new (c' := ((4, 0, 0), EmpP prog w)) a₁ he
  have d₂ := upd_new (c' := ((4, 0, 0), EmpP prog w)) d₁ he
  have hau₂ := upd_new (c' := ((4, 0, 0), EmpP prog w)) hau he
  have hEs₂ : Emps prog w (upd T₁ e ((4, 0, 0), EmpP prog w)) ks := hEs.mono fun a c q _ => upd_new q he
  have K₂ : Keep gid T (upd T₁ e ((4, 0, 0), EmpP prog w)) := K₁.trans (.of_sub (.new he))
  obtain ⟨e₀, h0, te₀⟩ : ∃ e₀, (valueAt ks v).getD (.ref e) = .ref e₀ ∧ upd T₁ e ((4, 0, 0), EmpP prog w) e₀ = some ((4, 0, 0), EmpP prog w) := by
    cases q : valueAt ks v with
    | none => exact ⟨e, rfl, upd_self⟩
    | some y =>
      have hmem : v ∈ ks.map (·.1) := Decidable.byContradiction fun z => by rw [valueAt_none_of_not_mem z] at q; cases q
      obtain ⟨y', hy, hym⟩ := val_of_mem (S₅.nodup hau₂) hmem
      rw [q] at hy; cases hy
      obtain ⟨e₁, r1, r2⟩ := hEs₂ _ hym
      exact ⟨e₁, r1, r2⟩
  generalize upd T₁ e ((4, 0, 0), EmpP prog w) = T₂ at S₅ G₂ a₂ d₂ hau₂ hEs₂ K₂ te₀
  clear S₄ G₁ a₁ d₁ K₁ hau hEs he
  walk_at "M"
  refine get2S S₅ hau₂ fun tk₇ => ?_
  rw [h0]
  walk_at "M"
  rename_i s₆ S₆
  clear S₅
  repeat walk_at "M"
  refine methEmpS PySem.F.slot_dict_update typeOf_dupd S₆ te₀ ?_
  repeat walk_at "M"
  refine updEmpS S₆ te₀ a₂ (ne_of_tag te₀ a₂ (by intro e; cases e)) fun s₇ S₇ => ?_
  clear S₆
  repeat walk_at "M"
  refine methEmpS PySem.F.slot_dict_update typeOf_dupd S₇ te₀ ?_
  repeat walk_at "M"
  refine updEmpS S₇ te₀ d₂ (ne_of_tag te₀ d₂ (by intro e; cases e)) fun s₈ S₈ => ?_
  clear S₇ d₂
  repeat walk_at "M"
  refine fldS W S₈ H G₂.I H.aA G₂.fA rfl fun tk₈ => ?_
  repeat walk_at "M"
  refine subDictS S₈ G₂.tA hvv fun tk₉ => ?_
  repeat walk_at "M"
  have hkl : ks.length ≤ 6 := by
    have := nodup_le (S₈.nodup hau₂) (r := ns) fun j hj => (G₂.cl u j ((hks j).mp hj)).2
    rw [List.length_map] at this; exact Nat.le_trans this G₂.len
  refine setDictS S₈ hau₂ (by rw [sizeLine_eq]; omega) fun ei' s₉ S₉ => ?_
  have G₃ := G₂.addEdge (T' := upd T₂ au ((2, gid, u), DI prog w (stored ks v (.ref e₀)) ei')) hu hv hvv hau₂ upd_self (fun b c q z => upd_tag q hau₂ z) (upd_tag te₀ hau₂ (by intro e; cases e)) hks hEs₂
  have a₃ := upd_tag (c' := ((2, gid, u), DI prog w (stored ks v (.ref e₀)) ei')) a₂ hau₂ (by intro e; cases e)
  have te₃ := upd_tag (c' := ((2, gid, u), DI prog w (stored ks v (.ref e₀)) ei')) te₀ hau₂ (by intro e; cases e)
  have K₃ : Keep gid T (upd T₂ au ((2, gid, u), DI prog w (stored ks v (.ref e₀)) ei')) := fun b c q z => upd_tag (K₂ b c q z) hau₂ (by intro z'; rw [z'] at z; exact z rfl)
  generalize upd T₂ au ((2, gid, u), DI prog w (stored ks v (.ref e₀)) ei') = T₃ at S₉ G₃ a₃ te₃ K₃
  clear S₈ G₂ a₂ te₀ hau₂ hEs₂ K₂ hvv hks hkl
  repeat walk_at "M"
  refine fldS W S₉ H G₃.I H.aA G₃.fA rfl fun tk₁₀ => ?_
  repeat walk_at "M"
  obtain ⟨vv, hvv, av, ks', ei₂, rfl, hav, hks', hEs'⟩ := G₃.adjAt hv G₃.keysA
  refine subDictS S₉ G₃.tA hvv fun tk₁₁ => ?_
  repeat walk_at "M"
  have hkl : ks'.length ≤ 6 := by
    have := nodup_le (S₉.nodup hav) (r := ns) fun j hj => (G₃.cl v j ((hks' j).mp hj)).2
    rw [List.length_map] at this; exact Nat.le_trans this G₃.len
  refine setDictS S₉ hav (by rw [sizeLine_eq]; omega) fun ei₂' s₁₀ S₁₀ => ?_
  have G₄ := G₃.addEdge (T' := upd T₃ av ((2, gid, v), DI prog w (stored ks' u (.ref e₀)) ei₂')) hv hu hvv hav upd_self (fun b c q z => upd_tag q hav z) (upd_tag te₃ hav (by intro e; cases e)) hks' hEs'
  have K₄ : Keep gid T (upd T₃ av ((2, gid, v), DI prog w (stored ks' u (.ref e₀)) ei₂')) := fun b c q z => upd_tag (K₃ b c q z) hav (by intro z'; rw [z'] at z; exact z rfl)
  clear S₉
  repeat walk_at "M"
  exact h _ _ _ K₄ ⟨_, _, _, _, _, _, _, _, _, _, _, _, G₄⟩ (by walk_at "L") (by walk_at "L") S₁₀
end
end Mine
end
section
open PySem PySem.W PySem.Calls PyProof.Rows
set_option Elab.async false
set_option maxRecDepth 100000
namespace Mine
-- "L": what a name holds
local macro_rules | `(tactic| walk_at "L") => `(tactic| first
  | assumption
  | exact fs_eq
  | (refine fs_ne (by decide) ?_; walk_at "L")
  | rfl)
-- "M": the next step of the walk, where it is the same everywhere
local macro_rules | `(tactic| walk_at "M") => `(tactic| first
  | ((with_reducible refine loadG ?_); refine ldnS (by assumption) (by walk_at "L") ?_)
  | ((with_reducible refine stG ?_); refine stS (by assumption) ?_; intro _ _)
  | ((with_reducible refine nameG ?_); refine ldS (by assumption) (by walk_at "L") ?_)
  | with_reducible refine wpAny_execs_cons ?_
  | with_reducible refine wpAny_execs_nil ?_
  | with_reducible refine wpAny_BinOp ?_
  | with_reducible refine wpAny_Constant_int ?_
  | with_reducible refine wpAny_Constant_str ?_
  | with_reducible refine Constant_none ?_
  | with_reducible refine Constant_bool ?_
  | with_reducible refine wpAny_Compare1 ?_
  | with_reducible refine wpAny_isTrue_Compare1 ?_
  | with_reducible refine isTrue_not ?_
  | with_reducible refine isTrue_and_nil ?_
  | with_reducible refine isTrue_or_nil ?_
  | with_reducible refine isTrue_and ?_
  | with_reducible refine isTrue_or ?_
  | with_reducible refine IfExp_ ?_
  | with_reducible refine wpAny_If ?_
  | ((with_reducible refine asgN ?_ ?_); (focus rfl))
  | ((with_reducible refine asgS ?_ ?_); (focus rfl))
  | ((with_reducible refine asgA ?_ ?_); (focus rfl))
  | ((with_reducible refine exprE ?_ ?_ ?_); (focus rfl); (focus rfl))
  | with_reducible refine wpAny_AugAssign_Name ?_
  | with_reducible refine wpAny_Return_some ?_
  | with_reducible refine wpAny_Break ?_
  | with_reducible refine wpAny_Continue ?_
  | ((with_reducible refine isG ?_); refine wpAny_is_other (by rfl) (by intro e; cases e) ?_)
  | ((with_reducible refine trG ?_); refine isTrue_plain ?_)
  | with_reducible refine wpAny_truthy_bool ?_
  | with_reducible refine add_int ?_
  | with_reducible refine iadd_int ?_
  | with_reducible refine sub_int ?_
  | with_reducible refine lt_int ?_
  | with_reducible refine le_int ?_
  | with_reducible refine gt_int ?_
  | with_reducible refine eq_int ?_
  | with_reducible refine ne_int ?_
  | with_reducible refine splE ?_
  | ((with_reducible refine splG ?_); refine spliced_more ?_)
  | with_reducible refine Tuple_ ?_
  | with_reducible refine List_ ?_
  | ((with_reducible refine methC (pl := ?_) ?_ ?_); rotate_left; (focus rfl))
  | ((with_reducible refine callC ?_ ?_); (focus rfl))
  | ((with_reducible refine cwB1 ?_ ?_ ?_); (focus rfl); (focus rfl))
  | ((with_reducible refine cwT1 ?_ ?_ ?_); (focus rfl); (focus rfl))
  | ((with_reducible refine cwM1 ?_ ?_ ?_); (focus rfl); (focus rfl))
  | with_reducible refine Subscript_ ?_
  | ((with_reducible refine attrE ?_ ?_); (focus with_unfolding_all rfl))
  | (show wpAny _ _ (execs _ _) _ _ _; first | refine wpAny_execs_cons ?_ | refine wpAny_execs_nil ?_))
section
variable {prog : Program} {w : World} {A : Around} {E : Value → Shared → Prop} {K : Frag} {mg mb : Str → Option Value} {B : Heap} {L : Addr} {T : TM} {m : Str → Option Value} {O : OG} {s : Shared} {t : Tag} {env : Env}
  {gid k : Nat} {C x dx fn : Addr} {f : Str → Option Value} {name : Str} {ox : Obj} {od : Option Obj} {dir ca : Bool} {ns : List Int} {R : Int → Int → Prop}
  {dn da dp : Addr} {nk ak pk : List (Int × Value)} {en ea ep : Nat}

theorem GrC.addPred {T' : TM} {u v : Int} {a e : Addr} {ps : List (Int × Value)} {ei ei' : Nat} (G : GrC prog w T gid C x true ca ns R dx k f dn da dp nk ak pk en ea ep) (hu : u ∈ ns) (hnd : (pk.map (·.1)).Nodup) (ha : valueAt pk v = some (.ref a)) (hTa : T a = some ((3, gid, v), DI prog w ps ei))
    (h1 : T' a = some ((3, gid, v), DI prog w (stored ps u (.ref e)) ei')) (hT : ∀ b c, T b = some c → c.1 ≠ (3, gid, v) → T' b = some c) (he : T' e = some ((4, 0, 0), EmpP prog w)) (hk : ∀ j ∈ ps.map (·.1), j ∈ ns) (hE : Emps prog w T ps) :
    GrC prog w T' gid C x true ca ns R dx k f dn da dp nk ak pk en ea ep where
  I := ⟨hT _ _ G.I.i (by intro e; cases e), hT _ _ G.I.d (by intro e; cases e)⟩
  hk := G.hk
  fN := G.fN
  fA := G.fA
  fC := G.fC
  fO := G.fO
  tN := hT _ _ G.tN (by intro e; cases e)
  kN := G.kN
  vN := G.vN.at fun a c e z => hT a c e (by rw [z]; intro e; cases e)
  tA := hT _ _ G.tA (by intro e; cases e)
  kA := G.kA
  vA := fun q hq => (G.vA q hq).at fun b c hb z => hT b c hb (by rcases z with z | z <;> (rw [z]; intro e; cases e))
  fS := G.fS
  fP := G.fP
  tP := fun e => hT _ _ (G.tP e) (by intro e; cases e)
  kP := G.kP
  vP := fun e' q hq => by
    by_cases eq : q.1 = v
    · have hq2 : q.2 = .ref a := by have := val_mem hnd hq; rw [eq, ha] at this; exact (Option.some.inj this).symm
      rw [hq2, eq]
      refine ⟨fun j => j ∈ (stored ps u (.ref e)).map (·.1), fun j hj => ?_, a, _, ei', rfl, h1, fun j => Iff.rfl, fun p hp => ?_⟩
      · dsimp only at hj
        rw [keys_stored] at hj
        split at hj
        · exact hk j hj
        · rcases List.mem_append.mp hj with hj | hj
          · exact hk j hj
          · rw [List.mem_singleton.mp hj]; exact hu
      · rcases mem_stored hp with rfl | ⟨hp, _⟩
        · exact ⟨e, rfl, he⟩
        · obtain ⟨e₀, q1, q2⟩ := hE p hp
          exact ⟨e₀, q1, hT _ _ q2 (by intro e; cases e)⟩
    · obtain ⟨P, q1, q2⟩ := G.vP e' q hq
      exact ⟨P, q1, q2.at fun b c hb z => hT b c hb (by rcases z with z | z <;> (rw [z]; intro e; cases e; try exact eq rfl))⟩
  cl := G.cl
  len := G.len
  nd := G.nd

/-- one pair is put in: the body's turn, in DiGraph -/
theorem edgeTurnD {u v : Int} {uu uv : Tok} {tt d : Addr} {tg : Tag} {Q : Flow → Shared → Prop} {L : Addr} {cdv : Value} (W : Wd K mg mb B) (S : St B L T m O s) (hr : A.depth < 900) (hh : A.handled = none) (hln : nsIn K mainGlobals "len" = some none) (H : ClsK K 853) (hg0 : gid ≠ 0)
    (G : Gr prog w T gid 853 x true ca ns R) (hu : u ∈ ns) (hv : v ∈ ns) (ht : T tt = some (tg, TupP [.int u uu, .int v uv])) (hm1 : m "self" = some (.ref x)) (hm2 : m "attr" = some (.ref d)) (hm3 : m "e" = some (.ref tt)) (ha : T d = some ((8, 0, 0), EmpP prog w))
    (h : ∀ T' m' s', Keep gid T T' → Gr prog w T' gid 853 x true ca ns (fun p q => R p q ∨ (p = u ∧ q = v)) → m' "self" = some (.ref x) → m' "attr" = some (.ref d) → St B L T' m' O s' → Q .next s') :
    wpAny (model prog w) A (execs (forBody (nth 0 (bodyOf (meth 18 9)))) (envF "DiGraph.add_edges_from" (meth 18 9) L 726 cdv [])) Q NoR s := by
  obtain ⟨dx, k, f, dn, da, dp, nk, ak, pk, en, ea, ep, G⟩ := G
  walk_at "M"
  walk_at "M"
  repeat walk_at "M"
  refine ldBuilS (v := .builtin "len") W S hln rfl (by decide) ?_
  repeat walk_at "M"
  refine lenTupS S ht (by simp) fun ul tk => ?_
  repeat walk_at "M"
  rename_i s₁ S₁
  clear S
  refine unpack2S (B := B) (O := O) hh rfl rfl rfl rfl rfl (ldS S₁ (by walk_at "L") ⟨tt, _, _, T, _, tg, rfl, S₁, ht, fun s₂ S₂ => ?_⟩)
  clear S₁
  repeat walk_at "M"
  refine newEmpS S₂ (8, 0, 1) fun dd s₃ hdd S₃ => ?_
  clear S₂
  have G₁ : GrC prog w (upd T dd ((8, 0, 1), EmpP prog w)) gid 853 x true ca ns R dx k f dn da dp nk ak pk en ea ep := G.mono fun a c e _ => upd_new e hdd
  have a₁ := upd_new (c' := ((8, 0, 1), EmpP prog w)) ha hdd
  have d₁ : upd T dd ((8, 0, 1), EmpP prog w) dd = some ((8, 0, 1), EmpP prog w) := upd_self
  have K₁ : Keep gid T (upd T dd ((8, 0, 1), EmpP prog w)) := .of_sub (.new hdd)
  generalize upd T dd ((8, 0, 1), EmpP prog w) = T₁ at S₃ G₁ a₁ d₁ K₁
  clear G ha ht
  walk_at "M"
  rename_i s₄ S₄
  clear S₃
  repeat walk_at "M"
  refine fldS W S₄ H G₁.I H.aS (G₁.fS rfl) rfl fun tk₁ => ?_
  refine notInDictS S₄ G₁.tA fun tk₂ => ?_
  rw [val_isSome (S₄.nodup G₁.tA), G₁.kA, decide_eq_true hu]
  repeat walk_at "M"
  refine fldS W S₄ H G₁.I H.aS (G₁.fS rfl) rfl fun tk₃ => ?_
  refine notInDictS S₄ G₁.tA fun tk₄ => ?_
  rw [val_isSome (S₄.nodup G₁.tA), G₁.kA, decide_eq_true hv]
  repeat walk_at "M"
  refine fldS W S₄ H G₁.I H.aA G₁.fA rfl fun tk₅ => ?_
  repeat walk_at "M"
  obtain ⟨vv, hvv, au, ks, ei, rfl, hau, hks, hEs⟩ := G₁.adjAt hu G₁.keysA
  refine subDictS S₄ G₁.tA hvv fun tk₆ => ?_
  refine methDictS PySem.F.slot_dict_get typeOf_dget S₄ hau ?_
  repeat walk_at "M"
  refine facCall (4, 0, 0) W S₄ H G₁.I hr H.mE fac4 (G₁.fO _ (by decide)) fun e s₅ he S₅ => ?_
  replace S₅ := S₅.retag (c' := ((4, 0, 0), EmpP prog w)) upd_self fun o ho => ⟨0, ho⟩
  rw [upd_upd] at S₅
  have G₂ : GrC prog w (upd T₁ e ((4, 0, 0), EmpP prog w)) gid 853 x true ca ns R dx k f dn da dp nk ak pk en ea ep := G₁.mono fun a c q _ => upd_new q he
  have a₂ := upd_new (c' := ((4, 0, 0), EmpP prog w)) a₁ he
  have d₂ := upd_new (c' := ((4, 0, 0), EmpP prog w)) d₁ he
  have hau₂ := upd_new (c' := ((4, 0, 0), EmpP prog w)) hau he
  have hEs₂ : Emps prog w (upd T₁ e ((4, 0, 0), EmpP prog w)) ks := hEs.mono fun a c q _ => upd_new q he
  have K₂ : Keep gid T (upd T₁ e ((4, 0, 0), EmpP prog w)) := K₁.trans (.of_sub (.new he))
  obtain ⟨e₀, h0, te₀⟩ : ∃ e₀, (valueAt ks v).getD (.ref e) = .ref e₀ ∧ upd T₁ e ((4, 0, 0), EmpP prog w) e₀ = some ((4, 0, 0), EmpP prog w) := by
    cases q : valueAt ks v with
    | none => exact ⟨e, rfl, upd_self⟩
    | some y =>
      have hmem : v ∈ ks.map (·.1) := Decidable.byContradiction fun z => by rw [valueAt_none_of_not_mem z] at q; cases q
      obtain ⟨y', hy, hym⟩ := val_of_mem (S₅.nodup hau₂) hmem
      rw [q] at hy; cases hy
      obtain ⟨e₁, r1, r2⟩ := hEs₂ _ hym
      exact ⟨e₁, r1, r2⟩
  generalize upd T₁ e ((4, 0, 0), EmpP prog w) = T₂ at S₅ G₂ a₂ d₂ hau₂ hEs₂ K₂ te₀
  clear S₄ G₁ a₁ d₁ K₁ hau hEs he
  walk_at "M"
  refine get2S S₅ hau₂ fun tk₇ => ?_
  rw [h0]
  walk_at "M"
  rename_i s₆ S₆
  clear S₅
  repeat walk_at "M"
  refine methEmpS PySem.F.slot_dict_update typeOf_dupd S₆ te₀ ?_
  repeat walk_at "M"
  refine updEmpS S₆ te₀ a₂ (ne_of_tag te₀ a₂ (by intro e; cases e)) fun s₇ S₇ => ?_
  clear S₆
  repeat walk_at "M"
  refine methEmpS PySem.F.slot_dict_update typeOf_dupd S₇ te₀ ?_
  repeat walk_at "M"
  refine updEmpS S₇ te₀ d₂ (ne_of_tag te₀ d₂ (by intro e; cases e)) fun s₈ S₈ => ?_
  clear S₇ d₂
  repeat walk_at "M"
  refine fldS W S₈ H G₂.I H.aS (G₂.fS rfl) rfl fun tk₈ => ?_
  repeat walk_at "M"
  refine subDictS S₈ G₂.tA hvv fun tk₉ => ?_
  repeat walk_at "M"
  have hkl : ks.length ≤ 6 := by
    have := nodup_le (S₈.nodup hau₂) (r := ns) fun j hj => (G₂.cl u j ((hks j).mp hj)).2
    rw [List.length_map] at this; exact Nat.le_trans this G₂.len
  refine setDictS S₈ hau₂ (by rw [sizeLine_eq]; omega) fun ei' s₉ S₉ => ?_
  have G₃ := G₂.addEdge (T' := upd T₂ au ((2, gid, u), DI prog w (stored ks v (.ref e₀)) ei')) hu hv hvv hau₂ upd_self (fun b c q z => upd_tag q hau₂ z) (upd_tag te₀ hau₂ (by intro e; cases e)) hks hEs₂
  have a₃ := upd_tag (c' := ((2, gid, u), DI prog w (stored ks v (.ref e₀)) ei')) a₂ hau₂ (by intro e; cases e)
  have te₃ := upd_tag (c' := ((2, gid, u), DI prog w (stored ks v (.ref e₀)) ei')) te₀ hau₂ (by intro e; cases e)
  have K₃ : Keep gid T (upd T₂ au ((2, gid, u), DI prog w (stored ks v (.ref e₀)) ei')) := fun b c q z => upd_tag (K₂ b c q z) hau₂ (by intro z'; rw [z'] at z; exact z rfl)
  generalize upd T₂ au ((2, gid, u), DI prog w (stored ks v (.ref e₀)) ei') = T₃ at S₉ G₃ a₃ te₃ K₃
  clear S₈ G₂ a₂ te₀ hau₂ hEs₂ K₂ hvv hks hkl
  repeat walk_at "M"
  refine fldS W S₉ H G₃.I H.aP (G₃.fP rfl) rfl fun tk₁₀ => ?_
  repeat walk_at "M"
  obtain ⟨vv, hvv, hmem⟩ := val_of_mem (k := v) (S₉.nodup (G₃.tP rfl)) (by rw [G₃.kP rfl]; exact hv)
  obtain ⟨PP, hPP, av, ks', ei₂, rfl, hav, hks', hEs'⟩ := G₃.vP rfl _ hmem
  refine subDictS S₉ (G₃.tP rfl) hvv fun tk₁₁ => ?_
  repeat walk_at "M"
  have hkl : ks'.length ≤ 6 := by
    have := nodup_le (S₉.nodup hav) (r := ns) fun j hj => hPP j ((hks' j).mp hj)
    rw [List.length_map] at this; exact Nat.le_trans this G₃.len
  refine setDictS S₉ hav (by rw [sizeLine_eq]; omega) fun ei₂' s₁₀ S₁₀ => ?_
  have G₄ := G₃.addPred (T' := upd T₃ av ((3, gid, v), DI prog w (stored ks' u (.ref e₀)) ei₂')) hu (S₉.nodup (G₃.tP rfl)) hvv hav upd_self (fun b c q z => upd_tag q hav z) (upd_tag te₃ hav (by intro e; cases e)) (fun j hj => hPP j ((hks' j).mp hj)) hEs'
  have K₄ : Keep gid T (upd T₃ av ((3, gid, v), DI prog w (stored ks' u (.ref e₀)) ei₂')) := fun b c q z => upd_tag (K₃ b c q z) hav (by intro z'; rw [z'] at z; exact z rfl)
  clear S₉
  repeat walk_at "M"
  exact h _ _ _ K₄ ⟨_, _, _, _, _, _, _, _, _, _, _, _, G₄⟩ (by walk_at "L") (by walk_at "L") S₁₀
end
end Mine
end
section
open PySem PySem.W PySem.Calls PyProof.Rows
set_option Elab.async false
set_option maxRecDepth 100000
namespace Mine
-- "L": what a name holds
local macro_rules | `(tactic| walk_at "L") => `(tactic| first
  | assumption
  | exact fs_eq
  | (refine fs_ne (by decide) ?_; walk_at "L")
  | rfl)
-- "M": the next step of the walk, where it is the same everywhere
local macro_rules | `(tactic| walk_at "M") => `(tactic| first
  | ((with_reducible refine loadG ?_); refine ldnS (by assumption) (by walk_at "L") ?_)
  | ((with_reducible refine stG ?_); refine stS (by assumption) ?_; intro _ _)
  | ((with_reducible refine nameG ?_); refine ldS (by assumption) (by walk_at "L") ?_)
  | with_reducible refine wpAny_execs_cons ?_
  | with_reducible refine wpAny_execs_nil ?_
  | with_reducible refine wpAny_BinOp ?_
  | with_reducible refine wpAny_Constant_int ?_
  | with_reducible refine wpAny_Constant_str ?_
  | with_reducible refine Constant_none ?_
  | with_reducible refine Constant_bool ?_
  | with_reducible refine wpAny_Compare1 ?_
  | with_reducible refine wpAny_isTrue_Compare1 ?_
  | with_reducible refine isTrue_not ?_
  | with_reducible refine isTrue_and_nil ?_
  | with_reducible refine isTrue_or_nil ?_
  | with_reducible refine isTrue_and ?_
  | with_reducible refine isTrue_or ?_
  | with_reducible refine IfExp_ ?_
  | with_reducible refine wpAny_If ?_
  | ((with_reducible refine asgN ?_ ?_); (focus rfl))
  | ((with_reducible refine asgS ?_ ?_); (focus rfl))
  | ((with_reducible refine asgA ?_ ?_); (focus rfl))
  | ((with_reducible refine exprE ?_ ?_ ?_); (focus rfl); (focus rfl))
  | with_reducible refine wpAny_AugAssign_Name ?_
  | with_reducible refine wpAny_Return_some ?_
  | with_reducible refine wpAny_Break ?_
  | with_reducible refine wpAny_Continue ?_
  | ((with_reducible refine isG ?_); refine wpAny_is_other (by rfl) (by intro e; cases e) ?_)
  | ((with_reducible refine trG ?_); refine isTrue_plain ?_)
  | with_reducible refine wpAny_truthy_bool ?_
  | with_reducible refine add_int ?_
  | with_reducible refine iadd_int ?_
  | with_reducible refine sub_int ?_
  | with_reducible refine lt_int ?_
  | with_reducible refine le_int ?_
  | with_reducible refine gt_int ?_
  | with_reducible refine eq_int ?_
  | with_reducible refine ne_int ?_
  | with_reducible refine splE ?_
  | ((with_reducible refine splG ?_); refine spliced_more ?_)
  | with_reducible refine Tuple_ ?_
  | with_reducible refine List_ ?_
  | ((with_reducible refine methC (pl := ?_) ?_ ?_); rotate_left; (focus rfl))
  | ((with_reducible refine callC ?_ ?_); (focus rfl))
  | ((with_reducible refine cwB1 ?_ ?_ ?_); (focus rfl); (focus rfl))
  | ((with_reducible refine cwT1 ?_ ?_ ?_); (focus rfl); (focus rfl))
  | ((with_reducible refine cwM1 ?_ ?_ ?_); (focus rfl); (focus rfl))
  | with_reducible refine Subscript_ ?_
  | ((with_reducible refine attrE ?_ ?_); (focus with_unfolding_all rfl))
  | (show wpAny _ _ (execs _ _) _ _ _; first | refine wpAny_execs_cons ?_ | refine wpAny_execs_nil ?_))
section
variable {prog : Program} {w : World} {A : Around} {E : Value → Shared → Prop} {K : Frag} {mg mb : Str → Option Value} {B : Heap} {L : Addr} {T : TM} {m : Str → Option Value} {O : OG} {s : Shared} {t : Tag} {env : Env}
  {gid k : Nat} {C x dx fn : Addr} {f : Str → Option Value} {name : Str} {ox : Obj} {od : Option Obj} {dir ca : Bool} {ns : List Int} {R : Int → Int → Prop}

/-- a list of pairs -/
def PairL (T : TM) (vs : List Value) (es : List (Int × Int)) : Prop := vs.length = es.length ∧ ∀ (i : Nat) (v : Value), vs[i]? = some v → ∃ a b tt ua ub n, es[i]? = some (a, b) ∧ v = .ref tt ∧ T tt = some ((7, 0, n), TupP [.int a ua, .int b ub])
theorem mem_take_succ {es : List (Int × Int)} {i : Nat} {e p : Int × Int} (h : es[i]? = some e) : p ∈ es.take (i + 1) ↔ p ∈ es.take i ∨ p = e := by
  rw [List.take_add_one, h]; simp

theorem addEdgesG {l : Addr} {tl : Tag} {P : Obj → Prop} {vs : List Value} {es : List (Int × Int)} {Q : Value → Shared → Prop} (W : Wd K mg mb B) (S : St B L T m O s) (hroom : A.depth < 700) (hh : A.handled = none) (hln : nsIn K mainGlobals "len" = some none) (H : ClsK K 624)
    (M : Meth K 624 "add_edges_from" 492 (meth 14 21) "Graph.add_edges_from" .none) (hg0 : gid ≠ 0) (G : Gr prog w T gid 624 x false ca ns R) (hl : T l = some (tl, P)) (htl : tl.2.1 = 0) (hP : ∀ o, P o → LiP vs o) (hps : PairL T vs es) (hes : ∀ p ∈ es, p.1 ∈ ns ∧ p.2 ∈ ns)
    (h : ∀ T' s', Keep gid T T' → Gr prog w T' gid 624 x false ca ns (fun p q => R p q ∨ (p, q) ∈ es ∨ (q, p) ∈ es) → St B L T' m O s' → Q .none s') : wpAny (model prog w) A (call (.ref 492) [.ref x, .ref l]) Q E s := by
  obtain ⟨cdv, hf⟩ := M.fd
  refine wpAny_call (callFKc (args := ⟨[.ref x, .ref l], []⟩) (binds := fun d => [(Str.ofString "self", .ref x), (Str.ofString "ebunch_to_add", .ref l), (Str.ofString "attr", .ref d)]) W S (Nat.lt_trans hroom (by decide)) hf
    (fun _ _ _ _ _ _ => BindsKw.of_eq rfl) (by decide) (fun d => locs rfl) rfl rfl rfl fun B' L' d s' hB' W' hd S' => ?_)
  have hr : (A.deeper (envF (Str.ofString "Graph.add_edges_from") (meth 14 21) L' 492 cdv [])).depth < 900 := by show A.depth + 1 < 900; omega
  have hh' : (A.deeper (envF (Str.ofString "Graph.add_edges_from") (meth 14 21) L' 492 cdv [])).handled = none := hh
  generalize A.deeper (envF (Str.ofString "Graph.add_edges_from") (meth 14 21) L' 492 cdv []) = A' at hr hh' ⊢
  have a₁ : upd T d ((8, 0, 0), EmpP prog w) d = some ((8, 0, 0), EmpP prog w) := upd_self
  have K₁ : Keep gid T (upd T d ((8, 0, 0), EmpP prog w)) := .of_sub (.new hd)
  have G₁ := G.sub (Sub.new (c := ((8, 0, 0), EmpP prog w)) hd)
  generalize upd T d ((8, 0, 0), EmpP prog w) = T₁ at S' a₁ K₁ G₁
  walk_at "M"
  refine forS (B := B') ?_
  walk_at "M"
  refine forList hh' S' (K₁ _ _ hl (by rw [htl]; exact fun e => hg0 e.symm)) hP (fun i T' m' => Keep gid T₁ T' ∧ Gr prog w T' gid 624 x false ca ns (fun p q => R p q ∨ (p, q) ∈ es.take i ∨ (q, p) ∈ es.take i) ∧ m' "self" = some (.ref x) ∧ m' "attr" = some (.ref d)) ?_ (fun i T' m' _ hI => ⟨_, _, hI.1 _ _ (K₁ _ _ hl (by rw [htl]; exact fun e => hg0 e.symm)) (by rw [htl]; exact fun e => hg0 e.symm), hP⟩) ?_ ?_
  · exact ⟨.refl _ _, G₁.congr fun a b => by simp, rfl, rfl⟩
  · rintro i v T' m' B₂ s₂ hv ⟨hk, G₂, hm1, hm2⟩ hB₂ S₂
    obtain ⟨a, b, tt, ua, ub, n, he, rfl, ht⟩ := hps.2 i v hv
    have hm := hes _ (List.mem_of_getElem? he)
    refine edgeTurnG (cdv := cdv) (W'.keeps hB₂) S₂ hr hh' hln H hg0 G₂ hm.1 hm.2 (hk _ _ (K₁ _ _ ht (fun e => hg0 e.symm)) (fun e => hg0 e.symm)) (fs_ne (by decide) hm1) (fs_ne (by decide) hm2) fs_eq (hk _ _ a₁ (fun e => hg0 e.symm)) fun T₃ m₃ s₃ hk₃ G₃ q1 q2 S₃ => ?_
    refine ⟨T₃, m₃, S₃, hk.trans hk₃, G₃.congr fun p q => ?_, q1, q2⟩
    rw [mem_take_succ he, mem_take_succ he]
    simp only [Prod.mk.injEq]
    constructor
    · rintro ((h | h) | h)
      · rcases h with h | h | h
        · exact .inl h
        · exact .inr (.inl (.inl h))
        · exact .inr (.inr (.inl h))
      · exact .inr (.inl (.inr h))
      · exact .inr (.inr (.inr ⟨h.2, h.1⟩))
    · rintro (h | (h | h) | (h | h))
      · exact .inl (.inl (.inl h))
      · exact .inl (.inl (.inr (.inl h)))
      · exact .inl (.inr h)
      · exact .inl (.inl (.inr (.inr h)))
      · exact .inr ⟨h.2, h.1⟩
  · rintro T' m' s₂ ⟨hk, hG, _, _⟩ S₂
    rw [hps.1, List.take_length] at hG
    exact wpAny_execs_nil ⟨_, _, S₂, fun z => h _ _ (K₁.trans hk) hG z⟩
theorem addEdgesD {l : Addr} {tl : Tag} {P : Obj → Prop} {vs : List Value} {es : List (Int × Int)} {Q : Value → Shared → Prop} (W : Wd K mg mb B) (S : St B L T m O s) (hroom : A.depth < 700) (hh : A.handled = none) (hln : nsIn K mainGlobals "len" = some none) (H : ClsK K 853)
    (M : Meth K 853 "add_edges_from" 726 (meth 18 9) "DiGraph.add_edges_from" .none) (hg0 : gid ≠ 0) (G : Gr prog w T gid 853 x true ca ns R) (hl : T l = some (tl, P)) (htl : tl.2.1 = 0) (hP : ∀ o, P o → LiP vs o) (hps : PairL T vs es) (hes : ∀ p ∈ es, p.1 ∈ ns ∧ p.2 ∈ ns)
    (h : ∀ T' s', Keep gid T T' → Gr prog w T' gid 853 x true ca ns (fun p q => R p q ∨ (p, q) ∈ es) → St B L T' m O s' → Q .none s') : wpAny (model prog w) A (call (.ref 726) [.ref x, .ref l]) Q E s := by
  obtain ⟨cdv, hf⟩ := M.fd
  refine wpAny_call (callFKc (args := ⟨[.ref x, .ref l], []⟩) (binds := fun d => [(Str.ofString "self", .ref x), (Str.ofString "ebunch_to_add", .ref l), (Str.ofString "attr", .ref d)]) W S (Nat.lt_trans hroom (by decide)) hf
    (fun _ _ _ _ _ _ => BindsKw.of_eq rfl) (by decide) (fun d => locs rfl) rfl rfl rfl fun B' L' d s' hB' W' hd S' => ?_)
  have hr : (A.deeper (envF (Str.ofString "DiGraph.add_edges_from") (meth 18 9) L' 726 cdv [])).depth < 900 := by show A.depth + 1 < 900; omega
  have hh' : (A.deeper (envF (Str.ofString "DiGraph.add_edges_from") (meth 18 9) L' 726 cdv [])).handled = none := hh
  generalize A.deeper (envF (Str.ofString "DiGraph.add_edges_from") (meth 18 9) L' 726 cdv []) = A' at hr hh' ⊢
  have a₁ : upd T d ((8, 0, 0), EmpP prog w) d = some ((8, 0, 0), EmpP prog w) := upd_self
  have K₁ : Keep gid T (upd T d ((8, 0, 0), EmpP prog w)) := .of_sub (.new hd)
  have G₁ := G.sub (Sub.new (c := ((8, 0, 0), EmpP prog w)) hd)
  generalize upd T d ((8, 0, 0), EmpP prog w) = T₁ at S' a₁ K₁ G₁
  walk_at "M"
  refine forS (B := B') ?_
  walk_at "M"
  refine forList hh' S' (K₁ _ _ hl (by rw [htl]; exact fun e => hg0 e.symm)) hP (fun i T' m' => Keep gid T₁ T' ∧ Gr prog w T' gid 853 x true ca ns (fun p q => R p q ∨ (p, q) ∈ es.take i) ∧ m' "self" = some (.ref x) ∧ m' "attr" = some (.ref d)) ?_ (fun i T' m' _ hI => ⟨_, _, hI.1 _ _ (K₁ _ _ hl (by rw [htl]; exact fun e => hg0 e.symm)) (by rw [htl]; exact fun e => hg0 e.symm), hP⟩) ?_ ?_
  · exact ⟨.refl _ _, G₁.congr fun a b => by simp, rfl, rfl⟩
  · rintro i v T' m' B₂ s₂ hv ⟨hk, G₂, hm1, hm2⟩ hB₂ S₂
    obtain ⟨a, b, tt, ua, ub, n, he, rfl, ht⟩ := hps.2 i v hv
    have hm := hes _ (List.mem_of_getElem? he)
    refine edgeTurnD (cdv := cdv) (W'.keeps hB₂) S₂ hr hh' hln H hg0 G₂ hm.1 hm.2 (hk _ _ (K₁ _ _ ht (fun e => hg0 e.symm)) (fun e => hg0 e.symm)) (fs_ne (by decide) hm1) (fs_ne (by decide) hm2) fs_eq (hk _ _ a₁ (fun e => hg0 e.symm)) fun T₃ m₃ s₃ hk₃ G₃ q1 q2 S₃ => ?_
    refine ⟨T₃, m₃, S₃, hk.trans hk₃, G₃.congr fun p q => ?_, q1, q2⟩
    rw [mem_take_succ he]
    simp only [Prod.mk.injEq]
    constructor
    · rintro ((h | h) | h)
      · exact .inl h
      · exact .inr (.inl h)
      · exact .inr (.inr h)
    · rintro (h | h | h)
      · exact .inl (.inl h)
      · exact .inl (.inr h)
      · exact .inr h
  · rintro T' m' s₂ ⟨hk, hG, _, _⟩ S₂
    rw [hps.1, List.take_length] at hG
    exact wpAny_execs_nil ⟨_, _, S₂, fun z => h _ _ (K₁.trans hk) hG z⟩

end
end Mine
end
section
open PySem PySem.W PySem.Calls PyProof.Rows
set_option Elab.async false
set_option maxRecDepth 100000
namespace Mine
-- "L": what a name holds
local macro_rules | `(tactic| walk_at "L") => `(tactic| first
  | assumption
  | exact fs_eq
  | (refine fs_ne (by decide) ?_; walk_at "L")
  | rfl)
-- "M": the next step of the walk, where it is the same everywhere
local macro_rules | `(tactic| walk_at "M") => `(tactic| first
  | ((with_reducible refine loadG ?_); refine ldnS (by assumption) (by walk_at "L") ?_)
  | ((with_reducible refine stG ?_); refine stS (by assumption) ?_; intro _ _)
  | ((with_reducible refine nameG ?_); refine ldS (by assumption) (by walk_at "L") ?_)
  | with_reducible refine wpAny_execs_cons ?_
  | with_reducible refine wpAny_execs_nil ?_
  | with_reducible refine wpAny_BinOp ?_
  | with_reducible refine wpAny_Constant_int ?_
  | with_reducible refine wpAny_Constant_str ?_
  | with_reducible refine Constant_none ?_
  | with_reducible refine Constant_bool ?_
  | with_reducible refine wpAny_Compare1 ?_
  | with_reducible refine wpAny_isTrue_Compare1 ?_
  | with_reducible refine isTrue_not ?_
  | with_reducible refine isTrue_and_nil ?_
  | with_reducible refine isTrue_or_nil ?_
  | with_reducible refine isTrue_and ?_
  | with_reducible refine isTrue_or ?_
  | with_reducible refine IfExp_ ?_
  | with_reducible refine wpAny_If ?_
  | ((with_reducible refine asgN ?_ ?_); (focus rfl))
  | ((with_reducible refine asgS ?_ ?_); (focus rfl))
  | ((with_reducible refine asgA ?_ ?_); (focus rfl))
  | ((with_reducible refine exprE ?_ ?_ ?_); (focus rfl); (focus rfl))
  | with_reducible refine wpAny_AugAssign_Name ?_
  | with_reducible refine wpAny_Return_some ?_
  | with_reducible refine wpAny_Break ?_
  | with_reducible refine wpAny_Continue ?_
  | ((with_reducible refine isG ?_); refine wpAny_is_other (by rfl) (by intro e; cases e) ?_)
  | ((with_reducible refine trG ?_); refine isTrue_plain ?_)
  | with_reducible refine wpAny_truthy_bool ?_
  | with_reducible refine add_int ?_
  | with_reducible refine iadd_int ?_
  | with_reducible refine sub_int ?_
  | with_reducible refine lt_int ?_
  | with_reducible refine le_int ?_
  | with_reducible refine gt_int ?_
  | with_reducible refine eq_int ?_
  | with_reducible refine ne_int ?_
  | with_reducible refine splE ?_
  | ((with_reducible refine splG ?_); refine spliced_more ?_)
  | with_reducible refine Tuple_ ?_
  | with_reducible refine List_ ?_
  | ((with_reducible refine methC (pl := ?_) ?_ ?_); rotate_left; (focus rfl))
  | ((with_reducible refine callC ?_ ?_); (focus rfl))
  | ((with_reducible refine cwB1 ?_ ?_ ?_); (focus rfl); (focus rfl))
  | ((with_reducible refine cwT1 ?_ ?_ ?_); (focus rfl); (focus rfl))
  | ((with_reducible refine cwM1 ?_ ?_ ?_); (focus rfl); (focus rfl))
  | with_reducible refine Subscript_ ?_
  | ((with_reducible refine attrE ?_ ?_); (focus with_unfolding_all rfl))
  | (show wpAny _ _ (execs _ _) _ _ _; first | refine wpAny_execs_cons ?_ | refine wpAny_execs_nil ?_))
section
variable {prog : Program} {w : World} {A : Around} {E : Value → Shared → Prop} {K : Frag} {mg mb : Str → Option Value} {B : Heap} {L : Addr} {T : TM} {m : Str → Option Value} {O : OG} {s : Shared} {t : Tag} {env : Env}
  {gid k : Nat} {C x dx fn : Addr} {f : Str → Option Value} {name : Str} {ox : Obj} {od : Option Obj} {dir ca : Bool} {ns : List Int} {R : Int → Int → Prop}

/-- a call's end; the generators may have moved -/
def EndsX (B' : Heap) (L' : Addr) (B : Heap) (L : Addr) (m : Str → Option Value) (Q : Value → Shared → Prop) (fl : Flow) (s'' : Shared) : Prop :=
  ∃ T' m' O', St B' L' T' m' O' s'' ∧ (St B L T' m O' s'' → Q (valOf fl) s'')
theorem St.retX (S : St B L T m O s) {X : List Addr} {L' : Addr} {T' : TM} {m' : Str → Option Value} {O' : OG} {s' : Shared} (hX : Free B L T X) (S' : St (maskP s.heap (butX T s.heap.objs.size X)) L' T' m' O' s') : St B L T' m O' s' := by
  obtain ⟨oL, es, ep, hL, r⟩ := S.ns
  have hLX : L ∉ X := fun h => (hX L h).2.1 rfl
  have hLm : (maskP s.heap (butX T s.heap.objs.size X)).get? L = some oL := by rw [maskP_get (butX_false S.Lnone (Nat.ne_of_lt S.ltL) hLX)]; exact hL
  have up : ∀ b o, B.get? b = some o → (maskP s.heap (butX T s.heap.objs.size X)).get? b = some o := fun b o e => by
    have h1 : T b = none := by
      cases q : T b with
      | none => rfl
      | some c => rw [S.neB q] at e; cases e
    rw [maskP_get (butX_false h1 (Nat.ne_of_lt (Heap.lt_size (S.keep _ _ e))) fun h => by rw [(hX b h).2.2] at e; cases e)]; exact S.keep b o e
  have nn {a : Addr} (h : (maskP s.heap (butX T s.heap.objs.size X)).get? a = none) : B.get? a = none := by
    cases e : B.get? a with
    | none => rfl
    | some o => rw [up _ _ e] at h; cases h
  refine ⟨⟨oL, es, ep, S'.keep _ _ hLm, r⟩, fun b o e => S'.keep b o (up b o e), S.LB, fun a c e => ?_, S'.gens, S'.os, S'.nm, S.big⟩
  obtain ⟨_, h2, h3⟩ := S'.sat a c e
  exact ⟨(fun q => by rw [q, hLm] at h2; cases h2), nn h2, h3⟩
theorem St.upX (S : St B L T m O s) {X : List Addr} (hX : Free B L T X) {b : Addr} {o : Obj} (e : B.get? b = some o) : (maskP s.heap (butX T s.heap.objs.size X)).get? b = some o := by
  have h1 : T b = none := by
    cases q : T b with
    | none => rfl
    | some c => rw [S.neB q] at e; cases e
  rw [maskP_get (butX_false h1 (Nat.ne_of_lt (Heap.lt_size (S.keep _ _ e))) fun h => by rw [(hX b h).2.2] at e; cases e)]; exact S.keep b o e
theorem St.callX (S : St B L T m O s) (X : List Addr) {h₁ : Heap} {m₁ : Str → Option Value} {tk : Nat} (hn : h₁.Ns s.heap.objs.size m₁) (hk : ∀ b o, s.heap.get? b = some o → h₁.get? b = some o) :
    St (maskP s.heap (butX T s.heap.objs.size X)) s.heap.objs.size T m₁ O { s with heap := h₁, toks := tk } :=
  ⟨hn, fun b o e => hk b o (of_maskP e).2, maskP_none (by simp [butX]), fun a c e => let ⟨_, _, o, ho, hp⟩ := S.sat a c e; ⟨Nat.ne_of_lt (S.lt e), maskP_none (by simp [butX, e]), o, hk _ _ ho, hp⟩, S.gens, S.os, S.nm, Nat.lt_trans S.big S.ltL⟩

theorem callFKX {f : Addr} {st : Stmt} {qual : Str} {dV cdv : Value} {args : Args} {binds : Addr → List (Str × Value)} {Q : Value → Shared → Prop} (X : List Addr)
    (W : Wd K mg mb B) (S : St B L T m O s) (hX : Free B L T X) (hXe : ∀ b ∈ X, ∃ o, s.heap.get? b = some o) (hroom : A.depth < recursionLimit) (hf : FnIs K f st qual dV cdv)
    (hbind : ∀ name kV doc pm an ct, BindsKw s (fnOf name qual (argsOf st) (bodyOf st) (scopeOf st) dV kV doc pm an cdv ct) args binds)
    (hcell : ∀ x ∈ (scopeOf st).names, x.2 ≠ .cell) (hloc : ∀ d, ∀ x ∈ binds d, (scopeOf st).names.lookup x.1 = some .local)
    (hco : (scopeOf st).isCoroutine = false) (hgen : (scopeOf st).isGenerator = false) (hk : (scopeOf st).kind = .function)
    (h : ∀ B' L' d s', (∀ b o, B.get? b = some o → B'.get? b = some o) → Wd K mg mb B' → T d = none → Free B' L' (upd T d ((8, 0, 0), EmpP prog w)) X → (∀ b o, s.heap.get? b = some o → s'.heap.get? b = some o) → s'.gens = s.gens →
      St B' L' (upd T d ((8, 0, 0), EmpP prog w)) (fun x => (binds d).reverse.lookup x) O s' →
      wpAny (model prog w) (A.deeper (envF qual st L' f cdv [])) (execs (bodyOf st) (envF qual st L' f cdv [])) (EndsX B' L' B L m Q) NoR s') :
    wpAny (model prog w) A (call (.ref f) args.pos args.kw) Q E s := by
  refine wpAny_call ?_
  obtain ⟨name, kV, doc, pm, an, ct, oc, od, sl, ho⟩ := hf.ex
  refine codeAny_call_function hroom (S.keep _ _ (W.X _ _ ho)) rfl hco hgen rfl (codeRec_of (W.X.keeps S.keep) hf.cd) (hbind _ _ _ _ _ _ _ _ _ _ ?_)
  have hd := S.new_none
  have S₁ := S.push (L := L) { cls := .type "dict", data := .dict #[] } (c := ((8, 0, 0), EmpP prog w)) ⟨0, di_nil⟩ rfl
  have hX₁ : Free B L (upd T s.heap.objs.size ((8, 0, 0), EmpP prog w)) X := fun b hb => ⟨by rw [upd_ne (by obtain ⟨o, ho⟩ := hXe b hb; exact Nat.ne_of_lt (Heap.lt_size ho))]; exact (hX b hb).1, (hX b hb).2⟩
  have hXl : ∀ b ∈ X, b ≠ (s.heap.push { cls := .type "dict", data := .dict #[] }).objs.size := fun b hb => by
    obtain ⟨o, ho⟩ := hXe b hb
    exact Nat.ne_of_lt (Heap.lt_size (Heap.get?_push_of_some _ ho))
  have hk0 : ∀ b o, s.heap.get? b = some o → (s.heap.push { cls := .type "dict", data := .dict #[] }).get? b = some o := fun b o e => Heap.get?_push_of_some _ e
  refine wpAny_newFunctionEnv hcell (hloc _) (fun h₀ hns₀ hsb₀ => ?_) hk
  have keep : ∀ b o, (s.heap.push { cls := .type "dict", data := .dict #[] }).get? b = some o → h₀.get? b = some o := fun b o e => hsb₀.extBut b o (Nat.ne_of_lt (Heap.lt_size e)) (Heap.get?_push_of_some _ e)
  refine ⟨(W.lim.keeps S₁.keep).fresh _ hsb₀, codeAny_func ?_⟩
  have S₂ := S₁.callX X (tk := s.toks + (binds s.heap.objs.size).length) hns₀ keep
  refine wpAny_mono (h _ _ s.heap.objs.size _ (fun b o e => S₁.upX hX₁ e) (W.keeps fun b o e => S₁.upX hX₁ e) hd (fun b hb => ⟨(hX₁ b hb).1, hXl b hb, maskP_none (by simp [butX, hb])⟩) (fun b o e => keep b o (hk0 b o e)) rfl S₂) (fun fl s'' hE => ?_) fun _ _ x => x.elim
  obtain ⟨T', m', O', S', q⟩ := hE
  have z := q (S₁.retX hX₁ S')
  cases fl <;> exact z
/-- the same, over the generator's pairs -/
theorem addEdgesGG {a C I dd cn : Addr} {gg : Nat} {nn : Int} {un : Tok} {kvs : List (Int × Value)} {ed : Nat} {Q : Value → Shared → Prop} (W : Wd K mg mb B) (S : St B L T m O s) (hroom : A.depth < 700) (hh : A.handled = none) (hln : nsIn K mainGlobals "len" = some none) (H : ClsK K 624)
    (M : Meth K 624 "add_edges_from" 492 (meth 14 21) "Graph.add_edges_from" .none) (hg0 : gid ≠ 0) (G : Gr prog w T gid 624 x false ca ns R) (hb : OB O) (hF : Free B L T [a, C, I]) (haC : a ≠ C) (haI : a ≠ I) (hC0 : sysModules < C) (hG : ∀ A' : Around, A'.handled = none → GenS prog w A' a gg C I dd cn (.int nn un) kvs ed 0 s)
    (hdd : ∃ t, T dd = some (t, DI prog w kvs ed) ∧ t.2.1 = 0) (hcn : ∃ t, T cn = some (t, CellP (some (.int nn un))) ∧ t.2.1 = 0) (hnn : nn ∈ ns) (hes : ∀ j ∈ kvs.map (·.1), j ∈ ns)
    (h : ∀ O' T' s', O'.1 = O.1 → OB O' → Keep gid T T' → Gr prog w T' gid 624 x false ca ns (fun p q => R p q ∨ (p = nn ∧ q ∈ kvs.map (·.1)) ∨ (q = nn ∧ p ∈ kvs.map (·.1))) → St B L T' m O' s' → Q .none s') : wpAny (model prog w) A (call (.ref 492) [.ref x, .ref a]) Q E s := by
  obtain ⟨cdv, hf⟩ := M.fd
  obtain ⟨td, hdd, htd⟩ := hdd
  obtain ⟨tc, hcn, htc⟩ := hcn
  have hXe : ∀ b ∈ [a, C, I], ∃ o, s.heap.get? b = some o := fun b hb => by
    have G₀ := hG A hh
    simp only [List.mem_cons, List.not_mem_nil, or_false] at hb
    rcases hb with rfl | rfl | rfl
    · obtain ⟨o, _, _, ho, _⟩ := G₀.is; exact ⟨o, ho⟩
    · exact G₀.ci.1
    · exact G₀.ci.2
  refine callFKX [a, C, I] (args := ⟨[.ref x, .ref a], []⟩) (binds := fun d => [(Str.ofString "self", .ref x), (Str.ofString "ebunch_to_add", .ref a), (Str.ofString "attr", .ref d)]) W S hF hXe (Nat.lt_trans hroom (by decide)) hf
    (fun _ _ _ _ _ _ => BindsKw.of_eq rfl) (by decide) (fun d => locs rfl) rfl rfl rfl fun B' L' d s' hB' W' hd hF' hkp hgn S' => ?_
  have hr : (A.deeper (envF (Str.ofString "Graph.add_edges_from") (meth 14 21) L' 492 cdv [])).depth < 900 := by show A.depth + 1 < 900; omega
  have hh' : (A.deeper (envF (Str.ofString "Graph.add_edges_from") (meth 14 21) L' 492 cdv [])).handled = none := hh
  generalize A.deeper (envF (Str.ofString "Graph.add_edges_from") (meth 14 21) L' 492 cdv []) = A' at hr hh' ⊢
  have a₁ : upd T d ((8, 0, 0), EmpP prog w) d = some ((8, 0, 0), EmpP prog w) := upd_self
  have K₁ : Keep gid T (upd T d ((8, 0, 0), EmpP prog w)) := .of_sub (.new hd)
  have G₁ := G.sub (Sub.new (c := ((8, 0, 0), EmpP prog w)) hd)
  generalize upd T d ((8, 0, 0), EmpP prog w) = T₁ at S' a₁ K₁ G₁ hF'
  walk_at "M"
  refine forGen (o1 := O.1) (B := B') (a := a) (g := gg) (C := C) (I := I) (d := dd) (cn := cn) (nv := .int nn un) (kvs := kvs) (ep := ed) hh' (Nat.lt_trans hr (by decide)) W'.lim haC haI hC0
    (fun i T' m' => Keep gid T₁ T' ∧ Gr prog w T' gid 624 x false ca ns (fun p q => R p q ∨ (p = nn ∧ q ∈ (kvs.map (·.1)).take i) ∨ (q = nn ∧ p ∈ (kvs.map (·.1)).take i)) ∧ m' "self" = some (.ref x) ∧ m' "attr" = some (.ref d))
    (fun i T' m' hI => ⟨⟨_, hI.1 _ _ (K₁ _ _ hdd (by rw [htd]; exact fun e => hg0 e.symm)) (by rw [htd]; exact fun e => hg0 e.symm)⟩, _, hI.1 _ _ (K₁ _ _ hcn (by rw [htc]; exact fun e => hg0 e.symm)) (by rw [htc]; exact fun e => hg0 e.symm)⟩) ?_ ?_ ?_
  · walk_at "M"
    exact ⟨_, _, _, rfl, S', (hG A' hh').frame (fun b _ o e => hkp b o e) hgn, hF', hb, ⟨.refl _ _, G₁.congr fun a b => by simp, rfl, rfl⟩, rfl⟩
  · rintro i j u tt T' m' O' B₂ s₂ hv ⟨hk, G₂, hm1, hm2⟩ htt hb' hB₂ S₂
    have hm := hes _ (List.mem_of_getElem? hv)
    have G₂' := G₂.sub (Sub.new (c := ((7, 0, 0), TupP [.int nn un, .int j u])) htt)
    refine edgeTurnG (cdv := cdv) (W'.keeps hB₂) S₂ hr hh' hln H hg0 G₂' hnn hm upd_self (fs_ne (by decide) hm1) (fs_ne (by decide) hm2) fs_eq (upd_new (hk _ _ a₁ (fun e => hg0 e.symm)) htt) fun T₃ m₃ s₃ hk₃ G₃ q1 q2 S₃ => ?_
    refine ⟨T₃, m₃, S₃, hk.trans ((Keep.of_sub (Sub.new htt)).trans hk₃), G₃.congr fun p q => ?_, q1, q2⟩
    have hsucc : ∀ y, y ∈ (kvs.map (·.1)).take (i + 1) ↔ y ∈ (kvs.map (·.1)).take i ∨ y = j := fun y => by rw [List.take_add_one, hv]; simp
    rw [hsucc, hsucc]
    constructor
    · rintro ((h | h) | h)
      · rcases h with h | h | h
        · exact .inl h
        · exact .inr (.inl ⟨h.1, .inl h.2⟩)
        · exact .inr (.inr ⟨h.1, .inl h.2⟩)
      · exact .inr (.inl ⟨h.1, .inr h.2⟩)
      · exact .inr (.inr ⟨h.2, .inr h.1⟩)
    · rintro (h | ⟨h1, h | h⟩ | ⟨h1, h | h⟩)
      · exact .inl (.inl (.inl h))
      · exact .inl (.inl (.inr (.inl ⟨h1, h⟩)))
      · exact .inl (.inr ⟨h1, h⟩)
      · exact .inl (.inl (.inr (.inr ⟨h1, h⟩)))
      · exact .inr ⟨h, h1⟩
  · rintro T' m' O' s₂ ⟨hk, hG', _, _⟩ ho1 hb' S₂
    have e : (kvs.map (·.1)).take kvs.length = kvs.map (·.1) := List.take_of_length_le (by rw [List.length_map]; exact Nat.le_refl _)
    rw [e] at hG'
    exact wpAny_execs_nil ⟨_, _, _, S₂, fun z => h _ _ _ ho1 hb' (K₁.trans hk) hG' z⟩
end
end Mine
end
section
open PySem PySem.W PySem.Calls PyProof.Rows
set_option Elab.async false
set_option maxRecDepth 100000
namespace Mine
section
variable {prog : Program} {w : World} {A : Around} {E : Value → Shared → Prop} {s : Shared} {env : Env} {R : Result → Shared → Prop}

theorem codeN_forLoop {target : Expr} {it : Value} {body : List Stmt} (J : Nat → Shared → Prop) (hlet : ∀ v, letOwnedTupleGo target it v = pure ())
    (turn : ∀ n s, J n s → wpN (model prog w) A (pyNext it) (fun r s₁ => match r with
      | none => R (.ok .next) s₁
      | some v => wpN (model prog w) A (assign target env v) (fun _ s₂ => wpN (model prog w) A (execs body env) (fun f s₃ => match f with
          | .next | .cont => ∃ m, m < n ∧ J m s₃
          | .brk => R (.ok .next) s₃
          | .ret v => R (.ok (.ret v)) s₃) NoR s₂) NoR s₁) NoR s) :
    ∀ (n : Nat) (s : Shared), J n s → codeN (model prog w) A (.forLoop target it body [] env) R s := by
  intro n
  induction n using Nat.strongRecOn with
  | _ n ih =>
    intro s hJ
    refine codeN_tree rfl ?_
    show wpN _ A ((forTurn target it body [] env).onRaise (fun x => do noteFrame x env; theTreesLotGoes x)) _ _ s
    refine n_onRaise ?_
    simp only [forTurn]
    refine n_bind (n_standAt (n_bind (n_onRaise (n_mono (turn n s hJ) (fun r s₁ h₁ => ?_) fun _ _ h' => h'.elim))))
    cases r with
    | none => exact n_pure ⟨rfl, codeN_of (codeAny_block (wpAny_execs_nil h₁))⟩
    | some v =>
      dsimp only
      rw [hlet v]
      refine n_bind (n_pure ?_)
      refine n_bind (n_mono h₁ (fun _ s₂ h₂ => n_bind (n_mono h₂ (fun f s₃ h₃ => ?_) fun _ _ h' => h'.elim)) fun _ _ h' => h'.elim)
      cases f with
      | next => obtain ⟨m, hm, hJ'⟩ := h₃; exact n_pure ⟨rfl, ih m hm s₃ hJ'⟩
      | cont => obtain ⟨m, hm, hJ'⟩ := h₃; exact n_pure ⟨rfl, ih m hm s₃ hJ'⟩
      | brk => exact n_pure h₃
      | ret v => exact n_pure h₃
theorem n_For {target iter : Expr} {body : List Stmt} {pos : Pos} {Q : Flow → Shared → Prop}
    (h : wpN (model prog w) A (eval iter env) (fun x s₁ => wpN (model prog w) A (pyIter x) (fun it s₂ => codeN (model prog w) A (.forLoop target it body [] env) (fun r s' => match r with | .ok f => Q f s' | .error _ => False) s₂) E s₁) E s)
    (hs : ∀ x, foldedSetIterable iter env x = pure x) : wpN (model prog w) A (exec (.For target iter body [] pos) env) Q E s := by
  rw [exec_For]
  refine n_bind (n_standAt (n_bind (n_mono h (fun x s₁ h₁ => ?_) fun _ _ h' => h')))
  rw [hs x]
  refine n_bind (n_pure (n_bind (n_standAt (n_bind (n_holding (n_mono h₁ (fun it s₂ h₂ => ?_) fun _ _ h' => h'))))))
  unfold runOwn
  refine n_onRaise (n_run ?_)
  refine codeN_mono h₂ fun r s' hr => ?_
  cases r with
  | ok f => exact hr
  | error e => exact hr.elim
end

section
variable {prog : Program} {w : World} {A : Around} {E : Value → Shared → Prop} {K : Frag} {mg mb : Str → Option Value} {B : Heap} {L : Addr} {T : TM} {m : Str → Option Value} {O : OG} {s : Shared} {t : Tag} {env : Env}

/-- a loop over a dict's keys, the name a cell of the frame; the generators may move -/
theorem forKeysN {x : Str} {px : Pos} {iter : Expr} {body : List Stmt} {pos : Pos} {Q : Flow → Shared → Prop} {cn d : Addr} {kvs : List (Int × Value)} {ep : Nat} {o1 : OsState} (hh : A.handled = none)
    (Inv : Nat → TM → (Str → Option Value) → Prop) (hN : ∀ i T m, Inv i T m → (∃ t, T d = some (t, DI prog w kvs ep)) ∧ ∃ v, T cn = some ((9, 0, (cn : Int)), CellP v))
    (h : wpN (model prog w) A (eval iter env) (fun xv s₁ => wpN (model prog w) A (pyIter xv) (fun it s₂ => ∃ I T m O, it = .ref I ∧ St B env.locals T m O s₂ ∧ Free B env.locals T [I] ∧ s₂.heap.IsKeyIter I d 0 kvs.length ep ∧ OB O ∧ O.1 = o1 ∧ Inv 0 T m) NoR s₁) NoR s)
    (turn : ∀ i k u T m O B₁ s, (kvs.map (·.1))[i]? = some k → Inv i T m → OB O → O.1 = o1 → (∀ b o, B.get? b = some o → B₁.get? b = some o) → St B₁ env.locals (upd T cn ((9, 0, (cn : Int)), CellP (some (.int k u)))) m O s →
      wpN (model prog w) A (execs body env) (fun f s' => (f = .next ∨ f = .cont) ∧ ∃ T' m' O', St B₁ env.locals T' m' O' s' ∧ OB O' ∧ O'.1 = o1 ∧ Inv (i + 1) T' m') NoR s)
    (done : ∀ T m O s, Inv kvs.length T m → OB O → O.1 = o1 → St B env.locals T m O s → Q .next s)
    (hk : env.scope.kind = .function) (hl : env.kindOf x = some .cell) (hc : env.cells.lookup x = some cn) (hs : ∀ x, foldedSetIterable iter env x = pure x) :
    wpN (model prog w) A (exec (.For (.Name x px) iter body [] pos) env) Q E s := by
  refine n_For (n_mono h (fun xv s₁ h₁ => n_mono h₁ (fun it s₂ h₂ => ?_) fun _ _ e => e.elim) fun _ _ e => e.elim) hs
  obtain ⟨I, T, m, O, rfl, S, hF, hit, hb, ho1, hI⟩ := h₂
  refine codeN_forLoop (fun k s' => ∃ i T m O, k = kvs.length - i ∧ i ≤ kvs.length ∧ St B env.locals T m O s' ∧ Free B env.locals T [I] ∧ s'.heap.IsKeyIter I d i kvs.length ep ∧ OB O ∧ O.1 = o1 ∧ Inv i T m) (fun v => rfl) ?_ kvs.length _ ⟨0, T, m, O, rfl, Nat.zero_le _, S, hF, hit, hb, ho1, hI⟩
  rintro k s' ⟨i, T, m, O, rfl, hi, S, hF, hit, hb, ho1, hI⟩
  obtain ⟨⟨td, hTd⟩, vc, hTc⟩ := hN i T m hI
  obtain ⟨f1, f2, f3⟩ := hF.one
  have hIc : I ≠ cn := fun q => by rw [q, hTc] at f1; cases f1
  rcases Nat.lt_or_ge i kvs.length with hlt | hge
  · refine toN (wpAny_pyNext_dict_item hit (S.dictAt hTd) (k := kvs[i].1) (v := kvs[i].2) (by simp [hlt]) fun key h' hkey hit' hs' => ?_)
    obtain ⟨u, rfl⟩ := isInt_of hkey
    have S₁ : St B env.locals T m O { s' with heap := h' } := S.but f2 f3 f1 fun b o hb e => (hs'.2 b hb).trans e
    refine toN (wpAny_assign_Name (wpAny_storeName_cell hk hl hc (S₁.obj hTc) fun h₂ hc₂ hs₂ => ?_))
    obtain ⟨oc, hoc, hpc⟩ := hc₂
    have S₂ := S₁.change (h' := h₂) (c' := ((9, 0, (cn : Int)), CellP (some (.int kvs[i].1 u)))) hTc (fun b o hb e => (hs₂.2 b hb).trans e) hoc hpc
    have hit₂ : h₂.IsKeyIter I d (i + 1) kvs.length ep := hit'.at fun o e => (hs₂.2 I hIc).trans e
    have S₃ := S₂.into
    have under : ∀ b o, B.get? b = some o → (mask h₂ (upd T cn ((9, 0, (cn : Int)), CellP (some (.int kvs[i].1 u)))) env.locals).get? b = some o := fun b o e => S₂.under e
    refine n_mono (turn i kvs[i].1 u T m O _ _ (by simp [hlt]) hI hb ho1 under S₃) (fun f s₃ hT => ?_) fun _ _ e => e
    obtain ⟨hf, T', m', O', S', hb', ho1', hI'⟩ := hT
    have hIn : upd T cn ((9, 0, (cn : Int)), CellP (some (.int kvs[i].1 u))) I = none := by rw [upd_ne hIc]; exact f1
    obtain ⟨oI, hoI, rI⟩ := hit₂
    have hmI : (mask h₂ (upd T cn ((9, 0, (cn : Int)), CellP (some (.int kvs[i].1 u)))) env.locals).get? I = some oI := by rw [mask_get hIn f2]; exact hoI
    have hF' : Free B env.locals T' [I] := fun b hb => by
      rw [List.mem_singleton.mp hb]
      refine ⟨?_, f2, f3⟩
      cases q : T' I with
      | none => rfl
      | some c => rw [S'.neB q] at hmI; cases hmI
    have nxt : ∃ m, m < kvs.length - i ∧ ∃ j T m_1 O, m = kvs.length - j ∧ j ≤ kvs.length ∧ St B env.locals T m_1 O s₃ ∧ Free B env.locals T [I] ∧ s₃.heap.IsKeyIter I d j kvs.length ep ∧ OB O ∧ O.1 = o1 ∧ Inv j T m_1 :=
      ⟨kvs.length - (i + 1), by omega, i + 1, T', m', O', rfl, hlt, S'.back under, hF', ⟨oI, S'.keep _ _ hmI, rI⟩, hb', ho1', hI'⟩
    rcases hf with rfl | rfl <;> exact nxt
  · obtain rfl : i = kvs.length := Nat.le_antisymm hi hge
    refine toN (wpAny_pyNext_dict_end hh hit (S.dictAt hTd) (by simp) fun h' he' => ?_)
    exact done T m O _ hI hb ho1 (S.but f2 f3 f1 fun b o hb e => he' b o hb e)
end
end Mine
end
section
open PySem PySem.W PySem.Calls PyProof.Rows
set_option Elab.async false
set_option maxRecDepth 100000
namespace Mine
section
variable {prog : Program} {w : World} {A : Around} {E : Value → Shared → Prop} {K : Frag} {mg mb : Str → Option Value} {B : Heap} {L : Addr} {T : TM} {m : Str → Option Value} {O : OG} {s : Shared}
theorem St.retO (S : St B L T m O s) {L' : Addr} {T' : TM} {m' : Str → Option Value} {O' : OG} {s' : Shared} (S' : St (mask s.heap T s.heap.objs.size) L' T' m' O' s') : St B L T' m O' s' := by
  obtain ⟨oL, es, ep, hL, r⟩ := S.ns
  have hLm : (mask s.heap T s.heap.objs.size).get? L = some oL := by rw [mask_get S.Lnone (Nat.ne_of_lt S.ltL)]; exact hL
  have nn {a : Addr} (h : (mask s.heap T s.heap.objs.size).get? a = none) : B.get? a = none := by
    cases e : B.get? a with
    | none => rfl
    | some o => rw [S.underC e] at h; cases h
  refine ⟨⟨oL, es, ep, S'.keep _ _ hLm, r⟩, fun b o e => S'.keep b o (S.underC e), S.LB, fun a c e => ?_, S'.gens, S'.os, S'.nm, S.big⟩
  obtain ⟨_, h2, h3⟩ := S'.sat a c e
  exact ⟨(fun q => by rw [q, hLm] at h2; cases h2), nn h2, h3⟩
theorem callFCN {f : Addr} {st : Stmt} {qual : Str} {dV cdv : Value} {args : Args} {binds : List (Str × Value)} {Q : Value → Shared → Prop}
    (W : Wd K mg mb B) (S : St B L T m O s) (hroom : A.depth < recursionLimit) (hf : FnIs K f st qual dV cdv)
    (hbind : ∀ name kV doc pm an ct, BindsTo s (fnOf name qual (argsOf st) (bodyOf st) (scopeOf st) dV kV doc pm an cdv ct) args binds)
    (hkind : ∀ n, ∀ x ∈ binds, (scopeOf st).names.lookup x.1 = some .local ∨ ((scopeOf st).names.lookup x.1 = some .cell ∧ ((cellsFrom n (scopeOf st).names []).lookup x.1).isSome = true))
    (hnd : ((cellsFrom 0 (scopeOf st).names []).map (·.1)).Nodup)
    (hco : (scopeOf st).isCoroutine = false) (hgen : (scopeOf st).isGenerator = false) (hk : (scopeOf st).kind = .function)
    (h : ∀ B' L' s' T₁, (∀ b o, B.get? b = some o → B'.get? b = some o) → Wd K mg mb B' → Sub T T₁ →
      (∀ n c, (cellsFrom (L' + 1) (scopeOf st).names []).lookup n = some c → T₁ c = some ((9, 0, (c : Int)), CellP (bindC (fun y => (scopeOf st).names.lookup y) binds (fun _ => none) n)) ∧ T c = none) →
      (∀ c d, T₁ c = some d → T c = none → d.1 = (9, 0, (c : Int))) →
      St B' L' T₁ (bindL (fun y => (scopeOf st).names.lookup y) binds fun _ => none) O s' →
      wpN (model prog w) (A.deeper (envF qual st L' f cdv (cellsFrom (L' + 1) (scopeOf st).names []))) (execs (bodyOf st) (envF qual st L' f cdv (cellsFrom (L' + 1) (scopeOf st).names []))) (EndsX B' L' B L m Q) NoR s') :
    wpN (model prog w) A (call (.ref f) args.pos args.kw) Q E s := by
  refine n_call ?_
  obtain ⟨name, kV, doc, pm, an, ct, oc, od, sl, ho⟩ := hf.ex
  have ho' := S.keep _ _ (W.X _ _ ho)
  obtain ⟨c, oc', vs, tq, hc, hoc, hdc, hq⟩ := codeRec_of (W.X.keeps S.keep) hf.cd
  refine codeN_tree rfl (toN ?_)
  show wpAny _ A.in1 (callAny (.ref f) args) _ _ s
  simp only [callAny]
  refine wpAny_bind (wpAny_load ho' ?_)
  subst hc
  simp only [callFunction, fnOf, hco, hgen]
  refine wpAny_bind (m := field (.ref c) 1) (wpAny_field hoc hdc hq (wpAny_bind (wpAny_pure ?_)))
  refine wpAny_bind (hbind name kV doc pm an ct _ _ _ _ ?_)
  refine wpAny_bind (wpAny_newFunctionEnv_cells hk (hkind _) fun env' he s' x => ?_)
  subst he
  refine wpAny_bind (wpAny_enterFrame ((W.lim.keeps S.keep).keeps x.toInCall.keep) hroom (wpAny_pure (And.intro rfl ?_)))
  refine codeN_func ?_
  obtain ⟨h₁, tk, rfl, hs⟩ := x.done
  have hk₁ := x.toInCall.keep
  have S₁ := S.call (tk := tk) x.toInCall.ns hk₁
  -- the cells go onto the map
  let cs := cellsFrom (s.heap.objs.size + 1) (scopeOf st).names []
  let cm := bindC (fun y => (scopeOf st).names.lookup y) binds (fun _ => Option.none)
  have hcs : ∀ n c, cs.lookup n = some c → h₁.IsCell c (cm n) ∧ s.heap.objs.size < c := fun n c e => ⟨x.cell n c e, x.above n c (mem_of_lookup e)⟩
  have hnd' : (cs.map (·.1)).Nodup := cellsFrom_names (scopeOf st).names 0 (s.heap.objs.size + 1) [] [] rfl ▸ hnd
  let T₁ : TM := fun a => match cs.find? (fun p => p.2 == a) with
    | some p => some ((9, 0, (a : Int)), CellP (cm p.1))
    | Option.none => T a
  have hmem : ∀ p ∈ cs, s.heap.objs.size < p.2 := fun p hp => (hcs p.1 p.2 (lookup_of_mem_nodup hnd' hp)).2
  have hT₁ : ∀ a, a < s.heap.objs.size → T₁ a = T a := fun a ha => by
    show (match cs.find? (fun p => p.2 == a) with | some p => some ((9, 0, (a : Int)), CellP (cm p.1)) | Option.none => T a) = T a
    cases q : cs.find? (fun p => p.2 == a) with
    | none => rfl
    | some p =>
      have h1 : p.2 = a := by have z := List.find?_some q; simpa using z
      have h2 := hmem p (List.mem_of_find?_eq_some q)
      rw [h1] at h2
      omega
  have hc₁ : ∀ n c, cs.lookup n = some c → T₁ c = some ((9, 0, (c : Int)), CellP (cm n)) := fun n c e => by
    show (match cs.find? (fun p => p.2 == c) with | some p => some ((9, 0, (c : Int)), CellP (cm p.1)) | Option.none => T c) = _
    cases q : cs.find? (fun p => p.2 == c) with
    | none => exact absurd (List.find?_eq_none.mp q (n, c) (mem_of_lookup e)) (by simp)
    | some p =>
      have h1 : p.2 = c := by have z := List.find?_some q; simpa using z
      have h2 : (p.1, c) ∈ cs := by rw [← h1]; exact List.mem_of_find?_eq_some q
      have h3 : p.1 = n := name_of_addr x.apart h2 (mem_of_lookup e)
      simp only [h3]
  have old : ∀ a c, T₁ a = some c → (T a = some c ∧ a < s.heap.objs.size) ∨ (∃ n, cs.lookup n = some a ∧ c = ((9, 0, (a : Int)), CellP (cm n))) := fun a c e => by
    have e' : (match cs.find? (fun p => p.2 == a) with | some p => some ((9, 0, (a : Int)), CellP (cm p.1)) | Option.none => T a) = some c := e
    cases q : cs.find? (fun p => p.2 == a) with
    | none => rw [q] at e'; exact .inl ⟨e', S.lt e'⟩
    | some p =>
      rw [q] at e'
      have h1 : p.2 = a := by have z := List.find?_some q; simpa using z
      have h2 : (p.1, a) ∈ cs := by rw [← h1]; exact List.mem_of_find?_eq_some q
      exact .inr ⟨p.1, lookup_of_mem_nodup hnd' h2, (Option.some.inj e').symm⟩
  have S₂ : St (mask s.heap T s.heap.objs.size) s.heap.objs.size T₁ (bindL (fun y => (scopeOf st).names.lookup y) binds fun _ => Option.none) O { s with heap := h₁, toks := tk } := by
    refine ⟨S₁.ns, S₁.keep, S₁.LB, fun a c e => ?_, S₁.gens, S₁.os, fun a c e => ?_, S₁.big⟩
    case refine_2 =>
      rcases old a c e with ⟨h1, _⟩ | ⟨n, h1, _⟩
      · exact S.nm _ _ h1
      · exact Nat.lt_trans (Nat.lt_trans S.big S.ltL) (hcs n a h1).2
    rcases old a c e with ⟨h1, _⟩ | ⟨n, h1, rfl⟩
    · exact S₁.sat a c h1
    · obtain ⟨⟨o, ho, hp⟩, hlt⟩ := hcs n a h1
      exact ⟨Nat.ne_of_gt hlt, by
        cases q : (mask s.heap T s.heap.objs.size).get? a with
        | none => rfl
        | some o' => exact absurd (Nat.lt_trans hlt (Heap.lt_size (of_mask q).2.2)) (Nat.lt_irrefl _), o, ho, hp⟩
  refine n_mono (h _ _ _ T₁ (fun b o e => S.underC e) (W.keeps fun b o e => S.underC e) (fun a c e => (hT₁ a (S.lt e)).trans e) (fun n c e => ⟨hc₁ n c e, S.none_of (Nat.le_of_lt (hcs n c e).2)⟩) (fun c d e hn => ?_) S₂) (fun fl s'' hE => ?_) fun _ _ x => x.elim
  · rcases old c d e with ⟨h1, _⟩ | ⟨n, h1, rfl⟩
    · rw [h1] at hn; cases hn
    · rfl
  · obtain ⟨T', m', O', S', q⟩ := hE
    have z := q (S.retO S')
    cases fl <;> exact z
end
end Mine
end
section
namespace Mine
/-! ## walks of so many steps or fewer: no program in sight -/
noncomputable def rch {α : Type} (R : α → α → Prop) : Nat → α → α → Prop
  | 0, a, b => a = b
  | k + 1, a, b => rch R k a b ∨ ∃ x, rch R k a x ∧ R x b
section
variable {α : Type} {R : α → α → Prop} {a b c : α} {k l : Nat}
theorem rch_succ (h : rch R k a b) : rch R (k + 1) a b := .inl h
theorem rch_le (h : rch R k a b) (hl : k ≤ l) : rch R l a b := by
  induction hl with
  | refl => exact h
  | step _ ih => exact .inl ih
theorem rch_step (h : rch R k a b) (e : R b c) : rch R (k + 1) a c := .inr ⟨b, h, e⟩
theorem rch_self : rch R k a a := rch_le (k := 0) rfl (Nat.zero_le _)
theorem rch_one : rch R 1 a b ↔ a = b ∨ R a b := by
  constructor
  · rintro (h | ⟨x, rfl, h⟩)
    · exact .inl h
    · exact .inr h
  · rintro (rfl | h)
    · exact rch_self
    · exact .inr ⟨a, rfl, h⟩
theorem rch_trans (h : rch R k a b) (h' : rch R l b c) : rch R (k + l) a c := by
  induction l generalizing c with
  | zero => cases h'; exact h
  | succ l ih =>
    rcases h' with h' | ⟨x, h', e⟩
    · exact .inl (ih h')
    · exact .inr ⟨x, ih h', e⟩
theorem rch_split (h : rch R (k + l) a c) : ∃ b, rch R k a b ∧ rch R l b c := by
  induction l generalizing c with
  | zero => exact ⟨c, h, rfl⟩
  | succ l ih =>
    rcases h with h | ⟨x, h, e⟩
    · obtain ⟨b, h1, h2⟩ := ih h; exact ⟨b, h1, .inl h2⟩
    · obtain ⟨b, h1, h2⟩ := ih h; exact ⟨b, h1, .inr ⟨x, h2, e⟩⟩
/-- nothing new at one level, nothing new later -/
theorem rch_stable (h : ∀ b, rch R (k + 1) a b → rch R k a b) (hl : k ≤ l) : ∀ b, rch R l a b → rch R k a b := by
  induction hl with
  | refl => exact fun b h => h
  | step _ ih =>
    rintro b (hb | ⟨x, hx, e⟩)
    · exact ih b hb
    · exact h b (.inr ⟨x, ih x hx, e⟩)
theorem rch_symm (hs : ∀ a b, R a b → R b a) (h : rch R k a b) : rch R k b a := by
  induction k generalizing b with
  | zero => exact Eq.symm h
  | succ k ih =>
    rcases h with h | ⟨x, h, e⟩
    · exact .inl (ih h)
    · have h1 : rch R 1 b x := rch_one.mpr (.inr (hs _ _ e))
      have := rch_trans h1 (ih h)
      rwa [Nat.add_comm] at this
theorem rch_congr {R' : α → α → Prop} (h : ∀ a b, R a b ↔ R' a b) : rch R k a b ↔ rch R' k a b := by
  have : R = R' := by funext a b; exact propext (h a b)
  rw [this]
theorem rch_in {p : α → Prop} (hc : ∀ a b, R a b → p b) (ha : p a) (h : rch R k a b) : p b := by
  induction k generalizing b with
  | zero => cases h; exact ha
  | succ k ih =>
    rcases h with h | ⟨x, _, e⟩
    · exact ih h
    · exact hc _ _ e
/-- the power of a power: steps that are walks themselves -/
theorem rch_pow {j : Nat} (hj : 0 < j) : rch (fun a b => a ≠ b ∧ rch R j a b) k a b ↔ rch R (j * k) a b := by
  induction k generalizing b with
  | zero => rfl
  | succ k ih =>
    constructor
    · rintro (h | ⟨x, h, _, e⟩)
      · exact rch_le (ih.mp h) (Nat.mul_le_mul_left _ (Nat.le_succ _))
      · exact rch_trans (ih.mp h) e
    · intro h
      obtain ⟨x, h1, h2⟩ := rch_split (k := j * k) (l := j) h
      by_cases e : x = b
      · subst e; exact .inl (ih.mpr h1)
      · exact .inr ⟨x, ih.mpr h1, e, h2⟩
/-- the levels of the search from n: what was seen, what comes next -/
theorem level_next {S N : α → Prop} {n : α} (hl : 1 ≤ l) (h1 : ∀ v, N v → rch R l n v) (h2 : ∀ v, rch R l n v → rch R (l - 1) n v ∨ N v) (hS : ∀ v, S v ↔ v ≠ n ∧ rch R (l - 1) n v) :
    (∀ v, (S v ∨ (N v ∧ v ≠ n)) ↔ v ≠ n ∧ rch R l n v) ∧ (∀ w, (∃ v, N v ∧ v ≠ n ∧ ¬ S v ∧ R v w) → rch R (l + 1) n w) ∧ (∀ w, rch R (l + 1) n w → rch R l n w ∨ ∃ v, N v ∧ v ≠ n ∧ ¬ S v ∧ R v w) := by
  refine ⟨fun v => ⟨?_, fun h => ?_⟩, fun w ⟨v, hv, _, _, e⟩ => rch_step (h1 v hv) e, fun w h => ?_⟩
  · rintro (h | ⟨h, hn⟩)
    · exact ⟨((hS v).mp h).1, rch_le ((hS v).mp h).2 (Nat.sub_le _ _)⟩
    · exact ⟨hn, h1 v h⟩
  · rcases h2 v h.2 with h' | h'
    · exact .inl ((hS v).mpr ⟨h.1, h'⟩)
    · exact .inr ⟨h', h.1⟩
  · rcases h with h | ⟨x, hx, e⟩
    · exact .inl h
    · by_cases hn : x = n
      · subst hn; exact .inl (rch_le (rch_one.mpr (.inr e)) hl)
      · by_cases hs : rch R (l - 1) n x
        · have := rch_step hs e
          rw [Nat.sub_add_cancel hl] at this
          exact .inl this
        · rcases h2 x hx with h' | h'
          · exact absurd h' hs
          · exact .inr ⟨x, h', hn, fun z => hs ((hS x).mp z).2, e⟩
theorem level_end {S : α → Prop} {n : α} {kk : Nat} (hl : 1 ≤ l) (hk : l ≤ kk) (h2 : ∀ v, rch R l n v → rch R (l - 1) n v) (hS : ∀ v, S v ↔ v ≠ n ∧ rch R (l - 1) n v) : ∀ v, S v ↔ v ≠ n ∧ rch R kk n v := fun v => by
  rw [hS]
  have := rch_stable (k := l - 1) (l := kk) (a := n) (R := R) (fun b h => h2 b (by rwa [Nat.sub_add_cancel hl] at h)) (by omega) v
  exact ⟨fun h => ⟨h.1, rch_le h.2 (by omega)⟩, fun h => ⟨h.1, this h.2⟩⟩
end
end Mine
end
section
open PySem PySem.W PySem.Calls PyProof.Rows
set_option Elab.async false
set_option maxRecDepth 100000
namespace Mine
-- "L": what a name holds
local macro_rules | `(tactic| walk_at "L") => `(tactic| first
  | assumption
  | exact fs_eq
  | (refine fs_ne (by decide) ?_; walk_at "L")
  | rfl)
-- "M": the next step of the walk, where it is the same everywhere
local macro_rules | `(tactic| walk_at "M") => `(tactic| first
  | ((with_reducible refine loadG ?_); refine ldnS (by assumption) (by walk_at "L") ?_)
  | ((with_reducible refine stG ?_); refine stS (by assumption) ?_; intro _ _)
  | ((with_reducible refine nameG ?_); refine ldS (by assumption) (by walk_at "L") ?_)
  | with_reducible refine wpAny_execs_cons ?_
  | with_reducible refine wpAny_execs_nil ?_
  | with_reducible refine wpAny_BinOp ?_
  | with_reducible refine wpAny_Constant_int ?_
  | with_reducible refine wpAny_Constant_str ?_
  | with_reducible refine Constant_none ?_
  | with_reducible refine Constant_bool ?_
  | with_reducible refine wpAny_Compare1 ?_
  | with_reducible refine wpAny_isTrue_Compare1 ?_
  | with_reducible refine isTrue_not ?_
  | with_reducible refine isTrue_and_nil ?_
  | with_reducible refine isTrue_or_nil ?_
  | with_reducible refine isTrue_and ?_
  | with_reducible refine isTrue_or ?_
  | with_reducible refine IfExp_ ?_
  | with_reducible refine wpAny_If ?_
  | ((with_reducible refine asgN ?_ ?_); (focus rfl))
  | ((with_reducible refine asgS ?_ ?_); (focus rfl))
  | ((with_reducible refine asgA ?_ ?_); (focus rfl))
  | ((with_reducible refine exprE ?_ ?_ ?_); (focus rfl); (focus rfl))
  | with_reducible refine wpAny_AugAssign_Name ?_
  | with_reducible refine wpAny_Return_some ?_
  | with_reducible refine wpAny_Break ?_
  | with_reducible refine wpAny_Continue ?_
  | ((with_reducible refine isG ?_); refine wpAny_is_other (by rfl) (by intro e; cases e) ?_)
  | ((with_reducible refine trG ?_); refine isTrue_plain ?_)
  | with_reducible refine wpAny_truthy_bool ?_
  | with_reducible refine add_int ?_
  | with_reducible refine iadd_int ?_
  | with_reducible refine sub_int ?_
  | with_reducible refine lt_int ?_
  | with_reducible refine le_int ?_
  | with_reducible refine gt_int ?_
  | with_reducible refine eq_int ?_
  | with_reducible refine ne_int ?_
  | with_reducible refine splE ?_
  | ((with_reducible refine splG ?_); refine spliced_more ?_)
  | with_reducible refine Tuple_ ?_
  | with_reducible refine List_ ?_
  | ((with_reducible refine methC (pl := ?_) ?_ ?_); rotate_left; (focus rfl))
  | ((with_reducible refine callC ?_ ?_); (focus rfl))
  | ((with_reducible refine cwB1 ?_ ?_ ?_); (focus rfl); (focus rfl))
  | ((with_reducible refine cwT1 ?_ ?_ ?_); (focus rfl); (focus rfl))
  | ((with_reducible refine cwM1 ?_ ?_ ?_); (focus rfl); (focus rfl))
  | with_reducible refine Subscript_ ?_
  | ((with_reducible refine attrE ?_ ?_); (focus with_unfolding_all rfl))
  | (show wpAny _ _ (execs _ _) _ _ _; first | refine wpAny_execs_cons ?_ | refine wpAny_execs_nil ?_))
section
/-- a statement's own body -/
def subB : Stmt → List Stmt
  | .For _ _ b _ _ => b
  | .While _ b _ _ => b
  | .If _ b _ _ => b
  | _ => []
theorem mem_keys_stored {kvs : List (Int × Value)} {k : Int} {v : Value} {j : Int} : j ∈ (stored kvs k v).map (·.1) ↔ j ∈ kvs.map (·.1) ∨ j = k := by
  rw [keys_stored]
  split
  · rename_i h
    constructor
    · exact .inl
    · rintro (h' | rfl)
      · exact h'
      · exact h
  · simp
theorem mem_keys_merged {kvs : List (Int × Value)} : ∀ {more : List (Int × Value)} {j : Int}, j ∈ (merged kvs more).map (·.1) ↔ j ∈ kvs.map (·.1) ∨ j ∈ more.map (·.1) := by
  intro more
  unfold merged
  induction more generalizing kvs with
  | nil => intro j; simp
  | cons p more ih =>
    intro j
    rw [List.foldl_cons, ih, mem_keys_stored, List.map_cons, List.mem_cons]
    constructor
    · rintro ((h | h) | h)
      · exact .inl h
      · exact .inr (.inl h)
      · exact .inr (.inr h)
    · rintro (h | h | h)
      · exact .inl (.inl h)
      · exact .inl (.inr h)
      · exact .inr h
variable {prog : Program} {w : World} {A : Around} {E : Value → Shared → Prop} {K : Frag} {mg mb : Str → Option Value} {B : Heap} {L : Addr} {T : TM} {m : Str → Option Value} {O : OG} {s : Shared} {t : Tag} {env : Env}
  {gid k : Nat} {C x dx fn : Addr} {f : Str → Option Value} {name : Str} {ox : Obj} {od : Option Obj} {dir ca : Bool} {ns : List Int} {R : Int → Int → Prop}
  {dn da dp : Addr} {nk ak pk : List (Int × Value)} {en ea ep : Nat}

theorem GrC.at {T' : TM} (h : GrC prog w T gid C x dir ca ns R dx k f dn da dp nk ak pk en ea ep) (s : ∀ a c, T a = some c → c.1.2.1 = gid ∨ c.1 = (4, 0, 0) → T' a = some c) : GrC prog w T' gid C x dir ca ns R dx k f dn da dp nk ak pk en ea ep :=
  { h with
    I := ⟨s _ _ h.I.i (.inl rfl), s _ _ h.I.d (.inl rfl)⟩
    tN := s _ _ h.tN (.inl rfl)
    vN := h.vN.at fun a c e z => s a c e (.inr z)
    tA := s _ _ h.tA (.inl rfl)
    vA := fun q hq => (h.vA q hq).at fun a c e z => s a c e (z.imp (fun z => by rw [z]) id)
    tP := fun e => s _ _ (h.tP e) (.inl rfl)
    vP := fun e q hq => let ⟨P, h1, h2⟩ := h.vP e q hq; ⟨P, h1, h2.at fun a c e z => s a c e (z.imp (fun z => by rw [z]) id)⟩ }
theorem Gr.at {T' : TM} (h : Gr prog w T gid C x dir ca ns R) (s : ∀ a c, T a = some c → c.1.2.1 = gid ∨ c.1 = (4, 0, 0) → T' a = some c) : Gr prog w T' gid C x dir ca ns R :=
  let ⟨dx, k, f, dn, da, dp, nk, ak, pk, en, ea, ep, z⟩ := h; ⟨dx, k, f, dn, da, dp, nk, ak, pk, en, ea, ep, z.at s⟩
/-- G[n], the first time: the nodes' dict stands -/
theorem getItemN' {n : Int} {u : Tok} {Q : Value → Shared → Prop} (W : Wd K mg mb B) (S : St B L T m O s) (hroom : A.depth < 800) (hh : A.handled = none) (H : ClsK K C) (HA : AdjK K C dir) (G : GrC prog w T gid C x dir false ns R dx k f dn da dp nk ak pk en ea ep) (hn : n ∈ ns)
    (h : ∀ v T' s' k' f', Keep gid T T' → GrC prog w T' gid C x dir true ns R dx k' f' dn da dp nk ak pk en ea ep → Nbrs prog w T' 2 gid n (R n) v → St B L T' m O s' → Q v s') : wpN (model prog w) A (call (.ref 419) [.ref x, .int n u]) Q E s := by
  obtain ⟨cdv, hf⟩ := H.mGi.fd
  obtain ⟨cp, fA, tk, cdv', P, N, F, hA⟩ := HA.ex
  refine callFN (args := ⟨[.ref x, .int n u], []⟩) (binds := [(Str.ofString "self", .ref x), (Str.ofString "n", .int n u)]) W S (Nat.lt_trans hroom (by decide)) hf (fun _ _ _ _ _ _ => BindsTo.of_eq rfl) (by decide) (locs rfl) rfl rfl rfl fun B' L' s' hB' W' S' => ?_
  refine n_execs_cons (n_Return (n_Sub (n_Attr (by with_unfolding_all rfl) (toN (ldS S' rfl ?_)))))
  refine getBindND W' S' G.I N (by rw [G.fC]; rfl) fun s₁ S₁ => ?_
  refine cpGetN (da := da) W' S₁ G.I (by show A.depth + 1 < 900; omega) hh (by have := G.hk.1; omega) F P H.dct (by rw [G.fC]; rfl) (fun {A' B'' L'' m'' s''} {Q''} hd W'' S'' hq => ?_) fun s₂ S₂ => ⟨rfl, ?_⟩
  · have hr : A'.depth < 900 := by have : A'.depth ≤ A.depth + 1 + 5 := hd; omega
    rcases hA with ⟨rfl, cd, hA⟩ | ⟨rfl, cd, hA⟩
    · exact adjF0 W'' S'' hr H hA G hq
    · exact adjF1 W'' S'' hr H hA G hq
  · have G' : GrC prog w (upd T dx ((1, gid, 1), DS prog w (fs f "adj" (.ref da)) (k + 1))) gid C x dir true ns R dx (k + 1) (fs f "adj" (.ref da)) dn da dp nk ak pk en ea ep :=
      G.withI (G.I.put (k' := k + 1) (f' := fs f "adj" (.ref da))) (fun a c e n => by rw [upd_ne fun q => n (by rw [q, G.I.d] at e; cases e; rfl)]; exact e) ⟨by have := G.hk.2 rfl; omega, fun e => (nomatch e)⟩ (fun n hn => fs_ne (beq_eq_false_iff_ne.mpr hn) rfl) fs_eq
    refine toN (ldS S₂ rfl (toN ?_))
    obtain ⟨v, hv, hN⟩ := G'.adjAt hn (S₂.nodup G'.tA)
    refine subDictS S₂ G'.tA hv fun tk' => ?_
    refine ⟨_, _, S₂, fun z => h v _ _ _ _ (fun a c e n => ?_) G' hN z⟩
    rw [upd_ne fun q => n (by rw [q, G.I.d] at e; cases e; rfl)]; exact e

/-- one level of the search -/
theorem innerF {f cn g sd nd td : Addr} {cdv : Value} {cl : List (Str × Addr)} {gg : Nat} {tt : Tag} {n l : Int} {un ul : Tok} {S0 lev : List (Int × Value)} {e0 e1 el : Nat} {Q : Flow → Shared → Prop}
    (W : Wd K mg mb B) (S : St B L T m O s) (hroom : A.depth < 900) (hh : A.handled = none) (H : ClsK K C) (HA : AdjK K C dir) (HS : SubK K C 419) (hkp : keepIn K (.ref 419) = true) (hcl : cl.lookup (Str.ofString "n") = some cn)
    (G : Gr prog w T gg C g dir true ns R) (hcn : T cn = some (t, CellP (some (.int n un)))) (hsd : T sd = some ((5, 0, 1), DI prog w S0 e0)) (hnd : T nd = some ((5, 0, 2), DI prog w [] e1)) (htd : T td = some (tt, DI prog w lev el))
    (hg0 : gg ≠ 0) (d1 : nd ≠ sd) (d2 : td ≠ sd) (d3 : td ≠ nd) (d4 : cn ≠ sd) (d5 : cn ≠ nd) (hlev : ∀ v ∈ lev.map (·.1), v ∈ ns) (hS0 : ∀ v ∈ S0.map (·.1), v ∈ ns)
    (m1 : m "G" = some (.ref g)) (m2 : m "seen" = some (.ref sd)) (m3 : m "level" = some (.int l ul)) (m4 : m "nextlevel" = some (.ref nd)) (m5 : m "thislevel" = some (.ref td))
    (h : ∀ T' m' sk se nk ne s', (∀ a c, T a = some c → a ≠ sd → a ≠ nd → T' a = some c) → (∀ y : Str, y ≠ Str.ofString "v" → m' y = m y) → T' sd = some ((5, 0, 1), DI prog w sk se) → T' nd = some ((5, 0, 2), DI prog w nk ne) →
      (∀ v, v ∈ sk.map (·.1) ↔ v ∈ S0.map (·.1) ∨ (v ∈ lev.map (·.1) ∧ v ≠ n)) → (∀ v, v ∈ nk.map (·.1) ↔ ∃ y, y ∈ lev.map (·.1) ∧ y ≠ n ∧ y ∉ S0.map (·.1) ∧ R y v) → St B L T' m' O s' → Q .next s') :
    wpAny (model prog w) A (exec (nth 2 (subB (nth 3 (subB (nth 3 (bodyOf (top 16))))))) (envF "power" (top 16) L f cdv cl)) Q E s := by
  have hlnd := S.nodup htd
  refine forS (B := B) ?_
  repeat walk_at "M"
  refine forDict hh S htd
    (fun i T' m' => ∃ sk se nk ne, (∀ a c, T a = some c → a ≠ sd → a ≠ nd → T' a = some c) ∧ (∀ y : Str, y ≠ Str.ofString "v" → m' y = m y) ∧ T' sd = some ((5, 0, 1), DI prog w sk se) ∧ T' nd = some ((5, 0, 2), DI prog w nk ne) ∧
      (∀ v, v ∈ sk.map (·.1) ↔ v ∈ S0.map (·.1) ∨ (v ∈ (lev.map (·.1)).take i ∧ v ≠ n)) ∧ (∀ v, v ∈ nk.map (·.1) ↔ ∃ y, y ∈ (lev.map (·.1)).take i ∧ y ≠ n ∧ y ∉ S0.map (·.1) ∧ R y v))
    ⟨S0, e0, [], e1, fun _ _ e _ _ => e, fun _ _ => rfl, hsd, hnd, by simp, by simp⟩ (fun i T' m' _ hI => ?_) ?_ ?_
  · obtain ⟨sk, se, nk, ne, i1, _⟩ := hI
    exact ⟨_, i1 _ _ htd d2 d3⟩
  · rintro i v u T' m' B₁ s₁ hv ⟨sk, se, nk, ne, i1, i2, i3, i4, i5, i6⟩ hB₁ S₁
    have W₁ := W.keeps hB₁
    have q1 : m' "G" = some (.ref g) := (i2 _ (by decide)).trans m1
    have q2 : m' "seen" = some (.ref sd) := (i2 _ (by decide)).trans m2
    have q3 : m' "level" = some (.int l ul) := (i2 _ (by decide)).trans m3
    have q4 : m' "nextlevel" = some (.ref nd) := (i2 _ (by decide)).trans m4
    have c₁ := i1 _ _ hcn d4 d5
    have hvl : v ∈ lev.map (·.1) := List.mem_of_getElem? hv
    have hvn := hlev v hvl
    have hni : v ∉ (lev.map (·.1)).take i := not_mem_take hlnd hv
    have hsucc : ∀ y, y ∈ (lev.map (·.1)).take (i + 1) ↔ y ∈ (lev.map (·.1)).take i ∨ y = v := fun y => by rw [List.take_add_one, hv]; simp
    have hmv : ∀ y : Str, y ≠ Str.ofString "v" → fs m' (Str.ofString "v") (.int v u) y = m y := fun y hy => (fs_ne (beq_eq_false_iff_ne.mpr hy) rfl).trans (i2 y hy)
    repeat walk_at "M"
    refine ldCellS S₁ hcl c₁ ?_
    repeat walk_at "M"
    by_cases hvn' : v = n
    · subst hvn'
      rw [if_pos (by simp)]
      repeat walk_at "M"
      refine ⟨_, _, S₁, sk, se, nk, ne, i1, hmv, i3, i4, fun y => ?_, fun y => ?_⟩
      · rw [i5, hsucc]
        constructor
        · rintro (h | ⟨h, h'⟩)
          · exact .inl h
          · exact .inr ⟨.inl h, h'⟩
        · rintro (h | ⟨h | h, h'⟩)
          · exact .inl h
          · exact .inr ⟨h, h'⟩
          · exact absurd h h'
      · rw [i6]
        constructor
        · rintro ⟨z, z1, z2⟩
          exact ⟨z, (hsucc z).mpr (.inl z1), z2⟩
        · rintro ⟨z, z1, z2⟩
          rcases (hsucc z).mp z1 with z1 | z1
          · exact ⟨z, z1, z2⟩
          · exact absurd z1 z2.1
    · rw [if_neg (by simpa using hvn')]
      repeat walk_at "M"
      refine notInDictS S₁ i3 fun tk => ?_
      repeat walk_at "M"
      rw [val_isSome (S₁.nodup i3)]
      have hsv : v ∈ sk.map (·.1) ↔ v ∈ S0.map (·.1) := by rw [i5]; exact ⟨fun h => h.elim id fun h => absurd h.1 hni, .inl⟩
      by_cases hs : v ∈ S0.map (·.1)
      · rw [if_neg (by simp [hsv, hs])]
        repeat walk_at "M"
        refine ⟨_, _, S₁, sk, se, nk, ne, i1, hmv, i3, i4, fun y => ?_, fun y => ?_⟩
        · rw [i5, hsucc]
          constructor
          · rintro (h | ⟨h, h'⟩)
            · exact .inl h
            · exact .inr ⟨.inl h, h'⟩
          · rintro (h | ⟨h | rfl, h'⟩)
            · exact .inl h
            · exact .inr ⟨h, h'⟩
            · exact .inl hs
        · rw [i6]
          constructor
          · rintro ⟨z, z1, z2⟩
            exact ⟨z, (hsucc z).mpr (.inl z1), z2⟩
          · rintro ⟨z, z1, z2⟩
            rcases (hsucc z).mp z1 with z1 | rfl
            · exact ⟨z, z1, z2⟩
            · exact absurd hs z2.2.1
      · rw [if_pos (by simp [hsv, hs])]
        repeat walk_at "M"
        have hks : ∀ y ∈ sk.map (·.1), y ∈ ns := fun y hy => by
          rcases (i5 y).mp hy with hy | hy
          · exact hS0 y hy
          · exact hlev y (List.mem_of_mem_take hy.1)
        have hsl := nodup_le (S₁.nodup i3) hks
        have hnsl : ns.length ≤ 6 := let ⟨_, _, _, _, _, _, _, _, _, _, _, _, G⟩ := G; G.len
        rw [List.length_map] at hsl
        refine setDictS S₁ i3 (by rw [sizeLine_eq]; omega) fun se' s₂ S₂ => ?_
        have j3 : upd T' sd ((5, 0, 1), DI prog w (stored sk v (.int l ul)) se') sd = _ := upd_self
        have j4 : upd T' sd ((5, 0, 1), DI prog w (stored sk v (.int l ul)) se') nd = _ := (upd_ne d1).trans i4
        have j1 : ∀ a c, T a = some c → a ≠ sd → a ≠ nd → upd T' sd ((5, 0, 1), DI prog w (stored sk v (.int l ul)) se') a = some c := fun a c e z1 z2 => (upd_ne z1).trans (i1 a c e z1 z2)
        have G₂ : Gr prog w (upd T' sd ((5, 0, 1), DI prog w (stored sk v (.int l ul)) se')) gg C g dir true ns R := G.at fun a c e z => j1 a c e (fun q => by
          rw [q, hsd] at e; cases e
          rcases z with z | z
          · exact hg0 z.symm
          · cases z) fun q => by
          rw [q, hnd] at e; cases e
          rcases z with z | z
          · exact hg0 z.symm
          · cases z
        generalize upd T' sd ((5, 0, 1), DI prog w (stored sk v (.int l ul)) se') = T₂ at S₂ j1 j3 j4 G₂
        clear S₁
        repeat walk_at "M"
        refine methDictS PySem.F.slot_dict_update typeOf_dupd S₂ j4 ?_
        repeat walk_at "M"
        obtain ⟨dx, od, IA⟩ : ∃ dx od, InstAt s₂.heap g (instObj C dx) C (some od) := by
          obtain ⟨dx, k, f, dn, da, dp, nk, ak, pk, en, ea, ep, G⟩ := G₂
          obtain ⟨od, IA, _⟩ := G.I.at S₂
          exact ⟨dx, od, IA⟩
        refine subI (W₁.X.keeps S₂.keep) IA HS ?_
        refine getItemS W₁ S₂ hroom H HA G₂ hvn fun v' s₃ hN S₃ => ?_
        obtain ⟨a, ks, ek, rfl, ta, hks', _⟩ := hN
        have hvns : ∀ y ∈ ks.map (·.1), y ∈ ns := fun y hy => by
          obtain ⟨_, _, _, _, _, _, _, _, _, _, _, _, G⟩ := G
          exact (G.cl _ _ ((hks' y).mp hy)).2
        have hkl := nodup_le (S₃.nodup ta) hvns
        have hnk : ∀ y ∈ nk.map (·.1), y ∈ ns := fun y hy => by
          obtain ⟨_, _, _, _, _, _, _, _, _, _, _, _, G⟩ := G
          obtain ⟨z, _, _, _, hz⟩ := (i6 y).mp hy
          exact (G.cl _ _ hz).2
        have hnl := nodup_le (S₃.nodup j4) hnk
        rw [List.length_map] at hkl hnl
        repeat walk_at "M"
        refine updateS S₃ j4 ta (ne_of_tag j4 ta (by intro e; cases e)) (by rw [sizeLine_eq]; omega) fun ep' s₄ S₄ => ?_
        repeat walk_at "M"
        refine ⟨_, _, S₄, _, _, _, _, fun b c e z1 z2 => (upd_ne z2).trans (j1 b c e z1 z2), hmv, (upd_ne (Ne.symm d1)).trans j3, upd_self, fun y => ?_, fun y => ?_⟩
        · rw [mem_keys_stored, i5, hsucc]
          constructor
          · rintro ((h | ⟨h, h'⟩) | rfl)
            · exact .inl h
            · exact .inr ⟨.inl h, h'⟩
            · exact .inr ⟨.inr rfl, hvn'⟩
          · rintro (h | ⟨h | h, h'⟩)
            · exact .inl (.inl h)
            · exact .inl (.inr ⟨h, h'⟩)
            · exact .inr h
        · rw [mem_keys_merged, i6, hks']
          constructor
          · rintro (⟨z, z1, z2⟩ | hy)
            · exact ⟨z, (hsucc z).mpr (.inl z1), z2⟩
            · exact ⟨v, (hsucc v).mpr (.inr rfl), hvn', hs, hy⟩
          · rintro ⟨z, z1, z2⟩
            rcases (hsucc z).mp z1 with z1 | rfl
            · exact .inl ⟨z, z1, z2⟩
            · exact .inr z2.2.2
  · rintro T' m' s' ⟨sk, se, nk, ne, i1, i2, i3, i4, i5, i6⟩ S'
    have e : (lev.map (·.1)).take lev.length = lev.map (·.1) := List.take_of_length_le (by rw [List.length_map]; exact Nat.le_refl _)
    rw [e] at i5 i6
    exact h _ _ _ _ _ _ _ i1 i2 i3 i4 i5 i6 S'

/-- the search from one node -/
theorem searchF {f cn g sd nd : Addr} {cdv : Value} {cl : List (Str × Addr)} {gg : Nat} {tt : Tag} {n kk : Int} {un uk u1 : Tok} {e0 e1 : Nat} {lev : List (Int × Value)} {Q : Flow → Shared → Prop}
    (W : Wd K mg mb B) (S : St B L T m O s) (hroom : A.depth < 900) (hh : A.handled = none) (H : ClsK K C) (HA : AdjK K C dir) (HS : SubK K C 419) (hkp : keepIn K (.ref 419) = true) (hcl : cl.lookup (Str.ofString "n") = some cn)
    (G : Gr prog w T gg C g dir true ns R) (hcn : T cn = some (t, CellP (some (.int n un)))) (ht : t.1 = 9) (hsd : T sd = some ((5, 0, 1), DI prog w [] e0)) (hnd : T nd = some (tt, DI prog w lev e1)) (htt : tt = (2, gg, n))
    (hg0 : gg ≠ 0) (hnn : n ∈ ns) (hk0 : 0 < kk) (hlev : ∀ v, v ∈ lev.map (·.1) ↔ R n v)
    (m1 : m "G" = some (.ref g)) (m2 : m "seen" = some (.ref sd)) (m3 : m "level" = some (.int 1 u1)) (m4 : m "nextlevel" = some (.ref nd)) (m6 : m "k" = some (.int kk uk))
    (h : ∀ T' m' sk se s', (∀ a c, T a = some c → a ≠ sd → T' a = some c) → (∀ y : Str, y ∉ (["v", "thislevel", "nextlevel", "level"] : List Str) → m' y = m y) → T' sd = some ((5, 0, 1), DI prog w sk se) →
      (∀ v, v ∈ sk.map (·.1) ↔ v ≠ n ∧ rch R kk.toNat n v) → St B L T' m' O s' → Q .next s') :
    wpAny (model prog w) A (exec (nth 3 (subB (nth 3 (bodyOf (top 16))))) (envF "power" (top 16) L f cdv cl)) Q E s := by
  have hns : ∀ a b, R a b → a ∈ ns ∧ b ∈ ns := let ⟨_, _, _, _, _, _, _, _, _, _, _, _, G⟩ := G; G.cl
  refine whileS (B := B) (k := kk.toNat - 1) (fun μ T' m' => ∃ (l : Nat) (ul : Tok) (sk : List (Int × Value)) (se : Nat) (nd : Addr) (tt : Tag) (nk : List (Int × Value)) (ne : Nat), μ = kk.toNat - l ∧ 1 ≤ l ∧ l ≤ kk.toNat ∧
      (∀ a c, T a = some c → a ≠ sd → T' a = some c) ∧ (∀ y : Str, y ∉ (["v", "thislevel", "nextlevel", "level"] : List Str) → m' y = m y) ∧ T' sd = some ((5, 0, 1), DI prog w sk se) ∧ T' nd = some (tt, DI prog w nk ne) ∧ (tt = (2, gg, n) ∨ tt = (5, 0, 2)) ∧
      m' "level" = some (.int (l : Int) ul) ∧ m' "nextlevel" = some (.ref nd) ∧
      (∀ v, v ∈ nk.map (·.1) → rch R l n v) ∧ (∀ v, rch R l n v → rch R (l - 1) n v ∨ v ∈ nk.map (·.1)) ∧ (∀ v, v ∈ sk.map (·.1) ↔ v ≠ n ∧ rch R (l - 1) n v) ∧ (∀ v ∈ nk.map (·.1), v ∈ ns)) S ?_ ?_
  · refine ⟨1, u1, [], e0, nd, tt, lev, e1, rfl, Nat.le_refl _, by omega, fun _ _ e _ => e, fun _ _ => rfl, hsd, hnd, .inl htt, m3, m4, fun v hv => rch_one.mpr (.inr ((hlev v).mp hv)), fun v hv => ?_, fun v => ?_, fun v hv => (hns _ _ ((hlev v).mp hv)).2⟩
    · rcases rch_one.mp hv with hv | hv
      · exact .inl hv
      · exact .inr ((hlev v).mpr hv)
    · exact ⟨fun h => (nomatch h), fun h => (h.1 h.2.symm).elim⟩
  · rintro μ T' m' s₁ ⟨l, ul, sk, se, nd, tt, nk, ne, rfl, l1, l2, i1, i2, i3, i4, i5, i6, i7, i8, i9, i10, i11⟩ S₁
    have hnl := nodup_le (S₁.nodup i4) i11
    have hnsl : ns.length ≤ 6 := let ⟨_, _, _, _, _, _, _, _, _, _, _, _, G⟩ := G; G.len
    rw [List.length_map] at hnl
    have hne : nd ≠ sd := ne_of_tag i4 i3 (by rcases i5 with rfl | rfl <;> (intro e; cases e))
    have hcs : cn ≠ sd := ne_of_tag hcn hsd (fun e => by have : t.1 = 5 := congrArg Prod.fst e; omega)
    repeat walk_at "M"
    refine truthyDictS S₁ i4 (by omega) fun tk => ?_
    cases nk with
    | nil =>
      rw [if_neg (by simp)]
      refine h T' m' sk se _ i1 i2 i3 (level_end (R := R) l1 l2 (fun v hv => (i9 v hv).elim id fun z => (nomatch z)) i10) S₁
    | cons p nk' =>
      rw [if_pos (by simp)]
      generalize p :: nk' = nk at i4 i8 i9 i11 hnl
      have q1 : m' "G" = some (.ref g) := (i2 _ (by decide)).trans m1
      have q2 : m' "seen" = some (.ref sd) := (i2 _ (by decide)).trans m2
      have q6 : m' "k" = some (.int kk uk) := (i2 _ (by decide)).trans m6
      repeat walk_at "M"
      rename_i s₂ S₂
      refine newDictS S₂ (5, 0, 2) fun d s₃ hd S₃ => ?_
      clear S₂
      have a1 : upd T' d ((5, 0, 2), DI prog w [] 0) sd = _ := upd_new i3 hd
      have a2 : upd T' d ((5, 0, 2), DI prog w [] 0) nd = _ := upd_new i4 hd
      have a3 : upd T' d ((5, 0, 2), DI prog w [] 0) d = _ := upd_self
      have a4 : ∀ a c, T a = some c → a ≠ sd → upd T' d ((5, 0, 2), DI prog w [] 0) a = some c := fun a c e z => upd_new (i1 a c e z) hd
      have b1 : d ≠ sd := (ne_of_none i3 hd).symm
      have b2 : nd ≠ d := ne_of_none i4 hd
      have b3 : cn ≠ d := ne_of_none (i1 _ _ hcn hcs) hd
      have b4 : ∀ a c, T a = some c → a ≠ sd → a ≠ d := fun a c e z => ne_of_none (i1 a c e z) hd
      have G₃ : Gr prog w (upd T' d ((5, 0, 2), DI prog w [] 0)) gg C g dir true ns R := G.at fun a c e z => a4 a c e fun q => by
          rw [q, hsd] at e; cases e
          rcases z with z | z
          · exact hg0 z.symm
          · cases z
      generalize upd T' d ((5, 0, 2), DI prog w [] 0) = T₃ at S₃ a1 a2 a3 a4 G₃
      repeat walk_at "M"
      rename_i s₄ S₄
      clear S₃
      refine innerF (cn := cn) (g := g) (sd := sd) (nd := d) (td := nd) W S₄ hroom hh H HA HS hkp hcl G₃ (a4 _ _ hcn hcs) a1 a3 a2 hg0 b1 hne b2 hcs b3 i11 (fun v hv => ?_) (by walk_at "L") (by walk_at "L") (by walk_at "L") (by walk_at "L") (by walk_at "L") fun T₅ m₅ sk₅ se₅ nk₅ ne₅ s₅ c1 c2 c3 c4 c5 c6 S₅ => ?_
      · exact rch_in (p := fun y => y ∈ ns) (fun a b e => (hns a b e).2) hnn ((i10 v).mp hv).2
      have n1 : m₅ "k" = some (.int kk uk) := (c2 _ (by decide)).trans (by walk_at "L")
      have n2 : m₅ "level" = some (.int (l : Int) ul) := (c2 _ (by decide)).trans (by walk_at "L")
      have n3 : m₅ "nextlevel" = some (.ref d) := (c2 _ (by decide)).trans (by walk_at "L")
      repeat walk_at "M"
      obtain ⟨z1, z2, z3⟩ := level_next (R := R) l1 i8 i9 i10
      have hr : ∀ y : Str, y ∉ (["v", "thislevel", "nextlevel", "level"] : List Str) → m₅ y = m y := fun y hy => by
        rw [c2 y (fun e => hy (by rw [e]; decide))]
        refine (fs_ne (beq_eq_false_iff_ne.mpr fun e => hy (by rw [e]; decide)) ?_)
        refine (fs_ne (beq_eq_false_iff_ne.mpr fun e => hy (by rw [e]; decide)) ?_)
        exact i2 y hy
      by_cases hkl : kk ≤ (l : Int)
      · rw [if_pos (by simpa using hkl)]
        repeat walk_at "M"
        have e : kk.toNat = l := by omega
        refine h T₅ m₅ sk₅ se₅ _ (fun a c e z => c1 a c (a4 a c e z) z (b4 a c e z)) hr c3 (fun v => ?_) S₅
        rw [c5, e]
        exact z1 v
      · rw [if_neg (by simpa using hkl)]
        repeat walk_at "M"
        rename_i s₆ S₆
        refine ⟨_, _, S₆, kk.toNat - (l + 1), by omega, l + 1, _, sk₅, se₅, d, _, nk₅, ne₅, rfl, by omega, by omega, fun a c e z => c1 a c (a4 a c e z) z (b4 a c e z), fun y hy => ?_, c3, c4, .inr rfl, fs_eq, fs_ne (by decide) n3, ?_, ?_, ?_, ?_⟩
        · exact (fs_ne (beq_eq_false_iff_ne.mpr fun e => hy (by rw [e]; decide)) (hr y hy))
        · exact fun v hv => z2 v ((c6 v).mp hv)
        · exact fun v hv => (z3 v hv).imp id (c6 v).mpr
        · exact fun v => (c5 v).trans (z1 v)
        · exact fun v hv => let ⟨y, _, _, _, hy⟩ := (c6 v).mp hv; (hns _ _ hy).2
end
end Mine
end
section
open PySem PySem.W PySem.Calls PyProof.Rows
set_option Elab.async false
set_option maxRecDepth 100000
namespace Mine
-- "L": what a name holds
local macro_rules | `(tactic| walk_at "L") => `(tactic| first
  | assumption
  | exact fs_eq
  | (refine fs_ne (by decide) ?_; walk_at "L")
  | rfl)
-- "M": the next step of the walk, where it is the same everywhere
local macro_rules | `(tactic| walk_at "M") => `(tactic| first
  | ((with_reducible refine loadG ?_); refine ldnS (by assumption) (by walk_at "L") ?_)
  | ((with_reducible refine stG ?_); refine stS (by assumption) ?_; intro _ _)
  | ((with_reducible refine nameG ?_); refine ldS (by assumption) (by walk_at "L") ?_)
  | with_reducible refine wpAny_execs_cons ?_
  | with_reducible refine wpAny_execs_nil ?_
  | with_reducible refine wpAny_BinOp ?_
  | with_reducible refine wpAny_Constant_int ?_
  | with_reducible refine wpAny_Constant_str ?_
  | with_reducible refine Constant_none ?_
  | with_reducible refine Constant_bool ?_
  | with_reducible refine wpAny_Compare1 ?_
  | with_reducible refine wpAny_isTrue_Compare1 ?_
  | with_reducible refine isTrue_not ?_
  | with_reducible refine isTrue_and_nil ?_
  | with_reducible refine isTrue_or_nil ?_
  | with_reducible refine isTrue_and ?_
  | with_reducible refine isTrue_or ?_
  | with_reducible refine IfExp_ ?_
  | with_reducible refine wpAny_If ?_
  | ((with_reducible refine asgN ?_ ?_); (focus rfl))
  | ((with_reducible refine asgS ?_ ?_); (focus rfl))
  | ((with_reducible refine asgA ?_ ?_); (focus rfl))
  | ((with_reducible refine exprE ?_ ?_ ?_); (focus rfl); (focus rfl))
  | with_reducible refine wpAny_AugAssign_Name ?_
  | with_reducible refine wpAny_Return_some ?_
  | with_reducible refine wpAny_Break ?_
  | with_reducible refine wpAny_Continue ?_
  | ((with_reducible refine isG ?_); refine wpAny_is_other (by rfl) (by intro e; cases e) ?_)
  | ((with_reducible refine trG ?_); refine isTrue_plain ?_)
  | with_reducible refine wpAny_truthy_bool ?_
  | with_reducible refine add_int ?_
  | with_reducible refine iadd_int ?_
  | with_reducible refine sub_int ?_
  | with_reducible refine lt_int ?_
  | with_reducible refine le_int ?_
  | with_reducible refine gt_int ?_
  | with_reducible refine eq_int ?_
  | with_reducible refine ne_int ?_
  | with_reducible refine splE ?_
  | ((with_reducible refine splG ?_); refine spliced_more ?_)
  | with_reducible refine Tuple_ ?_
  | with_reducible refine List_ ?_
  | ((with_reducible refine methC (pl := ?_) ?_ ?_); rotate_left; (focus rfl))
  | ((with_reducible refine callC ?_ ?_); (focus rfl))
  | ((with_reducible refine cwB1 ?_ ?_ ?_); (focus rfl); (focus rfl))
  | ((with_reducible refine cwT1 ?_ ?_ ?_); (focus rfl); (focus rfl))
  | ((with_reducible refine cwM1 ?_ ?_ ?_); (focus rfl); (focus rfl))
  | with_reducible refine Subscript_ ?_
  | ((with_reducible refine attrE ?_ ?_); (focus with_unfolding_all rfl))
  | (show wpAny _ _ (execs _ _) _ _ _; first | refine wpAny_execs_cons ?_ | refine wpAny_execs_nil ?_))
section
variable {prog : Program} {w : World} {A : Around} {E : Value → Shared → Prop} {K : Frag} {mg mb : Str → Option Value} {B : Heap} {L : Addr} {T : TM} {m : Str → Option Value} {O : OG} {s : Shared} {t : Tag} {env : Env}
  {gid k : Nat} {C x dx fn : Addr} {f : Str → Option Value} {name : Str} {ox : Obj} {od : Option Obj} {dir ca : Bool} {ns : List Int} {R : Int → Int → Prop}
  {dn da dp : Addr} {nk ak pk : List (Int × Value)} {en ea ep : Nat}

theorem nodeGet {n : Int} {u : Tok} {value slice : Expr} {Q : Value → Shared → Prop} (W : Wd K mg mb B) (S : St B L T m O s) (hroom : A.depth < 800) (hh : A.handled = none) (H : ClsK K C) (HA : AdjK K C dir) (HS : SubK K C 419) (G : GrC prog w T gid C x dir ca ns R dx k f dn da dp nk ak pk en ea ep) (hn : n ∈ ns)
    (hsl : subscripted slice true (.ref x) (.int n u) = runValue (.builtin "lifetime.subscript" ⟨[.ref x, .int n u], []⟩))
    (h : ∀ v T' s' k' f', Keep gid T T' → GrC prog w T' gid C x dir true ns R dx k' f' dn da dp nk ak pk en ea ep → Nbrs prog w T' 2 gid n (R n) v → St B L T' m O s' → Q v s') : wpN (model prog w) A (subscriptTail value slice (.ref x) (.int n u)) Q E s := by
  obtain ⟨od, IA, _⟩ := G.I.at S
  cases ca with
  | true => exact toN (subI (W.X.keeps S.keep) IA HS (getItemS W S (Nat.lt_trans hroom (by decide)) H HA ⟨_, _, _, _, _, _, _, _, _, _, _, _, G⟩ hn fun v s' hN S' => h v T s' _ _ (.refl _ _) G hN S') hsl)
  | false => exact n_subI (W.X.keeps S.keep) IA HS (getItemN' W S hroom hh H HA G hn h) hsl

/-- one node's turn -/
theorem nodeF {p0 : Array Value} {cn g c P xh : Addr} {gg gh : Nat} {tP : Tag} {n kk : Int} {un uk : Tok} {cah : Bool} {Rh : Int → Int → Prop} {Q : Flow → Shared → Prop}
    (W : Wd K mg mb B) (S : St B L T m O s) (hroom : A.depth < 600) (hh : A.handled = none) (H : ClsK K C) (HA : AdjK K C dir) (HS : SubK K C 419) (hkp : keepIn K (.ref 419) = true)
    (H6 : ClsK K 624) (M6 : Meth K 624 "add_edges_from" 492 (meth 14 21) "Graph.add_edges_from" .none) (hln : nsIn K mainGlobals "len" = some none)
    (HC : CodeK K c P) (hP : T P = some (tP, TabP p0)) (htP : tP.2.1 = 0) (hb : OB O)
    (G : GrC prog w T gg C g dir ca ns R dx k f dn da dp nk ak pk en ea ep) (GH : Gr prog w T gh 624 xh false cah ns Rh) (hcn : T cn = some ((9, 0, (cn : Int)), CellP (some (.int n un))))
    (hg0 : gg ≠ 0) (hh0 : gh ≠ 0) (hgh : gg ≠ gh) (hnn : n ∈ ns) (hk0 : 0 < kk)
    (m1 : m "G" = some (.ref g)) (m2 : m "H" = some (.ref xh)) (m3 : m "k" = some (.int kk uk))
    (h : ∀ T' m' O' s' k' f', (∀ a c, T a = some c → c.1.2.1 ≠ gg → c.1.2.1 ≠ gh → T' a = some c) → OB O' → O'.1 = O.1 → GrC prog w T' gg C g dir true ns R dx k' f' dn da dp nk ak pk en ea ep →
      Gr prog w T' gh 624 xh false cah ns (fun p q => Rh p q ∨ (p = n ∧ q ≠ n ∧ rch R kk.toNat n q) ∨ (q = n ∧ p ≠ n ∧ rch R kk.toNat n p)) → m' "G" = some (.ref g) → m' "H" = some (.ref xh) → m' "k" = some (.int kk uk) → St B L T' m' O' s' → Q .next s') :
    wpN (model prog w) A (execs (subB (nth 3 (bodyOf (top 16)))) (envF "power" (top 16) L 639 (.ref c) [(Str.ofString "n", cn)])) Q E s := by
  refine n_execs_cons (toN ?_)
  walk_at "M"
  refine newDictS S (5, 0, 1) fun sd s₁ hsd S₁ => ?_
  have a1 : upd T sd ((5, 0, 1), DI prog w [] 0) sd = _ := upd_self
  have s1 : Sub T (upd T sd ((5, 0, 1), DI prog w [] 0)) := .new hsd
  have d1 : ∀ a c, T a = some c → a ≠ sd := fun a c e => ne_of_none e hsd
  generalize upd T sd ((5, 0, 1), DI prog w [] 0) = T₁ at S₁ a1 s1
  clear S
  walk_at "M"
  rename_i s₂ S₂
  clear S₁
  refine n_execs_cons (toN ?_)
  repeat walk_at "M"
  rename_i s₃ S₃
  clear S₂
  have G₃ := G.mono (T' := T₁) fun a c e _ => s1 a c e
  refine n_execs_cons (n_asgN rfl (n_Sub (toN ?_)))
  repeat walk_at "M"
  refine toN (ldCellS S₃ (c := cn) rfl (s1 _ _ hcn) ?_)
  refine nodeGet W S₃ (Nat.lt_trans hroom (by decide)) hh H HA HS G₃ hnn (by with_unfolding_all rfl) fun v T₄ s₄ k' f' k4 G₄ hN S₄ => ?_
  obtain ⟨nd, lev, e1, rfl, tnd, hlev, _⟩ := hN
  have s4 : ∀ a c, T a = some c → c.1.2.1 ≠ gg → T₄ a = some c := fun a c e z => k4 a c (s1 a c e) z
  have a4 := k4 _ _ a1 (fun e => hg0 e.symm)
  clear S₃
  walk_at "M"
  rename_i s₅ S₅
  clear S₄
  refine n_execs_cons (toN ?_)
  refine searchF (cn := cn) (g := g) (sd := sd) (nd := nd) W S₅ (Nat.lt_trans hroom (by decide)) hh H HA HS hkp rfl ⟨_, _, _, _, _, _, _, _, _, _, _, _, G₄⟩ (s4 _ _ hcn fun e => hg0 e.symm) rfl a4 tnd rfl hg0 hnn hk0 hlev (by walk_at "L") (by walk_at "L") (by walk_at "L") (by walk_at "L") (by walk_at "L") fun T₆ m₆ sk se s₆ c1 c2 c3 c4 S₆ => ?_
  have n1 : m₆ "H" = some (.ref xh) := (c2 _ (by decide)).trans (by walk_at "L")
  have n2 : m₆ "seen" = some (.ref sd) := (c2 _ (by decide)).trans (by walk_at "L")
  have n3 : m₆ "G" = some (.ref g) := (c2 _ (by decide)).trans (by walk_at "L")
  have n4 : m₆ "k" = some (.int kk uk) := (c2 _ (by decide)).trans (by walk_at "L")
  have s6 : ∀ a c, T a = some c → c.1.2.1 ≠ gg → T₆ a = some c := fun a c e z => c1 a c (s4 a c e z) (d1 a c e)
  have G₆ := G₄.at (T' := T₆) fun a c e z => c1 a c e fun q => by
    rw [q, a4] at e; cases e
    rcases z with z | z
    · exact hg0 z.symm
    · cases z
  have GH₆ := GH.mono (T' := T₆) fun a c e z => s6 a c e fun q => by rcases z with z | z <;> (rw [z] at q; first | exact hgh q.symm | exact hg0 q.symm)
  refine n_execs_cons (toN ?_)
  repeat walk_at "M"
  obtain ⟨dxh, kh, fh, dnh, dah, dph, nkh, akh, pkh, enh, eah, eph, GHc⟩ := GH₆
  refine mthS W S₆ H6 GHc.I M6 (GHc.fO _ (by decide)) ?_
  repeat walk_at "M"
  refine cwF M6.hk rfl rfl ?_
  walk_at "M"
  refine genE (cn := cn) (nv := .int n un) (kvs := sk) (d := sd) W S₆ HC rfl (s6 _ _ hP fun e => hg0 (htP.symm.trans e).symm) c3 (s6 _ _ hcn fun e => hg0 e.symm) n2 (Nat.lt_trans hroom (by decide)) hb rfl (cl := [(Str.ofString "n", cn)]) ?_ rfl (by decide) rfl rfl rfl rfl rfl rfl rfl rfl rfl rfl rfl (fun _ => rfl) fun a C' I g' O' s₇ o1 hb' S₇ hF haC haI hC0 hG => ?_
  · with_unfolding_all rfl
  walk_at "M"
  refine ⟨W.X.keeps S₇.keep, ?_⟩
  refine addEdgesGG (dd := sd) (cn := cn) (nn := n) (un := un) (kvs := sk) W S₇ (Nat.lt_trans hroom (by decide)) hh hln H6 M6 hh0 ⟨_, _, _, _, _, _, _, _, _, _, _, _, GHc⟩ hb' hF haC haI hC0 hG ⟨_, c3, rfl⟩ ⟨_, s6 _ _ hcn fun e => hg0 e.symm, rfl⟩ hnn (fun j hj => ?_) fun O₈ T₈ s₈ o8 hb8 k8 G8 S₈ => ?_
  · exact rch_in (p := fun y => y ∈ ns) (fun a b e => (G.cl a b e).2) hnn ((c4 j).mp hj).2
  show wpN _ _ (execs _ _) _ _ _
  refine toN (wpAny_execs_nil (h T₈ m₆ O₈ _ _ _ (fun a c e z1 z2 => k8 _ _ (s6 a c e z1) z2) hb8 (o8.trans o1) (G₆.mono fun a c e z => k8 a c e fun q => by rcases z with z | z <;> (rw [z] at q; first | exact hgh q | exact hh0 q.symm)) (G8.congr fun p q => ?_) n3 n1 n4 S₈))
  rw [c4, c4]
end
end Mine
end
section
open PySem PySem.W PySem.Calls PyProof.Rows
set_option Elab.async false
set_option maxRecDepth 100000
namespace Mine
-- "L": what a name holds
local macro_rules | `(tactic| walk_at "L") => `(tactic| first
  | assumption
  | exact fs_eq
  | (refine fs_ne (by decide) ?_; walk_at "L")
  | rfl)
-- "M": the next step of the walk, where it is the same everywhere
local macro_rules | `(tactic| walk_at "M") => `(tactic| first
  | ((with_reducible refine loadG ?_); refine ldnS (by assumption) (by walk_at "L") ?_)
  | ((with_reducible refine stG ?_); refine stS (by assumption) ?_; intro _ _)
  | ((with_reducible refine nameG ?_); refine ldS (by assumption) (by walk_at "L") ?_)
  | with_reducible refine wpAny_execs_cons ?_
  | with_reducible refine wpAny_execs_nil ?_
  | with_reducible refine wpAny_BinOp ?_
  | with_reducible refine wpAny_Constant_int ?_
  | with_reducible refine wpAny_Constant_str ?_
  | with_reducible refine Constant_none ?_
  | with_reducible refine Constant_bool ?_
  | with_reducible refine wpAny_Compare1 ?_
  | with_reducible refine wpAny_isTrue_Compare1 ?_
  | with_reducible refine isTrue_not ?_
  | with_reducible refine isTrue_and_nil ?_
  | with_reducible refine isTrue_or_nil ?_
  | with_reducible refine isTrue_and ?_
  | with_reducible refine isTrue_or ?_
  | with_reducible refine IfExp_ ?_
  | with_reducible refine wpAny_If ?_
  | ((with_reducible refine asgN ?_ ?_); (focus rfl))
  | ((with_reducible refine asgS ?_ ?_); (focus rfl))
  | ((with_reducible refine asgA ?_ ?_); (focus rfl))
  | ((with_reducible refine exprE ?_ ?_ ?_); (focus rfl); (focus rfl))
  | with_reducible refine wpAny_AugAssign_Name ?_
  | with_reducible refine wpAny_Return_some ?_
  | with_reducible refine wpAny_Break ?_
  | with_reducible refine wpAny_Continue ?_
  | ((with_reducible refine isG ?_); refine wpAny_is_other (by rfl) (by intro e; cases e) ?_)
  | ((with_reducible refine trG ?_); refine isTrue_plain ?_)
  | with_reducible refine wpAny_truthy_bool ?_
  | with_reducible refine add_int ?_
  | with_reducible refine iadd_int ?_
  | with_reducible refine sub_int ?_
  | with_reducible refine lt_int ?_
  | with_reducible refine le_int ?_
  | with_reducible refine gt_int ?_
  | with_reducible refine eq_int ?_
  | with_reducible refine ne_int ?_
  | with_reducible refine splE ?_
  | ((with_reducible refine splG ?_); refine spliced_more ?_)
  | with_reducible refine Tuple_ ?_
  | with_reducible refine List_ ?_
  | ((with_reducible refine methC (pl := ?_) ?_ ?_); rotate_left; (focus rfl))
  | ((with_reducible refine callC ?_ ?_); (focus rfl))
  | ((with_reducible refine cwB1 ?_ ?_ ?_); (focus rfl); (focus rfl))
  | ((with_reducible refine cwT1 ?_ ?_ ?_); (focus rfl); (focus rfl))
  | ((with_reducible refine cwM1 ?_ ?_ ?_); (focus rfl); (focus rfl))
  | with_reducible refine Subscript_ ?_
  | ((with_reducible refine attrE ?_ ?_); (focus with_unfolding_all rfl))
  | (show wpAny _ _ (execs _ _) _ _ _; first | refine wpAny_execs_cons ?_ | refine wpAny_execs_nil ?_))
/-- the world of power -/
structure PowK (K : Frag) (P : Addr) : Prop where
  f : FnIs K 639 (top 16) "power" .none (.ref 638)
  cd : CodeK K 638 P
  H6 : ClsK K 624
  ini : Meth K 624 "__init__" 381 (meth 14 6) "Graph.__init__" (.ref 374)
  df : ∃ oc od n sl, K.lookup 374 = some ⟨oc, od, .seq #[.none] n, sl⟩
  an : Meth K 624 "add_nodes_from" 433 (meth 14 13) "Graph.add_nodes_from" .none
  ae : Meth K 624 "add_edges_from" 492 (meth 14 21) "Graph.add_edges_from" .none
  it : nsIn K mainGlobals "iter" = some none
  ln : nsIn K mainGlobals "len" = some none
  gr : nsIn K mainGlobals "Graph" = some (some (.ref 624))
  kg : keepIn K (.ref 624) = true
  hkp : keepIn K (.ref 419) = true
section
variable {prog : Program} {w : World} {A : Around} {E : Value → Shared → Prop} {K : Frag} {mg mb : Str → Option Value} {B : Heap} {L : Addr} {T : TM} {m : Str → Option Value} {O : OG} {s : Shared} {t : Tag} {env : Env}
  {gid k : Nat} {C x dx fn : Addr} {f : Str → Option Value} {name : Str} {ox : Obj} {od : Option Obj} {dir ca : Bool} {ns : List Int} {R : Int → Int → Prop}
  {dn da dp : Addr} {nk ak pk : List (Int × Value)} {en ea ep : Nat}

def PowR (ns : List Int) (R : Int → Int → Prop) (kk : Nat) (p q : Int) : Prop := p ≠ q ∧ p ∈ ns ∧ q ∈ ns ∧ (rch R kk p q ∨ rch R kk q p)

theorem powerN {p0 : Array Value} {g P : Addr} {gg gh : Nat} {kk : Int} {uk : Tok} {Q : Value → Shared → Prop}
    (W : Wd K mg mb B) (S : St B L T m O s) (hroom : A.depth < 500) (hh : A.handled = none) (H : ClsK K C) (HA : AdjK K C dir) (HS : SubK K C 419) (PK : PowK K P) (hP : T P = some ((10, 0, 0), TabP p0)) (hb : OB O)
    (G : Gr prog w T gg C g dir ca ns R) (hg0 : gg ≠ 0) (hh0 : gh ≠ 0) (hgh : gg ≠ gh) (hno : NoG gh T) (hk0 : 0 < kk)
    (h : ∀ xh T' O' s' ca', Keep gg T T' → OB O' → O'.1 = O.1 → Gr prog w T' gg C g dir ca' ns R → Gr prog w T' gh 624 xh false false ns (PowR ns R kk.toNat) → St B L T' m O' s' → Q (.ref xh) s') :
    wpN (model prog w) A (call (.ref 639) [.ref g, .int kk uk]) Q E s := by
  refine callFCN (args := ⟨[.ref g, .int kk uk], []⟩) (binds := [(Str.ofString "G", .ref g), (Str.ofString "k", .int kk uk)]) W S (Nat.lt_trans hroom (by decide)) PK.f (fun _ _ _ _ _ _ => BindsTo.of_eq rfl) (fun n y hy => ?_) (by decide) rfl rfl rfl
    fun B' L' s₁ T₁ hB W₁ hs₁ hc₁ hn₁ S₁ => ?_
  · simp only [List.mem_cons, List.not_mem_nil, or_false] at hy
    rcases hy with rfl | rfl <;> exact .inl rfl
  have hcl : cellsFrom (L' + 1) (scopeOf (top 16)).names [] = [(Str.ofString "n", L' + 1)] := rfl
  rw [hcl] at hc₁ ⊢
  have hr : (A.deeper (envF (Str.ofString "power") (top 16) L' 639 (.ref 638) [(Str.ofString "n", L' + 1)])).depth < 600 := by show A.depth + 1 < 600; omega
  have hh' : (A.deeper (envF (Str.ofString "power") (top 16) L' 639 (.ref 638) [(Str.ofString "n", L' + 1)])).handled = none := hh
  generalize A.deeper (envF (Str.ofString "power") (top 16) L' 639 (.ref 638) [(Str.ofString "n", L' + 1)]) = A' at hr hh' ⊢
  have a1 := (hc₁ (Str.ofString "n") (L' + 1) rfl).1
  have hno₁ : NoG gh T₁ := fun a c e z => by
    cases q : T a with
    | none => rw [hn₁ a c e q] at z; exact hh0 z.symm
    | some c' => rw [hs₁ a c' q] at e; cases e; exact hno a c q z
  have hP₁ := hs₁ _ _ hP
  have G₁ := G.sub hs₁
  refine n_execs_cons (toN ?_)
  repeat walk_at "M"
  rw [if_neg (by simpa using hk0)]
  walk_at "M"
  show wpN _ _ (execs _ _) _ _ _
  refine n_execs_cons (toN ?_)
  repeat walk_at "M"
  refine ldGlobS W₁ S₁ PK.gr ?_
  refine cwF0 W₁ S₁ PK.kg ?_
  refine newG gh W₁ S₁ (Nat.lt_trans hr (by decide)) PK.H6 PK.ini PK.df hh0 hno₁ fun xh T₂ s₂ hs₂ GH₂ S₂ => ?_
  clear S₁
  walk_at "M"
  rename_i s₃ S₃
  clear S₂
  have G₃ := G₁.sub hs₂
  refine n_execs_cons (toN ?_)
  repeat walk_at "M"
  obtain ⟨dxh, kh, fh, dnh, dah, dph, nkh, akh, pkh, enh, eah, eph, GHc⟩ := GH₂
  refine mthS W₁ S₃ PK.H6 GHc.I PK.an (GHc.fO _ (by decide)) ?_
  repeat walk_at "M"
  refine cwF PK.an.hk rfl rfl ?_
  repeat walk_at "M"
  refine ⟨W₁.X.keeps S₃.keep, ?_⟩
  have hnl : ns.length ≤ 6 ∧ ns.Nodup := let ⟨_, _, _, _, _, _, _, _, _, _, _, _, G⟩ := G; ⟨G.len, G.nd⟩
  refine addNodesG W₁ S₃ (Nat.lt_trans hr (by decide)) hh' PK.H6 PK.an hh0 ⟨_, _, _, _, _, _, _, _, _, _, _, _, GHc⟩ (ISrc.gr H PK.it G₃ hgh hh0) hnl.2 hnl.1 fun T₄ s₄ k₄ GH₄ S₄ => ?_
  show wpN _ _ (execs _ _) _ _ _
  clear S₃ GHc
  have G₄ := G₃.keep k₄ hgh hh0
  have hs₄ : Sub T₁ T₄ := fun a c e => k₄ _ _ (hs₂ _ _ e) (hno₁ _ _ e)
  have hP₄ := hs₄ _ _ hP₁
  have a4 := hs₄ _ _ a1
  obtain ⟨dx, k, f, dn, da, dp, nk, ak, pk, en, ea, ep, G₄⟩ := G₄
  refine n_execs_cons ?_
  refine forKeysN (B := B') (cn := L' + 1) (d := dn) (kvs := nk) (ep := en) (o1 := O.1) hh'
    (fun i T' m' => (∀ a c, T₄ a = some c → a ≠ L' + 1 → c.1.2.1 ≠ gg → c.1.2.1 ≠ gh → T' a = some c) ∧ (∃ ca' k' f', GrC prog w T' gg C g dir ca' ns R dx k' f' dn da dp nk ak pk en ea ep) ∧
      Gr prog w T' gh 624 xh false false ns (fun p q => p ≠ q ∧ ((p ∈ (nk.map (·.1)).take i ∧ rch R kk.toNat p q) ∨ (q ∈ (nk.map (·.1)).take i ∧ rch R kk.toNat q p))) ∧ (∃ v, T' (L' + 1) = some ((9, 0, ((L' + 1 : Addr) : Int)), CellP v)) ∧
      m' "G" = some (.ref g) ∧ m' "H" = some (.ref xh) ∧ m' "k" = some (.int kk uk))
    (fun i T' m' hI => by
      obtain ⟨_, ⟨ca', k', f', Gc⟩, _, hv, _⟩ := hI
      exact ⟨⟨_, Gc.tN⟩, hv⟩) ?_ ?_ ?_ rfl rfl rfl (fun _ => rfl)
  · refine toN ?_
    walk_at "M"
    refine toN (pyIterGr W₁ S₄ (Nat.lt_trans hr (by decide)) H PK.it G₄ fun I s₅ S₅ hF hI => ?_)
    exact ⟨I, T₄, _, O, rfl, S₅, hF, hI, hb, rfl, fun _ _ e _ _ _ => e, ⟨_, _, _, G₄⟩, GH₄.congr fun p q => by simp, ⟨_, a4⟩, by walk_at "L", by walk_at "L", by walk_at "L"⟩
  · rintro i n un T' m' O' B₂ s₅ hv ⟨hk, ⟨ca', k', f', Gc⟩, GH, ⟨v, hcv⟩, q1, q2, q3⟩ hb' ho' hB₂ S₅
    have hn : n ∈ ns := by rw [← Gc.kN]; exact List.mem_of_getElem? hv
    have W₂ := W₁.keeps hB₂
    have kc : ∀ a c, T' a = some c → a ≠ L' + 1 → upd T' (L' + 1) ((9, 0, ((L' + 1 : Addr) : Int)), CellP (some (.int n un))) a = some c := fun a c e z => (upd_ne z).trans e
    have kg : ∀ a c, T' a = some c → c.1.2.1 = gg ∨ c.1 = (4, 0, 0) → upd T' (L' + 1) ((9, 0, ((L' + 1 : Addr) : Int)), CellP (some (.int n un))) a = some c := fun a c e z => kc a c e fun q => by
      rw [q, hcv] at e; cases e
      rcases z with z | z
      · exact hg0 z.symm
      · cases z
    have kh : ∀ a c, T' a = some c → c.1.2.1 = gh ∨ c.1 = (4, 0, 0) → upd T' (L' + 1) ((9, 0, ((L' + 1 : Addr) : Int)), CellP (some (.int n un))) a = some c := fun a c e z => kc a c e fun q => by
      rw [q, hcv] at e; cases e
      rcases z with z | z
      · exact hh0 z.symm
      · cases z
    have Gc' := Gc.at kg
    have GH' := GH.at kh
    have hPn : P ≠ L' + 1 := ne_of_tag hP₄ a4 (by intro e; cases e)
    have hP' := kc _ _ (hk _ _ hP₄ hPn (fun e => hg0 e.symm) (fun e => hh0 e.symm)) hPn
    refine nodeF (cn := L' + 1) (P := P) (gh := gh) (xh := xh) W₂ S₅ hr hh' H HA HS PK.hkp PK.H6 PK.ae PK.ln PK.cd hP' rfl hb' Gc' GH' upd_self hg0 hh0 hgh hn hk0 q1 q2 q3 fun T₆ m₆ O₆ s₆ k₆ f₆ kk₆ hb₆ ho₆ G₆ GH₆ r1 r2 r3 S₆ => ?_
    refine ⟨.inl rfl, T₆, m₆, O₆, S₆, hb₆, ho₆.trans ho', fun a c e z z1 z2 => kk₆ a c (kc a c (hk a c e z z1 z2) z) z1 z2, ⟨_, _, _, G₆⟩, GH₆.congr fun p q => ?_, ⟨_, kk₆ _ _ upd_self (fun e => hg0 e.symm) (fun e => hh0 e.symm)⟩, r1, r2, r3⟩
    have hsucc : ∀ y, y ∈ (nk.map (·.1)).take (i + 1) ↔ y ∈ (nk.map (·.1)).take i ∨ y = n := fun y => by rw [List.take_add_one, hv]; simp
    rw [hsucc, hsucc]
    constructor
    · rintro (⟨h1, h2 | h2⟩ | ⟨rfl, h1, h2⟩ | ⟨rfl, h1, h2⟩)
      · exact ⟨h1, .inl ⟨.inl h2.1, h2.2⟩⟩
      · exact ⟨h1, .inr ⟨.inl h2.1, h2.2⟩⟩
      · exact ⟨fun e => h1 e.symm, .inl ⟨.inr rfl, h2⟩⟩
      · exact ⟨h1, .inr ⟨.inr rfl, h2⟩⟩
    · rintro ⟨h1, ⟨h2 | rfl, h3⟩ | ⟨h2 | rfl, h3⟩⟩
      · exact .inl ⟨h1, .inl ⟨h2, h3⟩⟩
      · exact .inr (.inl ⟨rfl, fun e => h1 e.symm, h3⟩)
      · exact .inl ⟨h1, .inr ⟨h2, h3⟩⟩
      · exact .inr (.inr ⟨rfl, h1, h3⟩)
  · rintro T' m' O' s₅ ⟨hk, ⟨ca', k', f', Gc⟩, GH, ⟨v, hcv⟩, q1, q2, q3⟩ hb' ho' S₅
    refine n_execs_cons (toN ?_)
    repeat walk_at "M"
    refine ⟨T', m', O', S₅, fun z => h xh T' O' _ ca' (fun a c e z => ?_) hb' ho' ⟨_, _, _, _, _, _, _, _, _, _, _, _, Gc⟩ (GH.congr fun p q => ?_) z⟩
    · have hne : a ≠ L' + 1 := ne_of_none e (hc₁ (Str.ofString "n") (L' + 1) rfl).2
      exact hk a c (hs₄ _ _ (hs₁ _ _ e)) hne z (hno a c e)
    · have e : (nk.map (·.1)).take nk.length = ns := by rw [List.take_of_length_le (by rw [List.length_map]; exact Nat.le_refl _)]; exact Gc.kN
      rw [e]
      have hin : ∀ a b, a ∈ ns → rch R kk.toNat a b → b ∈ ns := fun a b ha hab => rch_in (p := fun y => y ∈ ns) (fun a b e => (Gc.cl a b e).2) ha hab
      constructor
      · rintro ⟨h1, ⟨h2, h3⟩ | ⟨h2, h3⟩⟩
        · exact ⟨h1, h2, hin _ _ h2 h3, .inl h3⟩
        · exact ⟨h1, hin _ _ h2 h3, h2, .inr h3⟩
      · rintro ⟨h1, h2, h3, h4 | h4⟩
        · exact ⟨h1, .inl ⟨h2, h4⟩⟩
        · exact ⟨h1, .inr ⟨h3, h4⟩⟩
end
end Mine
end
section
open PySem
namespace Mine
/-! ## one line of the table of steps: what a search by levels writes -/
def isN : Value → Bool
  | .none => true
  | _ => false
noncomputable def nn : List Value → Nat
  | [] => 0
  | v :: r => (if isN v then 1 else 0) + nn r
theorem nn_set : ∀ {vs : List Value} {i : Nat} {v : Value}, vs[i]? = some .none → isN v = false → nn (vs.set i v) + 1 = nn vs
  | [], i, v, h, _ => by simp at h
  | a :: r, 0, v, h, hv => by
    simp at h; subst h
    simp only [List.set_cons_zero, nn, hv]
    have : isN Value.none = true := rfl
    rw [this]; simp only [if_true, Bool.false_eq_true, if_false]; omega
  | a :: r, i + 1, v, h, hv => by
    simp at h
    have := nn_set (vs := r) (i := i) (v := v) h hv
    simp [nn]; omega
theorem nn_le : ∀ (vs : List Value), nn vs ≤ vs.length
  | [] => Nat.le_refl _
  | a :: r => by
    have := nn_le r
    simp only [nn, List.length_cons]; split <;> omega
/-- what is known at level l -/
def StepL (r : Int → Int → Prop) (l : Nat) (a b : Int) (v : Value) : Prop := (v = .none ∧ ¬ rch r l a b) ∨ ∃ (d : Nat) (u : Tok), v = .int (d : Int) u ∧ d ≤ l ∧ ∀ k, d ≤ k ↔ rch r k a b
/-- what is known at the end -/
def StepV (r : Int → Int → Prop) (a b : Int) (v : Value) : Prop := (v = .none ∧ ∀ k, ¬ rch r k a b) ∨ ∃ (d : Nat) (u : Tok), v = .int (d : Int) u ∧ ∀ k, d ≤ k ↔ rch r k a b
def LineL (r : Int → Int → Prop) (n l : Nat) (a : Int) (vs : List Value) : Prop := vs.length = n ∧ ∀ b : Int, 0 ≤ b → b < n → ∃ v, vs[b.toNat]? = some v ∧ StepL r l a b v
def LineV (r : Int → Int → Prop) (n : Nat) (a : Int) (vs : List Value) : Prop := vs.length = n ∧ ∀ b : Int, 0 ≤ b → b < n → ∃ v, vs[b.toNat]? = some v ∧ StepV r a b v
/-- those met first at level l -/
def FrontL (r : Int → Int → Prop) (n l : Nat) (a b : Int) : Prop := 0 ≤ b ∧ b < n ∧ rch r l a b ∧ ∀ k, k < l → ¬ rch r k a b

structure Lv (n : Nat) (vals0 vals : List Value) (af : List Int) (H : Int → Prop) (l : Nat) : Prop where
  len0 : vals0.length = n
  len : vals.length = n
  cnt : nn vals + af.length = nn vals0
  val : ∀ b : Int, 0 ≤ b → b < n → ∃ v0 v, vals0[b.toNat]? = some v0 ∧ vals[b.toNat]? = some v ∧
    ((∃ (d : Int) (u : Tok), v0 = .int d u ∧ v = v0) ∨ (v0 = .none ∧ H b ∧ ∃ u, v = .int ((l : Nat) : Int) u) ∨ (v0 = .none ∧ ¬ H b ∧ v = .none))
  mem : ∀ b, b ∈ af ↔ H b ∧ 0 ≤ b ∧ b < n ∧ vals0[b.toNat]? = some .none
section
variable {r : Int → Int → Prop} {n l : Nat} {a : Int} {vals0 vals : List Value} {af : List Int} {H H' : Int → Prop}
theorem Lv.congr (h : Lv n vals0 vals af H l) (e : ∀ b, H b ↔ H' b) : Lv n vals0 vals af H' l := by
  have : H = H' := by funext b; exact propext (e b)
  exact this ▸ h
theorem Lv.start (h : LineL r n l a vals0) : Lv n vals0 vals0 [] (fun _ => False) (l + 1) where
  len0 := h.1
  len := h.1
  cnt := rfl
  val := fun b h0 h1 => by
    obtain ⟨v, hv, hs⟩ := h.2 b h0 h1
    refine ⟨v, v, hv, hv, ?_⟩
    rcases hs with ⟨rfl, _⟩ | ⟨d, u, rfl, _⟩
    · exact .inr (.inr ⟨rfl, id, rfl⟩)
    · exact .inl ⟨_, _, rfl, rfl⟩
  mem := fun b => by simp
theorem Lv.at (h : Lv n vals0 vals af H l) {y : Int} (h0 : 0 ≤ y) (h1 : y < n) : ∃ v, vals[y.toNat]? = some v ∧ (v = .none ∨ ∃ d u, v = .int d u) := by
  obtain ⟨v0, v, _, hv, h | h | h⟩ := h.val y h0 h1
  · obtain ⟨d, u, rfl, rfl⟩ := h; exact ⟨_, hv, .inr ⟨_, _, rfl⟩⟩
  · obtain ⟨_, _, u, rfl⟩ := h; exact ⟨_, hv, .inr ⟨_, _, rfl⟩⟩
  · exact ⟨v, hv, .inl h.2.2⟩
/-- seen already -/
theorem Lv.skip (h : Lv n vals0 vals af H l) {y : Int} (h0 : 0 ≤ y) (h1 : y < n) {d : Int} {u : Tok} (hv : vals[y.toNat]? = some (.int d u)) : Lv n vals0 vals af (fun b => H b ∨ b = y) l where
  len0 := h.len0
  len := h.len
  cnt := h.cnt
  val := fun b b0 b1 => by
    obtain ⟨v0, v, e0, e1, hc⟩ := h.val b b0 b1
    refine ⟨v0, v, e0, e1, ?_⟩
    rcases hc with hc | ⟨c1, c2, c3⟩ | ⟨c1, c2, c3⟩
    · exact .inl hc
    · exact .inr (.inl ⟨c1, .inl c2, c3⟩)
    · refine .inr (.inr ⟨c1, ?_, c3⟩)
      rintro (z | rfl)
      · exact c2 z
      · rw [e1, c3] at hv; cases hv
  mem := fun b => by
    rw [h.mem]
    constructor
    · rintro ⟨q, r⟩; exact ⟨.inl q, r⟩
    · rintro ⟨q | rfl, q0, q1, q2⟩
      · exact ⟨q, q0, q1, q2⟩
      · obtain ⟨v0, v, e0, e1, hc⟩ := h.val b q0 q1
        rw [hv] at e1; cases e1
        rw [q2] at e0; cases e0
        rcases hc with ⟨_, _, c, _⟩ | ⟨c1, c2, c3⟩ | ⟨c1, c2, c3⟩
        · cases c
        · exact ⟨c2, q0, q1, q2⟩
        · cases c3
/-- met now -/
theorem Lv.put (h : Lv n vals0 vals af H l) {y : Int} (h0 : 0 ≤ y) (h1 : y < n) (hv : vals[y.toNat]? = some .none) (u : Tok) : Lv n vals0 (vals.set y.toNat (.int (l : Int) u)) (af ++ [y]) (fun b => H b ∨ b = y) l := by
  obtain ⟨v0, v, e0, e1, hc⟩ := h.val y h0 h1
  rw [hv] at e1; cases e1
  obtain ⟨rfl, hH⟩ : v0 = .none ∧ ¬ H y := by
    rcases hc with ⟨d, u', rfl, hc⟩ | ⟨_, _, _, hc⟩ | ⟨hc, hc', _⟩
    · cases hc
    · cases hc
    · exact ⟨hc, hc'⟩
  have hlt : y.toNat < vals.length := by rw [h.len]; omega
  exact {
    len0 := h.len0
    len := by rw [List.length_set]; exact h.len
    cnt := by
      have := nn_set (v := .int (l : Int) u) hv rfl
      have := h.cnt
      rw [List.length_append, List.length_singleton]; omega
    val := fun b b0 b1 => by
      by_cases e : b = y
      · subst e
        exact ⟨.none, .int (l : Int) u, e0, by rw [List.getElem?_set_self hlt], .inr (.inl ⟨rfl, .inr rfl, _, rfl⟩)⟩
      · obtain ⟨w0, w, f0, f1, hc⟩ := h.val b b0 b1
        refine ⟨w0, w, f0, by rw [List.getElem?_set_ne (by omega)]; exact f1, ?_⟩
        rcases hc with hc | ⟨c1, c2, c3⟩ | ⟨c1, c2, c3⟩
        · exact .inl hc
        · exact .inr (.inl ⟨c1, .inl c2, c3⟩)
        · exact .inr (.inr ⟨c1, fun z => z.elim c2 e, c3⟩)
    mem := fun b => by
      rw [List.mem_append, h.mem, List.mem_singleton]
      constructor
      · rintro (⟨q, q'⟩ | rfl)
        · exact ⟨.inl q, q'⟩
        · exact ⟨.inr rfl, h0, h1, e0⟩
      · rintro ⟨q | q, q'⟩
        · exact .inl ⟨q, q'⟩
        · exact .inr q }
theorem front_succ (hc : ∀ a b, r a b → 0 ≤ b ∧ b < n) (ha0 : 0 ≤ a) (ha1 : a < n) {b : Int} : FrontL r n (l + 1) a b ↔ (∃ x, FrontL r n l a x ∧ r x b) ∧ 0 ≤ b ∧ b < n ∧ ¬ rch r l a b := by
  constructor
  · rintro ⟨h0, h1, h2, h3⟩
    have hl : ¬ rch r l a b := h3 l (Nat.lt_succ_self _)
    rcases h2 with h2 | ⟨x, hx, e⟩
    · exact absurd h2 hl
    · refine ⟨⟨x, ⟨?_, ?_, hx, fun k hk hkx => hl (rch_le (rch_step hkx e) hk)⟩, e⟩, h0, h1, hl⟩
      · exact (rch_in (p := fun y => 0 ≤ y ∧ y < (n : Int)) (fun a b e => hc a b e) ⟨ha0, ha1⟩ hx).1
      · exact (rch_in (p := fun y => 0 ≤ y ∧ y < (n : Int)) (fun a b e => hc a b e) ⟨ha0, ha1⟩ hx).2
  · rintro ⟨⟨x, ⟨_, _, hx, _⟩, e⟩, h0, h1, hl⟩
    exact ⟨h0, h1, rch_step hx e, fun k hk hkb => hl (rch_le hkb (Nat.le_of_lt_succ hk))⟩
/-- a level done -/
theorem Lv.done (hc : ∀ a b, r a b → 0 ≤ b ∧ b < n) (ha0 : 0 ≤ a) (ha1 : a < n) (h0 : LineL r n l a vals0) (h : Lv n vals0 vals af H (l + 1)) (hH : ∀ b, H b ↔ ∃ x, FrontL r n l a x ∧ r x b) :
    LineL r n (l + 1) a vals ∧ ∀ b, b ∈ af ↔ FrontL r n (l + 1) a b := by
  refine ⟨⟨h.len, fun b b0 b1 => ?_⟩, fun b => ?_⟩
  · obtain ⟨v0, v, e0, e1, hcase⟩ := h.val b b0 b1
    obtain ⟨v0', e0', hs⟩ := h0.2 b b0 b1
    rw [e0] at e0'; cases e0'
    refine ⟨v, e1, ?_⟩
    rcases hcase with ⟨d, u, rfl, rfl⟩ | ⟨rfl, c2, u, rfl⟩ | ⟨rfl, c2, rfl⟩
    · rcases hs with ⟨hs, _⟩ | ⟨d', u', hs, hd, hk⟩
      · cases hs
      · exact .inr ⟨d', u', hs, by omega, hk⟩
    · rcases hs with ⟨_, hs⟩ | ⟨d', u', hs, _⟩
      · have hf := (front_succ hc ha0 ha1).mpr ⟨(hH b).mp c2, b0, b1, hs⟩
        refine .inr ⟨l + 1, u, rfl, Nat.le_refl _, fun k => ⟨fun hk => rch_le hf.2.2.1 hk, fun hk => ?_⟩⟩
        rcases Nat.lt_or_ge k (l + 1) with z | z
        · exact absurd hk (hf.2.2.2 k z)
        · exact z
      · cases hs
    · rcases hs with ⟨_, hs⟩ | ⟨d', u', hs, _⟩
      · refine .inl ⟨rfl, fun z => ?_⟩
        have : FrontL r n (l + 1) a b := ⟨b0, b1, z, fun k hk hkb => hs (rch_le hkb (Nat.le_of_lt_succ hk))⟩
        exact c2 ((hH b).mpr ((front_succ hc ha0 ha1).mp this).1)
      · cases hs
  · rw [h.mem, front_succ hc ha0 ha1, hH]
    constructor
    · rintro ⟨c1, c2, c3, c4⟩
      obtain ⟨v0', e0', hs⟩ := h0.2 b c2 c3
      rw [c4] at e0'; cases e0'
      rcases hs with ⟨_, hs⟩ | ⟨_, _, hs, _⟩
      · exact ⟨c1, c2, c3, hs⟩
      · cases hs
    · rintro ⟨c1, c2, c3, c4⟩
      obtain ⟨v0', e0', hs⟩ := h0.2 b c2 c3
      rcases hs with ⟨rfl, _⟩ | ⟨d, u, _, hd, hk⟩
      · exact ⟨c1, c2, c3, e0'⟩
      · exact absurd ((hk l).mp hd) c4
/-- nothing new: the end -/
theorem LineL.fin (h : LineL r n l a vals) (hc : ∀ a b, r a b → 0 ≤ b ∧ b < n) (ha0 : 0 ≤ a) (ha1 : a < n) (hf : ∀ b, ¬ FrontL r n l a b) : LineV r n a vals := by
  refine ⟨h.1, fun b b0 b1 => ?_⟩
  obtain ⟨v, hv, hs⟩ := h.2 b b0 b1
  refine ⟨v, hv, ?_⟩
  have hin : ∀ {k : Nat} {y : Int}, rch r k a y → 0 ≤ y ∧ y < (n : Int) := fun hx => rch_in (p := fun y => 0 ≤ y ∧ y < (n : Int)) (fun a b e => hc a b e) ⟨ha0, ha1⟩ hx
  rcases hs with ⟨rfl, hs⟩ | ⟨d, u, rfl, _, hk⟩
  · refine .inl ⟨rfl, fun k hk => ?_⟩
    cases l with
    | zero => exact hf a ⟨ha0, ha1, rfl, fun _ h => absurd h (Nat.not_lt_zero _)⟩
    | succ l =>
      have st : ∀ y, rch r (l + 1) a y → rch r l a y := fun y hy => by
        by_cases z : rch r l a y
        · exact z
        · exact absurd ⟨(hin hy).1, (hin hy).2, hy, fun k hk hky => z (rch_le hky (Nat.le_of_lt_succ hk))⟩ (hf y)
      rcases Nat.le_total l k with z | z
      · exact hs (rch_succ (rch_stable st z b hk))
      · exact hs (rch_succ (rch_le hk z))
  · exact .inr ⟨d, u, rfl, hk⟩
end
end Mine
end
section
open PySem PySem.W PySem.Calls PyProof.Rows
set_option Elab.async false
set_option maxRecDepth 100000
namespace Mine
-- "L": what a name holds
local macro_rules | `(tactic| walk_at "L") => `(tactic| first
  | assumption
  | exact fs_eq
  | (refine fs_ne (by decide) ?_; walk_at "L")
  | rfl)
-- "M": the next step of the walk, where it is the same everywhere
local macro_rules | `(tactic| walk_at "M") => `(tactic| first
  | ((with_reducible refine loadG ?_); refine ldnS (by assumption) (by walk_at "L") ?_)
  | ((with_reducible refine stG ?_); refine stS (by assumption) ?_; intro _ _)
  | ((with_reducible refine nameG ?_); refine ldS (by assumption) (by walk_at "L") ?_)
  | with_reducible refine wpAny_execs_cons ?_
  | with_reducible refine wpAny_execs_nil ?_
  | with_reducible refine wpAny_BinOp ?_
  | with_reducible refine wpAny_Constant_int ?_
  | with_reducible refine wpAny_Constant_str ?_
  | with_reducible refine Constant_none ?_
  | with_reducible refine Constant_bool ?_
  | with_reducible refine wpAny_Compare1 ?_
  | with_reducible refine wpAny_isTrue_Compare1 ?_
  | with_reducible refine isTrue_not ?_
  | with_reducible refine isTrue_and_nil ?_
  | with_reducible refine isTrue_or_nil ?_
  | with_reducible refine isTrue_and ?_
  | with_reducible refine isTrue_or ?_
  | with_reducible refine IfExp_ ?_
  | with_reducible refine wpAny_If ?_
  | ((with_reducible refine asgN ?_ ?_); (focus rfl))
  | ((with_reducible refine asgS ?_ ?_); (focus rfl))
  | ((with_reducible refine asgA ?_ ?_); (focus rfl))
  | ((with_reducible refine exprE ?_ ?_ ?_); (focus rfl); (focus rfl))
  | with_reducible refine wpAny_AugAssign_Name ?_
  | with_reducible refine wpAny_Return_some ?_
  | with_reducible refine wpAny_Break ?_
  | with_reducible refine wpAny_Continue ?_
  | ((with_reducible refine isG ?_); refine wpAny_is_other (by rfl) (by intro e; cases e) ?_)
  | ((with_reducible refine trG ?_); refine isTrue_plain ?_)
  | with_reducible refine wpAny_truthy_bool ?_
  | with_reducible refine add_int ?_
  | with_reducible refine iadd_int ?_
  | with_reducible refine sub_int ?_
  | with_reducible refine lt_int ?_
  | with_reducible refine le_int ?_
  | with_reducible refine gt_int ?_
  | with_reducible refine eq_int ?_
  | with_reducible refine ne_int ?_
  | with_reducible refine splE ?_
  | ((with_reducible refine splG ?_); refine spliced_more ?_)
  | with_reducible refine Tuple_ ?_
  | with_reducible refine List_ ?_
  | ((with_reducible refine methC (pl := ?_) ?_ ?_); rotate_left; (focus rfl))
  | ((with_reducible refine callC ?_ ?_); (focus rfl))
  | ((with_reducible refine cwB1 ?_ ?_ ?_); (focus rfl); (focus rfl))
  | ((with_reducible refine cwT1 ?_ ?_ ?_); (focus rfl); (focus rfl))
  | ((with_reducible refine cwM1 ?_ ?_ ?_); (focus rfl); (focus rfl))
  | with_reducible refine Subscript_ ?_
  | ((with_reducible refine attrE ?_ ?_); (focus with_unfolding_all rfl))
  | (show wpAny _ _ (execs _ _) _ _ _; first | refine wpAny_execs_cons ?_ | refine wpAny_execs_nil ?_))
section
variable {prog : Program} {w : World} {A : Around} {E : Value → Shared → Prop} {K : Frag} {mg mb : Str → Option Value} {B : Heap} {T : TM} {m : Str → Option Value} {O : OG} {s : Shared} {env : Env}

theorem isCell_mask {h : Heap} {T : TM} {L c : Addr} {v : Option Value} (hc : h.IsCell c v) (h1 : T c = none) (h2 : c ≠ L) : (mask h T L).IsCell c v := by
  obtain ⟨o, ho, hp⟩ := hc
  exact ⟨o, by rw [mask_get h1 h2]; exact ho, hp⟩
theorem isCell_keep {h h' : Heap} {c : Addr} {v : Option Value} (hc : h.IsCell c v) (k : ∀ b o, h.get? b = some o → h'.get? b = some o) : h'.IsCell c v := let ⟨o, ho, hp⟩ := hc; ⟨o, k _ _ ho, hp⟩
/-- a free name whose cell lies in the base -/
theorem ldFreeB {M : Model} {L : Addr} {x : Str} {pos : Pos} {c : Addr} {v : Value} {Q : Value → Shared → Prop} (S : St B L T m O s) (hc : env.cells.lookup x = some c) (hb : B.IsCell c (some v)) (h : Q v s) (hk : env.scope.kind = .function := by rfl) (hl : env.kindOf x = some .free := by rfl) (hd : (x == ("__debug__" : Str)) = false := by decide)
    (hcd : (x == ("__classdict__" : Str)) = false := by decide) : wpAny M A (eval (.Name x pos) env) Q E s := wpAny_Name (wpAny_loadName_free hk hl hc (isCell_keep hb S.keep) h hcd) hd
/-- a cell of the frame itself, in the base -/
theorem ldCellB {M : Model} {L : Addr} {x : Str} {pos : Pos} {c : Addr} {v : Value} {Q : Value → Shared → Prop} (S : St B L T m O s) (hc : env.cells.lookup x = some c) (hb : B.IsCell c (some v)) (h : Q v s) (hk : env.scope.kind = .function := by rfl) (hl : env.kindOf x = some .cell := by rfl) (hd : (x == ("__debug__" : Str)) = false := by decide) :
    wpAny M A (eval (.Name x pos) env) Q E s := wpAny_Name (wpAny_loadName_cell hk hl hc (isCell_keep hb S.keep) h) hd

/-- over range(n), the target a cell -/
theorem compRangeC {t : Tag} {x : Str} {px : Pos} {ifs : List Expr} {elt : Expr} {scope : Scope} {cl : List (Str × Addr)} {Fin : TM → List Value → Addr → (Str → Option Value) → OG → Shared → Prop} {n : Nat} {r : Addr} {a u b : Tok}
    (hh : A.handled = none) (S : St B env.locals T m O s) (hr : IsRange s.heap r 0 (n : Int) 1 a u b) (hn : n < 1000000) (hcs : ∀ C, cellsFrom (C + 1) scope.names [] = [(x, C + 1)]) (hkf : ∀ C, (cEnv scope cl C env).scope.kind = .function) (hkc : ∀ C, (cEnv scope cl C env).kindOf x = some .cell)
    (hlk : ∀ C, (cEnv scope cl C env).cells.lookup x = some (C + 1))
    (Inv : Nat → TM → List Value → Prop) (h0 : Inv 0 T [])
    (turn : ∀ C i u T ys mC B₁ s, i < n → Inv i T ys → (∀ b o, B.get? b = some o → B₁.get? b = some o) → B₁.IsCell (C + 1) (some (.int (i : Int) u)) → St B₁ C T mC O s →
      wpAny (model prog w) A (testsOf ifs (cEnv scope cl C env)) (fun ok s₃ => if ok = true then wpAny (model prog w) A (eval elt (cEnv scope cl C env)) (fun y s₄ => ∃ T' m', St B₁ C T' m' O s₄ ∧ Inv (i + 1) T' (ys ++ [y])) NoR s₃
        else ∃ T' m', St B₁ C T' m' O s₃ ∧ Inv (i + 1) T' ys) NoR s)
    (done : ∀ T ys D s, Inv n T ys → T D = none → St B env.locals (upd T D (t, LsP ys)) m O s → Fin T ys D m O s) :
    wpAny (model prog w) A (pyIter (.ref r)) (CompGoal prog w A B env t (.Name x px) ifs elt scope cl Fin) E s :=
  pyIterRange S hr hn fun I _ S' hF hit => ⟨⟨I, [I], _, _, _, _, _, T, m, Inv, fun C v _ h => h.IsCell (C + 1) (some v), rfl, itrRange hh I n O, Nat.le_of_lt hn, S', hF, by simpa using hit, h0, fun _ _ _ _ _ => trivial,
    fun C v mC h T hg hT => by
      have := hT (x, C + 1) (by rw [hcs]; simp)
      exact isCell_mask hg this.1 this.2,
    fun C i v T mC s R _ _ hC hcells h => by
      obtain ⟨u₀, hu₀⟩ := hcells (x, C + 1) (by rw [hcs]; simp)
      refine wpAny_assign_Name (wpAny_storeName_cell (hkf C) (hkc C) (hlk C) hu₀ fun h' hc' hs' => ?_)
      refine h _ mC rfl rfl (hC.sameBut hs' (Nat.ne_of_lt (Nat.lt_succ_self C))) (fun b o hb hb' e => (hs'.2 b (hb' (x, C + 1) (by rw [hcs]; simp))).trans e) (fun y hy => ?_) hc'
      rw [hcs] at hy
      rw [List.mem_singleton.mp hy]
      exact ⟨_, hc'⟩,
    fun C i v T ys mC B₁ s hi ⟨_, u, hv⟩ hI hB hg S => turn C i u T ys mC B₁ s hi hI hB (hv ▸ hg) S, done⟩⟩
end
end Mine
end
section
open PySem PySem.W PySem.Calls PyProof.Rows
set_option Elab.async false
set_option maxRecDepth 100000
namespace Mine
-- "L": what a name holds
local macro_rules | `(tactic| walk_at "L") => `(tactic| first
  | assumption
  | exact fs_eq
  | (refine fs_ne (by decide) ?_; walk_at "L")
  | rfl)
-- "M": the next step of the walk, where it is the same everywhere
local macro_rules | `(tactic| walk_at "M") => `(tactic| first
  | ((with_reducible refine loadG ?_); refine ldnS (by assumption) (by walk_at "L") ?_)
  | ((with_reducible refine stG ?_); refine stS (by assumption) ?_; intro _ _)
  | ((with_reducible refine nameG ?_); refine ldS (by assumption) (by walk_at "L") ?_)
  | with_reducible refine wpAny_execs_cons ?_
  | with_reducible refine wpAny_execs_nil ?_
  | with_reducible refine wpAny_BinOp ?_
  | with_reducible refine wpAny_Constant_int ?_
  | with_reducible refine wpAny_Constant_str ?_
  | with_reducible refine Constant_none ?_
  | with_reducible refine Constant_bool ?_
  | with_reducible refine wpAny_Compare1 ?_
  | with_reducible refine wpAny_isTrue_Compare1 ?_
  | with_reducible refine isTrue_not ?_
  | with_reducible refine isTrue_and_nil ?_
  | with_reducible refine isTrue_or_nil ?_
  | with_reducible refine isTrue_and ?_
  | with_reducible refine isTrue_or ?_
  | with_reducible refine IfExp_ ?_
  | with_reducible refine wpAny_If ?_
  | ((with_reducible refine asgN ?_ ?_); (focus rfl))
  | ((with_reducible refine asgS ?_ ?_); (focus rfl))
  | ((with_reducible refine asgA ?_ ?_); (focus rfl))
  | ((with_reducible refine exprE ?_ ?_ ?_); (focus rfl); (focus rfl))
  | with_reducible refine wpAny_AugAssign_Name ?_
  | with_reducible refine wpAny_Return_some ?_
  | with_reducible refine wpAny_Break ?_
  | with_reducible refine wpAny_Continue ?_
  | ((with_reducible refine isG ?_); refine wpAny_is_other (by rfl) (by intro e; cases e) ?_)
  | ((with_reducible refine trG ?_); refine isTrue_plain ?_)
  | with_reducible refine wpAny_truthy_bool ?_
  | with_reducible refine add_int ?_
  | with_reducible refine iadd_int ?_
  | with_reducible refine sub_int ?_
  | with_reducible refine lt_int ?_
  | with_reducible refine le_int ?_
  | with_reducible refine gt_int ?_
  | with_reducible refine eq_int ?_
  | with_reducible refine ne_int ?_
  | with_reducible refine splE ?_
  | ((with_reducible refine splG ?_); refine spliced_more ?_)
  | with_reducible refine Tuple_ ?_
  | with_reducible refine List_ ?_
  | ((with_reducible refine methC (pl := ?_) ?_ ?_); rotate_left; (focus rfl))
  | ((with_reducible refine callC ?_ ?_); (focus rfl))
  | ((with_reducible refine cwB1 ?_ ?_ ?_); (focus rfl); (focus rfl))
  | ((with_reducible refine cwT1 ?_ ?_ ?_); (focus rfl); (focus rfl))
  | ((with_reducible refine cwM1 ?_ ?_ ?_); (focus rfl); (focus rfl))
  | with_reducible refine Subscript_ ?_
  | ((with_reducible refine attrE ?_ ?_); (focus with_unfolding_all rfl))
  | (show wpAny _ _ (execs _ _) _ _ _; first | refine wpAny_execs_cons ?_ | refine wpAny_execs_nil ?_))
section
variable {prog : Program} {w : World} {A : Around} {E : Value → Shared → Prop} {K : Frag} {mg mb : Str → Option Value} {B : Heap} {T : TM} {m : Str → Option Value} {O : OG} {s : Shared} {env : Env} {t : Tag}

/-- a loop over range(n) -/
theorem forRange {x : Str} {body : List Stmt} {Q : Flow → Shared → Prop} {r : Addr} {n : Nat} {a u b : Tok} (hh : A.handled = none) (S : St B env.locals T m O s) (hr : IsRange s.heap r 0 (n : Int) 1 a u b) (hn : n < 1000000)
    (Inv : Nat → TM → (Str → Option Value) → Prop) (h0 : Inv 0 T m)
    (turn : ∀ i u T m B₁ s, i < n → Inv i T m → (∀ b o, B.get? b = some o → B₁.get? b = some o) → St B₁ env.locals T (fs m x (.int (i : Int) u)) O s →
      wpAny (model prog w) A (execs body env) (TurnS B₁ env.locals O (Inv (i + 1)) Q) NoR s)
    (done : ∀ T m s, Inv n T m → St B env.locals T m O s → Q .next s) : wpAny (model prog w) A (pyIter (.ref r)) (ForGoal prog w A B env x body Q) E s :=
  pyIterRange S hr hn fun I _ S' hF hit => ⟨⟨I, [I], n, _, _, _, _, T, m, Inv, rfl, itrRange hh I n O, S', hF, by simpa using hit, h0, fun _ _ _ _ _ => trivial, fun i v T m B₁ s _ ⟨_, u, hv⟩ hI hB S => turn i u T m B₁ s (by assumption) hI hB (hv ▸ S), done⟩⟩
/-- `xs != []` -/
theorem neNilS {l b : Addr} {xs : List Value} {P : Obj → Prop} {tb : Tag} {Q : Value → Shared → Prop} (S : St B env.locals T m O s) (hl : T l = some (t, P)) (hP : ∀ o, P o → LiP xs o) (hb : T b = some (tb, LsP [])) (hu : A.units < cLine) (h : Q (.bool (!xs.isEmpty)) s) :
    wpAny (model prog w) A (compareOp .NotEq (.ref l) (.ref b)) Q E s := by
  have h1 := S.list hl hP
  have h2 := S.list hb (fun o ho => LsP.li ho)
  cases xs with
  | nil => exact PySem.EqBoolInt.of_rcne (PySem.SeqAt.RcNeAt.lists (e := fun _ => true) h1 h2 rfl hu (fun j hj => absurd hj (Nat.not_lt_zero _))) h
  | cons a r => exact PySem.EqBoolInt.of_rcne (PySem.SeqAt.RcNeAt.lists_lengths h1 h2 (by simp) hu) h

/-- a list of lists of ints -/
def RowsT (T : TM) (rs : List Value) (kss : List (List Int)) : Prop := rs.length = kss.length ∧ ∀ (i : Nat) ks, kss[i]? = some ks → ∃ a tg P ws, rs[i]? = some (.ref a) ∧ T a = some (tg, P) ∧ tg.1 = 6 ∧ (∀ o, P o → LiP ws o) ∧ IntsAre ws ks
/-- the relation of the rows -/
def rowR (kss : List (List Int)) (a b : Int) : Prop := 0 ≤ a ∧ b ∈ kss.getD a.toNat []

/-- one line: `for x in front` -/
theorem frontF {f rl sl la fa af : Addr} {cdv : Value} {cl : List (Str × Addr)} {tr tsl tl tf ta : Tag} {Pr Ps Pl Pf : Obj → Prop} {rs ls ff vs0 : List Value} {kss : List (List Int)} {fs0 : List Int} {n l : Nat} {a : Int} {ua ul : Tok} {L : Addr} {Q : Flow → Shared → Prop}
    (S : St B L T m O s) (hh : A.handled = none) (hrl : T rl = some (tr, Pr)) (hPr : ∀ o, Pr o → LiP rs o) (hR : RowsT T rs kss) (hrn : kss.length = n) (hn6 : n ≤ 6) (hent : ∀ ks ∈ kss, ks.length ≤ 6 ∧ ∀ y ∈ ks, 0 ≤ y ∧ y < (n : Int))
    (hsl : T sl = some (tsl, Ps)) (hPs : ∀ o, Ps o → LiP ls o) (ha0 : 0 ≤ a) (ha1 : a < n) (hla : ls[a.toNat]? = some (.ref la)) (hTla : T la = some (tl, Pl)) (hPl : ∀ o, Pl o → LiP vs0 o)
    (hfa : T fa = some (tf, Pf)) (hPf : ∀ o, Pf o → LiP ff o) (hff : IntsAre ff fs0) (hfs : ∀ x ∈ fs0, 0 ≤ x ∧ x < (n : Int)) (haf : T af = some (ta, LsP []))
    (hlv : Lv n vs0 vs0 [] (fun _ => False) l) (hvl : vs0.length = n) (e1 : tl.1 = 11) (e2 : tr.1 ≠ 11) (e3 : tsl.1 ≠ 11) (e4 : tf.1 = 12) (d1 : af ≠ fa) (d2 : ta.1 = 12) (e5 : tr.1 ≠ 12) (e6 : tsl.1 ≠ 12)
    (m1 : m "rows" = some (.ref rl)) (m2 : m "steps" = some (.ref sl)) (m3 : m "a" = some (.int a ua)) (m4 : m "now" = some (.int ((l : Nat) : Int) ul)) (m5 : m "front" = some (.ref fa)) (m6 : m "after" = some (.ref af))
    (h : ∀ T' m' vs afv afs P' s', (∀ c d, T c = some d → c ≠ la → c ≠ af → T' c = some d) → (∀ y : Str, y ∉ (["x", "y", "line"] : List Str) → m' y = m y) → T' la = some (tl, P') → (∀ o, P' o → LiP vs o) → T' af = some (ta, LsP afv) → IntsAre afv afs →
      Lv n vs0 vs afs (fun b => ∃ x ∈ fs0, rowR kss x b) l → St B L T' m' O s' → Q .next s') :
    wpAny (model prog w) A (exec (nth 2 (subB (nth 2 (subB (nth 2 (bodyOf (top 21))))))) (envF "_law_steps" (top 21) L f cdv cl)) Q E s := by
  refine forS (B := B) ?_
  repeat walk_at "M"
  have x1 : la ≠ rl := ne_of_tag hTla hrl (fun e => e2 ((congrArg Prod.fst e).symm.trans e1))
  have x2 : la ≠ sl := ne_of_tag hTla hsl (fun e => e3 ((congrArg Prod.fst e).symm.trans e1))
  have x3 : la ≠ fa := ne_of_tag hTla hfa (fun e => by have : (11 : Nat) = 12 := by rw [← e1, ← e4]; exact congrArg Prod.fst e
                                                       omega)
  have x4 : la ≠ af := ne_of_tag hTla haf (fun e => by have : (11 : Nat) = 12 := by rw [← e1, ← d2]; exact congrArg Prod.fst e
                                                       omega)
  have x5 : rl ≠ af := ne_of_tag hrl haf (fun e => e5 ((congrArg Prod.fst e).trans d2))
  have x6 : sl ≠ af := ne_of_tag hsl haf (fun e => e6 ((congrArg Prod.fst e).trans d2))
  have hlf := hff.length
  refine forList hh S hfa hPf
    (fun i T' m' => ∃ vs afv afs P', (∀ c d, T c = some d → c ≠ la → c ≠ af → T' c = some d) ∧ (∀ y : Str, y ∉ (["x", "y", "line"] : List Str) → m' y = m y) ∧ T' la = some (tl, P') ∧ (∀ o, P' o → LiP vs o) ∧ T' af = some (ta, LsP afv) ∧ IntsAre afv afs ∧
      Lv n vs0 vs afs (fun b => ∃ x ∈ fs0.take i, rowR kss x b) l)
    ⟨vs0, [], [], Pl, fun _ _ e _ _ => e, fun _ _ => rfl, hTla, hPl, haf, .nil, hlv.congr fun b => by simp⟩ (fun i T' m' _ hI => ?_) ?_ ?_
  · obtain ⟨vs, afv, afs, P', i1, _⟩ := hI
    exact ⟨_, _, i1 _ _ hfa (Ne.symm x3) (Ne.symm d1), hPf⟩
  · rintro i v T' m' B₁ s₁ hv ⟨vs, afv, afs, P', i1, i2, i3, i4, i5, i6, i7⟩ hB₁ S₁
    obtain ⟨x, ux, rfl, hx⟩ := IntsAre.at hff i v hv
    have hxn := hfs x (List.mem_of_getElem? hx)
    have hxl : x.toNat < kss.length := by rw [hrn]; omega
    obtain ⟨ra, tg, Pq, ws, r1, r2, r3, r4, r5⟩ := hR.2 x.toNat _ (List.getElem?_eq_getElem hxl)
    have hks := hent _ (List.getElem_mem hxl)
    have q1 : m' "rows" = some (.ref rl) := (i2 _ (by decide)).trans m1
    have y1 := i1 _ _ hrl (Ne.symm x1) x5
    have y2 : ra ≠ la := ne_of_tag r2 hTla (fun e => by have : (6 : Nat) = 11 := by rw [← r3, ← e1]; exact congrArg Prod.fst e
                                                        omega)
    have y3 : ra ≠ af := ne_of_tag r2 haf (fun e => by have : (6 : Nat) = 12 := by rw [← r3, ← d2]; exact congrArg Prod.fst e
                                                       omega)
    have hrow : ∀ b, rowR kss x b ↔ b ∈ kss[x.toNat] := fun b => by
      unfold rowR
      rw [List.getD_eq_getElem?_getD, List.getElem?_eq_getElem hxl]
      exact ⟨fun h => h.2, fun h => ⟨hxn.1, h⟩⟩
    generalize kss[x.toNat] = ks at r5 hks hrow
    have hlw := r5.length
    walk_at "M"
    refine forS (B := B₁) ?_
    repeat walk_at "M"
    refine subListS S₁ y1 hPr hxn.1 (by omega) r1 ?_
    refine forList hh S₁ (i1 _ _ r2 y2 y3) r4
      (fun j T' m' => ∃ vs afv afs P', (∀ c d, T c = some d → c ≠ la → c ≠ af → T' c = some d) ∧ (∀ y : Str, y ∉ (["x", "y", "line"] : List Str) → m' y = m y) ∧ T' la = some (tl, P') ∧ (∀ o, P' o → LiP vs o) ∧ T' af = some (ta, LsP afv) ∧ IntsAre afv afs ∧
        Lv n vs0 vs afs (fun b => (∃ x ∈ fs0.take i, rowR kss x b) ∨ b ∈ ks.take j) l)
      ⟨vs, afv, afs, P', i1, fun y hy => (fs_ne (beq_eq_false_iff_ne.mpr fun e => hy (by rw [e]; decide)) (i2 y hy)), i3, i4, i5, i6, i7.congr fun b => by simp⟩ (fun j T' m' _ hI => ?_) ?_ ?_
    · obtain ⟨vs, afv, afs, P', i1, _⟩ := hI
      exact ⟨_, _, i1 _ _ r2 y2 y3, r4⟩
    · rintro j v T₂ m₂ B₂ s₂ hv₂ ⟨vs₂, afv₂, afs₂, P₂, j1, j2, j3, j4, j5, j6, j7⟩ hB₂ S₂
      obtain ⟨y, uy, rfl, hy⟩ := IntsAre.at r5 j v hv₂
      have hyn := hks.2 y (List.mem_of_getElem? hy)
      have p2 : m₂ "steps" = some (.ref sl) := (j2 _ (by decide)).trans m2
      have p3 : m₂ "a" = some (.int a ua) := (j2 _ (by decide)).trans m3
      have p4 : m₂ "now" = some (.int ((l : Nat) : Int) ul) := (j2 _ (by decide)).trans m4
      have p6 : m₂ "after" = some (.ref af) := (j2 _ (by decide)).trans m6
      have z1 := j1 _ _ hsl (Ne.symm x2) x6
      obtain ⟨v, hv, hvk⟩ := j7.at hyn.1 hyn.2
      have hm₂ : ∀ z : Str, z ∉ (["x", "y", "line"] : List Str) → fs m₂ "y" (.int y uy) z = m z := fun z hz => (fs_ne (beq_eq_false_iff_ne.mpr fun e => hz (by rw [e]; decide)) (j2 z hz))
      have hsucc : ∀ b, b ∈ ks.take (j + 1) ↔ b ∈ ks.take j ∨ b = y := fun b => by rw [List.take_add_one, hy]; simp
      repeat walk_at "M"
      refine subListS S₂ z1 hPs ha0 (by omega) hla ?_
      repeat walk_at "M"
      refine subListS S₂ j3 j4 hyn.1 (by omega) hv ?_
      repeat walk_at "M"
      rcases hvk with rfl | ⟨d, u, rfl⟩
      · refine wpAny_is_self (by rfl) ?_
        repeat walk_at "M"
        refine subListS S₂ z1 hPs ha0 (by omega) hla ?_
        repeat walk_at "M"
        rename_i s₃ S₃
        clear S₂
        have hnv : nn vs₂ ≤ 6 := by have h1 := nn_le vs₂; have h2 := j7.len; omega
        refine setListS S₃ j3 j4 hyn.1 (by omega) (by rw [j7.len]; exact hyn.2) fun s₄ S₄ => ?_
        clear S₃
        have w1 : upd T₂ la (tl, LiP (vs₂.set y.toNat (.int ((l : Nat) : Int) ul))) la = _ := upd_self
        have w2 : upd T₂ la (tl, LiP (vs₂.set y.toNat (.int ((l : Nat) : Int) ul))) af = _ := (upd_ne (Ne.symm x4)).trans j5
        have w3 : ∀ c d, T c = some d → c ≠ la → c ≠ af → upd T₂ la (tl, LiP (vs₂.set y.toNat (.int ((l : Nat) : Int) ul))) c = some d := fun c d e h1 h2 => (upd_ne h1).trans (j1 c d e h1 h2)
        generalize upd T₂ la (tl, LiP (vs₂.set y.toNat (.int ((l : Nat) : Int) ul))) = T₄ at S₄ w1 w2 w3
        repeat walk_at "M"
        refine methAppendS S₄ w2 ?_
        repeat walk_at "M"
        have hfl : afv₂.length ≤ 6 := by
          have h1 := j7.cnt
          have h2 := nn_le vs0
          have h3 := j6.length
          omega
        refine appendS S₄ w2 (fun s₅ S₅ => ?_) (by rw [sizeLine_eq]; omega)
        repeat walk_at "M"
        refine ⟨_, _, S₅, vs₂.set y.toNat (.int ((l : Nat) : Int) ul), afv₂ ++ [.int y uy], afs₂ ++ [y], LiP (vs₂.set y.toNat (.int ((l : Nat) : Int) ul)), fun c d e h1 h2 => (upd_ne h2).trans (w3 c d e h1 h2), fun z hz => (fs_ne (beq_eq_false_iff_ne.mpr fun e => hz (by rw [e]; decide)) (hm₂ z hz)), (upd_ne x4).trans w1, fun _ ho => ho, upd_self, j6.append (.cons _ _ .nil), (j7.put hyn.1 hyn.2 hv ul).congr fun b => ?_⟩
        rw [hsucc, or_assoc]
      · refine wpAny_is_other (by rfl) (by intro e; cases e) ?_
        repeat walk_at "M"
        refine ⟨_, _, S₂, vs₂, afv₂, afs₂, P₂, j1, hm₂, j3, j4, j5, j6, (j7.skip hyn.1 hyn.2 hv).congr fun b => ?_⟩
        rw [hsucc, or_assoc]
    · rintro T₂ m₂ s₂ ⟨vs₂, afv₂, afs₂, P₂, j1, j2, j3, j4, j5, j6, j7⟩ S₂
      have e : ks.take ws.length = ks := List.take_of_length_le (by omega)
      rw [e] at j7
      repeat walk_at "M"
      refine ⟨_, _, S₂, vs₂, afv₂, afs₂, P₂, j1, j2, j3, j4, j5, j6, j7.congr fun b => ?_⟩
      have hs : ∀ z, z ∈ fs0.take (i + 1) ↔ z ∈ fs0.take i ∨ z = x := fun z => by rw [List.take_add_one, hx]; simp
      constructor
      · rintro (⟨z, h1, h2⟩ | h1)
        · exact ⟨z, (hs z).mpr (.inl h1), h2⟩
        · exact ⟨x, (hs x).mpr (.inr rfl), (hrow b).mpr h1⟩
      · rintro ⟨z, h1, h2⟩
        rcases (hs z).mp h1 with h1 | rfl
        · exact .inl ⟨z, h1, h2⟩
        · exact .inr ((hrow b).mp h2)
  · rintro T' m' s' ⟨vs, afv, afs, P', i1, i2, i3, i4, i5, i6, i7⟩ S'
    have e : fs0.take ff.length = fs0 := List.take_of_length_le (by omega)
    rw [e] at i7
    exact h _ _ _ _ _ _ _ i1 i2 i3 i4 i5 i6 i7 S'
end
end Mine
end
section
open PySem PySem.W PySem.Calls PyProof.Rows
set_option Elab.async false
set_option maxRecDepth 100000
namespace Mine
-- "L": what a name holds
local macro_rules | `(tactic| walk_at "L") => `(tactic| first
  | assumption
  | exact fs_eq
  | (refine fs_ne (by decide) ?_; walk_at "L")
  | rfl)
-- "M": the next step of the walk, where it is the same everywhere
local macro_rules | `(tactic| walk_at "M") => `(tactic| first
  | ((with_reducible refine loadG ?_); refine ldnS (by assumption) (by walk_at "L") ?_)
  | ((with_reducible refine stG ?_); refine stS (by assumption) ?_; intro _ _)
  | ((with_reducible refine nameG ?_); refine ldS (by assumption) (by walk_at "L") ?_)
  | with_reducible refine wpAny_execs_cons ?_
  | with_reducible refine wpAny_execs_nil ?_
  | with_reducible refine wpAny_BinOp ?_
  | with_reducible refine wpAny_Constant_int ?_
  | with_reducible refine wpAny_Constant_str ?_
  | with_reducible refine Constant_none ?_
  | with_reducible refine Constant_bool ?_
  | with_reducible refine wpAny_Compare1 ?_
  | with_reducible refine wpAny_isTrue_Compare1 ?_
  | with_reducible refine isTrue_not ?_
  | with_reducible refine isTrue_and_nil ?_
  | with_reducible refine isTrue_or_nil ?_
  | with_reducible refine isTrue_and ?_
  | with_reducible refine isTrue_or ?_
  | with_reducible refine IfExp_ ?_
  | with_reducible refine wpAny_If ?_
  | ((with_reducible refine asgN ?_ ?_); (focus rfl))
  | ((with_reducible refine asgS ?_ ?_); (focus rfl))
  | ((with_reducible refine asgA ?_ ?_); (focus rfl))
  | ((with_reducible refine exprE ?_ ?_ ?_); (focus rfl); (focus rfl))
  | with_reducible refine wpAny_AugAssign_Name ?_
  | with_reducible refine wpAny_Return_some ?_
  | with_reducible refine wpAny_Break ?_
  | with_reducible refine wpAny_Continue ?_
  | ((with_reducible refine isG ?_); refine wpAny_is_other (by rfl) (by intro e; cases e) ?_)
  | ((with_reducible refine trG ?_); refine isTrue_plain ?_)
  | with_reducible refine wpAny_truthy_bool ?_
  | with_reducible refine add_int ?_
  | with_reducible refine iadd_int ?_
  | with_reducible refine sub_int ?_
  | with_reducible refine lt_int ?_
  | with_reducible refine le_int ?_
  | with_reducible refine gt_int ?_
  | with_reducible refine eq_int ?_
  | with_reducible refine ne_int ?_
  | with_reducible refine splE ?_
  | ((with_reducible refine splG ?_); refine spliced_more ?_)
  | with_reducible refine Tuple_ ?_
  | with_reducible refine List_ ?_
  | ((with_reducible refine methC (pl := ?_) ?_ ?_); rotate_left; (focus rfl))
  | ((with_reducible refine callC ?_ ?_); (focus rfl))
  | ((with_reducible refine cwB1 ?_ ?_ ?_); (focus rfl); (focus rfl))
  | ((with_reducible refine cwT1 ?_ ?_ ?_); (focus rfl); (focus rfl))
  | ((with_reducible refine cwM1 ?_ ?_ ?_); (focus rfl); (focus rfl))
  | with_reducible refine Subscript_ ?_
  | ((with_reducible refine attrE ?_ ?_); (focus with_unfolding_all rfl))
  | (show wpAny _ _ (execs _ _) _ _ _; first | refine wpAny_execs_cons ?_ | refine wpAny_execs_nil ?_))
section
variable {prog : Program} {w : World} {A : Around} {E : Value → Shared → Prop} {K : Frag} {mg mb : Str → Option Value} {B : Heap} {T : TM} {m : Str → Option Value} {O : OG} {s : Shared} {env : Env} {t : Tag}

theorem rowR_in {kss : List (List Int)} {n : Nat} (hrn : kss.length = n) (hent : ∀ ks ∈ kss, ks.length ≤ 6 ∧ ∀ y ∈ ks, 0 ≤ y ∧ y < (n : Int)) : ∀ a b, rowR kss a b → 0 ≤ b ∧ b < (n : Int) := by
  rintro a b ⟨h0, h1⟩
  rw [List.getD_eq_getElem?_getD] at h1
  cases q : kss[a.toNat]? with
  | none => rw [q] at h1; cases h1
  | some ks => rw [q] at h1; exact (hent ks (List.mem_of_getElem? q)).2 b h1

/-- one line of the table -/
theorem lineF {f rl sl la : Addr} {cdv : Value} {cl : List (Str × Addr)} {tr tsl tl : Tag} {Pr Ps Pl : Obj → Prop} {rs ls vs0 : List Value} {kss : List (List Int)} {n : Nat} {a : Int} {ua : Tok} {L : Addr} {Q : Flow → Shared → Prop}
    (S : St B L T m O s) (hh : A.handled = none) (hu : A.units < cLine) (hrl : T rl = some (tr, Pr)) (hPr : ∀ o, Pr o → LiP rs o) (hR : RowsT T rs kss) (hrn : kss.length = n) (hn6 : n ≤ 6) (hent : ∀ ks ∈ kss, ks.length ≤ 6 ∧ ∀ y ∈ ks, 0 ≤ y ∧ y < (n : Int))
    (hsl : T sl = some (tsl, Ps)) (hPs : ∀ o, Ps o → LiP ls o) (ha0 : 0 ≤ a) (ha1 : a < n) (hla : ls[a.toNat]? = some (.ref la)) (hTla : T la = some (tl, Pl)) (hPl : ∀ o, Pl o → LiP vs0 o) (hL0 : LineL (rowR kss) n 0 a vs0)
    (e1 : tl.1 = 11) (e2 : tr.1 ≠ 11) (e3 : tsl.1 ≠ 11) (e5 : tr.1 ≠ 12) (e6 : tsl.1 ≠ 12)
    (m1 : m "rows" = some (.ref rl)) (m2 : m "steps" = some (.ref sl)) (m3 : m "a" = some (.int a ua))
    (h : ∀ T' m' vs P' s', (∀ c d, T c = some d → c ≠ la → T' c = some d) → (∀ y : Str, y ∉ (["x", "y", "line", "front", "now", "after"] : List Str) → m' y = m y) → T' la = some (tl, P') → (∀ o, P' o → LiP vs o) →
      LineV (rowR kss) n a vs → St B L T' m' O s' → Q .next s') :
    wpAny (model prog w) A (execs (subB (nth 2 (bodyOf (top 21)))) (envF "_law_steps" (top 21) L f cdv cl)) Q E s := by
  have hrin := rowR_in hrn hent
  have x1 : la ≠ rl := ne_of_tag hTla hrl (fun e => e2 ((congrArg Prod.fst e).symm.trans e1))
  have x2 : la ≠ sl := ne_of_tag hTla hsl (fun e => e3 ((congrArg Prod.fst e).symm.trans e1))
  refine wpAny_execs_cons ?_
  repeat walk_at "M"
  refine newListS S (12, 0, 1) fun fa s₁ hfa S₁ => ?_
  clear S
  have a1 : upd T fa ((12, 0, 1), LsP [Value.int a ua]) fa = _ := upd_self
  have a2 : ∀ c d, T c = some d → upd T fa ((12, 0, 1), LsP [Value.int a ua]) c = some d := fun c d e => upd_new e hfa
  have x3 : la ≠ fa := ne_of_none hTla hfa
  generalize upd T fa ((12, 0, 1), LsP [Value.int a ua]) = T₁ at S₁ a1 a2
  repeat walk_at "M"
  rename_i s₂ S₂ s₃ S₃
  clear S₁ S₂
  refine whileS (B := B) (k := 2 * nn vs0 + 1) (fun μ T' m' => ∃ (l : Nat) (ul : Tok) (fa : Addr) (ff : List Value) (fs : List Int) (vs : List Value) (P' : Obj → Prop), μ = 2 * nn vs + (if fs = [] then 0 else 1) ∧
      (∀ c d, T c = some d → c ≠ la → T' c = some d) ∧ (∀ y : Str, y ∉ (["x", "y", "line", "front", "now", "after"] : List Str) → m' y = m y) ∧ T' la = some (tl, P') ∧ (∀ o, P' o → LiP vs o) ∧ LineL (rowR kss) n l a vs ∧
      T' fa = some ((12, 0, 1), LsP ff) ∧ IntsAre ff fs ∧ (∀ b, b ∈ fs ↔ FrontL (rowR kss) n l a b) ∧ fs.length ≤ 6 ∧ m' "front" = some (.ref fa) ∧ m' "now" = some (.int ((l : Nat) : Int) ul)) S₃ ?_ ?_
  · refine ⟨0, _, fa, _, [a], vs0, Pl, by simp, fun c d e _ => a2 c d e, fun y hy => ?_, a2 _ _ hTla, hPl, hL0, a1, .cons _ _ .nil, fun b => ?_, by simp, fs_ne (by decide) fs_eq, fs_eq⟩
    · exact (fs_ne (beq_eq_false_iff_ne.mpr fun e => hy (by rw [e]; decide)) (fs_ne (beq_eq_false_iff_ne.mpr fun e => hy (by rw [e]; decide)) rfl))
    · rw [List.mem_singleton]
      constructor
      · rintro rfl; exact ⟨ha0, ha1, rfl, fun k hk => absurd hk (Nat.not_lt_zero k)⟩
      · rintro ⟨_, _, h, _⟩; exact Eq.symm h
  · rintro μ T' m' s₄ ⟨l, ul, fa, ff, fs, vs, P', rfl, i1, i2, i3, i4, i5, i6, i7, i8, i9, i10, i11⟩ S₄
    clear S₃
    repeat walk_at "M"
    refine newListS S₄ (14, 0, 0) fun e s₅ he S₅ => ?_
    clear S₄
    have hfe : upd T' e ((14, 0, 0), LsP []) fa = _ := upd_new i6 he
    repeat walk_at "M"
    refine neNilS S₅ hfe (fun o ho => LsP.li ho) upd_self hu ?_
    repeat walk_at "M"
    replace S₅ := S₅.forget (Sub.new he)
    have hfl := i7.length
    cases ff with
    | nil =>
      rw [if_neg (by simp)]
      have hf0 : fs = [] := List.eq_nil_of_length_eq_zero (by rw [← hfl]; rfl)
      subst hf0
      refine wpAny_execs_nil ?_
      exact h T' m' vs P' _ i1 i2 i3 i4 (i5.fin hrin ha0 ha1 fun b hb => by have := (i8 b).mpr hb; cases this) S₅
    | cons v0 ff' =>
      rw [if_pos (by simp)]
      have hf0 : fs ≠ [] := fun e => by rw [e] at hfl; cases hfl
      generalize v0 :: ff' = ff at i6 i7 hfe hfl
      repeat walk_at "M"
      rename_i s₆ S₆
      clear S₅
      refine newListS S₆ (12, 0, 1) fun af s₇ haf S₇ => ?_
      clear S₆
      have b1 : upd T' af ((12, 0, 1), LsP []) af = _ := upd_self
      have b2 : ∀ c d, T' c = some d → upd T' af ((12, 0, 1), LsP []) c = some d := fun c d e => upd_new e haf
      have b3 : af ≠ fa := (ne_of_none i6 haf).symm
      have b4 : ∀ c d, T' c = some d → c ≠ af := fun c d e => ne_of_none e haf
      generalize upd T' af ((12, 0, 1), LsP []) = T₇ at S₇ b1 b2
      repeat walk_at "M"
      rename_i s₈ S₈
      clear S₇
      have r1 := i1 _ _ hrl (Ne.symm x1)
      have r2 := i1 _ _ hsl (Ne.symm x2)
      have n1 : m' "rows" = some (.ref rl) := (i2 _ (by decide)).trans m1
      have n2 : m' "steps" = some (.ref sl) := (i2 _ (by decide)).trans m2
      have n3 : m' "a" = some (.int a ua) := (i2 _ (by decide)).trans m3
      have hR₇ : RowsT T₇ rs kss := ⟨hR.1, fun i ks hi => by
        obtain ⟨ra, tg, Pq, ws, q1, q2, q3, q4, q5⟩ := hR.2 i ks hi
        exact ⟨ra, tg, Pq, ws, q1, b2 _ _ (i1 _ _ q2 (ne_of_tag q2 hTla (fun e => by have z : tg.1 = tl.1 := congrArg Prod.fst e; omega))), q3, q4, q5⟩⟩
      refine frontF (rl := rl) (sl := sl) (la := la) (fa := fa) (af := af) (l := l + 1) (ul := _) (fs0 := fs) S₈ hh (b2 _ _ r1) hPr hR₇ hrn hn6 hent (b2 _ _ r2) hPs ha0 ha1 hla (b2 _ _ i3) i4 (b2 _ _ i6) (fun o ho => LsP.li ho) i7 (fun x hx => ⟨((i8 x).mp hx).1, ((i8 x).mp hx).2.1⟩) b1
        (Lv.start i5) i5.1 e1 e2 e3 rfl b3 rfl e5 e6 (by walk_at "L") (by walk_at "L") (by walk_at "L") (by walk_at "L") (by walk_at "L") (by walk_at "L") fun T₉ m₉ vs₉ afv afs P₉ s₉ c1 c2 c3 c4 c5 c6 c7 S₉ => ?_
      have c8 : m₉ "after" = some (.ref af) := (c2 _ (by decide)).trans (by walk_at "L")
      obtain ⟨u9, c9⟩ : ∃ u, m₉ "now" = some (.int (((l + 1 : Nat)) : Int) u) := by
        rw [c2 (Str.ofString "now") (by decide)]
        exact ⟨_, fs_ne (by decide) fs_eq⟩
      repeat walk_at "M"
      rename_i s₁₀ S₁₀
      clear S₈ S₉
      obtain ⟨d1, d2⟩ := c7.done hrin ha0 ha1 i5 fun b => ⟨fun ⟨x, hx, hxb⟩ => ⟨x, (i8 x).mp hx, hxb⟩, fun ⟨x, hx, hxb⟩ => ⟨x, (i8 x).mpr hx, hxb⟩⟩
      have hcnt := c7.cnt
      have hnv := nn_le vs
      have hvl := i5.1
      refine ⟨_, _, S₁₀, 2 * nn vs₉ + (if afs = [] then 0 else 1), ?_, l + 1, _, af, afv, afs, vs₉, P₉, rfl, fun c d e h => ?_, fun y hy => ?_, c3, c4, d1, c5, c6, d2, by omega, fs_eq, fs_ne (by decide) c9⟩
      · rw [if_neg hf0]
        by_cases z : afs = []
        · rw [if_pos z]
          subst z
          simp only [List.length_nil] at hcnt
          omega
        · rw [if_neg z]
          have := List.length_pos_iff.mpr z
          omega
      · exact c1 c d (b2 _ _ (i1 c d e h)) h (b4 _ _ (i1 c d e h))
      · rw [fs_ne (beq_eq_false_iff_ne.mpr fun e => hy (by rw [e]; decide)) (c2 y fun z => hy (by revert z; simp only [List.mem_cons, List.not_mem_nil, or_false]; rintro (rfl | rfl | rfl) <;> decide))]
        refine (fs_ne (beq_eq_false_iff_ne.mpr fun e => hy (by rw [e]; decide)) ?_)
        refine (fs_ne (beq_eq_false_iff_ne.mpr fun e => hy (by rw [e]; decide)) ?_)
        exact i2 y hy
end
end Mine
end
section
open PySem PySem.W PySem.Calls PyProof.Rows
set_option Elab.async false
set_option maxRecDepth 100000
namespace Mine
-- "L": what a name holds
local macro_rules | `(tactic| walk_at "L") => `(tactic| first
  | assumption
  | exact fs_eq
  | (refine fs_ne (by decide) ?_; walk_at "L")
  | rfl)
-- "M": the next step of the walk, where it is the same everywhere
local macro_rules | `(tactic| walk_at "M") => `(tactic| first
  | ((with_reducible refine loadG ?_); refine ldnS (by assumption) (by walk_at "L") ?_)
  | ((with_reducible refine stG ?_); refine stS (by assumption) ?_; intro _ _)
  | ((with_reducible refine nameG ?_); refine ldS (by assumption) (by walk_at "L") ?_)
  | with_reducible refine wpAny_execs_cons ?_
  | with_reducible refine wpAny_execs_nil ?_
  | with_reducible refine wpAny_BinOp ?_
  | with_reducible refine wpAny_Constant_int ?_
  | with_reducible refine wpAny_Constant_str ?_
  | with_reducible refine Constant_none ?_
  | with_reducible refine Constant_bool ?_
  | with_reducible refine wpAny_Compare1 ?_
  | with_reducible refine wpAny_isTrue_Compare1 ?_
  | with_reducible refine isTrue_not ?_
  | with_reducible refine isTrue_and_nil ?_
  | with_reducible refine isTrue_or_nil ?_
  | with_reducible refine isTrue_and ?_
  | with_reducible refine isTrue_or ?_
  | with_reducible refine IfExp_ ?_
  | with_reducible refine wpAny_If ?_
  | ((with_reducible refine asgN ?_ ?_); (focus rfl))
  | ((with_reducible refine asgS ?_ ?_); (focus rfl))
  | ((with_reducible refine asgA ?_ ?_); (focus rfl))
  | ((with_reducible refine exprE ?_ ?_ ?_); (focus rfl); (focus rfl))
  | with_reducible refine wpAny_AugAssign_Name ?_
  | with_reducible refine wpAny_Return_some ?_
  | with_reducible refine wpAny_Break ?_
  | with_reducible refine wpAny_Continue ?_
  | ((with_reducible refine isG ?_); refine wpAny_is_other (by rfl) (by intro e; cases e) ?_)
  | ((with_reducible refine trG ?_); refine isTrue_plain ?_)
  | with_reducible refine wpAny_truthy_bool ?_
  | with_reducible refine add_int ?_
  | with_reducible refine iadd_int ?_
  | with_reducible refine sub_int ?_
  | with_reducible refine lt_int ?_
  | with_reducible refine le_int ?_
  | with_reducible refine gt_int ?_
  | with_reducible refine eq_int ?_
  | with_reducible refine ne_int ?_
  | with_reducible refine splE ?_
  | ((with_reducible refine splG ?_); refine spliced_more ?_)
  | with_reducible refine Tuple_ ?_
  | with_reducible refine List_ ?_
  | ((with_reducible refine methC (pl := ?_) ?_ ?_); rotate_left; (focus rfl))
  | ((with_reducible refine callC ?_ ?_); (focus rfl))
  | ((with_reducible refine cwB1 ?_ ?_ ?_); (focus rfl); (focus rfl))
  | ((with_reducible refine cwT1 ?_ ?_ ?_); (focus rfl); (focus rfl))
  | ((with_reducible refine cwM1 ?_ ?_ ?_); (focus rfl); (focus rfl))
  | with_reducible refine Subscript_ ?_
  | ((with_reducible refine attrE ?_ ?_); (focus with_unfolding_all rfl))
  | (show wpAny _ _ (execs _ _) _ _ _; first | refine wpAny_execs_cons ?_ | refine wpAny_execs_nil ?_))
section
variable {prog : Program} {w : World} {A : Around} {E : Value → Shared → Prop} {K : Frag} {mg mb : Str → Option Value} {B : Heap} {L : Addr} {T : TM} {m : Str → Option Value} {O : OG} {s : Shared} {env : Env} {t : Tag}

/-- the table of steps -/
def TableP (T : TM) (r : Int → Int → Prop) (n : Nat) (ls : List Value) : Prop := ls.length = n ∧ ∀ (j : Nat), j < n → ∃ a P vs, ls[j]? = some (.ref a) ∧ T a = some ((11, 0, (j : Int)), P) ∧ (∀ o, P o → LiP vs o) ∧ LineV r n (j : Int) vs

theorem lawSteps {f l : Addr} {cdv : Value} {tl : Tag} {P : Obj → Prop} {rs : List Value} {kss : List (List Int)} {Q : Value → Shared → Prop}
    (W : Wd K mg mb B) (S : St B L T m O s) (hf : FnIs K f (top 21) "_law_steps" .none cdv) (hroom : A.depth < recursionLimit) (hh : A.handled = none) (hu : A.units < 9000) (hln : nsIn K mainGlobals "len" = some none) (hrg : nsIn K mainGlobals "range" = some none)
    (hl : T l = some (tl, P)) (hP : ∀ o, P o → LiP rs o) (hR : RowsT T rs kss) (hn6 : kss.length ≤ 6) (hent : ∀ ks ∈ kss, ks.length ≤ 6 ∧ ∀ y ∈ ks, 0 ≤ y ∧ y < (kss.length : Int)) (e1 : tl.1 ≠ 11) (e2 : tl.1 ≠ 12)
    (h : ∀ d T' ls s', Sub T T' → T' d = some ((13, 0, 0), LsP ls) → TableP T' (rowR kss) kss.length ls → St B L T' m O s' → Q (.ref d) s') :
    wpAny (model prog w) A (call (.ref f) [.ref l]) Q E s := by
  refine callFC (args := ⟨[.ref l], []⟩) (binds := [(Str.ofString "rows", .ref l)]) W S hroom hf (fun _ _ _ _ _ _ => BindsTo.of_eq rfl) (fun n y hy => ?_) (by decide) rfl rfl rfl
    fun B' L' s₁ T₁ hB W₁ hs₁ hc₁ hn₁ S₁ => ?_
  · rw [List.mem_singleton.mp hy]; exact .inl rfl
  have hcl : cellsFrom (L' + 1) (scopeOf (top 21)).names [] = [(Str.ofString "size", L' + 1)] := rfl
  rw [hcl] at hc₁ ⊢
  have hu' : (A.deeper (envF (Str.ofString "_law_steps") (top 21) L' f cdv [(Str.ofString "size", L' + 1)])).units < cLine := by show A.units + 3 < 9900; omega
  have hh' : (A.deeper (envF (Str.ofString "_law_steps") (top 21) L' f cdv [(Str.ofString "size", L' + 1)])).handled = none := hh
  generalize A.deeper (envF (Str.ofString "_law_steps") (top 21) L' f cdv [(Str.ofString "size", L' + 1)]) = A' at hu' hh' ⊢
  have a1 := (hc₁ (Str.ofString "size") (L' + 1) rfl).1
  have a0 := (hc₁ (Str.ofString "size") (L' + 1) rfl).2
  have hl₁ := hs₁ _ _ hl
  have hrl := hR.1
  refine wpAny_execs_cons ?_
  repeat walk_at "M"
  refine ldBuilS (v := .builtin "len") W₁ S₁ hln rfl (by decide) ?_
  repeat walk_at "M"
  refine lenListS S₁ hl₁ hP (by omega) fun u₁ tk => ?_
  refine stCellS S₁ (c := L' + 1) rfl a1 fun s₂ S₂ => ?_
  clear S₁
  have hs₂ : Sub T (upd T₁ (L' + 1) ((9, 0, ((L' + 1 : Addr) : Int)), CellP (some (.int (rs.length : Int) u₁)))) := fun a c e => (upd_ne (ne_of_none e a0)).trans (hs₁ a c e)
  have a2 : upd T₁ (L' + 1) ((9, 0, ((L' + 1 : Addr) : Int)), CellP (some (.int (rs.length : Int) u₁))) (L' + 1) = _ := upd_self
  generalize upd T₁ (L' + 1) ((9, 0, ((L' + 1 : Addr) : Int)), CellP (some (.int (rs.length : Int) u₁))) = T₂ at S₂ hs₂ a2
  rw [hrl] at a2
  generalize hn : kss.length = n at *
  refine wpAny_execs_cons ?_
  refine compA (t := (13, 0, 0)) S₂ rfl ?_
  repeat walk_at "M"
  refine ldBuilS (v := .type "range") W₁ S₂ hrg rfl (by decide) ?_
  repeat walk_at "M"
  refine ldCellS S₂ (c := L' + 1) rfl a2 ?_
  repeat walk_at "M"
  refine callRangeS S₂ fun r s₃ ra rb S₃ hr => ?_
  refine compRangeC hh' S₃ hr (by omega) (fun _ => rfl) (fun _ => rfl) (fun _ => rfl) (fun _ => rfl)
    (fun i T' ys => Sub T₂ T' ∧ ys.length = i ∧ ∀ j, j < i → ∃ a vs, ys[j]? = some (.ref a) ∧ T₂ a = none ∧ T' a = some ((11, 0, (j : Int)), LsP vs) ∧ LineL (rowR kss) n 0 (j : Int) vs)
    ⟨.refl _, rfl, fun j hj => absurd hj (Nat.not_lt_zero _)⟩ (fun C i u T' ys mC B₁ s₄ hi hI hB₁ hcell S₄ => ?_) (fun T' ys D s₄ hI hD S₄ s₅ S₅ => ?_)
  · obtain ⟨i1, i2, i3⟩ := hI
    refine tests_nil ?_
    have W₄ := W₁.keeps hB₁
    rw [if_pos rfl]
    refine compE (t := (11, 0, (i : Int))) S₄ rfl ?_
    repeat walk_at "M"
    refine ldBuilS (v := .type "range") W₄ S₄ hrg rfl (by decide) ?_
    repeat walk_at "M"
    refine ldCellS S₄ (c := L' + 1) rfl (i1 _ _ a2) ?_
    repeat walk_at "M"
    refine callRangeS S₄ fun r s₅ ra rb S₅ hr₅ => ?_
    refine compRange (n := n) hh' S₅ hr₅ (by omega) rfl rfl
      (fun j T'' ys => T'' = T' ∧ ys.length = j ∧ ∀ b : Nat, b < j → ∃ v, ys[b]? = some v ∧ StepL (rowR kss) 0 (i : Int) (b : Int) v)
      ⟨rfl, rfl, fun b hb => absurd hb (Nat.not_lt_zero _)⟩ (fun C₂ j u₂ T'' ys₂ mC₂ B₂ s₆ hj hI hB₂ hm S₆ => ?_) (fun T'' ys₂ D s₆ hI hD S₆ s₇ S₇ => ?_)
    · obtain ⟨rfl, j2, j3⟩ := hI
      refine tests_nil ?_
      rw [if_pos rfl]
      have hc₂ := isCell_keep hcell hB₂
      have put : ∀ v, StepL (rowR kss) 0 (i : Int) (j : Int) v → ∀ b : Nat, b < j + 1 → ∃ v', (ys₂ ++ [v])[b]? = some v' ∧ StepL (rowR kss) 0 (i : Int) (b : Int) v' := fun v hv b hb => by
        rcases Nat.lt_or_ge b j with z | z
        · obtain ⟨v', h1, h2⟩ := j3 b z
          exact ⟨v', by rw [List.getElem?_append_left (by omega)]; exact h1, h2⟩
        · have : b = j := by omega
          subst this
          exact ⟨v, by rw [List.getElem?_append_right (by omega)]; simp [j2], hv⟩
      repeat walk_at "M"
      refine ldCellB S₆ (c := C + 1) rfl hc₂ ?_
      repeat walk_at "M"
      by_cases z : (i : Int) = (j : Int)
      · rw [if_pos (by simpa using z)]
        repeat walk_at "M"
        refine ⟨_, _, S₆, rfl, by rw [List.length_append, j2]; rfl, put _ (.inr ⟨0, _, rfl, Nat.le_refl _, fun k => ⟨fun _ => ?_, fun _ => Nat.zero_le _⟩⟩)⟩
        rw [z]; exact rch_self
      · rw [if_neg (by simpa using z)]
        repeat walk_at "M"
        exact ⟨_, _, S₆, rfl, by rw [List.length_append, j2]; rfl, put _ (.inl ⟨rfl, z⟩)⟩
    · obtain ⟨rfl, j2, j3⟩ := hI
      have hD₂ : T₂ D = none := by
        cases q : T₂ D with
        | none => rfl
        | some c => rw [i1 _ _ q] at hD; cases hD
      refine ⟨_, _, S₇, i1.trans (.new hD), by rw [List.length_append, i2]; rfl, fun j hj => ?_⟩
      rcases Nat.lt_or_ge j i with z | z
      · obtain ⟨a, vs, h1, h2, h3, h4⟩ := i3 j z
        exact ⟨a, vs, by rw [List.getElem?_append_left (by omega)]; exact h1, h2, upd_new h3 hD, h4⟩
      · have : j = i := by omega
        subst this
        refine ⟨D, ys₂, by rw [List.getElem?_append_right (by omega)]; simp [i2], hD₂, upd_self, j2, fun b b0 b1 => ?_⟩
        obtain ⟨v, h1, h2⟩ := j3 b.toNat (by omega)
        have e : ((b.toNat : Nat) : Int) = b := by omega
        rw [e] at h2
        exact ⟨v, h1, h2⟩
  · obtain ⟨i1, i2, i3⟩ := hI
    clear S₂ S₄
    have hD₂ : ∀ c d, T₂ c = some d → c ≠ D := fun c d e => ne_of_none (i1 _ _ e) hD
    have t1 : upd T' D ((13, 0, 0), LsP ys) D = _ := upd_self
    have t2 : ∀ c d, T' c = some d → upd T' D ((13, 0, 0), LsP ys) c = some d := fun c d e => upd_new e hD
    generalize upd T' D ((13, 0, 0), LsP ys) = T₃ at S₅ t1 t2
    show wpAny _ _ (execs _ _) _ _ _
    refine wpAny_execs_cons ?_
    refine forS (B := B') ?_
    repeat walk_at "M"
    refine ldBuilS (v := .type "range") W₁ S₅ hrg rfl (by decide) ?_
    repeat walk_at "M"
    refine ldCellS S₅ (c := L' + 1) rfl (t2 _ _ (i1 _ _ a2)) ?_
    repeat walk_at "M"
    refine callRangeS S₅ fun r₂ s₆ ra₂ rb₂ S₆ hr₆ => ?_
    clear S₅
    refine forRange (n := n) hh' S₆ hr₆ (by omega)
      (fun i T'' m'' => (∀ c d, T₂ c = some d → T'' c = some d) ∧ T'' D = some ((13, 0, 0), LsP ys) ∧ (∀ j : Nat, j < n → ∃ a P vs, ys[j]? = some (.ref a) ∧ T₂ a = none ∧ T'' a = some ((11, 0, (j : Int)), P) ∧ (∀ o, P o → LiP vs o) ∧ (if j < i then LineV (rowR kss) n (j : Int) vs else LineL (rowR kss) n 0 (j : Int) vs)) ∧
        m'' "rows" = some (.ref l) ∧ m'' "steps" = some (.ref D))
      ⟨fun c d e => t2 _ _ (i1 _ _ e), t1, fun j hj => ?_, by walk_at "L", by walk_at "L"⟩ (fun i u T'' m'' B₁ s₇ hi hI hB₁ S₇ => ?_) (fun T'' m'' s₇ hI S₇ => ?_)
    · obtain ⟨a, vs, h1, h2, h3, h4⟩ := i3 j hj
      exact ⟨a, _, vs, h1, h2, t2 _ _ h3, fun o ho => LsP.li ho, by rw [if_neg (Nat.not_lt_zero _)]; exact h4⟩
    · obtain ⟨k1, k2, k3, k4, k5⟩ := hI
      obtain ⟨la, Pl, vs, h1, h2, h3, h4, h5⟩ := k3 i hi
      rw [if_neg (Nat.lt_irrefl _)] at h5
      have hR'' : RowsT T'' rs kss := ⟨hR.1, fun i ks hi => by
        obtain ⟨ra, tg, Pq, ws, q1, q2, q3, q4, q5⟩ := hR.2 i ks hi
        exact ⟨ra, tg, Pq, ws, q1, k1 _ _ (hs₂ _ _ q2), q3, q4, q5⟩⟩
      refine lineF (rl := l) (sl := D) (la := la) (a := (i : Int)) S₇ hh' hu' (k1 _ _ (hs₂ _ _ hl)) hP hR'' hn hn6 hent k2 (fun o ho => LsP.li ho) (Int.natCast_nonneg i) (Int.ofNat_lt.mpr hi) h1 h3 h4 h5 rfl e1 (by decide) e2 (by decide) (by walk_at "L") (by walk_at "L") fs_eq
        fun T₉ m₉ vs₉ P₉ s₉ c1 c2 c3 c4 c5 S₉ => ?_
      refine ⟨_, _, S₉, fun c d e => c1 c d (k1 _ _ e) (ne_of_none e h2), c1 _ _ k2 (ne_of_tag k2 h3 (by intro e; cases e)), fun j hj => ?_, (c2 _ (by decide)).trans (by walk_at "L"), (c2 _ (by decide)).trans (by walk_at "L")⟩
      by_cases z : j = i
      · subst z
        exact ⟨la, P₉, vs₉, h1, h2, c3, c4, by rw [if_pos (Nat.lt_succ_self _)]; exact c5⟩
      · obtain ⟨a', P', vs', g1, g2, g3, g4, g5⟩ := k3 j hj
        refine ⟨a', P', vs', g1, g2, c1 _ _ g3 (ne_of_tag g3 h3 (fun e => z ?_)), g4, ?_⟩
        · have : (j : Int) = (i : Int) := congrArg (fun q : Tag => q.2.2) e
          omega
        · by_cases y : j < i
          · rw [if_pos y] at g5; rw [if_pos (by omega)]; exact g5
          · rw [if_neg y] at g5; rw [if_neg (by omega)]; exact g5
    · obtain ⟨k1, k2, k3, k4, k5⟩ := hI
      repeat walk_at "M"
      refine ⟨_, _, S₇, fun z => h D T'' ys _ (fun c d e => k1 _ _ (hs₂ _ _ e)) k2 ⟨i2, fun j hj => ?_⟩ z⟩
      obtain ⟨a', P', vs', g1, g2, g3, g4, g5⟩ := k3 j hj
      rw [if_pos hj] at g5
      exact ⟨a', P', vs', g1, g3, g4, g5⟩
end
end Mine
end
section
open PySem PySem.W PySem.Calls PyProof.Rows
set_option Elab.async false
set_option maxRecDepth 100000
namespace Mine
-- "L": what a name holds
local macro_rules | `(tactic| walk_at "L") => `(tactic| first
  | assumption
  | exact fs_eq
  | (refine fs_ne (by decide) ?_; walk_at "L")
  | rfl)
-- "M": the next step of the walk, where it is the same everywhere
local macro_rules | `(tactic| walk_at "M") => `(tactic| first
  | ((with_reducible refine loadG ?_); refine ldnS (by assumption) (by walk_at "L") ?_)
  | ((with_reducible refine stG ?_); refine stS (by assumption) ?_; intro _ _)
  | ((with_reducible refine nameG ?_); refine ldS (by assumption) (by walk_at "L") ?_)
  | with_reducible refine wpAny_execs_cons ?_
  | with_reducible refine wpAny_execs_nil ?_
  | with_reducible refine wpAny_BinOp ?_
  | with_reducible refine wpAny_Constant_int ?_
  | with_reducible refine wpAny_Constant_str ?_
  | with_reducible refine Constant_none ?_
  | with_reducible refine Constant_bool ?_
  | with_reducible refine wpAny_Compare1 ?_
  | with_reducible refine wpAny_isTrue_Compare1 ?_
  | with_reducible refine isTrue_not ?_
  | with_reducible refine isTrue_and_nil ?_
  | with_reducible refine isTrue_or_nil ?_
  | with_reducible refine isTrue_and ?_
  | with_reducible refine isTrue_or ?_
  | with_reducible refine IfExp_ ?_
  | with_reducible refine wpAny_If ?_
  | ((with_reducible refine asgN ?_ ?_); (focus rfl))
  | ((with_reducible refine asgS ?_ ?_); (focus rfl))
  | ((with_reducible refine asgA ?_ ?_); (focus rfl))
  | ((with_reducible refine exprE ?_ ?_ ?_); (focus rfl); (focus rfl))
  | with_reducible refine wpAny_AugAssign_Name ?_
  | with_reducible refine wpAny_Return_some ?_
  | with_reducible refine wpAny_Break ?_
  | with_reducible refine wpAny_Continue ?_
  | ((with_reducible refine isG ?_); refine wpAny_is_other (by rfl) (by intro e; cases e) ?_)
  | ((with_reducible refine trG ?_); refine isTrue_plain ?_)
  | with_reducible refine wpAny_truthy_bool ?_
  | with_reducible refine add_int ?_
  | with_reducible refine iadd_int ?_
  | with_reducible refine sub_int ?_
  | with_reducible refine lt_int ?_
  | with_reducible refine le_int ?_
  | with_reducible refine gt_int ?_
  | with_reducible refine eq_int ?_
  | with_reducible refine ne_int ?_
  | with_reducible refine splE ?_
  | ((with_reducible refine splG ?_); refine spliced_more ?_)
  | with_reducible refine Tuple_ ?_
  | with_reducible refine List_ ?_
  | ((with_reducible refine methC (pl := ?_) ?_ ?_); rotate_left; (focus rfl))
  | ((with_reducible refine callC ?_ ?_); (focus rfl))
  | ((with_reducible refine cwB1 ?_ ?_ ?_); (focus rfl); (focus rfl))
  | ((with_reducible refine cwT1 ?_ ?_ ?_); (focus rfl); (focus rfl))
  | ((with_reducible refine cwM1 ?_ ?_ ?_); (focus rfl); (focus rfl))
  | with_reducible refine Subscript_ ?_
  | ((with_reducible refine attrE ?_ ?_); (focus with_unfolding_all rfl))
  | (show wpAny _ _ (execs _ _) _ _ _; first | refine wpAny_execs_cons ?_ | refine wpAny_execs_nil ?_))
theorem sorted_perm_eq : ∀ {l r : List Int}, l.Perm r → l.Pairwise (· ≤ ·) → r.Pairwise (· ≤ ·) → l = r
  | [], r, h, _, _ => (List.nil_perm.mp h).symm
  | a :: l, [], h, _, _ => (List.perm_nil.mp h)
  | a :: l, b :: r, h, h1, h2 => by
    rw [List.pairwise_cons] at h1 h2
    have hab : a = b := by
      have ha : a ∈ b :: r := h.mem_iff.mp List.mem_cons_self
      have hb : b ∈ a :: l := h.mem_iff.mpr List.mem_cons_self
      rcases List.mem_cons.mp ha with e | ha
      · exact e
      · rcases List.mem_cons.mp hb with e | hb
        · exact e.symm
        · have := h1.1 b hb; have := h2.1 a ha; omega
    subst hab
    rw [sorted_perm_eq ((List.perm_cons a).mp h) h1.2 h2.2]
section
variable {prog : Program} {w : World} {A : Around} {E : Value → Shared → Prop} {K : Frag} {mg mb : Str → Option Value} {B : Heap} {L : Addr} {T : TM} {m : Str → Option Value} {O : OG} {s : Shared} {env : Env} {t : Tag}

theorem intsEqAt {xs ys : List Value} {ns : List Int} (hx : IntsAre xs ns) (hy : IntsAre ys ns) : ∀ j (h1 : j < xs.toArray.size) (h2 : j < ys.toArray.size), PySem.SeqAt.EqAt A s xs.toArray[j] ys.toArray[j] true := fun j h1 h2 => by
  have h1' : j < xs.length := by simpa using h1
  have h2' : j < ys.length := by simpa using h2
  obtain ⟨n, t, e1, f1⟩ := IntsAre.at hx j _ (List.getElem?_eq_getElem h1')
  obtain ⟨n', t', e2, f2⟩ := IntsAre.at hy j _ (List.getElem?_eq_getElem h2')
  rw [f1] at f2; cases f2
  have := PySem.SeqAt.EqAt.int_int (A := A) (s := s) n t n t'
  rw [beq_self_eq_true] at this
  simp only [List.getElem_toArray, e1, e2]
  exact this
/-- two lists of the same ints -/
theorem neIntsS {l b : Addr} {xs ys : List Value} {ns : List Int} {P P' : Obj → Prop} {tb : Tag} {Q : Value → Shared → Prop} (S : St B L T m O s) (hl : T l = some (t, P)) (hP : ∀ o, P o → LiP xs o) (hb : T b = some (tb, P')) (hP' : ∀ o, P' o → LiP ys o) (hx : IntsAre xs ns) (hy : IntsAre ys ns) (hu : A.units < cLine) (h : Q (.bool false) s) :
    wpAny (model prog w) A (compareOp .NotEq (.ref l) (.ref b)) Q E s := by
  have h1 := S.list hl hP
  have h2 := S.list hb hP'
  refine PySem.EqBoolInt.of_rcne (PySem.SeqAt.RcNeAt.lists (e := fun _ => true) h1 h2 (by rw [List.size_toArray, List.size_toArray, hx.length, hy.length]) hu (intsEqAt hx hy)) ?_
  have e : (!(List.range xs.toArray.size).all fun _ => true) = false := by simp
  rw [e]; exact h

theorem nearHalf {e1 e2 : Expr} {nk : Str} {p1 p2 p3 pn pk : Pos} {kn : Nat} {v : Value} {r : Int → Int → Prop} {a b : Int} {kk : Nat} {uk : Tok} {Q : Value → Shared → Prop}
    (hv : StepV r a b v) (h1 : ∀ {Q : Value → Shared → Prop}, Q v s → wpAny (model prog w) A (eval e1 env) Q E s) (h2 : ∀ {Q : Value → Shared → Prop}, Q v s → wpAny (model prog w) A (eval e2 env) Q E s) (h3 : ∀ {Q : Value → Shared → Prop}, Q (.int (kk : Int) uk) s → wpAny (model prog w) A (eval (.Name nk pk) env) Q E s)
    (h : ∀ bn : Bool, (bn = true ↔ rch r kk a b) → Q (.bool bn) s) :
    wpAny (model prog w) A (eval (.BoolOp .And [.Compare e1 [.IsNot] [.Constant .none kn pn] p1, .Compare e2 [.LtE] [.Name nk pk] p2] p3) env) Q E s := by
  refine BoolOp_and (wpAny_Compare1 (h1 ?_))
  refine Constant_none ?_
  rcases hv with ⟨rfl, hv⟩ | ⟨d, u, rfl, hv⟩
  · refine wpAny_isNot_self (by rfl) ?_
    refine wpAny_truthy_bool ?_
    rw [if_neg (by decide)]
    exact h false ⟨fun e => (nomatch e), fun e => absurd e (hv kk)⟩
  · refine wpAny_isNot_other (by rfl) (by intro e; cases e) ?_
    refine wpAny_truthy_bool ?_
    rw [if_pos rfl]
    refine BoolOp_one (wpAny_Compare1 (h2 (h3 ?_)))
    refine le_int ?_
    refine h _ ?_
    rw [← hv kk]
    simp
theorem lawSame {f x nl sl P fd : Addr} {cdv : Value} {tn ts : Tag} {Pn Ps : Obj → Prop} {nvs ls : List Value} {nsv : List Int} {r R' : Int → Int → Prop} {gid kk : Nat} {ca : Bool} {uk : Tok} {Q : Value → Shared → Prop}
    (W : Wd K mg mb B) (S : St B L T m O s) (hf : FnIs K f (top 22) "_law_same" .none cdv) (hroom : A.depth < 700) (hh : A.handled = none) (hu : A.units < 9000) (PK : PowK K P) (hrg : nsIn K mainGlobals "range" = some none) (hso : nsIn K mainGlobals "sorted" = some none)
    (MD : Meth K 624 "is_directed" fd (meth 14 34) "Graph.is_directed" .none)
    (G : Gr prog w T gid 624 x false ca nsv R') (hnl : T nl = some (tn, Pn)) (hPn : ∀ o, Pn o → LiP nvs o) (hni : IntsAre nvs nsv) (hsl : T sl = some (ts, Ps)) (hPs : ∀ o, Ps o → LiP ls o) (hT : TableP T r nsv.length ls)
    (hrel : ∀ (a b : Nat) (va vb : Int), nsv[a]? = some va → nsv[b]? = some vb → (R' va vb ↔ a ≠ b ∧ (rch r kk (a : Int) (b : Int) ∨ rch r kk (b : Int) (a : Int))))
    (h : ∀ s', St B L T m O s' → Q (.bool true) s') :
    wpAny (model prog w) A (call (.ref f) [.ref x, .ref nl, .ref sl, .int (kk : Int) uk]) Q E s := by
  refine callF (args := ⟨[.ref x, .ref nl, .ref sl, .int (kk : Int) uk], []⟩) (binds := [(Str.ofString "told", .ref x), (Str.ofString "names", .ref nl), (Str.ofString "steps", .ref sl), (Str.ofString "k", .int (kk : Int) uk)]) W S (Nat.lt_trans hroom (by decide)) hf (fun _ _ _ _ _ _ => BindsTo.of_eq rfl) (by decide) (locs rfl) rfl rfl rfl fun B' L' s₁ hB' W₁ S₁ => ?_
  have hu' : (A.deeper (envF (Str.ofString "_law_same") (top 22) L' f cdv [])).units < cLine := by show A.units + 3 < 9900; omega
  have hh' : (A.deeper (envF (Str.ofString "_law_same") (top 22) L' f cdv [])).handled = none := hh
  have hr' : (A.deeper (envF (Str.ofString "_law_same") (top 22) L' f cdv [])).depth < 800 := by show A.depth + 1 < 800; omega
  generalize A.deeper (envF (Str.ofString "_law_same") (top 22) L' f cdv []) = A' at hu' hh' hr' ⊢
  have hnv := hni.length
  have hn6 : nsv.length ≤ 6 ∧ nsv.Nodup := let ⟨_, _, _, _, _, _, _, _, _, _, _, _, G⟩ := G; ⟨G.len, G.nd⟩
  refine wpAny_execs_cons ?_
  repeat walk_at "M"
  refine ldBuilS (v := .builtin "len") W₁ S₁ PK.ln rfl (by decide) ?_
  repeat walk_at "M"
  refine lenListS S₁ hnl hPn (by omega) fun u₁ tk => ?_
  repeat walk_at "M"
  rename_i s₂ S₂
  clear S₁
  refine ldBuilS (v := .builtin "sorted") W₁ S₂ hso rfl (by decide) ?_
  repeat walk_at "M"
  refine sortedGr (15, 0, 0) W₁ S₂ hr' hh' PK.H6 PK.it PK.ln G fun l₁ ws₁ ns₁ s₃ hi₁ hp₁ hq₁ hd₁ S₃ => ?_
  clear S₂
  have g1 : upd T l₁ ((15, 0, 0), LsP ws₁) l₁ = _ := upd_self
  have sub1 : Sub T (upd T l₁ ((15, 0, 0), LsP ws₁)) := .new hd₁
  generalize upd T l₁ ((15, 0, 0), LsP ws₁) = T₃ at S₃ g1 sub1
  repeat walk_at "M"
  refine ldBuilS (v := .builtin "sorted") W₁ S₃ hso rfl (by decide) ?_
  repeat walk_at "M"
  refine sortedListS (15, 0, 1) S₃ (sub1 _ _ hnl) hPn hni (by omega) fun l₂ ws₂ ns₂ s₄ hi₂ hp₂ hq₂ hd₂ S₄ => ?_
  clear S₃
  have heq : ns₁ = ns₂ := sorted_perm_eq (hp₁.trans hp₂.symm) hq₁ hq₂
  subst heq
  repeat walk_at "M"
  refine neIntsS S₄ (upd_new g1 hd₂) (fun o ho => LsP.li ho) upd_self (fun o ho => LsP.li ho) hi₁ hi₂ hu' ?_
  replace S₄ := S₄.forget (sub1.trans (.new hd₂))
  repeat walk_at "M"
  rw [if_neg (by decide)]
  repeat walk_at "M"
  obtain ⟨dx, k, fx, dn, da, dp, nk, ak, pk, en, ea, ep, Gc⟩ := id G
  refine isTrue_plain ?_
  repeat walk_at "M"
  refine mthS W₁ S₄ PK.H6 Gc.I MD (Gc.fO _ (by decide)) ?_
  repeat walk_at "M"
  refine cwF0 W₁ S₄ MD.hk ?_
  refine isDirS W₁ S₄ (Nat.lt_trans hr' (by decide)) MD fun s₅ S₅ => ?_
  clear S₄
  repeat walk_at "M"
  rw [if_neg (by decide)]
  repeat walk_at "M"
  refine forS (B := B') ?_
  repeat walk_at "M"
  refine ldBuilS (v := .type "range") W₁ S₅ hrg rfl (by decide) ?_
  repeat walk_at "M"
  rw [hnv] at *
  refine callRangeS S₅ fun r₆ s₆ ra rb S₆ hr₆ => ?_
  clear S₅
  refine forRange (n := nsv.length) hh' S₆ hr₆ (by omega)
    (fun _ T' m' => T' = T ∧ m' "told" = some (.ref x) ∧ m' "names" = some (.ref nl) ∧ m' "steps" = some (.ref sl) ∧ m' "k" = some (.int (kk : Int) uk) ∧ ∃ u, m' "size" = some (.int (nsv.length : Int) u))
    ⟨rfl, by walk_at "L", by walk_at "L", by walk_at "L", by walk_at "L", _, by walk_at "L"⟩ (fun i ui T' m' B₁ s₇ hi hI hB₁ S₇ => ?_) (fun T' m' s₇ hI S₇ => ?_)
  · obtain ⟨rfl, q1, q2, q3, q4, uz, q5⟩ := hI
    have W₇ := W₁.keeps hB₁
    clear S₆
    walk_at "M"
    refine forS (B := B₁) ?_
    repeat walk_at "M"
    refine ldBuilS (v := .type "range") W₇ S₇ hrg rfl (by decide) ?_
    repeat walk_at "M"
    refine callRangeS S₇ fun r₈ s₈ ra rb S₈ hr₈ => ?_
    clear S₇
    refine forRange (n := nsv.length) hh' S₈ hr₈ (by omega)
      (fun _ T'' m' => T'' = T' ∧ m' "told" = some (.ref x) ∧ m' "names" = some (.ref nl) ∧ m' "steps" = some (.ref sl) ∧ m' "k" = some (.int (kk : Int) uk) ∧ m' "a" = some (.int (i : Int) ui) ∧ ∃ u, m' "size" = some (.int (nsv.length : Int) u))
      ⟨rfl, by walk_at "L", by walk_at "L", by walk_at "L", by walk_at "L", by walk_at "L", _, by walk_at "L"⟩ (fun j uj T'' m' B₂ s₉ hj hI hB₂ S₉ => ?_) (fun T'' m' s₉ hI S₉ => ?_)
    · obtain ⟨rfl, p1, p2, p3, p4, p5, uy, p6⟩ := hI
      have W₉ := W₇.keeps hB₂
      clear S₈
      obtain ⟨aa, Pa, va, x1, x2, x3, x4, x5⟩ := hT.2 i hi
      obtain ⟨ab, Pb, vb, y1, y2, y3, y4, y5⟩ := hT.2 j hj
      obtain ⟨vab, z1, z2⟩ := x5 (j : Int) (Int.natCast_nonneg j) (Int.ofNat_lt.mpr hj)
      obtain ⟨vba, w1, w2⟩ := y5 (i : Int) (Int.natCast_nonneg i) (Int.ofNat_lt.mpr hi)
      walk_at "M"
      refine wpAny_mono (Q := fun f s' => f = .next ∧ ∃ bn : Bool, (bn = true ↔ rch r kk (i : Int) (j : Int) ∨ rch r kk (j : Int) (i : Int)) ∧ St B₂ L' T'' (fs (fs m' "b" (.int (j : Int) uj)) "near" (.bool bn)) O s') ?_ (fun f s' hq => ?_) fun _ _ e => e
      · repeat walk_at "M"
        refine BoolOp_or (nearHalf (kk := kk) (uk := uk) z2 (fun q => ?_) (fun q => ?_) (fun q => ?_) fun bn hbn => ?_)
        · repeat walk_at "M"
          refine subListS S₉ hsl hPs (Int.natCast_nonneg i) (by omega) (by simpa using x1) ?_
          repeat walk_at "M"
          exact subListS S₉ x2 x3 (Int.natCast_nonneg j) (by omega) z1 q
        · repeat walk_at "M"
          refine subListS S₉ hsl hPs (Int.natCast_nonneg i) (by omega) (by simpa using x1) ?_
          repeat walk_at "M"
          exact subListS S₉ x2 x3 (Int.natCast_nonneg j) (by omega) z1 q
        · exact ldS S₉ (by walk_at "L") q
        refine wpAny_truthy_bool ?_
        cases bn with
        | true =>
          rw [if_pos rfl]
          repeat walk_at "M"
          rename_i s' S'
          exact ⟨rfl, true, ⟨fun _ => .inl (hbn.mp rfl), fun _ => rfl⟩, S'⟩
        | false =>
          rw [if_neg (by decide)]
          refine BoolOp_one ?_
          refine nearHalf (kk := kk) (uk := uk) w2 (fun q => ?_) (fun q => ?_) (fun q => ?_) fun bn' hbn' => ?_
          · repeat walk_at "M"
            refine subListS S₉ hsl hPs (Int.natCast_nonneg j) (by omega) (by simpa using y1) ?_
            repeat walk_at "M"
            exact subListS S₉ y2 y3 (Int.natCast_nonneg i) (by omega) w1 q
          · repeat walk_at "M"
            refine subListS S₉ hsl hPs (Int.natCast_nonneg j) (by omega) (by simpa using y1) ?_
            repeat walk_at "M"
            exact subListS S₉ y2 y3 (Int.natCast_nonneg i) (by omega) w1 q
          · exact ldS S₉ (by walk_at "L") q
          repeat walk_at "M"
          rename_i s' S'
          refine ⟨rfl, bn', ⟨fun e => .inr (hbn'.mp e), fun e => ?_⟩, S'⟩
          rcases e with e | e
          · exact absurd (hbn.mpr e) (by decide)
          · exact hbn'.mpr e
      · obtain ⟨rfl, bn, hbn, S'⟩ := hq
        repeat walk_at "M"
        refine mthS W₉ S' PK.H6 Gc.I PK.H6.mHe (Gc.fO _ (by decide)) ?_
        repeat walk_at "M"
        refine cwF PK.H6.mHe.hk rfl rfl ?_
        obtain ⟨na, ta, f1, f2⟩ : ∃ n t, nvs[i]? = some (.int n t) ∧ nsv[i]? = some n := by
          have hi' : i < nvs.length := by rw [hni.length]; exact hi
          obtain ⟨n, t, g1, g2⟩ := IntsAre.at hni i _ (List.getElem?_eq_getElem hi')
          exact ⟨n, t, by rw [List.getElem?_eq_getElem hi', g1], g2⟩
        obtain ⟨nb, tb, f3, f4⟩ : ∃ n t, nvs[j]? = some (.int n t) ∧ nsv[j]? = some n := by
          have hj' : j < nvs.length := by rw [hni.length]; exact hj
          obtain ⟨n, t, g1, g2⟩ := IntsAre.at hni j _ (List.getElem?_eq_getElem hj')
          exact ⟨n, t, by rw [List.getElem?_eq_getElem hj', g1], g2⟩
        repeat walk_at "M"
        refine subListS S' hnl hPn (Int.natCast_nonneg i) (by omega) (by simpa using f1) ?_
        repeat walk_at "M"
        refine subListS S' hnl hPn (Int.natCast_nonneg j) (by omega) (by simpa using f3) ?_
        repeat walk_at "M"
        refine ⟨W₉.X.keeps S'.keep, ?_⟩
        refine hasEdgeS W₉ S' (Nat.lt_trans hr' (by decide)) PK.H6 G (List.mem_of_getElem? f2) fun re s₁₀ hre S₁₀ => ?_
        rw [hrel i j na nb f2 f4, ← hbn] at hre
        repeat walk_at "M"
        refine BoolOp_and ?_
        repeat walk_at "M"
        by_cases hij : i = j
        · have hre' : re = false := by
            cases re with
            | false => rfl
            | true => exact absurd hij (hre.mp rfl).1
          subst hre'
          rw [if_neg (by simp [hij])]
          have hbe : ((i : Int) != (j : Int)) = false := by simp [hij]
          rw [hbe]
          refine PySem.EqBoolInt.of_rcne (PySem.SeqAt.RcNeAt.bool_bool false false) ?_
          repeat walk_at "M"
          exact ⟨_, _, S₁₀, rfl, by walk_at "L", by walk_at "L", by walk_at "L", by walk_at "L", by walk_at "L", _, by walk_at "L"⟩
        · rw [if_pos (by simp; omega)]
          refine BoolOp_one ?_
          repeat walk_at "M"
          have hre' : re = bn := by
            cases re with
            | false =>
              cases bn with
              | false => rfl
              | true => exact absurd (hre.mpr ⟨hij, rfl⟩) (by decide)
            | true => exact (hre.mp rfl).2.symm
          subst hre'
          refine PySem.EqBoolInt.of_rcne (PySem.SeqAt.RcNeAt.bool_bool re re) ?_
          rw [beq_self_eq_true]
          repeat walk_at "M"
          exact ⟨_, _, S₁₀, rfl, by walk_at "L", by walk_at "L", by walk_at "L", by walk_at "L", by walk_at "L", _, by walk_at "L"⟩
    · obtain ⟨rfl, p1, p2, p3, p4, p5, uy, p6⟩ := hI
      repeat walk_at "M"
      exact ⟨_, _, S₉, rfl, p1, p2, p3, p4, _, p6⟩
  · obtain ⟨rfl, q1, q2, q3, q4, uz, q5⟩ := hI
    repeat walk_at "M"
    exact ⟨_, _, S₇, h _⟩
end
end Mine
end
section
open PySem PySem.W PySem.Calls PyProof.Rows
set_option Elab.async false
set_option maxRecDepth 100000
namespace Mine
-- "L": what a name holds
local macro_rules | `(tactic| walk_at "L") => `(tactic| first
  | assumption
  | exact fs_eq
  | (refine fs_ne (by decide) ?_; walk_at "L")
  | rfl)
-- "M": the next step of the walk, where it is the same everywhere
local macro_rules | `(tactic| walk_at "M") => `(tactic| first
  | ((with_reducible refine loadG ?_); refine ldnS (by assumption) (by walk_at "L") ?_)
  | ((with_reducible refine stG ?_); refine stS (by assumption) ?_; intro _ _)
  | ((with_reducible refine nameG ?_); refine ldS (by assumption) (by walk_at "L") ?_)
  | with_reducible refine wpAny_execs_cons ?_
  | with_reducible refine wpAny_execs_nil ?_
  | with_reducible refine wpAny_BinOp ?_
  | with_reducible refine wpAny_Constant_int ?_
  | with_reducible refine wpAny_Constant_str ?_
  | with_reducible refine Constant_none ?_
  | with_reducible refine Constant_bool ?_
  | with_reducible refine wpAny_Compare1 ?_
  | with_reducible refine wpAny_isTrue_Compare1 ?_
  | with_reducible refine isTrue_not ?_
  | with_reducible refine isTrue_and_nil ?_
  | with_reducible refine isTrue_or_nil ?_
  | with_reducible refine isTrue_and ?_
  | with_reducible refine isTrue_or ?_
  | with_reducible refine IfExp_ ?_
  | with_reducible refine wpAny_If ?_
  | ((with_reducible refine asgN ?_ ?_); (focus rfl))
  | ((with_reducible refine asgS ?_ ?_); (focus rfl))
  | ((with_reducible refine asgA ?_ ?_); (focus rfl))
  | ((with_reducible refine exprE ?_ ?_ ?_); (focus rfl); (focus rfl))
  | with_reducible refine wpAny_AugAssign_Name ?_
  | with_reducible refine wpAny_Return_some ?_
  | with_reducible refine wpAny_Break ?_
  | with_reducible refine wpAny_Continue ?_
  | ((with_reducible refine isG ?_); refine wpAny_is_other (by rfl) (by intro e; cases e) ?_)
  | ((with_reducible refine trG ?_); refine isTrue_plain ?_)
  | with_reducible refine wpAny_truthy_bool ?_
  | with_reducible refine add_int ?_
  | with_reducible refine iadd_int ?_
  | with_reducible refine sub_int ?_
  | with_reducible refine lt_int ?_
  | with_reducible refine le_int ?_
  | with_reducible refine gt_int ?_
  | with_reducible refine eq_int ?_
  | with_reducible refine ne_int ?_
  | with_reducible refine splE ?_
  | ((with_reducible refine splG ?_); refine spliced_more ?_)
  | with_reducible refine Tuple_ ?_
  | with_reducible refine List_ ?_
  | ((with_reducible refine methC (pl := ?_) ?_ ?_); rotate_left; (focus rfl))
  | ((with_reducible refine callC ?_ ?_); (focus rfl))
  | ((with_reducible refine cwB1 ?_ ?_ ?_); (focus rfl); (focus rfl))
  | ((with_reducible refine cwT1 ?_ ?_ ?_); (focus rfl); (focus rfl))
  | ((with_reducible refine cwM1 ?_ ?_ ?_); (focus rfl); (focus rfl))
  | with_reducible refine Subscript_ ?_
  | ((with_reducible refine attrE ?_ ?_); (focus with_unfolding_all rfl))
  | (show wpAny _ _ (execs _ _) _ _ _; first | refine wpAny_execs_cons ?_ | refine wpAny_execs_nil ?_))
section
variable {prog : Program} {w : World} {A : Around} {E : Value → Shared → Prop} {K : Frag} {mg mb : Str → Option Value} {B : Heap} {L : Addr} {T : TM} {m : Str → Option Value} {O : OG} {s : Shared} {env : Env} {t : Tag}

/-- all but the frame stands; the frame up to its slots -/
theorem St.slots (S : St B L T m O s) {h' : Heap} (k : (maskP s.heap (fun b => b == L)).StaysIn h') (sm : s.heap.UpToSlots h') : St B L T m O { s with heap := h' } := by
  have k' : ∀ b o, b ≠ L → s.heap.get? b = some o → h'.get? b = some o := fun b o hb e => k b o (by rw [maskP_get (by simpa using hb)]; exact e)
  exact ⟨sm.ns S.ns, fun b o e => k' b o (fun q => by rw [q, S.LB] at e; cases e) (S.keep b o e), S.LB, fun a c e => let ⟨h1, h2, o, ho, hp⟩ := S.sat a c e; ⟨h1, h2, o, k' a o h1 ho, hp⟩, S.gens, S.os, S.nm, S.big⟩

/-- power refuses: the raise, in its own frame -/
theorem powerRaises {g P : Addr} {k : Int} {uk : Tok} {base : Heap} {outer : List Env} {Q : Value → Shared → Prop}
    (W : Wd K mg mb B) (S : St B L T m O s) (hroom : A.depth < recursionLimit) (hh : A.handled = none) (PK : PowK K P) (hve : nsIn K mainGlobals "ValueError" = some none) (hk : k ≤ 0) (hfr : A.frames = some outer) (hst : base.StaysIn s.heap) (hff : s.heap.FunFrames base outer)
    (h : ∀ h' e a0 tk, Heap.FlyingW base outer e (.type "ValueError") a0 h' → s.heap.UpToSlots h' → E (.ref e) { s with heap := h', toks := tk }) :
    wpAny (model prog w) A (call (.ref 639) [.ref g, .int k uk]) Q E s := by
  refine wpAny_call ?_
  obtain ⟨name, kV, doc, pm, an, ct, oc, od, sl, ho⟩ := PK.f.ex
  refine codeAny_call_function (args := ⟨[.ref g, .int k uk], []⟩) hroom (S.keep _ _ (W.X _ _ ho)) rfl rfl rfl rfl (codeRec_of (W.X.keeps S.keep) PK.f.cd) ((BindsTo.of_eq (binds := [(Str.ofString "G", .ref g), (Str.ofString "k", .int k uk)]) rfl) _ _ _ _ ?_)
  refine wpAny_newFunctionEnv_cells rfl (fun y hy => ?_) fun env' he s' x => ?_
  · simp only [List.mem_cons, List.not_mem_nil, or_false] at hy
    rcases hy with rfl | rfl <;> exact .inl rfl
  subst he
  refine ⟨(W.lim.keeps S.keep).keeps x.toInCall.keep, codeAny_func ?_⟩
  obtain ⟨h₁, tk, rfl, hs⟩ := x.done
  have hk₁ := x.toInCall.keep
  have S₁ := S.call (tk := tk) x.toInCall.ns hk₁
  have W₁ : Wd K mg mb (mask s.heap T s.heap.objs.size) := W.keeps fun b o e => S.underC e
  have hf2 : h₁.FunFrames base outer := hff.of_keeps fun b o e _ => ⟨o, hk₁ b o e, rfl⟩
  have hL2 : base.get? s.heap.objs.size = none := by
    cases q : base.get? s.heap.objs.size with
    | none => rfl
    | some o => exact absurd (Heap.lt_size (hst _ _ q)) (Nat.lt_irrefl _)
  repeat walk_at "M"
  rw [if_pos (by simpa using hk)]
  repeat walk_at "M"
  refine PyProof.Rows.Raise_madeB PySem.F.excCall_ValueError PySem.F.excRaise_ValueError hh ?_
  refine ldBuilS (v := .type "ValueError") W₁ S₁ hve rfl (by decide) ?_
  refine ⟨rfl, ?_⟩
  repeat walk_at "M"
  refine ⟨by show (1 : Nat) ≤ sizeLine; rw [sizeLine_eq]; decide, fun h' e hm => ?_⟩
  obtain ⟨oL, es, ep, hoL, hdL, _⟩ := S₁.ns
  refine wpAny_leaves_madeW (base := base) (Around.frames_deeper hfr) rfl (fun b o e => hk₁ b o (hst b o e)) ⟨(fun q => nomatch (show ScopeKind.function = ScopeKind.module from q)), ⟨_, _, rfl, hL2, hoL, (fun vs q => by rw [hdL] at q; cases q)⟩, hf2⟩ hm.of fun h'' t f1 f2 f3 f4 => ?_
  refine h h'' e (.ref t) _ f1 (((Heap.UpToSlots.of_keeps fun b o q => hk₁ b o q).trans (Heap.UpToSlots.of_keeps hm.keeps)).trans f4)
end
end Mine
end
section
open PySem PySem.W PySem.Calls PyProof.Rows
set_option Elab.async false
set_option maxRecDepth 100000
namespace Mine
-- "L": what a name holds
local macro_rules | `(tactic| walk_at "L") => `(tactic| first
  | assumption
  | exact fs_eq
  | (refine fs_ne (by decide) ?_; walk_at "L")
  | rfl)
-- "M": the next step of the walk, where it is the same everywhere
local macro_rules | `(tactic| walk_at "M") => `(tactic| first
  | ((with_reducible refine loadG ?_); refine ldnS (by assumption) (by walk_at "L") ?_)
  | ((with_reducible refine stG ?_); refine stS (by assumption) ?_; intro _ _)
  | ((with_reducible refine nameG ?_); refine ldS (by assumption) (by walk_at "L") ?_)
  | with_reducible refine wpAny_execs_cons ?_
  | with_reducible refine wpAny_execs_nil ?_
  | with_reducible refine wpAny_BinOp ?_
  | with_reducible refine wpAny_Constant_int ?_
  | with_reducible refine wpAny_Constant_str ?_
  | with_reducible refine Constant_none ?_
  | with_reducible refine Constant_bool ?_
  | with_reducible refine wpAny_Compare1 ?_
  | with_reducible refine wpAny_isTrue_Compare1 ?_
  | with_reducible refine isTrue_not ?_
  | with_reducible refine isTrue_and_nil ?_
  | with_reducible refine isTrue_or_nil ?_
  | with_reducible refine isTrue_and ?_
  | with_reducible refine isTrue_or ?_
  | with_reducible refine IfExp_ ?_
  | with_reducible refine wpAny_If ?_
  | ((with_reducible refine asgN ?_ ?_); (focus rfl))
  | ((with_reducible refine asgS ?_ ?_); (focus rfl))
  | ((with_reducible refine asgA ?_ ?_); (focus rfl))
  | ((with_reducible refine exprE ?_ ?_ ?_); (focus rfl); (focus rfl))
  | with_reducible refine wpAny_AugAssign_Name ?_
  | with_reducible refine wpAny_Return_some ?_
  | with_reducible refine wpAny_Break ?_
  | with_reducible refine wpAny_Continue ?_
  | ((with_reducible refine isG ?_); refine wpAny_is_other (by rfl) (by intro e; cases e) ?_)
  | ((with_reducible refine trG ?_); refine isTrue_plain ?_)
  | with_reducible refine wpAny_truthy_bool ?_
  | with_reducible refine add_int ?_
  | with_reducible refine iadd_int ?_
  | with_reducible refine sub_int ?_
  | with_reducible refine lt_int ?_
  | with_reducible refine le_int ?_
  | with_reducible refine gt_int ?_
  | with_reducible refine eq_int ?_
  | with_reducible refine ne_int ?_
  | with_reducible refine splE ?_
  | ((with_reducible refine splG ?_); refine spliced_more ?_)
  | with_reducible refine Tuple_ ?_
  | with_reducible refine List_ ?_
  | ((with_reducible refine methC (pl := ?_) ?_ ?_); rotate_left; (focus rfl))
  | ((with_reducible refine callC ?_ ?_); (focus rfl))
  | ((with_reducible refine cwB1 ?_ ?_ ?_); (focus rfl); (focus rfl))
  | ((with_reducible refine cwT1 ?_ ?_ ?_); (focus rfl); (focus rfl))
  | ((with_reducible refine cwM1 ?_ ?_ ?_); (focus rfl); (focus rfl))
  | with_reducible refine Subscript_ ?_
  | ((with_reducible refine attrE ?_ ?_); (focus with_unfolding_all rfl))
  | (show wpAny _ _ (execs _ _) _ _ _; first | refine wpAny_execs_cons ?_ | refine wpAny_execs_nil ?_))
section
variable {prog : Program} {w : World} {A : Around} {E : Value → Shared → Prop} {K : Frag} {mg mb : Str → Option Value} {B : Heap} {L : Addr} {T : TM} {m : Str → Option Value} {O : OG} {s : Shared} {env : Env} {t : Tag}

theorem St.slots2 (S : St B L T m O s) {L' : Addr} {m₁ : Str → Option Value} {s₁ : Shared} (S₁ : St B L' T m₁ O s₁) {h' : Heap} {tk : Nat} (k : (maskP s.heap (fun b => b == L)).StaysIn h') (sm : s₁.heap.UpToSlots h') : St B L' T m₁ O { s₁ with heap := h', toks := tk } := by
  have k' : ∀ b o, b ≠ L → s.heap.get? b = some o → h'.get? b = some o := fun b o hb e => k b o (by rw [maskP_get (by simpa using hb)]; exact e)
  exact ⟨sm.ns S₁.ns, fun b o e => k' b o (fun q => by rw [q, S.LB] at e; cases e) (S.keep b o e), S₁.LB, fun a c e => let ⟨h1, h2, o, ho, hp⟩ := S.sat a c e; ⟨(S₁.sat a c e).1, h2, o, k' a o h1 ho, hp⟩, S₁.gens, S₁.os, S₁.nm, S₁.big⟩
theorem lawRefused {f g P : Addr} {cdv : Value} {k : Int} {uk : Tok} {outer : List Env} {Q : Value → Shared → Prop}
    (W : Wd K mg mb B) (S : St B L T m O s) (hf : FnIs K f (top 23) "_law_refused" .none cdv) (hroom : A.depth < 900) (hh : A.handled = none) (PK : PowK K P) (hve : nsIn K mainGlobals "ValueError" = some none) (hpw : nsIn K mainGlobals "power" = some (some (.ref 639))) (hkp : keepIn K (.ref 639) = true)
    (hk : k ≤ 0) (hfr : A.frames = some outer) (hff : s.heap.FunFrames (maskP s.heap (fun b => b == L)) outer)
    (h : ∀ s', St B L T m O s' → Q (.bool true) s') :
    wpAny (model prog w) A (call (.ref f) [.ref g, .int k uk]) Q E s := by
  refine wpAny_call ?_
  obtain ⟨name, kV, doc, pm, an, ct, oc, od, sl, ho⟩ := hf.ex
  refine codeAny_call_def (args := ⟨[.ref g, .int k uk], []⟩) (fd := fnOf name "_law_refused" (argsOf (top 23)) (bodyOf (top 23)) (scopeOf (top 23)) .none kV doc pm an cdv ct) (body := bodyOf (top 23)) (binds := [(Str.ofString "graph", .ref g), (Str.ofString "k", .int k uk)]) (Nat.lt_trans hroom (by decide)) (S.keep _ _ (W.X _ _ ho)) rfl (W.lim.keeps S.keep) (codeRec_of (W.X.keeps S.keep) hf.cd) rfl (BindsTo.of_eq rfl)
    (show ∀ x ∈ (scopeOf (top 23)).names, x.2 ≠ .cell by decide) (locs rfl) (fun h₁ hns hk₁ => ?_) rfl rfl rfl
  have S₁ : St B s.heap.objs.size T _ O _ := (S.call (tk := s.toks + 2) hns hk₁).back fun b o e => S.underC e
  have W₁ := W
  have hst : (maskP s.heap (fun b => b == L)).StaysIn h₁ := fun b o e => hk₁ b o (of_maskP e).2
  have hL2 : (maskP s.heap (fun b => b == L)).get? s.heap.objs.size = none := by
    cases q : (maskP s.heap (fun b => b == L)).get? s.heap.objs.size with
    | none => rfl
    | some o => exact absurd (Heap.lt_size (of_maskP q).2) (Nat.lt_irrefl _)
  obtain ⟨oL, es, ep, hoL, hdL, _⟩ := id S₁.ns
  have hff₁ : h₁.FunFrames (maskP s.heap (fun b => b == L)) (envF "_law_refused" (top 23) s.heap.objs.size f cdv [] :: outer) :=
    ⟨(fun q => nomatch (show ScopeKind.function = ScopeKind.module from q)), ⟨_, _, rfl, hL2, hoL, (fun vs q => by rw [hdL] at q; cases q)⟩, hff.of_keeps fun b o e _ => ⟨o, hk₁ b o e, rfl⟩⟩
  show wpAny _ (A.deeper (envF "_law_refused" (top 23) s.heap.objs.size f cdv [])) (execs (bodyOf (top 23)) (envF "_law_refused" (top 23) s.heap.objs.size f cdv [])) _ _ _
  have hh' : (A.deeper (envF "_law_refused" (top 23) s.heap.objs.size f cdv [])).handled = none := hh
  have hr' : (A.deeper (envF "_law_refused" (top 23) s.heap.objs.size f cdv [])).depth < recursionLimit := by
    have e : recursionLimit = 1000 := by decide
    rw [e]; show A.depth + 1 < 1000; omega
  have hfr' := Around.frames_deeper (env := envF "_law_refused" (top 23) s.heap.objs.size f cdv []) hfr
  generalize A.deeper (envF "_law_refused" (top 23) s.heap.objs.size f cdv []) = A' at hh' hr' hfr' ⊢
  refine wpAny_execs_cons (wpAny_Try_except ?_)
  repeat walk_at "M"
  refine ldGlobS W₁ S₁ hpw ?_
  refine cwF hkp rfl rfl ?_
  repeat walk_at "M"
  refine ⟨W₁.X.keeps S₁.keep, ?_⟩
  refine powerRaises W₁ S₁ hr' hh' PK hve hk hfr' hst hff₁ fun h₂ e a0 tk f1 f2 => ?_
  refine wpAny_looks_onW hfr' rfl f1 fun h₃ f3 f4 => ?_
  refine wpAny_landsW f3 fun h₄ f5 f6 => ?_
  have u4 : h₁.UpToSlots h₄ := (f2.trans f4).trans f6
  have S₄ := S.slots2 S₁ (tk := tk) f5.1 u4
  obtain ⟨ob, hob, hobc⟩ := f5.there
  refine wpAny_handleBy_builtin (X := "ValueError") (T := "ValueError") (b := true) PySem.F.isExc_ValueError PySem.F.notTuple_ValueError (by rw [isSubtype_type]; kernel_rfl) ?_
  refine ldBuilS (v := .type "ValueError") W₁ S₄ hve rfl (by decide) ?_
  refine ⟨rfl, ⟨ob, hob, hobc⟩, ?_⟩
  rw [if_pos rfl]
  refine lands_againW f5 fun h₅ f7 f8 => ?_
  have S₅ := S.slots2 S₁ (tk := tk) f7.1 (u4.trans f8)
  have S₆ : St B L T m O { s with heap := h₅, toks := tk } := St.slots S f7.1 ((Heap.UpToSlots.of_keeps hk₁).trans (u4.trans f8))
  repeat walk_at "M"
  exact h _ S₆
end
end Mine
end
section
open PySem PySem.W PySem.Calls PyProof.Rows
set_option Elab.async false
set_option maxRecDepth 100000
namespace Mine
theorem compTurn_two0 (elt t1 i1 t2 i2 : Expr) (f1 f2 : List Expr) (scope : Scope) (pos : Pos) (it acc : Value) (env : Env) :
    compTurn (.ListComp elt [⟨t1, i1, f1, 0⟩, ⟨t2, i2, f2, 0⟩] scope pos) 0 it acc env = (standAt i1.pos >>= fun _ => pyNext it >>= fun r => match r with
      | none => pure (.done .next)
      | some v => letOwnedTupleGo t1 it v >>= fun _ => assign t1 env v >>= fun _ =>
        (forIn f1 true fun c r => if r = true then do let ok ← isTrue c env (eval c env); pure (ForInStep.yield ok) else pure (ForInStep.yield r)) >>= fun ok =>
        if ok = true then
          eval i2 env >>= fun x => standAt i2.pos >>= fun _ => foldedSetIterable i2 env x >>= fun x => holding [x] (pyIter x) >>= fun it2 =>
            runOwn (.compStart (.ListComp elt [⟨t1, i1, f1, 0⟩, ⟨t2, i2, f2, 0⟩] scope pos) 1 it2 acc env) env >>= fun _ =>
            again (.compLoop (.ListComp elt [⟨t1, i1, f1, 0⟩, ⟨t2, i2, f2, 0⟩] scope pos) 0 it acc env)
        else again (.compLoop (.ListComp elt [⟨t1, i1, f1, 0⟩, ⟨t2, i2, f2, 0⟩] scope pos) 0 it acc env)) := by rfl
theorem compTurn_two1 (elt t1 i1 t2 i2 : Expr) (f1 f2 : List Expr) (scope : Scope) (pos : Pos) (it acc : Value) (env : Env) :
    compTurn (.ListComp elt [⟨t1, i1, f1, 0⟩, ⟨t2, i2, f2, 0⟩] scope pos) 1 it acc env = (do
      standAt i2.pos
      match ← pyNext it with
      | none => pure (.done .next)
      | some v =>
        letOwnedTupleGo t2 it v
        assign t2 env v
        let mut ok := true
        for c in f2 do
          if ok then ok ← isTrue c env (eval c env)
        if ok then
          (do let _ ← call (.builtin "list.append") [acc, ← eval elt env])
        again (.compLoop (.ListComp elt [⟨t1, i1, f1, 0⟩, ⟨t2, i2, f2, 0⟩] scope pos) 1 it acc env)) := by rfl
end Mine
end
section
open PySem PySem.W PySem.Calls PyProof.Rows
set_option Elab.async false
set_option maxRecDepth 100000
namespace Mine
section
variable {prog : Program} {w : World} {A : Around} {E : Value → Shared → Prop} {B : Heap} {T : TM} {m : Str → Option Value} {O : OG} {s : Shared} {env : Env}

/-- the inner loop of a two-generator comprehension, over range(n), in the comprehension's frame; the list D is a cell of the map -/
theorem twoInner {elt t1 i1 i2 : Expr} {f1 f2 : List Expr} {scope : Scope} {pos : Pos} {y : Str} {py : Pos} {D I : Addr} {t : Tag} {n : Nat} {R : Result → Shared → Prop} (hh : A.handled = none) (hk : env.scope.kind = .function) (hly : env.kindOf y = some .local)
    (Inv : Nat → TM → (Str → Option Value) → List Value → Prop) (hsz : ∀ i T m ys, Inv i T m ys → ys.length ≤ sizeLine)
    (turn : ∀ j u T m ys B₁ s, j < n → Inv j T m ys → T D = some (t, LsP ys) → (∀ b o, B.get? b = some o → B₁.get? b = some o) → St B₁ env.locals T (fs m y (.int (j : Int) u)) O s →
      wpAny (model prog w) A (testsOf f2 env) (fun ok s₃ => if ok = true then wpAny (model prog w) A (eval elt env) (fun v s₄ => ∃ T' m', St B₁ env.locals T' m' O s₄ ∧ T' D = some (t, LsP ys) ∧ Inv (j + 1) (upd T' D (t, LsP (ys ++ [v]))) m' (ys ++ [v])) NoR s₃
        else ∃ T' m', St B₁ env.locals T' m' O s₃ ∧ T' D = some (t, LsP ys) ∧ Inv (j + 1) T' m' ys) NoR s)
    (done : ∀ T m ys s, Inv n T m ys → T D = some (t, LsP ys) → St B env.locals T m O s → R (.ok .next) s)
    {ys : List Value} (S : St B env.locals T m O s) (hF : Free B env.locals T [I]) (hit : IsRangeIter s.heap I 0 (n : Int) 1) (h0 : Inv 0 T m ys) (hD : T D = some (t, LsP ys)) :
    codeAny (model prog w) A (.compLoop (.ListComp elt [⟨t1, i1, f1, 0⟩, ⟨.Name y py, i2, f2, 0⟩] scope pos) 1 (.ref I) (.ref D) env) R s := by
  refine codeAny_loop rfl (fun k s' => ∃ i T m ys, k = n - i ∧ i ≤ n ∧ St B env.locals T m O s' ∧ Free B env.locals T [I] ∧ IsRangeIter s'.heap I (i : Int) ((n : Int) - (i : Nat)) 1 ∧ Inv i T m ys ∧ T D = some (t, LsP ys)) (fun k s' hJ => ?_) n ⟨0, T, m, ys, rfl, Nat.zero_le _, S, hF, by simpa using hit, h0, hD⟩
  obtain ⟨i, T, m, ys, rfl, hi, S, hF, hit, hI, hD⟩ := hJ
  show wpAny _ A ((compTurn (.ListComp elt [⟨t1, i1, f1, 0⟩, ⟨.Name y py, i2, f2, 0⟩] scope pos) 1 (.ref I) (.ref D) env).onRaise (fun x => do noteFrame x env; theTreesLotGoes x)) _ _ s'
  refine wpAny_noted ?_
  rw [compTurn_two1]
  have W := itrRange (prog := prog) (w := w) hh I n O
  refine wpAny_bind (wpAny_standAt (wpAny_bind ?_))
  rcases Nat.lt_or_ge i n with hlt | hge
  · refine noR (W.item i B env.locals T m s' _ hlt S trivial hF hit fun v s₁ hP S₁ hit₁ => ?_)
    obtain ⟨_, u, rfl⟩ := hP
    refine wpAny_bind (wpAny_of_eq (a := ()) rfl ?_)
    refine wpAny_bind (wpAny_assign_Name (wpAny_storeName_local hly S₁.ns (fun h' hn hs => ?_) (by rw [hk]; rfl)))
    have S₂' := (S₁.local hn hs).tok (s₁.toks + 1)
    have S₂ := S₂'.into
    have hit₂ : IsRangeIter h' I ((i + 1 : Nat) : Int) ((n : Int) - ((i + 1 : Nat) : Int)) 1 := W.frame _ _ _ hit₁ fun b hb o e => (hs.2 b (hF b hb).2.1).trans e
    have under : ∀ b o, B.get? b = some o → (mask h' T env.locals).get? b = some o := fun b o e => S₂'.under e
    have nxt : ∀ T' m' ys' s₃, St (mask h' T env.locals) env.locals T' m' O s₃ → Inv (i + 1) T' m' ys' → T' D = some (t, LsP ys') → ∃ m, m < n - i ∧ ∃ i T m_1 ys, m = n - i ∧ i ≤ n ∧ St B env.locals T m_1 O s₃ ∧ Free B env.locals T [I] ∧ IsRangeIter s₃.heap I (i : Int) ((n : Int) - (i : Nat)) 1 ∧ Inv i T m_1 ys ∧ T D = some (t, LsP ys) := by
      intro T' m' ys' s₃ S' hI' hD'
      obtain ⟨o, ho⟩ := W.has _ _ hit₂ I (by simp)
      have hoM : (mask h' T env.locals).get? I = some o := by rw [mask_get (hF I (by simp)).1 (hF I (by simp)).2.1]; exact ho
      refine ⟨n - (i + 1), by omega, i + 1, T', m', ys', rfl, hlt, S'.back under, fun b hb => ⟨?_, (hF b hb).2⟩, W.frame _ _ _ hit₂ fun b hb o' e => ?_, hI', hD'⟩
      · rw [List.mem_singleton.mp hb]
        cases q : T' I with
        | none => rfl
        | some c => rw [S'.neB q] at hoM; cases hoM
      · rw [List.mem_singleton.mp hb] at e ⊢
        rw [ho] at e; cases e
        exact S'.keep _ _ hoM
    refine wpAny_bind (noR (wpAny_mono (turn i u T m ys _ _ hlt hI hD under S₂) (fun ok s₃ hok => ?_) fun _ _ e => e.elim))
    cases ok with
    | false =>
      obtain ⟨T', m', S', hD', hI'⟩ := hok
      exact wpAny_pure ⟨rfl, nxt T' m' ys s₃ S' hI' hD'⟩
    | true =>
      refine wpAny_bind (wpAny_bind (noR (wpAny_mono hok (fun v s₄ hv => ?_) fun _ _ e => e.elim)))
      obtain ⟨T', m', S', hD', hI'⟩ := hv
      refine wpAny_bind (appendS S' hD' (fun s₅ S₅ => ?_) (hsz _ _ _ _ hI))
      exact wpAny_pure (wpAny_pure ⟨rfl, nxt _ m' _ s₅ S₅ hI' upd_self⟩)
  · obtain rfl : i = n := Nat.le_antisymm hi hge
    refine noR (W.done B env.locals T m s' _ S trivial hF hit fun s₁ S₁ => ?_)
    exact wpAny_pure (done T m ys s₁ hI hD S₁)
end
end Mine
end
section
open PySem PySem.W PySem.Calls PyProof.Rows
set_option Elab.async false
set_option maxRecDepth 100000
namespace Mine
section
variable {B : Heap} {L : Addr} {T : TM} {m : Str → Option Value} {O : OG} {s : Shared}
/-- from a frame into a frame within it, some objects left out of the base -/
theorem St.enterX (S : St B L T m O s) {C : Addr} {mC : Str → Option Value} (hC : s.heap.Ns C mC) (hT : T C = none) (hb : sysModules < C) (X : List Addr) : St (maskP s.heap (butX T C X)) C T mC O s :=
  ⟨hC, fun _ _ e => (of_maskP e).2, maskP_none (by simp [butX]), fun a c e => let ⟨_, _, r⟩ := S.sat a c e; ⟨(fun q => by rw [q, hT] at e; cases e), maskP_none (by simp [butX, e]), r⟩, S.gens, S.os, S.nm, hb⟩
theorem St.upXC (S : St B L T m O s) {C : Addr} {X : List Addr} (hB : B.get? C = none) (hX : Free B L T X) {b : Addr} {o : Obj} (e : B.get? b = some o) : (maskP s.heap (butX T C X)).get? b = some o := by
  have h1 : T b = none := by
    cases q : T b with
    | none => rfl
    | some c => rw [S.neB q] at e; cases e
  rw [maskP_get (butX_false h1 (fun q => by rw [q, hB] at e; cases e) (fun q => by rw [(hX b q).2.2] at e; cases e))]; exact S.keep b o e
theorem St.exitX (S : St B L T m O s) {C : Addr} {X : List Addr} (hX : Free B L T X) (hB : B.get? C = none) (hLC : L ≠ C) {T' : TM} {m' : Str → Option Value} {O' : OG} {s' : Shared} (S' : St (maskP s.heap (butX T C X)) C T' m' O' s') : St B L T' m O' s' := by
  obtain ⟨oL, es, ep, hL, r⟩ := S.ns
  have hLm : (maskP s.heap (butX T C X)).get? L = some oL := by rw [maskP_get (butX_false S.Lnone hLC (fun q => (hX L q).2.1 rfl))]; exact hL
  have nn {a : Addr} (h : (maskP s.heap (butX T C X)).get? a = none) : B.get? a = none := by
    cases e : B.get? a with
    | none => rfl
    | some o => rw [S.upXC hB hX e] at h; cases h
  refine ⟨⟨oL, es, ep, S'.keep _ _ hLm, r⟩, fun b o e => S'.keep b o (S.upXC hB hX e), S.LB, fun a c e => ?_, S'.gens, S'.os, S'.nm, S.big⟩
  obtain ⟨_, h2, h3⟩ := S'.sat a c e
  exact ⟨(fun q => by rw [q, hLm] at h2; cases h2), nn h2, h3⟩
end

section
variable {prog : Program} {w : World} {A : Around} {E : Value → Shared → Prop} {B : Heap} {T : TM} {m : Str → Option Value} {O : OG} {s : Shared} {env : Env}

/-- a comprehension, from its iterator on: the new list lies on the map from the start -/
structure CompG (prog : Program) (w : World) (A : Around) (B : Heap) (env : Env) (t : Tag) (e : Expr) (scope : Scope) (cl : List (Str × Addr)) (Fin : TM → Addr → (Str → Option Value) → OG → Prop) (it : Value) (s₂ : Shared) : Prop where
  ex : ∃ I X T m O, it = .ref I ∧ St B env.locals T m O s₂ ∧ Free B env.locals T X ∧ (∀ b ∈ X, ∃ o, s₂.heap.get? b = some o) ∧
    (∀ s (Q : Value → Shared → Prop), (∀ b ∈ X, ∀ o, s₂.heap.get? b = some o → s.heap.get? b = some o) → Q (.ref I) s → wpAny (model prog w) A (pyIter (.ref I)) Q NoR s) ∧
    ∀ C D B₁ s₄, (∀ b o, B.get? b = some o → B₁.get? b = some o) → T D = none → Free B₁ C (upd T D (t, LsP [])) X → (∀ b ∈ X, ∀ o, s₂.heap.get? b = some o → s₄.heap.get? b = some o) →
      St B₁ C (upd T D (t, LsP [])) (fun _ => none) O s₄ →
      codeAny (model prog w) A (.compLoop e 0 it (.ref D) (cEnv scope cl C env)) (fun r s' => r = .ok .next ∧ ∃ T' m' O', St B₁ C T' m' O' s' ∧ (∃ ys, T' D = some (t, LsP ys)) ∧ Fin T' D m O') s₄

theorem compBlockG {t : Tag} {target iter : Expr} {ifs : List Expr} {rest : List Comprehension} {elt : Expr} {scope : Scope} {pos : Pos} {cl : List (Str × Addr)} {it : Value} {s₂ : Shared} {Fin : TM → Addr → (Str → Option Value) → OG → Prop} {R : Value → Addr → Result → Shared → Prop}
    (h₂ : CompG prog w A B env t (.ListComp elt (⟨target, iter, ifs, 0⟩ :: rest) scope pos) scope cl Fin it s₂)
    (hR : ∀ T' D C mC m O' s, C ≠ env.locals → B.get? C = none → T' C = none → s.heap.Ns C mC → (∃ ys, T' D = some (t, LsP ys)) → St B env.locals T' m O' s → Fin T' D m O' → R (.ref D) C (.ok .next) s) :
    wpAny (model prog w) A (newList []) (fun acc s₃ => wpAny (model prog w) A (newFunctionEnv scope env.globals cl [] env.qual none .none (some env)) (fun cenv s₄ =>
      codeAny (model prog w) A (.compStart (.ListComp elt (⟨target, iter, ifs, 0⟩ :: rest) scope pos) 0 it acc { cenv with scope := relabel scope env }) (R acc cenv.locals) s₄) E s₃) E s₂ := by
  obtain ⟨I, X, T, m, O, rfl, S, hX, hin, hself, loop⟩ := h₂.ex
  refine wpAny_newObj_type ?_
  have S₁ := S.push { cls := .type "list", data := .seq ([] : List Value).toArray } (c := (t, LsP [])) ⟨0, rfl⟩ rfl
  have hTD := S.new_none
  refine newCompEnv fun h₁ k₁ ns₁ _ => ?_
  have S₂ := S₁.keeps k₁
  have hsz : (s₂.heap.push { cls := .type "list", data := .seq ([] : List Value).toArray }).objs.size = s₂.heap.objs.size + 1 := Heap.size_push ..
  have hTC := S₁.new_none
  have hBC := S₁.newB
  have hbig : sysModules < (s₂.heap.push { cls := .type "list", data := .seq ([] : List Value).toArray }).objs.size := Nat.lt_trans S₁.big S₁.ltL
  have hCL : (s₂.heap.push { cls := .type "list", data := .seq ([] : List Value).toArray }).objs.size ≠ env.locals := Nat.ne_of_gt S₁.ltL
  have hXlt : ∀ b ∈ X, b < s₂.heap.objs.size := fun b hb => let ⟨_, ho⟩ := hin b hb; Heap.lt_size ho
  have hXC : ∀ b ∈ X, b ≠ (s₂.heap.push { cls := .type "list", data := .seq ([] : List Value).toArray }).objs.size := fun b hb => by
    have := hXlt b hb
    rw [hsz]; exact Nat.ne_of_lt (Nat.lt_succ_of_lt this)
  have hXT : Free B env.locals (upd T s₂.heap.objs.size (t, LsP [])) X := fun b hb => ⟨by rw [upd_ne (Nat.ne_of_lt (hXlt b hb))]; exact (hX b hb).1, (hX b hb).2⟩
  have kX : ∀ b ∈ X, ∀ o, s₂.heap.get? b = some o → h₁.get? b = some o := fun b _ o e => k₁ _ _ (Heap.get?_push_of_some _ e)
  dsimp only at k₁ ns₁ hTC hBC S₂ ⊢
  generalize (s₂.heap.push { cls := .type "list", data := .seq ([] : List Value).toArray }).objs.size = C at *
  have S₃ := S₂.enterX ns₁ hTC hbig X
  have hFC : Free (maskP h₁ (butX (upd T s₂.heap.objs.size (t, LsP [])) C X)) C (upd T s₂.heap.objs.size (t, LsP [])) X := fun b hb => ⟨(hXT b hb).1, hXC b hb, maskP_none (by simp [butX, hb])⟩
  have lp := loop C s₂.heap.objs.size _ _ (fun b o e => S₂.upXC hBC hXT e) hTD hFC kX S₃
  have fin : codeAny (model prog w) A (.compLoop (.ListComp elt (⟨target, iter, ifs, 0⟩ :: rest) scope pos) 0 (.ref I) (.ref s₂.heap.objs.size) (cEnv scope cl C env)) (R (.ref s₂.heap.objs.size) C) { s₂ with heap := h₁ } := by
    refine codeAny_mono lp fun r s' hr => ?_
    obtain ⟨rfl, T', m', O', S', hD, hF⟩ := hr
    exact hR T' _ C m' m O' s' hCL hBC S'.Lnone S'.ns hD (S₂.exitX hXT hBC (Ne.symm hCL) S') hF
  exact codeAny_compStart_list fin (noR (hself _ _ kX fin))

abbrev FinE2 (B : Heap) (L : Addr) (Q : Value → Shared → Prop) (T : TM) (D : Addr) (m : Str → Option Value) (O : OG) : Prop := ∀ s, St B L T m O s → Q (.ref D) s
abbrev FinA2 (B : Heap) (L : Addr) (y : Str) (Q : Flow → Shared → Prop) (T : TM) (D : Addr) (m : Str → Option Value) (O : OG) : Prop := ∀ s, St B L T (fs m y (.ref D)) O s → Q .next s

theorem compE2 {t : Tag} {target iter : Expr} {ifs : List Expr} {rest : List Comprehension} {elt : Expr} {scope : Scope} {pos : Pos} {cl : List (Str × Addr)} {Q : Value → Shared → Prop}
    (_S : St B env.locals T m O s) (hclos : closureFor scope env = pure cl) (h : wpAny (model prog w) A (eval iter env) (fun xv s₁ => wpAny (model prog w) A (pyIter xv) (CompG prog w A B env t (.ListComp elt (⟨target, iter, ifs, 0⟩ :: rest) scope pos) scope cl (FinE2 B env.locals Q)) NoR s₁) NoR s)
    (hkind : scope.kind = .function := by rfl) (hnames : ∀ x ∈ scope.names, x.2 = .local → scope.names.lookup x.1 = some .local := by decide) (hs : ∀ x, foldedSetIterable iter env x = pure x := by intro _; rfl) :
    wpAny (model prog w) A (eval (.ListComp elt (⟨target, iter, ifs, 0⟩ :: rest) scope pos) env) Q E s := by
  rw [eval_ListComp]
  refine wpAny_comprehension_free (use := none) rfl hs hclos hkind hnames (wpAny_mono h (fun xv s₁ h₁ => wpAny_mono h₁ (fun it s₂ h₂ => ?_) fun _ _ e => e.elim) fun _ _ e => e.elim)
  refine compBlockG (R := fun acc C => compPost (model prog w) A E none Q acc C) h₂ (fun T' D C mC m O s hCL hBC hTC hn _ S fin => ?_)
  exact ⟨mC, hn, fun h' hs' => fin _ (S.but hCL hBC hTC fun b o hb e => (hs'.2 b hb).trans e)⟩
theorem compA2 {t : Tag} {target iter : Expr} {ifs : List Expr} {rest : List Comprehension} {elt : Expr} {scope : Scope} {y : Str} {py : Pos} {pos spos : Pos} {cl : List (Str × Addr)} {Q : Flow → Shared → Prop}
    (_S : St B env.locals T m O s) (hclos : closureFor scope env = pure cl) (h : wpAny (model prog w) A (eval iter env) (fun xv s₁ => wpAny (model prog w) A (pyIter xv) (CompG prog w A B env t (.ListComp elt (⟨target, iter, ifs, 0⟩ :: rest) scope pos) scope cl (FinA2 B env.locals y Q)) NoR s₁) NoR s)
    (hsw : swapsWith (.ListComp elt (⟨target, iter, ifs, 0⟩ :: rest) scope pos) (some (.Name y py)) spos.line env = pure true := by rfl)
    (hk : env.scope.kind = .function := by rfl) (hy : env.kindOf y = some .local := by rfl)
    (hkind : scope.kind = .function := by rfl) (hnames : ∀ x ∈ scope.names, x.2 = .local → scope.names.lookup x.1 = some .local := by decide) (hs : ∀ x, foldedSetIterable iter env x = pure x := by intro _; rfl) :
    wpAny (model prog w) A (exec (.Assign [.Name y py] (.ListComp elt (⟨target, iter, ifs, 0⟩ :: rest) scope pos) spos) env) Q E s := by
  rw [exec_Assign_Name_used _ _ _ _ hsw]
  refine wpAny_bind (wpAny_standAt (wpAny_bind ?_))
  show wpAny _ A (do let _ ← comprehension (.ListComp elt (⟨target, iter, ifs, 0⟩ :: rest) scope pos) scope env _ (newList []) false (eval iter env) (some (assign (.Name y py) env))) _ _ s
  refine wpAny_bind (wpAny_mono (wpAny_comprehension_free (use := some (assign (.Name y py) env)) (Q := fun _ s' => Q .next s') rfl hs hclos hkind hnames
    (wpAny_mono h (fun xv s₁ h₁ => wpAny_mono h₁ (fun it s₂ h₂ => ?_) fun _ _ e => e.elim) fun _ _ e => e.elim)) (fun _ s' hq => wpAny_pure (wpAny_pure hq)) fun _ _ e => e)
  refine compBlockG (R := fun acc C => compPost (model prog w) A E (some (assign (.Name y py) env)) (fun _ s' => Q .next s') acc C) h₂ (fun T' D C mC m O s hCL hBC hTC hn _ S fin => ?_)
  show wpAny _ A (assign (.Name y py) env (.ref D)) _ _ _
  refine wpAny_assign_Name (wpAny_storeName_local hy S.ns (fun h₂ hn₂ hs₂ => ?_) (by rw [hk]; rfl))
  have S₂ := S.local hn₂ hs₂
  refine ⟨mC, hn.sameBut hs₂ hCL, fun h₃ hs₃ => ?_⟩
  exact fin _ (S₂.but hCL hBC hTC fun b o hb e => (hs₃.2 b hb).trans e)
end
end Mine
end
section
open PySem PySem.W PySem.Calls PyProof.Rows
set_option Elab.async false
set_option maxRecDepth 100000
namespace Mine
section
variable {prog : Program} {w : World} {A : Around} {E : Value → Shared → Prop} {B : Heap} {T : TM} {m : Str → Option Value} {O : OG} {s : Shared} {env : Env}

/-- the loop of a one-generator comprehension in its frame, the list D a cell of the map; what the target does is said by `next` -/
theorem loopG {elt target iter : Expr} {ifs : List Expr} {scope : Scope} {pos : Pos} {D I : Addr} {X : List Addr} {t : Tag} {n : Nat} {R : Result → Shared → Prop} (IT : Nat → Heap → Prop)
    (hframe : ∀ i h h', IT i h → (∀ b ∈ X, ∀ o, h.get? b = some o → h'.get? b = some o) → IT i h') (hhas : ∀ i h, IT i h → ∀ b ∈ X, ∃ o, h.get? b = some o)
    (Inv Inv' : Nat → TM → (Str → Option Value) → List Value → Prop) (hsz : ∀ i T m ys, Inv' i T m ys → ys.length ≤ sizeLine)
    (next : ∀ i T m ys B s (Q : Unit → Shared → Prop), i < n → Inv i T m ys → T D = some (t, LsP ys) → St B env.locals T m O s → Free B env.locals T X → IT i s.heap →
      (∀ m' s', St B env.locals T m' O s' → IT (i + 1) s'.heap → Inv' i T m' ys → Q () s') →
      wpAny (model prog w) A (pyNext (.ref I)) (fun r s₁ => ∃ v, r = some v ∧ wpAny (model prog w) A (letOwnedTupleGo target (.ref I) v) (fun _ s₂ => wpAny (model prog w) A (assign target env v) Q NoR s₂) NoR s₁) NoR s)
    (fin : ∀ T m ys B s (Q : Option Value → Shared → Prop), Inv n T m ys → T D = some (t, LsP ys) → St B env.locals T m O s → Free B env.locals T X → IT n s.heap → (∀ s', St B env.locals T m O s' → Q none s') → wpAny (model prog w) A (pyNext (.ref I)) Q NoR s)
    (turn : ∀ i T m ys B₁ s, i < n → Inv' i T m ys → T D = some (t, LsP ys) → (∀ b o, B.get? b = some o → B₁.get? b = some o) → St B₁ env.locals T m O s →
      wpAny (model prog w) A (testsOf ifs env) (fun ok s₃ => if ok = true then wpAny (model prog w) A (eval elt env) (fun v s₄ => ∃ T' m', St B₁ env.locals T' m' O s₄ ∧ T' D = some (t, LsP ys) ∧ Inv (i + 1) (upd T' D (t, LsP (ys ++ [v]))) m' (ys ++ [v])) NoR s₃
        else ∃ T' m', St B₁ env.locals T' m' O s₃ ∧ T' D = some (t, LsP ys) ∧ Inv (i + 1) T' m' ys) NoR s)
    (done : ∀ T m ys s, Inv n T m ys → T D = some (t, LsP ys) → St B env.locals T m O s → R (.ok .next) s)
    {ys : List Value} (S : St B env.locals T m O s) (hF : Free B env.locals T X) (hit : IT 0 s.heap) (h0 : Inv 0 T m ys) (hD : T D = some (t, LsP ys)) :
    codeAny (model prog w) A (.compLoop (.ListComp elt [⟨target, iter, ifs, 0⟩] scope pos) 0 (.ref I) (.ref D) env) R s := by
  refine codeAny_loop rfl (fun k s' => ∃ i T m ys, k = n - i ∧ i ≤ n ∧ St B env.locals T m O s' ∧ Free B env.locals T X ∧ IT i s'.heap ∧ Inv i T m ys ∧ T D = some (t, LsP ys)) (fun k s' hJ => ?_) n ⟨0, T, m, ys, rfl, Nat.zero_le _, S, hF, hit, h0, hD⟩
  obtain ⟨i, T, m, ys, rfl, hi, S, hF, hit, hI, hD⟩ := hJ
  show wpAny _ A ((compTurn (.ListComp elt [⟨target, iter, ifs, 0⟩] scope pos) 0 (.ref I) (.ref D) env).onRaise (fun x => do noteFrame x env; theTreesLotGoes x)) _ _ s'
  refine wpAny_noted ?_
  rw [compTurn_list]
  refine wpAny_bind (wpAny_standAt (wpAny_bind ?_))
  rcases Nat.lt_or_ge i n with hlt | hge
  · refine noR (wpAny_mono (next i T m ys B s' (fun _ s₂ => ∃ m', St B env.locals T m' O s₂ ∧ IT (i + 1) s₂.heap ∧ Inv' i T m' ys) hlt hI hD S hF hit fun m' s₁ S₁ hit₁ hI₁ => ⟨m', S₁, hit₁, hI₁⟩) (fun r s₁ hr => ?_) fun _ _ e => e.elim)
    obtain ⟨v, rfl, hv⟩ := hr
    refine wpAny_bind (noR (wpAny_mono hv (fun _ _ hq => wpAny_bind (noR (wpAny_mono hq (fun _ s₁ hq => ?_) fun _ _ e => e.elim))) fun _ _ e => e.elim))
    obtain ⟨m', S₁, hit₁, hI₁⟩ := hq
    have S₂ := S₁.into
    have under : ∀ b o, B.get? b = some o → (mask s₁.heap T env.locals).get? b = some o := fun b o e => S₁.under e
    have nxt : ∀ T' m' ys' s₃, St (mask s₁.heap T env.locals) env.locals T' m' O s₃ → Inv (i + 1) T' m' ys' → T' D = some (t, LsP ys') → ∃ k, k < n - i ∧ ∃ i T m ys, k = n - i ∧ i ≤ n ∧ St B env.locals T m O s₃ ∧ Free B env.locals T X ∧ IT i s₃.heap ∧ Inv i T m ys ∧ T D = some (t, LsP ys) := by
      intro T' m' ys' s₃ S' hI' hD'
      have inM : ∀ b ∈ X, ∃ o, s₁.heap.get? b = some o ∧ (mask s₁.heap T env.locals).get? b = some o := fun b hb => by
        obtain ⟨o, ho⟩ := hhas _ _ hit₁ b hb
        exact ⟨o, ho, by rw [mask_get (hF b hb).1 (hF b hb).2.1]; exact ho⟩
      refine ⟨n - (i + 1), by omega, i + 1, T', m', ys', rfl, hlt, S'.back under, fun b hb => ⟨?_, (hF b hb).2⟩, hframe _ _ _ hit₁ fun b hb o' e => ?_, hI', hD'⟩
      · obtain ⟨o, _, ho⟩ := inM b hb
        cases q : T' b with
        | none => rfl
        | some c => rw [S'.neB q] at ho; cases ho
      · obtain ⟨o, ho, hm⟩ := inM b hb
        rw [ho] at e; cases e
        exact S'.keep _ _ hm
    refine wpAny_bind (noR (wpAny_mono (turn i T m' ys _ _ hlt hI₁ hD under S₂) (fun ok s₃ hok => ?_) fun _ _ e => e.elim))
    cases ok with
    | false =>
      obtain ⟨T', m'', S', hD', hI'⟩ := hok
      exact wpAny_pure ⟨rfl, nxt T' m'' ys s₃ S' hI' hD'⟩
    | true =>
      refine wpAny_bind (wpAny_bind (noR (wpAny_mono hok (fun v s₄ hv => ?_) fun _ _ e => e.elim)))
      obtain ⟨T', m'', S', hD', hI'⟩ := hv
      refine wpAny_bind (appendS S' hD' (fun s₅ S₅ => ?_) (hsz _ _ _ _ hI₁))
      exact wpAny_pure (wpAny_pure ⟨rfl, nxt _ m'' _ s₅ S₅ hI' upd_self⟩)
  · obtain rfl : i = n := Nat.le_antisymm hi hge
    refine noR (fin T m ys B s' _ hI hD S hF hit fun s₁ S₁ => ?_)
    exact wpAny_pure (done T m ys s₁ hI hD S₁)

/-- compStart of the second generator -/
theorem compStart1 {elt t1 i1 t2 i2 : Expr} {f1 f2 : List Expr} {scope : Scope} {pos : Pos} {it acc : Value} {env : Env} {R : Result → Shared → Prop}
    (h0 : codeAny (model prog w) A (.compLoop (.ListComp elt [⟨t1, i1, f1, 0⟩, ⟨t2, i2, f2, 0⟩] scope pos) 1 it acc env) R s)
    (h : wpAny (model prog w) A (pyIter it) (fun it' s' => codeAny (model prog w) A (.compLoop (.ListComp elt [⟨t1, i1, f1, 0⟩, ⟨t2, i2, f2, 0⟩] scope pos) 1 it' acc env) R s') NoR s) :
    codeAny (model prog w) A (.compStart (.ListComp elt [⟨t1, i1, f1, 0⟩, ⟨t2, i2, f2, 0⟩] scope pos) 1 it acc env) R s := by
  refine codeAny_of_tree ?_
  show wpAny _ _ ((compStart (.ListComp elt [⟨t1, i1, f1, 0⟩, ⟨t2, i2, f2, 0⟩] scope pos) 1 it acc env).onRaise (fun x => do noteFrame x env; standAt theWindowsPlace)) _ _ s
  refine wpAny_notedAt ?_
  unfold compStart
  show wpAny _ _ (ask >>= _) _ _ s
  refine wpAny_bind (wpAny_askSetting (wpAny_ite ?_))
  split
  · first
      | exact wpAny_bind (wpAny_pure (wpAny_pure (And.intro rfl h0)))
      | exact wpAny_pure (And.intro rfl h0)
  · refine wpAny_bind (wpAny_rule ?_)
    show wpAny _ _ (standAt i2.pos >>= _) _ _ s
    exact wpAny_bind (wpAny_standAt (wpAny_bind (noR (wpAny_mono h (fun it' s' h' => wpAny_pure (And.intro rfl h')) fun _ _ x => x.elim))))

/-- the outer loop of a two-generator comprehension: the inner one is asked for as a whole -/
theorem twoOuter {elt t2 i1 i2 : Expr} {f2 : List Expr} {scope : Scope} {pos : Pos} {x : Str} {px : Pos} {D I : Addr} {t : Tag} {n : Nat} {R : Result → Shared → Prop} (hh : A.handled = none) (hk : env.scope.kind = .function) (hlx : env.kindOf x = some .local)
    (hfs : ∀ v, foldedSetIterable i2 env v = pure v)
    (Inv : Nat → TM → (Str → Option Value) → List Value → Prop)
    (turn : ∀ i u T m ys B₁ s, i < n → Inv i T m ys → T D = some (t, LsP ys) → (∀ b o, B.get? b = some o → B₁.get? b = some o) → St B₁ env.locals T (fs m x (.int (i : Int) u)) O s →
      wpAny (model prog w) A (eval i2 env) (fun xv s₁ => wpAny (model prog w) A (pyIter xv) (fun it2 s₂ => codeAny (model prog w) A (.compStart (.ListComp elt [⟨.Name x px, i1, [], 0⟩, ⟨t2, i2, f2, 0⟩] scope pos) 1 it2 (.ref D) env)
        (fun r s' => r = .ok .next ∧ ∃ T' m' ys', St B₁ env.locals T' m' O s' ∧ T' D = some (t, LsP ys') ∧ Inv (i + 1) T' m' ys') s₂) NoR s₁) NoR s)
    (done : ∀ T m ys s, Inv n T m ys → T D = some (t, LsP ys) → St B env.locals T m O s → R (.ok .next) s)
    {ys : List Value} (S : St B env.locals T m O s) (hF : Free B env.locals T [I]) (hit : IsRangeIter s.heap I 0 (n : Int) 1) (h0 : Inv 0 T m ys) (hD : T D = some (t, LsP ys)) :
    codeAny (model prog w) A (.compLoop (.ListComp elt [⟨.Name x px, i1, [], 0⟩, ⟨t2, i2, f2, 0⟩] scope pos) 0 (.ref I) (.ref D) env) R s := by
  refine codeAny_loop rfl (fun k s' => ∃ i T m ys, k = n - i ∧ i ≤ n ∧ St B env.locals T m O s' ∧ Free B env.locals T [I] ∧ IsRangeIter s'.heap I (i : Int) ((n : Int) - (i : Nat)) 1 ∧ Inv i T m ys ∧ T D = some (t, LsP ys)) (fun k s' hJ => ?_) n ⟨0, T, m, ys, rfl, Nat.zero_le _, S, hF, by simpa using hit, h0, hD⟩
  obtain ⟨i, T, m, ys, rfl, hi, S, hF, hit, hI, hD⟩ := hJ
  show wpAny _ A ((compTurn (.ListComp elt [⟨.Name x px, i1, [], 0⟩, ⟨t2, i2, f2, 0⟩] scope pos) 0 (.ref I) (.ref D) env).onRaise (fun x => do noteFrame x env; theTreesLotGoes x)) _ _ s'
  refine wpAny_noted ?_
  rw [compTurn_two0]
  have W := itrRange (prog := prog) (w := w) hh I n O
  refine wpAny_bind (wpAny_standAt (wpAny_bind ?_))
  rcases Nat.lt_or_ge i n with hlt | hge
  · refine noR (W.item i B env.locals T m s' _ hlt S trivial hF hit fun v s₁ hP S₁ hit₁ => ?_)
    obtain ⟨_, u, rfl⟩ := hP
    refine wpAny_bind (wpAny_of_eq (a := ()) rfl ?_)
    refine wpAny_bind (wpAny_assign_Name (wpAny_storeName_local hlx S₁.ns (fun h' hn hs => ?_) (by rw [hk]; rfl)))
    have S₂' := (S₁.local hn hs).tok (s₁.toks + 1)
    have S₂ := S₂'.into
    have hit₂ : IsRangeIter h' I ((i + 1 : Nat) : Int) ((n : Int) - ((i + 1 : Nat) : Int)) 1 := W.frame _ _ _ hit₁ fun b hb o e => (hs.2 b (hF b hb).2.1).trans e
    have under : ∀ b o, B.get? b = some o → (mask h' T env.locals).get? b = some o := fun b o e => S₂'.under e
    refine wpAny_bind (tests_nil ?_)
    rw [if_pos rfl]
    refine wpAny_bind (noR (wpAny_mono (turn i u T m ys _ _ hlt hI hD under S₂) (fun xv s₂ h₂ => ?_) fun _ _ e => e.elim))
    refine wpAny_bind (wpAny_standAt ?_)
    rw [hfs]
    refine wpAny_bind (wpAny_pure (wpAny_bind (wpAny_holding (noR (wpAny_mono h₂ (fun it2 s₃ h₃ => ?_) fun _ _ e => e.elim)))))
    refine wpAny_bind (wpAny_runOwn (codeAny_mono h₃ fun r s₄ h₄ => ?_))
    obtain ⟨rfl, T', m', ys', S', hD', hI'⟩ := h₄
    refine wpAny_pure ⟨rfl, n - (i + 1), by omega, i + 1, T', m', ys', rfl, hlt, S'.back under, ?_, ?_, hI', hD'⟩
    all_goals
      obtain ⟨o, ho⟩ := W.has _ _ hit₂ I (by simp)
      have hoM : (mask h' T env.locals).get? I = some o := by rw [mask_get (hF I (by simp)).1 (hF I (by simp)).2.1]; exact ho
    · refine fun b hb => ⟨?_, (hF b hb).2⟩
      rw [List.mem_singleton.mp hb]
      cases q : T' I with
      | none => rfl
      | some c => rw [S'.neB q] at hoM; cases hoM
    · refine W.frame _ _ _ hit₂ fun b hb o' e => ?_
      rw [List.mem_singleton.mp hb] at e ⊢
      rw [ho] at e; cases e
      exact S'.keep _ _ hoM
  · obtain rfl : i = n := Nat.le_antisymm hi hge
    refine noR (W.done B env.locals T m s' _ S trivial hF hit fun s₁ S₁ => ?_)
    exact wpAny_pure (done T m ys s₁ hI hD S₁)
end
end Mine
end
section
open PySem PySem.W PySem.Calls PyProof.Rows
set_option Elab.async false
set_option maxRecDepth 100000
namespace Mine
section
variable {prog : Program} {w : World} {A : Around} {E : Value → Shared → Prop} {B : Heap} {T : TM} {m : Str → Option Value} {O : OG} {s : Shared} {env : Env}

/-- two names of the frame get two values -/
theorem asgTwo {xa xb : Str} {pa pb tpos : Pos} {kk : Nat} {d : Addr} {a b : Value} {Q : Unit → Shared → Prop} (hh : A.handled = none) (hk : env.scope.kind = .function) (h1 : env.kindOf xa = some .local) (h2 : env.kindOf xb = some .local)
    (S : St B env.locals T m O s) (hd : IsTup s.heap d #[a, b]) (h : ∀ s', St B env.locals T (fs (fs m xa a) xb b) O s' → (∀ y o, y ≠ env.locals → s.heap.get? y = some o → s'.heap.get? y = some o) → Q () s') :
    wpAny (model prog w) A (assign (.Tuple [.Name xa pa, .Name xb pb] kk tpos) env (.ref d)) Q E s := by
  refine assign_Tuple_tuple hh hd rfl rfl fun h' he => ?_
  have S₁ : St B env.locals T m O { s with heap := h' } := S.but (d := s.heap.objs.size) (Nat.ne_of_gt S.ltL) S.newB S.new_none fun b o hb e => he b o hb e
  have k₁ : ∀ y o, s.heap.get? y = some o → h'.get? y = some o := fun y o e => he y o (Nat.ne_of_lt (Heap.lt_size e)) e
  show wpAny _ A (assignInOrder [assign (.Name xa pa) env, assign (.Name xb pb) env] [a, b]) _ _ _
  refine wpAny_assignInOrder_more (PyProof.Rows.assign_Name (wpAny_storeName_local h1 S₁.ns (fun h₂ hn₂ hs₂ => ?_) (by rw [hk]; rfl)))
  have S₂ := (S₁.local hn₂ hs₂).tok (s.toks + 1)
  refine wpAny_assignInOrder_more (PyProof.Rows.assign_Name (wpAny_storeName_local h2 S₂.ns (fun h₃ hn₃ hs₃ => ?_) (by rw [hk]; rfl)))
  have S₃ := (S₂.local hn₃ hs₃).tok (s.toks + 1 + 1)
  exact wpAny_assignInOrder_none (h _ S₃ fun y o hy e => (hs₃.2 y hy).trans ((hs₂.2 y hy).trans (k₁ y o e)))

theorem go_listiter {elts : List Expr} {kk : Nat} {pos : Pos} {I l a : Addr} {i : Nat} {Q : Unit → Shared → Prop} (hit : s.heap.IsListIter I l i) (h : Q () s) : wpAny (model prog w) A (letOwnedTupleGo (.Tuple elts kk pos) (.ref I) (.ref a)) Q E s := by
  obtain ⟨o, ho, hc, hd⟩ := hit
  obtain ⟨c, dd, dt, sl⟩ := o
  dsimp only at hc hd
  subst hc hd
  unfold letOwnedTupleGo
  refine wpAny_bind (wpAny_load ho ?_)
  dsimp only
  rw [if_neg (by simp)]
  exact wpAny_pure h

/-- over a list of pairs, two local targets -/
theorem loopPairs {elt iter : Expr} {ifs : List Expr} {scope : Scope} {pos : Pos} {xa xb : Str} {pa pb tpos : Pos} {kk : Nat} {D I l : Addr} {t tl : Tag} {vs : List Value} {es : List (Int × Int)} {P : Obj → Prop} {R : Result → Shared → Prop} (hh : A.handled = none) (hk : env.scope.kind = .function) (h1 : env.kindOf xa = some .local) (h2 : env.kindOf xb = some .local)
    (Inv : Nat → TM → (Str → Option Value) → List Value → Prop) (hsz : vs.length ≤ 1000) (hlen : ∀ i T m ys, Inv i T m ys → ys.length = i)
    (hN : ∀ i T m ys, Inv i T m ys → T l = some (tl, P) ∧ PairL T vs es) (hP : ∀ o, P o → LiP vs o)
    (turn : ∀ i a b ua ub T m ys B₁ s, es[i]? = some (a, b) → Inv i T m ys → T D = some (t, LsP ys) → (∀ b o, B.get? b = some o → B₁.get? b = some o) → St B₁ env.locals T (fs (fs m xa (.int a ua)) xb (.int b ub)) O s →
      wpAny (model prog w) A (testsOf ifs env) (fun ok s₃ => if ok = true then wpAny (model prog w) A (eval elt env) (fun v s₄ => ∃ T' m', St B₁ env.locals T' m' O s₄ ∧ T' D = some (t, LsP ys) ∧ Inv (i + 1) (upd T' D (t, LsP (ys ++ [v]))) m' (ys ++ [v])) NoR s₃
        else ∃ T' m', St B₁ env.locals T' m' O s₃ ∧ T' D = some (t, LsP ys) ∧ Inv (i + 1) T' m' ys) NoR s)
    (done : ∀ T m ys s, Inv vs.length T m ys → T D = some (t, LsP ys) → St B env.locals T m O s → R (.ok .next) s)
    {ys : List Value} (S : St B env.locals T m O s) (hF : Free B env.locals T [I]) (hit : s.heap.IsListIter I l 0) (h0 : Inv 0 T m ys) (hD : T D = some (t, LsP ys)) :
    codeAny (model prog w) A (.compLoop (.ListComp elt [⟨.Tuple [.Name xa pa, .Name xb pb] kk tpos, iter, ifs, 0⟩] scope pos) 0 (.ref I) (.ref D) env) R s := by
  have W := itrList (prog := prog) (w := w) hh I l vs O
  refine loopG (X := [I]) (n := vs.length) (fun i h => h.IsListIter I l i) (fun i h h' => W.frame i h h') (fun i h => W.has i h) Inv
    (fun i T m' ys => ∃ a b ua ub m, es[i]? = some (a, b) ∧ Inv i T m ys ∧ i < vs.length ∧ m' = fs (fs m xa (.int a ua)) xb (.int b ub)) (fun i T m' ys ⟨_, _, _, _, _, _, hI, hi, _⟩ => ?_)
    (fun i T m ys B s Q hi hI hD S hF hit h => ?_) (fun T m ys B s Q hI hD S hF hit h => ?_) (fun i T m' ys B₁ s hi ⟨a, b, ua, ub, m, he, hI, _, hm⟩ hD hB S => ?_) done S hF hit h0 hD
  · rw [hlen _ _ _ _ hI, sizeLine_eq]; omega
  · obtain ⟨hl, hpl⟩ := hN _ _ _ _ hI
    refine W.item i B env.locals T m s _ hi S ⟨_, _, hl, hP⟩ hF hit fun v s₁ hv S₁ hit₁ => ?_
    obtain ⟨a, b, tt, ua, ub, n, he, rfl, ht⟩ := hpl.2 i v hv
    refine ⟨_, rfl, go_listiter hit₁ (asgTwo hh hk h1 h2 S₁ (S₁.tup ht) fun s₂ S₂ k₂ => h _ s₂ S₂ ?_ ⟨a, b, ua, ub, m, he, hI, hi, rfl⟩)⟩
    exact W.frame _ _ _ hit₁ fun b hb o e => k₂ b o (hF b hb).2.1 e
  · obtain ⟨hl, hpl⟩ := hN _ _ _ _ hI
    exact W.done B env.locals T m s _ S ⟨_, _, hl, hP⟩ hF hit h
  · subst hm
    exact turn i a b ua ub T m ys B₁ s he hI hD hB S

/-- over enumerate(list), two local targets -/
theorem loopEnum {elt iter : Expr} {ifs : List Expr} {scope : Scope} {pos : Pos} {xa xb : Str} {pa pb tpos : Pos} {kk : Nat} {D e it l : Addr} {t tl : Tag} {vs : List Value} {P : Obj → Prop} {R : Result → Shared → Prop} (hh : A.handled = none) (hk : env.scope.kind = .function) (h1 : env.kindOf xa = some .local) (h2 : env.kindOf xb = some .local)
    (Inv : Nat → TM → (Str → Option Value) → List Value → Prop) (hsz : vs.length ≤ 1000) (hlen : ∀ i T m ys, Inv i T m ys → ys.length ≤ i)
    (hN : ∀ i T m ys, Inv i T m ys → T l = some (tl, P)) (hP : ∀ o, P o → LiP vs o) (hei : e ≠ it)
    (turn : ∀ i u v T m ys B₁ s, vs[i]? = some v → Inv i T m ys → T D = some (t, LsP ys) → (∀ b o, B.get? b = some o → B₁.get? b = some o) → St B₁ env.locals T (fs (fs m xa (.int (i : Int) u)) xb v) O s →
      wpAny (model prog w) A (testsOf ifs env) (fun ok s₃ => if ok = true then wpAny (model prog w) A (eval elt env) (fun v s₄ => ∃ T' m', St B₁ env.locals T' m' O s₄ ∧ T' D = some (t, LsP ys) ∧ Inv (i + 1) (upd T' D (t, LsP (ys ++ [v]))) m' (ys ++ [v])) NoR s₃
        else ∃ T' m', St B₁ env.locals T' m' O s₃ ∧ T' D = some (t, LsP ys) ∧ Inv (i + 1) T' m' ys) NoR s)
    (done : ∀ T m ys s, Inv vs.length T m ys → T D = some (t, LsP ys) → St B env.locals T m O s → R (.ok .next) s)
    {ys : List Value} (S : St B env.locals T m O s) (hF : Free B env.locals T [e, it]) (he : IsEnum s.heap e it 0 .none) (hit : s.heap.IsListIter it l 0) (h0 : Inv 0 T m ys) (hD : T D = some (t, LsP ys)) :
    codeAny (model prog w) A (.compLoop (.ListComp elt [⟨.Tuple [.Name xa pa, .Name xb pb] kk tpos, iter, ifs, 0⟩] scope pos) 0 (.ref e) (.ref D) env) R s := by
  refine loopG (X := [e, it]) (n := vs.length) (fun i h => (∃ old, IsEnum h e it (i : Int) old) ∧ h.IsListIter it l i)
    (fun i h h' ⟨⟨old, a⟩, b⟩ k => ⟨⟨old, k e (by simp) _ a⟩, b.at fun o x => k it (by simp) o x⟩) (fun i h ⟨⟨old, a⟩, b⟩ x hx => by
      simp only [List.mem_cons, List.not_mem_nil, or_false] at hx
      rcases hx with rfl | rfl
      · exact ⟨_, a⟩
      · obtain ⟨o, ho, _⟩ := b; exact ⟨o, ho⟩) Inv
    (fun i T m' ys => ∃ u v m, vs[i]? = some v ∧ Inv i T m ys ∧ i < vs.length ∧ m' = fs (fs m xa (.int (i : Int) u)) xb v) (fun i T m' ys ⟨_, _, _, _, hI, hi, _⟩ => ?_)
    (fun i T m ys B s Q hi hI hD S hF hit h => ?_) (fun T m ys B s Q hI hD S hF hit h => ?_) (fun i T m' ys B₁ s hi ⟨u, v, m, hv, hI, _, hm⟩ hD hB S => ?_) done S hF ⟨⟨_, he⟩, hit⟩ h0 hD
  · have := hlen _ _ _ _ hI; rw [sizeLine_eq]; omega
  · have hl := hN _ _ _ _ hI
    obtain ⟨⟨old, he⟩, hit⟩ := hit
    have hfe := hF e (by simp)
    have hfi := hF it (by simp)
    refine wpAny_pyNext_enum_item he hit (S.list hl hP) (x := vs[i]) (by simp [hi]) hei fun h₁ heo hit₁ ht₁ hz₁ hk₁ => ⟨_, rfl, ?_⟩
    have S₁ : St B env.locals T m O { s with heap := h₁, toks := s.toks + 1 } := S.butP (fun b => b = e ∨ b = it) (fun b hb => by rcases hb with rfl | rfl; exact hfe; exact hfi) (fun b o hb x => hk₁ b o (fun q => hb (.inl q)) (fun q => hb (.inr q)) x) rfl rfl
    refine wpAny_letOwnedTupleGo_enum heo fun h₂ he₂ hs₂ => ?_
    have S₂ : St B env.locals T m O { s with heap := h₂, toks := s.toks + 1 } := S₁.but (h' := h₂) hfe.2.1 hfe.2.2 hfe.1 fun b o hb x => (hs₂.2 b hb).trans x
    have hte : s.heap.objs.size ≠ e := Nat.ne_of_gt (Heap.lt_size he)
    have ht₂ : IsTup h₂ s.heap.objs.size #[.int (i : Int) s.toks, vs[i]] := ⟨_, (hs₂.2 _ hte).trans ht₁, rfl, _, rfl⟩
    refine asgTwo hh hk h1 h2 S₂ ht₂ fun s₃ S₃ k₃ => h _ s₃ S₃ ⟨⟨vs[i], ?_⟩, ?_⟩ ⟨s.toks, vs[i], m, by simp [hi], hI, hi, rfl⟩
    · have e1 : ((i + 1 : Nat) : Int) = (i : Int) + 1 := by push_cast; rfl
      rw [e1]; exact k₃ _ _ hfe.2.1 he₂
    · exact hit₁.at fun o x => k₃ it o hfi.2.1 ((hs₂.2 it (Ne.symm hei)).trans x)
  · have hl := hN _ _ _ _ hI
    obtain ⟨⟨old, he⟩, hit⟩ := hit
    have hfi := hF it (by simp)
    refine wpAny_pyNext_enum_end hh he hit (S.list hl hP) (by simp) fun h' he' => h _ (S.but hfi.2.1 hfi.2.2 hfi.1 fun b o hb x => he' b o hb x)
  · subst hm
    exact turn i u v T m ys B₁ s hv hI hD hB S
end
end Mine
end
section
open PySem PySem.W PySem.Calls PyProof.Rows
set_option Elab.async false
set_option maxRecDepth 100000
namespace Mine
-- "L": what a name holds
local macro_rules | `(tactic| walk_at "L") => `(tactic| first
  | assumption
  | exact fs_eq
  | (refine fs_ne (by decide) ?_; walk_at "L")
  | rfl)
-- "M": the next step of the walk, where it is the same everywhere
local macro_rules | `(tactic| walk_at "M") => `(tactic| first
  | ((with_reducible refine loadG ?_); refine ldnS (by assumption) (by walk_at "L") ?_)
  | ((with_reducible refine stG ?_); refine stS (by assumption) ?_; intro _ _)
  | ((with_reducible refine nameG ?_); refine ldS (by assumption) (by walk_at "L") ?_)
  | with_reducible refine wpAny_execs_cons ?_
  | with_reducible refine wpAny_execs_nil ?_
  | with_reducible refine wpAny_BinOp ?_
  | with_reducible refine wpAny_Constant_int ?_
  | with_reducible refine Constant_none ?_
  | with_reducible refine Constant_bool ?_
  | with_reducible refine wpAny_Compare1 ?_
  | with_reducible refine wpAny_isTrue_Compare1 ?_
  | with_reducible refine isTrue_not ?_
  | with_reducible refine isTrue_and_nil ?_
  | with_reducible refine isTrue_or_nil ?_
  | with_reducible refine isTrue_and ?_
  | with_reducible refine isTrue_or ?_
  | with_reducible refine IfExp_ ?_
  | with_reducible refine wpAny_If ?_
  | ((with_reducible refine asgN ?_ ?_); (focus rfl))
  | ((with_reducible refine asgS ?_ ?_); (focus rfl))
  | ((with_reducible refine exprE ?_ ?_ ?_); (focus rfl); (focus rfl))
  | with_reducible refine wpAny_AugAssign_Name ?_
  | with_reducible refine wpAny_Return_some ?_
  | with_reducible refine wpAny_Break ?_
  | with_reducible refine wpAny_Continue ?_
  | with_reducible refine wpAny_truthy_bool ?_
  | with_reducible refine add_int ?_
  | with_reducible refine iadd_int ?_
  | with_reducible refine sub_int ?_
  | with_reducible refine lt_int ?_
  | with_reducible refine le_int ?_
  | with_reducible refine gt_int ?_
  | with_reducible refine eq_int ?_
  | with_reducible refine ne_int ?_
  | with_reducible refine splE ?_
  | ((with_reducible refine splG ?_); refine spliced_more ?_)
  | with_reducible refine Tuple_ ?_
  | with_reducible refine List_ ?_
  | ((with_reducible refine methC (pl := ?_) ?_ ?_); rotate_left; (focus rfl))
  | ((with_reducible refine callC ?_ ?_); (focus rfl))
  | ((with_reducible refine cwB1 ?_ ?_ ?_); (focus rfl); (focus rfl))
  | ((with_reducible refine cwT1 ?_ ?_ ?_); (focus rfl); (focus rfl))
  | ((with_reducible refine cwM1 ?_ ?_ ?_); (focus rfl); (focus rfl))
  | with_reducible refine Subscript_ ?_
  | (show wpAny _ _ (execs _ _) _ _ _; first | refine wpAny_execs_cons ?_ | refine wpAny_execs_nil ?_))
section
variable {prog : Program} {w : World} {A : Around} {E : Value → Shared → Prop} {K : Frag} {mg mb : Str → Option Value} {B : Heap} {L : Addr} {T : TM} {m : Str → Option Value} {O : OG} {s : Shared}

theorem pickS {env : Env} {B : Heap} {value hi : Expr} {p pos : Pos} {l : Addr} {tl : Tag} {P : Obj → Prop} {xs : List Value} {n : Nat} {u : Tok} {Q : Value → Shared → Prop} (t : Tag) (S : St B L T m O s) (hl : T l = some (tl, P)) (hP : ∀ o, P o → LiP xs o) (hlen : xs.length ≤ 1000)
    (hv : ∀ {Q : Value → Shared → Prop}, Q (.ref l) s → wpAny (model prog w) A (eval value env) Q E s) (hh : ∀ {Q : Value → Shared → Prop}, Q (.int (n : Int) u) s → wpAny (model prog w) A (eval hi env) Q E s)
    (h : ∀ d s', T d = none → St B L (upd T d (t, LsP (xs.take n))) m O s' → Q (.ref d) s') (ht : ∀ o r, letTemporaryGo value o r = pure () := by intro _ _; rfl) :
    wpAny (model prog w) A (eval (.Subscript value (.Slice none (some hi) none p) pos) env) Q E s := by
  refine wpAny_Subscript_list_slice (hv (wpAny_pure (hh ?_))) ht
  refine ⟨l, _, _, _, rfl, S.list hl hP, by rw [sizeLine_eq, List.size_toArray]; omega, .none, .int (n : Int) u, ?_⟩
  rw [slicePick_upto' _ n]
  have S₁ := S.pushN { cls := .type "slice", data := .fields #[.none, .int (n : Int) u, .none] }
  have e : (s.heap.push { cls := .type "slice", data := .fields #[.none, .int (n : Int) u, .none] }).objs.size = s.heap.objs.size + 1 := Heap.size_push ..
  have S₂ := S₁.push { cls := .type "list", data := .seq (xs.take n).toArray } (c := (t, LsP (xs.take n))) ⟨0, rfl⟩ rfl
  have h1 := S₁.new_none
  dsimp only at S₂ h1
  rw [e] at S₂ h1
  exact h _ _ h1 S₂

theorem lawNumbers {f : Addr} {cdv : Value} {l : Addr} {t tl : Tag} {P : Obj → Prop} {vs : List Value} {ns : List Int} {u : Tok} {Q : Value → Shared → Prop}
    (W : Wd K mg mb B) (S : St B L T m O s) (hf : FnIs K f (top 20) "_law_numbers" .none cdv) (hroom : A.depth < recursionLimit) (hh : A.handled = none)
    (hl : T l = some (tl, P)) (hP : ∀ o, P o → LiP vs o) (hi : IntsAre vs ns) (hlen : vs.length ≤ 63) (hlen' : nsIn K mainGlobals "len" = some none)
    (h : ∀ d ws ks s', IntsAre ws ks → ks.length = 14 → T d = none → St B L (upd T d (t, LsP ws)) m O s' → Q (.ref d) s') :
    wpAny (model prog w) A (call (.ref f) [.ref l, .int 14 u]) Q E s := by
  refine callF (args := ⟨[.ref l, .int 14 u], []⟩) (binds := [(Str.ofString "script", .ref l), (Str.ofString "many", .int 14 u)]) W S hroom hf (fun _ _ _ _ _ _ => BindsTo.of_eq rfl) (by decide) (locs rfl) rfl rfl rfl fun B' L' s' hB' W' S' => ?_
  refine wpAny_execs_cons ?_
  refine compA (t := t) S' rfl ?_
  refine pickS (n := 14) (u := u) (0, 0, 0) S' hl hP (by omega) (fun q => ldS S' rfl q) (fun q => ldS S' rfl q) fun d s₁ hd S₁ => ?_
  refine compList (xs := vs.take 14) hh S₁ upd_self (fun o ho => LsP.li ho) (by rw [List.length_take]; omega) rfl rfl (fun i T' ys => T' = upd T d ((0, 0, 0), LsP (vs.take 14)) ∧ ys = (vs.take 14).take i) ⟨rfl, rfl⟩ (fun i T' ys _ hI => ⟨_, _, hI.1 ▸ upd_self, fun o ho => LsP.li ho⟩) (fun C i v T' ys mC B₁ s₂ hv hI hB hm S₂ => ?_) (fun T' ys D s₂ hI hD S₂ s₃ S₃ => ?_)
  · refine tests_nil ?_
    refine ldS S₂ hm ⟨T', mC, S₂, hI.1, ?_⟩
    rw [hI.2]; exact take_snoc hv
  · obtain ⟨rfl, rfl⟩ := hI
    rw [List.take_length] at S₃
    replace S₃ := S₃.forget (sub_drop hd)
    replace hD := (upd_none hD).2
    clear S₁ S₂
    have hlD : upd T D (t, LsP (vs.take 14)) l = some (tl, P) := by rw [upd_ne (ne_of_none hl hD), hl]
    iterate 5 walk_at "M"
    refine ldBuilS (v := .builtin "len") W' S₃ hlen' rfl (by decide) ?_
    repeat walk_at "M"
    refine lenListS S₃ hlD hP (by omega) fun u₁ tk => ?_
    repeat walk_at "M"
    rename_i s₄ S₄
    refine forS (B := B') ?_
    walk_at "M"
    -- the sum over the script
    refine forList hh S₄ hlD hP (fun i T' m' => T' = upd T D (t, LsP (vs.take 14)) ∧ ∃ z u', 0 ≤ z ∧ z < 2147483647 ∧ m' "last" = some (.int z u') ∧ m' "found" = some (.ref D) ∧ m' "many" = some (.int 14 u)) ?_ (fun i T' m' _ hI => ⟨_, _, hI.1 ▸ hlD, hP⟩) ?_ ?_
    · refine ⟨rfl, 7 + (vs.length : Int), _, by omega, by omega, fs_eq, by walk_at "L", by walk_at "L"⟩
    · rintro i v T' m' B₁ s₅ hv ⟨rfl, z, u', hz0, hz1, hm1, hm2, hm3⟩ hB₁ S₅
      obtain ⟨x, ux, rfl, hx⟩ := IntsAre.at hi i v hv
      repeat walk_at "M"
      refine PyProof.Rows.mul_int ?_ (by mul_fits)
      repeat walk_at "M"
      refine PyProof.Rows.mod_int (by decide) ?_
      repeat walk_at "M"
      rename_i s₆ S₆
      exact ⟨_, _, S₆, rfl, _, _, Int.fmod_nonneg_of_pos _ (by decide), Int.fmod_lt_of_pos _ (by decide), fs_eq, by walk_at "L", by walk_at "L"⟩
    · rintro T' m' s₅ ⟨rfl, z, u', hz0, hz1, hm1, hm2, hm3⟩ S₅
      walk_at "M"
      refine whileS (fun k T' m' => ∃ ws ks z u', T' = upd T D (t, LsP ws) ∧ IntsAre ws ks ∧ ks.length + k = 14 ∧ 0 ≤ z ∧ z < 2147483647 ∧ m' "last" = some (.int z u') ∧ m' "found" = some (.ref D) ∧ m' "many" = some (.int 14 u)) (k := 14 - (ns.take 14).length) S₅ ?_ ?_
      · refine ⟨_, _, z, u', rfl, hi.take 14, ?_, hz0, hz1, hm1, hm2, hm3⟩
        rw [List.length_take]; omega
      · rintro k T' m' s₆ ⟨ws, ks, z, u', rfl, hi', hk, hz0, hz1, hm1, hm2, hm3⟩ S₆
        have hlen₂ := hi'.length
        repeat walk_at "M"
        refine ldBuilS (v := .builtin "len") W' S₆ hlen' rfl (by decide) ?_
        repeat walk_at "M"
        refine lenListS S₆ upd_self (fun o ho => LsP.li ho) (by omega) fun u₁ tk => ?_
        repeat walk_at "M"
        by_cases hlt : ((ws.length : Nat) : Int) < 14
        · rw [if_pos (by simpa using hlt)]
          repeat walk_at "M"
          refine PyProof.Rows.mul_int ?_ (by mul_fits)
          repeat walk_at "M"
          refine PyProof.Rows.mod_int (by decide) ?_
          repeat walk_at "M"
          rename_i s₇ S₇
          refine methAppendS S₇ upd_self ?_
          repeat walk_at "M"
          refine PyProof.Rows.floordiv_int (by decide) ?_ ?_
          · repeat walk_at "M"
            refine appendS S₇ upd_self (fun s₈ S₈ => ?_) (by rw [sizeLine_eq]; omega)
            walk_at "M"
            refine ⟨_, _, S₈, k - 1, by omega, _, ks ++ [_], _, _, upd_upd, hi'.append (.cons _ _ .nil), by simp; omega, Int.fmod_nonneg_of_pos _ (by decide), Int.fmod_lt_of_pos _ (by decide), fs_eq, by walk_at "L", by walk_at "L"⟩
          · exact .inl (PyProof.noPylong_small (by decide))
        · rw [if_neg (by simpa using hlt)]
          repeat walk_at "M"
          exact ⟨_, _, S₆, fun S₇ => h _ ws ks _ hi' (by omega) hD S₇⟩
end
end Mine
end
section
open PySem PySem.W PySem.Calls PyProof.Rows
set_option Elab.async false
set_option maxRecDepth 100000
namespace Mine
-- "L": what a name holds
local macro_rules | `(tactic| walk_at "L") => `(tactic| first
  | assumption
  | exact fs_eq
  | (refine fs_ne (by decide) ?_; walk_at "L")
  | rfl)
-- "M": the next step of the walk, where it is the same everywhere
local macro_rules | `(tactic| walk_at "M") => `(tactic| first
  | ((with_reducible refine loadG ?_); refine ldnS (by assumption) (by walk_at "L") ?_)
  | ((with_reducible refine stG ?_); refine stS (by assumption) ?_; intro _ _)
  | ((with_reducible refine nameG ?_); refine ldS (by assumption) (by walk_at "L") ?_)
  | with_reducible refine wpAny_execs_cons ?_
  | with_reducible refine wpAny_execs_nil ?_
  | with_reducible refine wpAny_BinOp ?_
  | with_reducible refine wpAny_Constant_int ?_
  | with_reducible refine wpAny_Constant_str ?_
  | with_reducible refine Constant_none ?_
  | with_reducible refine Constant_bool ?_
  | with_reducible refine wpAny_Compare1 ?_
  | with_reducible refine wpAny_isTrue_Compare1 ?_
  | with_reducible refine isTrue_not ?_
  | with_reducible refine isTrue_and_nil ?_
  | with_reducible refine isTrue_or_nil ?_
  | with_reducible refine isTrue_and ?_
  | with_reducible refine isTrue_or ?_
  | with_reducible refine IfExp_ ?_
  | with_reducible refine wpAny_If ?_
  | ((with_reducible refine asgN ?_ ?_); (focus rfl))
  | ((with_reducible refine asgS ?_ ?_); (focus rfl))
  | ((with_reducible refine asgA ?_ ?_); (focus rfl))
  | ((with_reducible refine exprE ?_ ?_ ?_); (focus rfl); (focus rfl))
  | with_reducible refine wpAny_AugAssign_Name ?_
  | with_reducible refine wpAny_Return_some ?_
  | with_reducible refine wpAny_Break ?_
  | with_reducible refine wpAny_Continue ?_
  | ((with_reducible refine isG ?_); refine wpAny_is_other (by rfl) (by intro e; cases e) ?_)
  | ((with_reducible refine trG ?_); refine isTrue_plain ?_)
  | with_reducible refine wpAny_truthy_bool ?_
  | with_reducible refine add_int ?_
  | with_reducible refine iadd_int ?_
  | with_reducible refine sub_int ?_
  | with_reducible refine lt_int ?_
  | with_reducible refine le_int ?_
  | with_reducible refine gt_int ?_
  | with_reducible refine eq_int ?_
  | with_reducible refine ne_int ?_
  | with_reducible refine splE ?_
  | ((with_reducible refine splG ?_); refine spliced_more ?_)
  | with_reducible refine Tuple_ ?_
  | with_reducible refine List_ ?_
  | ((with_reducible refine methC (pl := ?_) ?_ ?_); rotate_left; (focus rfl))
  | ((with_reducible refine callC ?_ ?_); (focus rfl))
  | ((with_reducible refine cwB1 ?_ ?_ ?_); (focus rfl); (focus rfl))
  | ((with_reducible refine cwT1 ?_ ?_ ?_); (focus rfl); (focus rfl))
  | ((with_reducible refine cwM1 ?_ ?_ ?_); (focus rfl); (focus rfl))
  | with_reducible refine Subscript_ ?_
  | ((with_reducible refine attrE ?_ ?_); (focus with_unfolding_all rfl))
  | (show wpAny _ _ (execs _ _) _ _ _; first | refine wpAny_execs_cons ?_ | refine wpAny_execs_nil ?_))
/-- all stands but one cell -/
def Kp (c : Addr) (T T' : TM) : Prop := ∀ a d, T a = some d → a ≠ c → T' a = some d
theorem Kp.of_sub {c : Addr} {T T' : TM} (h : Sub T T') : Kp c T T' := fun a d e _ => h a d e
theorem Kp.put {c : Addr} {T T' : TM} {d : Cel} (h : Sub T T') : Kp c T (Mine.upd T' c d) := fun a x e n => (upd_ne n).trans (h a x e)
abbrev cel (c : Addr) : Tag := (9, 0, (c : Int))
noncomputable abbrev lawE (L f : Addr) (cdv : Value) : Env := envF (Str.ofString "law") (top 24) L f cdv (cellsFrom (L + 1) (scopeOf (top 24)).names [])
noncomputable def lawSt (i : Nat) : Stmt := nth i (bodyOf (top 24))
/-- the drawn names -/
def nmAt (ks : List Int) (k : Nat) : Int := 8 * (ks.getD (8 + k) 0).fmod 1000 + k
def nmL (ks : List Int) (n : Nat) : List Int := (List.range n).map (nmAt ks)
section
variable {prog : Program} {w : World} {A : Around} {E : Value → Shared → Prop} {K : Frag} {mg mb : Str → Option Value} {B : Heap} {L : Addr} {T : TM} {m : Str → Option Value} {O : OG} {s : Shared} {t : Tag} {f : Addr} {cdv : Value}

theorem lawSt0 {fn l : Addr} {cdn : Value} {tl : Tag} {P : Obj → Prop} {vs : List Value} {ns : List Int} {v0 : Option Value} {Q : Flow → Shared → Prop} (W : Wd K mg mb B) (S : St B L T m O s) (hh : A.handled = none) (hroom : A.depth < 800)
    (hf : FnIs K fn (top 20) "_law_numbers" .none cdn) (hgn : nsIn K mainGlobals "_law_numbers" = some (some (.ref fn))) (hkn : keepIn K (.ref fn) = true) (hln : nsIn K mainGlobals "len" = some none)
    (hl : T l = some (tl, P)) (hP : ∀ o, P o → LiP vs o) (hi : IntsAre vs ns) (hlen : vs.length ≤ 63) (hm : m "script" = some (.ref l)) (hc : T (L + 1) = some (cel (L + 1), CellP v0))
    (h : ∀ d ws ks T' s', IntsAre ws ks → ks.length = 14 → T' d = some ((21, 0, 0), LsP ws) → T' (L + 1) = some (cel (L + 1), CellP (some (.ref d))) → Kp (L + 1) T T' → St B L T' m O s' → Q .next s') :
    wpAny (model prog w) A (exec (lawSt 0) (lawE L f cdv)) Q E s := by
  show wpAny _ _ (exec (.Assign [.Name _ _] (.Call _ _ _ _) _) _) _ _ _
  repeat walk_at "M"
  refine ldGlobS W S hgn ?_
  refine cwF hkn rfl rfl ?_
  repeat walk_at "M"
  refine ⟨W.X.keeps S.keep, ?_⟩
  refine lawNumbers (t := (21, 0, 0)) W S hf (Nat.lt_trans hroom (by decide)) hh hl hP hi hlen hln fun d ws ks s₁ hI hk hd S₁ => ?_
  refine stCellS (c := L + 1) S₁ rfl (upd_new hc hd) fun s₂ S₂ => ?_
  exact h d ws ks _ s₂ hI hk ((upd_ne (ne_of_none hc hd).symm).trans upd_self) upd_self (.put (.new hd)) S₂

theorem getInt {ws : List Value} {ks : List Int} (hI : IntsAre ws ks) {i : Nat} (h : i < ks.length) : ∃ u, ws[i]? = some (.int (ks.getD i 0) u) := by
  have h' : i < ws.length := by rw [hI.length]; exact h
  obtain ⟨k, u, e, f⟩ := IntsAre.at hI i _ (List.getElem?_eq_getElem h')
  refine ⟨u, ?_⟩
  rw [List.getElem?_eq_getElem h', e, List.getD_eq_getElem?_getD, f]; rfl

theorem lawSt1 {d : Addr} {ws : List Value} {ks : List Int} {v0 : Option Value} {Q : Flow → Shared → Prop} (S : St B L T m O s) (hd : T d = some ((21, 0, 0), LsP ws)) (hI : IntsAre ws ks) (hk : ks.length = 14) (hn : T (L + 1) = some (cel (L + 1), CellP (some (.ref d)))) (hc : T (L + 2) = some (cel (L + 2), CellP v0))
    (h : ∀ (n : Nat) u T' s', 1 ≤ n → n ≤ 6 → T' (L + 2) = some (cel (L + 2), CellP (some (.int (n : Int) u))) → Kp (L + 2) T T' → St B L T' m O s' → Q .next s') :
    wpAny (model prog w) A (exec (lawSt 1) (lawE L f cdv)) Q E s := by
  show wpAny _ _ (exec (.Assign [.Name _ _] (.BinOp _ _ _ _) _) _) _ _ _
  repeat walk_at "M"
  refine ldCellS S (c := L + 1) rfl hn ?_
  repeat walk_at "M"
  obtain ⟨u, hu⟩ := getInt hI (i := 0) (by omega)
  refine subListS S hd (fun o ho => LsP.li ho) (by decide) (by decide) hu ?_
  repeat walk_at "M"
  refine PyProof.Rows.mod_int (by decide) ?_
  repeat walk_at "M"
  refine stCellS (c := L + 2) S rfl hc fun s₂ S₂ => ?_
  have h0 := Int.fmod_nonneg_of_pos (ks.getD 0 0) (show (0 : Int) < 6 by decide)
  have h1 := Int.fmod_lt_of_pos (ks.getD 0 0) (show (0 : Int) < 6 by decide)
  generalize (ks.getD 0 0).fmod 6 = z at h0 h1 S₂
  have e : 1 + z = (((1 + z).toNat : Nat) : Int) := by omega
  rw [e] at S₂
  exact h (1 + z).toNat _ _ s₂ (by omega) (by omega) upd_self (.put (.refl _)) S₂

theorem lawSt2 {d : Addr} {ws : List Value} {ks : List Int} {v0 : Option Value} {Q : Flow → Shared → Prop} (S : St B L T m O s) (hd : T d = some ((21, 0, 0), LsP ws)) (hI : IntsAre ws ks) (hk : ks.length = 14) (hn : T (L + 1) = some (cel (L + 1), CellP (some (.ref d)))) (hc : T (L + 3) = some (cel (L + 3), CellP v0))
    (h : ∀ (dir : Bool) T' s', T' (L + 3) = some (cel (L + 3), CellP (some (.bool dir))) → Kp (L + 3) T T' → St B L T' m O s' → Q .next s') :
    wpAny (model prog w) A (exec (lawSt 2) (lawE L f cdv)) Q E s := by
  show wpAny _ _ (exec (.Assign [.Name _ _] (.Compare _ _ _ _) _) _) _ _ _
  repeat walk_at "M"
  refine ldCellS S (c := L + 1) rfl hn ?_
  repeat walk_at "M"
  obtain ⟨u, hu⟩ := getInt hI (i := 1) (by omega)
  refine subListS S hd (fun o ho => LsP.li ho) (by decide) (by decide) hu ?_
  repeat walk_at "M"
  refine PyProof.Rows.mod_int (by decide) ?_
  repeat walk_at "M"
  refine stCellS (c := L + 3) S rfl hc fun s₂ S₂ => ?_
  exact h _ _ s₂ upd_self (.put (.refl _)) S₂

theorem lawSt3 {d : Addr} {ws : List Value} {ks : List Int} {n : Nat} {u : Tok} {v0 : Option Value} {Q : Flow → Shared → Prop} (W : Wd K mg mb B) (S : St B L T m O s) (hh : A.handled = none) (hrg : nsIn K mainGlobals "range" = some none)
    (hd : T d = some ((21, 0, 0), LsP ws)) (hI : IntsAre ws ks) (hk : ks.length = 14) (hn : T (L + 1) = some (cel (L + 1), CellP (some (.ref d)))) (hsz : T (L + 2) = some (cel (L + 2), CellP (some (.int (n : Int) u)))) (hn6 : n ≤ 6) (hc : T (L + 4) = some (cel (L + 4), CellP v0))
    (h : ∀ D nv T' s', IntsAre nv (nmL ks n) → T' D = some ((22, 0, 0), LsP nv) → T' (L + 4) = some (cel (L + 4), CellP (some (.ref D))) → Kp (L + 4) T T' → St B L T' m O s' → Q .next s') :
    wpAny (model prog w) A (exec (lawSt 3) (lawE L f cdv)) Q E s := by
  refine asgN rfl (compE (t := (22, 0, 0)) S rfl ?_)
  repeat walk_at "M"
  refine ldBuilS (v := .type "range") W S hrg rfl (by decide) ?_
  repeat walk_at "M"
  refine ldCellS S (c := L + 2) rfl hsz ?_
  repeat walk_at "M"
  refine callRangeS S fun r s₁ ra rb S₁ hr => ?_
  refine compRange (n := n) hh S₁ hr (by omega) rfl rfl (fun i T' ys => T' = T ∧ IntsAre ys (nmL ks i)) ⟨rfl, .nil⟩ (fun C i u T' ys mC B₁ s₂ hi hI' hB₁ hm S₂ => ?_) (fun T' ys D s₂ hI' hD S₂ => ?_)
  · obtain ⟨rfl, hys⟩ := hI'
    refine tests_nil ?_
    rw [if_pos rfl]
    repeat walk_at "M"
    refine ldCellS S₂ (c := L + 1) rfl hn ?_
    repeat walk_at "M"
    obtain ⟨u', hu'⟩ := getInt hI (i := 8 + i) (by omega)
    refine subListS S₂ hd (fun o ho => LsP.li ho) (by omega) (by omega) (by rw [show (8 + (i : Int)).toNat = 8 + i by omega]; exact hu') ?_
    repeat walk_at "M"
    refine PyProof.Rows.mod_int (by decide) ?_
    have h0 := Int.fmod_nonneg_of_pos (ks.getD (8 + i) 0) (show (0 : Int) < 1000 by decide)
    have h1 := Int.fmod_lt_of_pos (ks.getD (8 + i) 0) (show (0 : Int) < 1000 by decide)
    refine PyProof.Rows.mul_int ?_ (by mul_fits)
    repeat walk_at "M"
    refine ⟨_, _, S₂, rfl, ?_⟩
    have e : nmL ks (i + 1) = nmL ks i ++ [nmAt ks i] := by unfold nmL; rw [List.range_succ, List.map_append]; rfl
    rw [e]
    exact hys.append (.cons _ _ .nil)
  · obtain ⟨rfl, hys⟩ := hI'
    refine fun s₃ S₃ => stCellS (c := L + 4) S₃ rfl (upd_new hc hD) fun s₄ S₄ => ?_
    exact h D ys _ s₄ hys ((upd_ne (ne_of_none hc hD).symm).trans upd_self) upd_self (.put (.new hD)) S₄
end
end Mine
end
section
open PySem PySem.W PySem.Calls PyProof.Rows
set_option Elab.async false
set_option maxRecDepth 100000
namespace Mine
-- "L": what a name holds
local macro_rules | `(tactic| walk_at "L") => `(tactic| first
  | assumption
  | exact fs_eq
  | (refine fs_ne (by decide) ?_; walk_at "L")
  | rfl)
-- "M": the next step of the walk, where it is the same everywhere
local macro_rules | `(tactic| walk_at "M") => `(tactic| first
  | ((with_reducible refine loadG ?_); refine ldnS (by assumption) (by walk_at "L") ?_)
  | ((with_reducible refine stG ?_); refine stS (by assumption) ?_; intro _ _)
  | ((with_reducible refine nameG ?_); refine ldS (by assumption) (by walk_at "L") ?_)
  | with_reducible refine wpAny_execs_cons ?_
  | with_reducible refine wpAny_execs_nil ?_
  | with_reducible refine wpAny_BinOp ?_
  | with_reducible refine wpAny_Constant_int ?_
  | with_reducible refine wpAny_Constant_str ?_
  | with_reducible refine Constant_none ?_
  | with_reducible refine Constant_bool ?_
  | with_reducible refine wpAny_Compare1 ?_
  | with_reducible refine wpAny_isTrue_Compare1 ?_
  | with_reducible refine isTrue_not ?_
  | with_reducible refine isTrue_and_nil ?_
  | with_reducible refine isTrue_or_nil ?_
  | with_reducible refine isTrue_and ?_
  | with_reducible refine isTrue_or ?_
  | with_reducible refine IfExp_ ?_
  | with_reducible refine wpAny_If ?_
  | ((with_reducible refine asgN ?_ ?_); (focus rfl))
  | ((with_reducible refine asgS ?_ ?_); (focus rfl))
  | ((with_reducible refine asgA ?_ ?_); (focus rfl))
  | ((with_reducible refine exprE ?_ ?_ ?_); (focus rfl); (focus rfl))
  | with_reducible refine wpAny_AugAssign_Name ?_
  | with_reducible refine wpAny_Return_some ?_
  | with_reducible refine wpAny_Break ?_
  | with_reducible refine wpAny_Continue ?_
  | ((with_reducible refine isG ?_); refine wpAny_is_other (by rfl) (by intro e; cases e) ?_)
  | ((with_reducible refine trG ?_); refine isTrue_plain ?_)
  | with_reducible refine wpAny_truthy_bool ?_
  | with_reducible refine add_int ?_
  | with_reducible refine iadd_int ?_
  | with_reducible refine sub_int ?_
  | with_reducible refine lt_int ?_
  | with_reducible refine le_int ?_
  | with_reducible refine gt_int ?_
  | with_reducible refine eq_int ?_
  | with_reducible refine ne_int ?_
  | with_reducible refine splE ?_
  | ((with_reducible refine splG ?_); refine spliced_more ?_)
  | with_reducible refine Tuple_ ?_
  | with_reducible refine List_ ?_
  | ((with_reducible refine methC (pl := ?_) ?_ ?_); rotate_left; (focus rfl))
  | ((with_reducible refine callC ?_ ?_); (focus rfl))
  | ((with_reducible refine cwB1 ?_ ?_ ?_); (focus rfl); (focus rfl))
  | ((with_reducible refine cwT1 ?_ ?_ ?_); (focus rfl); (focus rfl))
  | ((with_reducible refine cwM1 ?_ ?_ ?_); (focus rfl); (focus rfl))
  | with_reducible refine Subscript_ ?_
  | ((with_reducible refine attrE ?_ ?_); (focus with_unfolding_all rfl))
  | (show wpAny _ _ (execs _ _) _ _ _; first | refine wpAny_execs_cons ?_ | refine wpAny_execs_nil ?_))
section
variable {prog : Program} {w : World} {A : Around} {E : Value → Shared → Prop} {K : Frag} {mg mb : Str → Option Value} {B : Heap} {L : Addr} {T T' : TM} {m : Str → Option Value} {O : OG} {s : Shared} {t : Tag} {f : Addr} {cdv : Value}

theorem PairL.nil : PairL T [] [] := ⟨rfl, fun i v h => by simp at h⟩
theorem PairL.snoc {vs : List Value} {es : List (Int × Int)} {tt : Addr} {a b n : Int} {ua ub : Tok} (h : PairL T vs es) (hk : ∀ x c, T x = some c → c.1.1 = 7 → T' x = some c) (ht : T' tt = some ((7, 0, n), TupP [.int a ua, .int b ub])) : PairL T' (vs ++ [.ref tt]) (es ++ [(a, b)]) := by
  refine ⟨by rw [List.length_append, List.length_append, h.1]; rfl, fun i v hv => ?_⟩
  rcases Nat.lt_or_ge i vs.length with hi | hi
  · rw [List.getElem?_append_left hi] at hv
    obtain ⟨a', b', tt', ua', ub', n', h1, h2, h3⟩ := h.2 i v hv
    exact ⟨a', b', tt', ua', ub', n', by rw [List.getElem?_append_left (by rw [← h.1]; exact hi)]; exact h1, h2, hk _ _ h3 rfl⟩
  · rw [List.getElem?_append_right hi] at hv
    have hlen := h.1
    rcases Nat.eq_or_lt_of_le hi with e | e
    · subst e
      rw [Nat.sub_self] at hv
      cases hv
      exact ⟨a, b, tt, ua, ub, n, by rw [List.getElem?_append_right (by omega), hlen, Nat.sub_self]; rfl, rfl, ht⟩
    · rw [List.getElem?_eq_none (by simp; omega)] at hv; cases hv
theorem PairL.mono {vs : List Value} {es : List (Int × Int)} (h : PairL T vs es) (hk : ∀ x c, T x = some c → c.1.1 = 7 → T' x = some c) : PairL T' vs es :=
  ⟨h.1, fun i v hv => let ⟨a, b, tt, ua, ub, n, h1, h2, h3⟩ := h.2 i v hv; ⟨a, b, tt, ua, ub, n, h1, h2, hk _ _ h3 rfl⟩⟩
theorem PairL.snocV {vs : List Value} {es : List (Int × Int)} {vs2 : List Value} {es2 : List (Int × Int)} {i : Nat} {v : Value} (h : PairL T vs es) (hk : ∀ x c, T x = some c → c.1.1 = 7 → T' x = some c) (h2 : PairL T' vs2 es2) (hv : vs2[i]? = some v) : ∃ p, es2[i]? = some p ∧ PairL T' (vs ++ [v]) (es ++ [p]) := by
  obtain ⟨a, b, tt, ua, ub, n, e1, rfl, e3⟩ := h2.2 i v hv
  exact ⟨(a, b), e1, h.snoc hk e3⟩
/-- pairs of places -/
def InN (n : Nat) (es : List (Int × Int)) : Prop := ∀ p ∈ es, (0 ≤ p.1 ∧ p.1 < (n : Int)) ∧ 0 ≤ p.2 ∧ p.2 < (n : Int)
theorem InN.nil {n : Nat} : InN n [] := fun _ h => (nomatch h)
theorem InN.snoc {n : Nat} {es : List (Int × Int)} {p : Int × Int} (h : InN n es) (hp : (0 ≤ p.1 ∧ p.1 < (n : Int)) ∧ 0 ≤ p.2 ∧ p.2 < (n : Int)) : InN n (es ++ [p]) := fun q hq => by
  rcases List.mem_append.mp hq with hq | hq
  · exact h q hq
  · rw [List.mem_singleton.mp hq]; exact hp
/-- an iterator over range(n) at its start -/
theorem rangeHas {h : Heap} {I : Addr} {a b c : Int} (hit : IsRangeIter h I a b c) : ∀ x ∈ [I], ∃ o, h.get? x = some o := fun x hx => by rw [List.mem_singleton.mp hx]; exact ⟨_, hit⟩

theorem compStart1R {A : Around} {elt t1 i1 t2 i2 : Expr} {f1 f2 : List Expr} {scope : Scope} {pos : Pos} {I : Addr} {a b c : Int} {acc : Value} {env : Env} {R : Result → Shared → Prop} (hit : IsRangeIter s.heap I a b c)
    (h0 : codeAny (model prog w) A (.compLoop (.ListComp elt [⟨t1, i1, f1, 0⟩, ⟨t2, i2, f2, 0⟩] scope pos) 1 (.ref I) acc env) R s) : codeAny (model prog w) A (.compStart (.ListComp elt [⟨t1, i1, f1, 0⟩, ⟨t2, i2, f2, 0⟩] scope pos) 1 (.ref I) acc env) R s :=
  compStart1 h0 (wpAny_pyIter_rangeiter hit h0)
theorem lawSt4 {n : Nat} {u : Tok} {dir : Bool} {Q : Flow → Shared → Prop} (W : Wd K mg mb B) (S : St B L T m O s) (hh : A.handled = none) (hrg : nsIn K mainGlobals "range" = some none)
    (hsz : T (L + 2) = some (cel (L + 2), CellP (some (.int (n : Int) u)))) (hdr : T (L + 3) = some (cel (L + 3), CellP (some (.bool dir)))) (hn6 : n ≤ 6)
    (h : ∀ D pv es T' s', PairL T' pv es → InN n es → es.length ≤ 36 → T' D = some ((23, 0, 0), LsP pv) → Sub T T' → St B L T' (fs m "pairs" (.ref D)) O s' → Q .next s') :
    wpAny (model prog w) A (exec (lawSt 4) (lawE L f cdv)) Q E s := by
  refine compA2 (t := (23, 0, 0)) (B := B) S rfl ?_
  repeat walk_at "M"
  refine ldBuilS (v := .type "range") W S hrg rfl (by decide) ?_
  repeat walk_at "M"
  refine ldCellS S (c := L + 2) rfl hsz ?_
  repeat walk_at "M"
  refine callRangeS S fun r s₁ ra rb S₁ hr => ?_
  refine pyIterRange S₁ hr (by omega) fun I s₂ S₂ hF hit => ?_
  refine ⟨⟨I, [I], T, m, O, rfl, S₂, hF, rangeHas hit, fun s' Q' hk hq => wpAny_pyIter_rangeiter (hk I (by simp) _ hit) hq, fun C D B₁ s₄ hB hD hF₁ kX S₄ => ?_⟩⟩
  have W₁ := W.keeps hB
  refine twoOuter (env := cEnv _ _ C (lawE L f cdv)) (n := n) hh rfl rfl (fun _ => rfl) (fun i T' m' ys => Sub T T' ∧ ∃ es, PairL T' ys es ∧ InN n es ∧ es.length ≤ i * n)
    (fun i ui T' m' ys B₂ s₅ hi hI hD' hB₂ S₅ => ?_) (fun T' m' ys s₅ hI hD' S₅ => ?_) S₄ hF₁ (kX I (by simp) _ hit) ⟨.new hD, [], .nil, .nil, by simp⟩ upd_self
  · obtain ⟨hs, es, hp, hin, hl⟩ := hI
    have W₂ := W₁.keeps hB₂
    repeat walk_at "M"
    refine ldBuilS (v := .type "range") W₂ S₅ hrg rfl (by decide) ?_
    repeat walk_at "M"
    refine ldCellS S₅ (c := L + 2) rfl (hs _ _ hsz) ?_
    repeat walk_at "M"
    refine callRangeS S₅ fun r₂ s₆ ra₂ rb₂ S₆ hr₆ => ?_
    refine pyIterRange S₆ hr₆ (by omega) fun I₂ s₇ S₇ hF₇ hit₇ => ?_
    refine compStart1R hit₇ ?_
    refine twoInner (env := cEnv _ _ C (lawE L f cdv)) (n := n) hh rfl rfl (fun j T'' m'' ys'' => (Sub T T'' ∧ m'' "a" = some (.int (i : Int) ui) ∧ ∃ es, PairL T'' ys'' es ∧ InN n es ∧ es.length ≤ i * n + j) ∧ j ≤ n)
        (fun j T'' m'' ys'' ⟨⟨_, _, es, hp, _, hl⟩, hj⟩ => by
          have h1 : i * n ≤ 5 * 6 := Nat.mul_le_mul (by omega) hn6
          rw [hp.1, sizeLine_eq]; omega)
        (fun j uj T'' m'' ys'' B₃ s₈ hj hI hD'' hB₃ S₈ => ?_) (fun T'' m'' ys'' s₈ hI hD'' S₈ => ?_) S₇ hF₇ hit₇ ⟨⟨hs, fs_eq, es, hp, hin, by omega⟩, Nat.zero_le _⟩ hD'
    · obtain ⟨⟨hs'', hma, es'', hp'', hin'', hl''⟩, _⟩ := hI
      have fin : ∀ (b : Bool) (tk : Nat), (fun ok s₃ => if ok = true then wpAny (model prog w) A (eval (.Tuple [.Name "a" ⟨577, 14, 577, 15⟩, .Name "b" ⟨577, 17, 577, 18⟩] 0 ⟨577, 13, 577, 19⟩) (cEnv
          { kind := .function, names := [(".0", .local), ("a", .local), ("b", .local), ("range", .globalImplicit), ("directed", .free), ("size", .free)], isGenerator := false, isCoroutine := false, more := [] } (lawE L f cdv).cells C (lawE L f cdv)))
          (fun v s₄ => ∃ T' m', St B₃ C T' m' O s₄ ∧ T' D = some ((23, 0, 0), LsP ys'') ∧ (Sub T (upd T' D ((23, 0, 0), LsP (ys'' ++ [v]))) ∧ m' "a" = some (.int (i : Int) ui) ∧ ∃ es, PairL (upd T' D ((23, 0, 0), LsP (ys'' ++ [v]))) (ys'' ++ [v]) es ∧ InN n es ∧ es.length ≤ i * n + (j + 1)) ∧ j + 1 ≤ n) NoR s₃
          else ∃ T' m', St B₃ C T' m' O s₃ ∧ T' D = some ((23, 0, 0), LsP ys'') ∧ (Sub T T' ∧ m' "a" = some (.int (i : Int) ui) ∧ ∃ es, PairL T' ys'' es ∧ InN n es ∧ es.length ≤ i * n + (j + 1)) ∧ j + 1 ≤ n) b { s₈ with toks := tk } := fun b tk => by
        cases b with
        | false => exact ⟨T'', _, S₈, hD'', ⟨hs'', by walk_at "L", es'', hp'', hin'', by omega⟩, hj⟩
        | true =>
          dsimp only
          rw [if_pos rfl]
          have S₉ : St B₃ C T'' (fs m'' "b" (.int (j : Int) uj)) O { s₈ with toks := tk } := S₈
          repeat walk_at "M"
          refine newTupleS S₉ (7, 0, 0) (fun tt s₁₀ ht S₁₀ => ?_) (by size_fits)
          have hDt : D ≠ tt := ne_of_none hD'' ht
          refine ⟨_, _, S₁₀, upd_new hD'' ht, ⟨fun a c e => ?_, by walk_at "L", es'' ++ [((i : Int), (j : Int))], hp''.snoc (n := 0) (ua := ui) (ub := uj) (fun x c e h7 => ?_) ?_, hin''.snoc ⟨⟨Int.natCast_nonneg i, Int.ofNat_lt.mpr hi⟩, Int.natCast_nonneg j, Int.ofNat_lt.mpr hj⟩, by rw [List.length_append, List.length_singleton]; omega⟩, hj⟩
          · have hne : a ≠ D := ne_of_none e hD
            rw [upd_ne hne, upd_ne (ne_of_none (hs'' _ _ e) ht)]; exact hs'' _ _ e
          · have hne : x ≠ D := ne_of_tag e hD'' (fun q => by rw [q] at h7; cases h7)
            rw [upd_ne hne, upd_ne (ne_of_none e ht)]; exact e
          · rw [upd_ne (Ne.symm hDt)]; exact upd_self
      refine tests_one ?_
      repeat walk_at "M"
      refine ldCellS S₈ (c := L + 3) rfl (hs'' _ _ hdr) ?_
      refine wpAny_truthy_bool ?_
      cases dir with
      | true => rw [if_pos rfl]; exact fin true _
      | false =>
        rw [if_neg (by decide)]
        repeat walk_at "M"
        split
        · exact fin true _
        · repeat walk_at "M"
          exact fin false _
    · obtain ⟨⟨hs'', hma, es'', hp'', hin'', hl''⟩, _⟩ := hI
      exact ⟨rfl, T'', m'', ys'', S₈, hD'', hs'', es'', hp'', hin'', by rw [Nat.succ_mul]; exact hl''⟩
  · obtain ⟨hs, es, hp, hin, hl⟩ := hI
    have h36 : n * n ≤ 36 := Nat.le_trans (Nat.mul_le_mul hn6 hn6) (by decide)
    exact ⟨rfl, T', m', O, S₅, ⟨_, hD'⟩, fun s₆ S₆ => h D ys es T' s₆ hp hin (Nat.le_trans hl h36) hD' hs S₆⟩
end
end Mine
end
section
open PySem PySem.W PySem.Calls PyProof.Rows
set_option Elab.async false
set_option maxRecDepth 100000
namespace Mine
-- "L": what a name holds
local macro_rules | `(tactic| walk_at "L") => `(tactic| first
  | assumption
  | exact fs_eq
  | (refine fs_ne (by decide) ?_; walk_at "L")
  | rfl)
-- "M": the next step of the walk, where it is the same everywhere
local macro_rules | `(tactic| walk_at "M") => `(tactic| first
  | ((with_reducible refine loadG ?_); refine ldnS (by assumption) (by walk_at "L") ?_)
  | ((with_reducible refine stG ?_); refine stS (by assumption) ?_; intro _ _)
  | ((with_reducible refine nameG ?_); refine ldS (by assumption) (by walk_at "L") ?_)
  | with_reducible refine wpAny_execs_cons ?_
  | with_reducible refine wpAny_execs_nil ?_
  | with_reducible refine wpAny_BinOp ?_
  | with_reducible refine wpAny_Constant_int ?_
  | with_reducible refine wpAny_Constant_str ?_
  | with_reducible refine Constant_none ?_
  | with_reducible refine Constant_bool ?_
  | with_reducible refine wpAny_Compare1 ?_
  | with_reducible refine wpAny_isTrue_Compare1 ?_
  | with_reducible refine isTrue_not ?_
  | with_reducible refine isTrue_and_nil ?_
  | with_reducible refine isTrue_or_nil ?_
  | with_reducible refine isTrue_and ?_
  | with_reducible refine isTrue_or ?_
  | with_reducible refine IfExp_ ?_
  | with_reducible refine wpAny_If ?_
  | ((with_reducible refine asgN ?_ ?_); (focus rfl))
  | ((with_reducible refine asgS ?_ ?_); (focus rfl))
  | ((with_reducible refine asgA ?_ ?_); (focus rfl))
  | ((with_reducible refine exprE ?_ ?_ ?_); (focus rfl); (focus rfl))
  | with_reducible refine wpAny_AugAssign_Name ?_
  | with_reducible refine wpAny_Return_some ?_
  | with_reducible refine wpAny_Break ?_
  | with_reducible refine wpAny_Continue ?_
  | ((with_reducible refine isG ?_); refine wpAny_is_other (by rfl) (by intro e; cases e) ?_)
  | ((with_reducible refine trG ?_); refine isTrue_plain ?_)
  | with_reducible refine wpAny_truthy_bool ?_
  | with_reducible refine add_int ?_
  | with_reducible refine iadd_int ?_
  | with_reducible refine sub_int ?_
  | with_reducible refine lt_int ?_
  | with_reducible refine le_int ?_
  | with_reducible refine gt_int ?_
  | with_reducible refine eq_int ?_
  | with_reducible refine ne_int ?_
  | with_reducible refine splE ?_
  | ((with_reducible refine splG ?_); refine spliced_more ?_)
  | with_reducible refine Tuple_ ?_
  | with_reducible refine List_ ?_
  | ((with_reducible refine methC (pl := ?_) ?_ ?_); rotate_left; (focus rfl))
  | ((with_reducible refine callC ?_ ?_); (focus rfl))
  | ((with_reducible refine cwB1 ?_ ?_ ?_); (focus rfl); (focus rfl))
  | ((with_reducible refine cwT1 ?_ ?_ ?_); (focus rfl); (focus rfl))
  | ((with_reducible refine cwM1 ?_ ?_ ?_); (focus rfl); (focus rfl))
  | with_reducible refine Subscript_ ?_
  | ((with_reducible refine attrE ?_ ?_); (focus with_unfolding_all rfl))
  | (show wpAny _ _ (execs _ _) _ _ _; first | refine wpAny_execs_cons ?_ | refine wpAny_execs_nil ?_))
section
variable {prog : Program} {w : World} {A : Around} {E : Value → Shared → Prop} {K : Frag} {mg mb : Str → Option Value} {B : Heap} {L : Addr} {T T' : TM} {m : Str → Option Value} {O : OG} {s : Shared} {t : Tag} {f : Addr} {cdv : Value}

theorem pow2_ne (k : Nat) : (2 : Int) ^ ((k : Int)).toNat ≠ 0 := by
  rw [Int.toNat_natCast]
  exact Int.pow_ne_zero (by decide)
theorem pow2_room {a : Int} (k : Nat) (h : k < 1000) : Builtin.divisionGoesByPylong a ((2 : Int) ^ ((k : Int)).toNat) = false := by
  refine PyProof.noPylong_of_log2 ?_
  rw [Int.toNat_natCast, Int.natAbs_pow]
  show (2 ^ k).log2 < 9000
  rw [Nat.log2_two_pow]; omega

theorem lawSt5 {d l : Addr} {ws pv : List Value} {ks : List Int} {es : List (Int × Int)} {n : Nat} {v0 : Option Value} {Q : Flow → Shared → Prop} (W : Wd K mg mb B) (S : St B L T m O s) (hh : A.handled = none) (hen : nsIn K mainGlobals "enumerate" = some none)
    (hd : T d = some ((21, 0, 0), LsP ws)) (hI : IntsAre ws ks) (hk : ks.length = 14) (hn : T (L + 1) = some (cel (L + 1), CellP (some (.ref d)))) (hc : T (L + 5) = some (cel (L + 5), CellP v0))
    (hm : m "pairs" = some (.ref l)) (hl : T l = some ((23, 0, 0), LsP pv)) (hpl : PairL T pv es) (hin : InN n es) (hes : es.length ≤ 36)
    (h : ∀ D jv js T' s', PairL T' jv js → InN n js → js.length ≤ 36 → T' D = some ((24, 0, 0), LsP jv) → T' (L + 5) = some (cel (L + 5), CellP (some (.ref D))) → Kp (L + 5) T T' → St B L T' m O s' → Q .next s') :
    wpAny (model prog w) A (exec (lawSt 5) (lawE L f cdv)) Q E s := by
  have hpv := hpl.1
  refine asgN rfl (compE2 (t := (24, 0, 0)) (B := B) S rfl ?_)
  repeat walk_at "M"
  refine ldBuilS (v := .type "enumerate") W S hen rfl (by decide) ?_
  repeat walk_at "M"
  refine call_enumerate_list (S.list hl fun o ho => LsP.li ho) fun h₁ he hit hsz hk₁ => ?_
  have S₁ : St B L T m O { s with heap := h₁ } := S.keeps hk₁
  have hF : Free B L T [s.heap.objs.size + 1, s.heap.objs.size] := fun b hb => by
    have hb' : s.heap.objs.size ≤ b := by
      simp only [List.mem_cons, List.not_mem_nil, or_false] at hb
      rcases hb with rfl | rfl
      · exact Nat.le_succ _
      · exact Nat.le_refl _
    refine ⟨S.none_of hb', Nat.ne_of_gt (Nat.lt_of_lt_of_le S.ltL hb'), ?_⟩
    cases e : B.get? b with
    | none => rfl
    | some o => exact absurd (Heap.lt_size (S.keep _ _ e)) (Nat.not_lt.mpr hb')
  have hei : s.heap.objs.size + 1 ≠ s.heap.objs.size := Nat.succ_ne_self _
  generalize s.heap.objs.size + 1 = e at he hF hei ⊢
  generalize s.heap.objs.size = it at he hit hF hei ⊢
  refine wpAny_pyIter_enum he ?_
  refine ⟨⟨e, [e, it], T, m, O, rfl, S₁, hF, fun x hx => ?_, fun s' Q' hk hq => wpAny_pyIter_enum (hk e (by simp) _ he) hq, fun C D B₁ s₄ hB hD hF₁ kX S₄ => ?_⟩⟩
  · simp only [List.mem_cons, List.not_mem_nil, or_false] at hx
    rcases hx with rfl | rfl
    · exact ⟨_, he⟩
    · obtain ⟨o, ho, _⟩ := hit; exact ⟨o, ho⟩
  have W₁ := W.keeps hB
  refine loopEnum (env := cEnv _ _ C (lawE L f cdv)) (vs := pv) (l := l) (tl := (23, 0, 0)) (P := LsP pv) (e := e) (it := it) hh rfl rfl rfl (fun i T' m' ys => Sub T T' ∧ ys.length ≤ i ∧ ∃ js, PairL T' ys js ∧ InN n js)
    (by omega) (fun i T' m' ys hI => hI.2.1) (fun i T' m' ys hI => hI.1 _ _ hl) (fun o ho => LsP.li ho) hei
    (fun i u v T' m' ys B₂ s₅ hv hI hD' hB₂ S₅ => ?_) (fun T' m' ys s₅ hI hD' S₅ => ?_) S₄ hF₁ (kX e (by simp) _ he) (hit.at fun o x => kX it (by simp) o x) ⟨.new hD, Nat.le_refl _, [], .nil, .nil⟩ upd_self
  · obtain ⟨hs, hys, js, hp, hjn⟩ := hI
    have hi : i < 36 := by
      have : i < pv.length := by
        rcases Nat.lt_or_ge i pv.length with z | z
        · exact z
        · rw [List.getElem?_eq_none z] at hv; cases hv
      omega
    have W₂ := W₁.keeps hB₂
    obtain ⟨u2, hu2⟩ := getInt hI (i := 2) (by omega)
    obtain ⟨u3, hu3⟩ := getInt hI (i := 3) (by omega)
    obtain ⟨u4, hu4⟩ := getInt hI (i := 4) (by omega)
    have fin : ∀ (b : Bool) (tk : Nat), (fun ok s₃ => if ok = true then wpAny (model prog w) A (eval (.Name "pair" ⟨578, 14, 578, 18⟩) (cEnv
        { kind := .function, names := [(".0", .local), ("k", .local), ("pair", .local), ("numbers", .free)], isGenerator := false, isCoroutine := false, more := [] } (lawE L f cdv).cells C (lawE L f cdv)))
        (fun v s₄ => ∃ T'' m', St B₂ C T'' m' O s₄ ∧ T'' D = some ((24, 0, 0), LsP ys) ∧ Sub T (upd T'' D ((24, 0, 0), LsP (ys ++ [v]))) ∧ (ys ++ [v]).length ≤ i + 1 ∧ ∃ js, PairL (upd T'' D ((24, 0, 0), LsP (ys ++ [v]))) (ys ++ [v]) js ∧ InN n js) NoR s₃
        else ∃ T'' m', St B₂ C T'' m' O s₃ ∧ T'' D = some ((24, 0, 0), LsP ys) ∧ Sub T T'' ∧ ys.length ≤ i + 1 ∧ ∃ js, PairL T'' ys js ∧ InN n js) b { s₅ with toks := tk } := fun b tk => by
      cases b with
      | false => exact ⟨T', _, S₅, hD', hs, by omega, js, hp, hjn⟩
      | true =>
        dsimp only
        rw [if_pos rfl]
        have S₆ : St B₂ C T' (fs (fs m' "k" (.int (i : Int) u)) "pair" v) O { s₅ with toks := tk } := S₅
        refine ldS S₆ fs_eq ?_
        have h7 : ∀ x c, T' x = some c → c.1.1 = 7 → upd T' D ((24, 0, 0), LsP (ys ++ [v])) x = some c := fun x c e z => upd_tag e hD' (fun q => by rw [q] at z; cases z)
        obtain ⟨p, hpe, hps⟩ := hp.snocV (T' := upd T' D ((24, 0, 0), LsP (ys ++ [v]))) h7 ((hpl.mono fun x c e _ => hs _ _ e).mono h7) hv
        exact ⟨T', _, S₆, hD', fun a c e => (upd_ne (ne_of_none e hD)).trans (hs _ _ e), by rw [List.length_append, List.length_singleton]; omega, js ++ [p], hps, hjn.snoc (hin p (List.mem_of_getElem? hpe))⟩
    have hn' := hs _ _ hn
    have hd' := hs _ _ hd
    refine tests_one ?_
    repeat walk_at "M"
    refine ldCellS S₅ (c := L + 1) rfl hn' ?_
    repeat walk_at "M"
    refine subListS S₅ hd' (fun o ho => LsP.li ho) (by decide) (by decide) hu2 ?_
    repeat walk_at "M"
    refine PyProof.Rows.pow_int_small (Int.natCast_nonneg i) (by omega) (by decide) ?_
    refine PyProof.Rows.floordiv_int (pow2_ne i) ?_ (.inl (pow2_room i (by omega)))
    repeat walk_at "M"
    refine PyProof.Rows.mod_int (by decide) ?_
    repeat walk_at "M"
    split
    · repeat walk_at "M"
      refine ldCellS S₅ (c := L + 1) rfl hn' ?_
      repeat walk_at "M"
      refine subListS S₅ hd' (fun o ho => LsP.li ho) (by decide) (by decide) hu4 ?_
      repeat walk_at "M"
      refine PyProof.Rows.mod_int (by decide) ?_
      repeat walk_at "M"
      split
      · repeat walk_at "M"
        rw [if_pos rfl]
        refine isTrue_and_nil ?_
        exact fin true _
      · repeat walk_at "M"
        refine ldCellS S₅ (c := L + 1) rfl hn' ?_
        repeat walk_at "M"
        refine subListS S₅ hd' (fun o ho => LsP.li ho) (by decide) (by decide) hu3 ?_
        repeat walk_at "M"
        refine PyProof.Rows.pow_int_small (Int.natCast_nonneg i) (by omega) (by decide) ?_
        refine PyProof.Rows.floordiv_int (pow2_ne i) ?_ (.inl (pow2_room i (by omega)))
        repeat walk_at "M"
        refine PyProof.Rows.mod_int (by decide) ?_
        repeat walk_at "M"
        split
        · repeat walk_at "M"
          rw [if_pos rfl]
          refine isTrue_and_nil ?_
          exact fin true _
        · repeat walk_at "M"
          exact fin false _
    · exact fin false _
  · obtain ⟨hs, hys, js, hp, hjn⟩ := hI
    refine ⟨rfl, T', m', O, S₅, ⟨_, hD'⟩, fun s₆ S₆ => stCellS (c := L + 5) S₆ rfl (hs _ _ hc) fun s₇ S₇ => ?_⟩
    have hDc : D ≠ L + 5 := ne_of_tag hD' (hs _ _ hc) (by intro e; cases e)
    exact h D ys js _ s₇ (hp.mono fun x c e z => upd_tag e (hs _ _ hc) (fun q => by rw [q] at z; cases z)) hjn (by rw [← hp.1]; omega) ((upd_ne hDc).trans hD') upd_self (.put hs) S₇
end
end Mine
end
section
open PySem PySem.W PySem.Calls PyProof.Rows
set_option Elab.async false
set_option maxRecDepth 100000
namespace Mine
-- "L": what a name holds
local macro_rules | `(tactic| walk_at "L") => `(tactic| first
  | assumption
  | exact fs_eq
  | (refine fs_ne (by decide) ?_; walk_at "L")
  | rfl)
-- "M": the next step of the walk, where it is the same everywhere
local macro_rules | `(tactic| walk_at "M") => `(tactic| first
  | ((with_reducible refine loadG ?_); refine ldnS (by assumption) (by walk_at "L") ?_)
  | ((with_reducible refine stG ?_); refine stS (by assumption) ?_; intro _ _)
  | ((with_reducible refine nameG ?_); refine ldS (by assumption) (by walk_at "L") ?_)
  | with_reducible refine wpAny_execs_cons ?_
  | with_reducible refine wpAny_execs_nil ?_
  | with_reducible refine wpAny_BinOp ?_
  | with_reducible refine wpAny_Constant_int ?_
  | with_reducible refine wpAny_Constant_str ?_
  | with_reducible refine Constant_none ?_
  | with_reducible refine Constant_bool ?_
  | with_reducible refine wpAny_Compare1 ?_
  | with_reducible refine wpAny_isTrue_Compare1 ?_
  | with_reducible refine isTrue_not ?_
  | with_reducible refine isTrue_and_nil ?_
  | with_reducible refine isTrue_or_nil ?_
  | with_reducible refine isTrue_and ?_
  | with_reducible refine isTrue_or ?_
  | with_reducible refine IfExp_ ?_
  | with_reducible refine wpAny_If ?_
  | ((with_reducible refine asgN ?_ ?_); (focus rfl))
  | ((with_reducible refine asgS ?_ ?_); (focus rfl))
  | ((with_reducible refine asgA ?_ ?_); (focus rfl))
  | ((with_reducible refine exprE ?_ ?_ ?_); (focus rfl); (focus rfl))
  | with_reducible refine wpAny_AugAssign_Name ?_
  | with_reducible refine wpAny_Return_some ?_
  | with_reducible refine wpAny_Break ?_
  | with_reducible refine wpAny_Continue ?_
  | ((with_reducible refine isG ?_); refine wpAny_is_other (by rfl) (by intro e; cases e) ?_)
  | ((with_reducible refine trG ?_); refine isTrue_plain ?_)
  | with_reducible refine wpAny_truthy_bool ?_
  | with_reducible refine add_int ?_
  | with_reducible refine iadd_int ?_
  | with_reducible refine sub_int ?_
  | with_reducible refine lt_int ?_
  | with_reducible refine le_int ?_
  | with_reducible refine gt_int ?_
  | with_reducible refine eq_int ?_
  | with_reducible refine ne_int ?_
  | with_reducible refine splE ?_
  | ((with_reducible refine splG ?_); refine spliced_more ?_)
  | with_reducible refine Tuple_ ?_
  | with_reducible refine List_ ?_
  | ((with_reducible refine methC (pl := ?_) ?_ ?_); rotate_left; (focus rfl))
  | ((with_reducible refine callC ?_ ?_); (focus rfl))
  | ((with_reducible refine cwB1 ?_ ?_ ?_); (focus rfl); (focus rfl))
  | ((with_reducible refine cwT1 ?_ ?_ ?_); (focus rfl); (focus rfl))
  | ((with_reducible refine cwM1 ?_ ?_ ?_); (focus rfl); (focus rfl))
  | with_reducible refine Subscript_ ?_
  | ((with_reducible refine attrE ?_ ?_); (focus with_unfolding_all rfl))
  | (show wpAny _ _ (execs _ _) _ _ _; first | refine wpAny_execs_cons ?_ | refine wpAny_execs_nil ?_))
/-! ## law: the graph -/
structure FnG (K : Frag) (i : Nat) (name : Str) (dV : Value) (fn : Addr) : Prop where
  fd : ∃ cdv, FnIs K fn (top i) name dV cdv
  gl : nsIn K mainGlobals name = some (some (.ref fn))
  kp : keepIn K (.ref fn) = true
structure LawK (K : Frag) (P : Addr) : Prop where
  PK : PowK K P
  H8 : ClsK K 853
  ini8 : Meth K 853 "__init__" 654 (meth 18 0) "DiGraph.__init__" (.ref 647)
  df8 : ∃ oc od n sl, K.lookup 647 = some ⟨oc, od, .seq #[.none] n, sl⟩
  an8 : Meth K 853 "add_nodes_from" 698 (meth 18 5) "DiGraph.add_nodes_from" .none
  ae8 : Meth K 853 "add_edges_from" 726 (meth 18 9) "DiGraph.add_edges_from" .none
  A6 : AdjK K 624 false
  A8 : AdjK K 853 true
  S6 : SubK K 624 419
  S8 : SubK K 853 419
  dg : nsIn K mainGlobals "DiGraph" = some (some (.ref 853))
  kd : keepIn K (.ref 853) = true
  MD : ∃ fd, Meth K 624 "is_directed" fd (meth 14 34) "Graph.is_directed" .none
  rg : nsIn K mainGlobals "range" = some none
  en : nsIn K mainGlobals "enumerate" = some none
  so : nsIn K mainGlobals "sorted" = some none
  ve : nsIn K mainGlobals "ValueError" = some none
  fNum : ∃ fn, FnG K 20 "_law_numbers" .none fn
  fSte : ∃ fn, FnG K 21 "_law_steps" .none fn
  fSam : ∃ fn, FnG K 22 "_law_same" .none fn
  fRef : ∃ fn, FnG K 23 "_law_refused" .none fn
  pw : nsIn K mainGlobals "power" = some (some (.ref 639))
  kpw : keepIn K (.ref 639) = true
/-- the class, told by the direction -/
def ClsOf (C : Addr) (dir : Bool) : Prop := (dir = true ∧ C = 853) ∨ (dir = false ∧ C = 624)
/-- two places are joined -/
def joR (dir : Bool) (js : List (Int × Int)) (a b : Int) : Prop := (a, b) ∈ js ∨ (dir = false ∧ (b, a) ∈ js)
def nmI (ks : List Int) (p : Int × Int) : Int × Int := (nmAt ks p.1.toNat, nmAt ks p.2.toNat)
/-- two names are joined -/
def gR (ks : List Int) (dir : Bool) (js : List (Int × Int)) (p q : Int) : Prop := ∃ a b, joR dir js a b ∧ p = nmAt ks a.toNat ∧ q = nmAt ks b.toNat

theorem nmL_get {ks : List Int} {n i : Nat} (h : i < n) : (nmL ks n)[i]? = some (nmAt ks i) := by
  unfold nmL
  rw [List.getElem?_map, List.getElem?_range h]; rfl
theorem nmL_len {ks : List Int} {n : Nat} : (nmL ks n).length = n := by unfold nmL; rw [List.length_map, List.length_range]
theorem nmAt_inj {ks : List Int} {i j : Nat} (hi : i < 8) (hj : j < 8) (h : nmAt ks i = nmAt ks j) : i = j := by
  unfold nmAt at h
  generalize (ks.getD (8 + i) 0).fmod 1000 = x at h
  generalize (ks.getD (8 + j) 0).fmod 1000 = y at h
  omega
theorem nmL_nodup {ks : List Int} {n : Nat} (hn : n ≤ 6) : (nmL ks n).Nodup := by
  unfold nmL
  refine List.pairwise_map.mpr (List.Pairwise.imp_of_mem (fun {a b} ha hb hne h => ?_) (List.nodup_range (n := n)))
  rw [List.mem_range] at ha hb
  exact hne (nmAt_inj (by omega) (by omega) h)
theorem nmL_mem {ks : List Int} {n : Nat} {z : Int} (h0 : 0 ≤ z) (h1 : z < (n : Int)) : nmAt ks z.toNat ∈ nmL ks n := List.mem_of_getElem? (nmL_get (by omega))
section
variable {prog : Program} {w : World} {A : Around} {E : Value → Shared → Prop} {K : Frag} {mg mb : Str → Option Value} {B : Heap} {L : Addr} {T T' : TM} {m : Str → Option Value} {O : OG} {s : Shared} {t : Tag} {f P : Addr} {cdv : Value}

theorem lawSt6 {dir : Bool} {v0 : Option Value} {Q : Flow → Shared → Prop} (W : Wd K mg mb B) (S : St B L T m O s) (hroom : A.depth < 600) (LK : LawK K P) (hno : NoG 1 T)
    (hdr : T (L + 3) = some (cel (L + 3), CellP (some (.bool dir)))) (hc : T (L + 6) = some (cel (L + 6), CellP v0))
    (h : ∀ C x T' s', ClsOf C dir → Gr prog w T' 1 C x dir false [] (fun _ _ => False) → T' (L + 6) = some (cel (L + 6), CellP (some (.ref x))) → Kp (L + 6) T T' → St B L T' m O s' → Q .next s') :
    wpAny (model prog w) A (exec (lawSt 6) (lawE L f cdv)) Q E s := by
  refine asgN rfl (IfExp_ (isTrue_plain (ldCellS S (c := L + 3) rfl hdr (wpAny_truthy_bool ?_))))
  have fin : ∀ C x T' s', ClsOf C dir → Sub T T' → Gr prog w T' 1 C x dir false [] (fun _ _ => False) → St B L T' m O s' → wpAny (model prog w) A (storeName (lawE L f cdv) "graph" (.ref x)) (fun _ => Q .next) E s' := fun C x T₁ s₁ hC hs G S₁ => by
    refine stCellS (c := L + 6) S₁ rfl (hs _ _ hc) fun s₂ S₂ => ?_
    exact h C x _ s₂ hC (G.at fun a c e z => (upd_ne (ne_of_tag e (hs _ _ hc) (fun q => by rcases z with z | z <;> (rw [q] at z; cases z)))).trans e) upd_self (.put hs) S₂
  cases dir with
  | true =>
    rw [if_pos rfl]
    repeat walk_at "M"
    refine ldGlobS W S LK.dg ?_
    refine cwF0 W S LK.kd ?_
    refine newD 1 W S (by omega) LK.H8 LK.ini8 LK.df8 (by decide) hno fun x T₁ s₁ hs G S₁ => ?_
    exact fin 853 x T₁ s₁ (.inl ⟨rfl, rfl⟩) hs G S₁
  | false =>
    rw [if_neg (by decide)]
    repeat walk_at "M"
    refine ldGlobS W S LK.PK.gr ?_
    refine cwF0 W S LK.PK.kg ?_
    refine newG 1 W S (by omega) LK.PK.H6 LK.PK.ini LK.PK.df (by decide) hno fun x T₁ s₁ hs G S₁ => ?_
    exact fin 624 x T₁ s₁ (.inr ⟨rfl, rfl⟩) hs G S₁

theorem lawSt7 {C x D : Addr} {dir : Bool} {nv : List Value} {ns : List Int} {Q : Flow → Shared → Prop} (W : Wd K mg mb B) (S : St B L T m O s) (hh : A.handled = none) (hroom : A.depth < 600) (LK : LawK K P)
    (hC : ClsOf C dir) (G : Gr prog w T 1 C x dir false [] (fun _ _ => False)) (hg : T (L + 6) = some (cel (L + 6), CellP (some (.ref x)))) (hn : T (L + 4) = some (cel (L + 4), CellP (some (.ref D)))) (hD : T D = some ((22, 0, 0), LsP nv)) (hI : IntsAre nv ns) (hnd : ns.Nodup) (hl : ns.length ≤ 6)
    (h : ∀ T' s', Keep 1 T T' → Gr prog w T' 1 C x dir false ns (fun _ _ => False) → St B L T' m O s' → Q .next s') :
    wpAny (model prog w) A (exec (lawSt 7) (lawE L f cdv)) Q E s := by
  refine exprE rfl rfl ?_
  walk_at "M"
  refine ldCellS S (c := L + 6) rfl hg ?_
  obtain ⟨dx, k, fx, dn, da, dp, nk, ak, pk, en, ea, ep, Gc⟩ := id G
  rcases hC with ⟨rfl, rfl⟩ | ⟨rfl, rfl⟩
  · refine mthS W S LK.H8 Gc.I LK.an8 (Gc.fO _ (by decide)) ?_
    refine cwF LK.an8.hk rfl rfl ?_
    repeat walk_at "M"
    refine ldCellS S (c := L + 4) rfl hn ?_
    repeat walk_at "M"
    refine ⟨W.X.keeps S.keep, ?_⟩
    exact addNodesD W S (by omega) hh LK.H8 LK.an8 (by decide) G (ISrc.list hD (fun o ho => LsP.li ho) hI (by decide)) hnd hl fun T₁ s₁ k₁ G₁ S₁ => h T₁ s₁ k₁ G₁ S₁
  · refine mthS W S LK.PK.H6 Gc.I LK.PK.an (Gc.fO _ (by decide)) ?_
    refine cwF LK.PK.an.hk rfl rfl ?_
    repeat walk_at "M"
    refine ldCellS S (c := L + 4) rfl hn ?_
    repeat walk_at "M"
    refine ⟨W.X.keeps S.keep, ?_⟩
    exact addNodesG W S (by omega) hh LK.PK.H6 LK.PK.an (by decide) G (ISrc.list hD (fun o ho => LsP.li ho) hI (by decide)) hnd hl fun T₁ s₁ k₁ G₁ S₁ => h T₁ s₁ k₁ G₁ S₁

theorem getName {nv : List Value} {ks : List Int} {n : Nat} (hI : IntsAre nv (nmL ks n)) {z : Int} (h0 : 0 ≤ z) (h1 : z < (n : Int)) : ∃ u, nv[z.toNat]? = some (.int (nmAt ks z.toNat) u) := by
  have h' : z.toNat < nv.length := by rw [hI.length, nmL_len]; omega
  obtain ⟨k, u, e, q⟩ := IntsAre.at hI z.toNat _ (List.getElem?_eq_getElem h')
  rw [nmL_get (by omega)] at q
  cases q
  exact ⟨u, by rw [List.getElem?_eq_getElem h', e]⟩

theorem lawSt8 {C x D J : Addr} {dir : Bool} {nv jv : List Value} {ks : List Int} {js : List (Int × Int)} {n : Nat} {Q : Flow → Shared → Prop} (W : Wd K mg mb B) (S : St B L T m O s) (hh : A.handled = none) (hroom : A.depth < 600) (LK : LawK K P)
    (hC : ClsOf C dir) (G : Gr prog w T 1 C x dir false (nmL ks n) (fun _ _ => False)) (hg : T (L + 6) = some (cel (L + 6), CellP (some (.ref x)))) (hn : T (L + 4) = some (cel (L + 4), CellP (some (.ref D)))) (hD : T D = some ((22, 0, 0), LsP nv)) (hI : IntsAre nv (nmL ks n)) (hn6 : n ≤ 6)
    (hj : T (L + 5) = some (cel (L + 5), CellP (some (.ref J)))) (hJ : T J = some ((24, 0, 0), LsP jv)) (hp : PairL T jv js) (hin : InN n js) (hjl : js.length ≤ 36)
    (h : ∀ T' s', Keep 1 T T' → Gr prog w T' 1 C x dir false (nmL ks n) (gR ks dir js) → St B L T' m O s' → Q .next s') :
    wpAny (model prog w) A (exec (lawSt 8) (lawE L f cdv)) Q E s := by
  have hpl := hp.1
  refine exprE rfl rfl ?_
  walk_at "M"
  refine ldCellS S (c := L + 6) rfl hg ?_
  have args : ∀ {Q' : Value → Shared → Prop} {E' : Value → Shared → Prop} , (∀ D' ev T₁ s₁, T D' = none → Sub T T₁ → T₁ D' = some ((20, 0, 0), LsP ev) → PairL T₁ ev (js.map (nmI ks)) → St B L T₁ m O s₁ → Q' (.ref D') s₁) →
      wpAny (model prog w) A (eval (.ListComp (.Tuple [.Subscript (.Name "names" ⟨581, 27, 581, 32⟩) (.Name "a" ⟨581, 33, 581, 34⟩) ⟨581, 27, 581, 35⟩, .Subscript (.Name "names" ⟨581, 37, 581, 42⟩) (.Name "b" ⟨581, 43, 581, 44⟩) ⟨581, 37, 581, 45⟩] 0 ⟨581, 26, 581, 46⟩)
        [⟨.Tuple [.Name "a" ⟨581, 51, 581, 52⟩, .Name "b" ⟨581, 54, 581, 55⟩] 0 ⟨581, 51, 581, 55⟩, .Name "joined" ⟨581, 59, 581, 65⟩, [], 0⟩]
        { kind := .function, names := [(".0", .local), ("a", .local), ("b", .local), ("names", .free)], isGenerator := false, isCoroutine := false, more := [] } ⟨581, 25, 581, 66⟩) (lawE L f cdv)) Q' E' s := fun {Q' E'} hq => by
    refine compE2 (t := (20, 0, 0)) (B := B) S rfl ?_
    refine ldCellS S (c := L + 5) rfl hj ?_
    refine pyIterList S hJ (fun o ho => LsP.li ho) fun I s₂ S₂ hF hit => ?_
    refine ⟨⟨I, [I], T, m, O, rfl, S₂, hF, fun b hb => let ⟨o, ho, _⟩ := hit; ⟨o, by rw [List.mem_singleton.mp hb]; exact ho⟩, fun s' Q' hk hq => wpAny_pyIter_listiter (hit.at fun o x => hk I (by simp) o x) hq, fun C' D' B₁ s₄ hB hD' hF₁ kX S₄ => ?_⟩⟩
    refine loopPairs (env := cEnv _ _ C' (lawE L f cdv)) (vs := jv) (es := js) (l := J) (tl := (24, 0, 0)) (P := LsP jv) hh rfl rfl rfl (fun i T' m' ys => Sub T T' ∧ ys.length = i ∧ PairL T' ys ((js.take i).map (nmI ks)))
      (by omega) (fun i T' m' ys hI => hI.2.1) (fun i T' m' ys hI => ⟨hI.1 _ _ hJ, hp.mono fun x c e _ => hI.1 _ _ e⟩) (fun o ho => LsP.li ho)
      (fun i a b ua ub T' m' ys B₂ s₅ he hI' hDD hB₂ S₅ => ?_) (fun T' m' ys s₅ hI' hDD S₅ => ?_) S₄ hF₁ (hit.at fun o x => kX I (by simp) o x) ⟨.new hD', rfl, .nil⟩ upd_self
    · obtain ⟨hs, hys, hpp⟩ := hI'
      have hab := hin _ (List.mem_of_getElem? he)
      obtain ⟨va, hva⟩ := getName hI hab.1.1 hab.1.2
      obtain ⟨vb, hvb⟩ := getName hI hab.2.1 hab.2.2
      have q1 := hs _ _ hn
      have q2 := hs _ _ hD
      dsimp only at hva hvb hab
      refine tests_nil ?_
      rw [if_pos rfl]
      repeat walk_at "M"
      refine ldCellS S₅ (c := L + 4) rfl q1 ?_
      repeat walk_at "M"
      refine subListS S₅ q2 (fun o ho => LsP.li ho) hab.1.1 (by omega) hva ?_
      repeat walk_at "M"
      refine ldCellS S₅ (c := L + 4) rfl q1 ?_
      repeat walk_at "M"
      refine subListS S₅ q2 (fun o ho => LsP.li ho) hab.2.1 (by omega) hvb ?_
      repeat walk_at "M"
      refine newTupleS S₅ (7, 0, 0) (fun tt s₁₀ ht S₁₀ => ?_) (by size_fits)
      have hDt : D' ≠ tt := ne_of_none hDD ht
      have e1 : (js.take (i + 1)).map (nmI ks) = (js.take i).map (nmI ks) ++ [(nmAt ks a.toNat, nmAt ks b.toNat)] := by rw [List.take_add_one, he, List.map_append]; rfl
      refine ⟨_, _, S₁₀, upd_new hDD ht, fun y c e => ?_, by rw [List.length_append, hys]; rfl, ?_⟩
      · rw [upd_ne (ne_of_none e hD'), upd_ne (ne_of_none (hs _ _ e) ht)]; exact hs _ _ e
      · rw [e1]
        refine hpp.snoc (n := 0) (ua := va) (ub := vb) (fun y c e h7 => ?_) ((upd_ne (Ne.symm hDt)).trans upd_self)
        have hne : y ≠ D' := ne_of_tag e hDD (fun q => by rw [q] at h7; cases h7)
        rw [upd_ne hne, upd_ne (ne_of_none e ht)]; exact e
    · obtain ⟨hs, hys, hpp⟩ := hI'
      rw [hpl, List.take_length] at hpp
      exact ⟨rfl, T', m', O, S₅, ⟨_, hDD⟩, fun s₆ S₆ => hq D' ys T' s₆ hD' hs hDD hpp S₆⟩
  have hmem : ∀ p ∈ js.map (nmI ks), p.1 ∈ nmL ks n ∧ p.2 ∈ nmL ks n := fun p hp' => by
    obtain ⟨q, hq, rfl⟩ := List.mem_map.mp hp'
    have := hin q hq
    exact ⟨nmL_mem this.1.1 this.1.2, nmL_mem this.2.1 this.2.2⟩
  obtain ⟨dx, k, fx, dn, da, dp, nk, ak, pk, en, ea, ep, Gc⟩ := id G
  rcases hC with ⟨rfl, rfl⟩ | ⟨rfl, rfl⟩
  · refine mthS W S LK.H8 Gc.I LK.ae8 (Gc.fO _ (by decide)) ?_
    refine cwF LK.ae8.hk rfl rfl ?_
    repeat walk_at "M"
    refine args fun D' ev T₁ s₁ hD' hs hDD hpp S₁ => ?_
    repeat walk_at "M"
    refine ⟨W.X.keeps S₁.keep, ?_⟩
    refine addEdgesD W S₁ (by omega) hh LK.PK.ln LK.H8 LK.ae8 (by decide) (G.sub hs) hDD rfl (fun o ho => LsP.li ho) hpp hmem fun T₂ s₂ k₂ G₂ S₂ => ?_
    refine h T₂ s₂ ((Keep.of_sub hs).trans k₂) (G₂.congr fun p q => ?_) S₂
    unfold gR joR
    constructor
    · rintro (h | h)
      · exact h.elim
      · obtain ⟨⟨a, b⟩, hq, e⟩ := List.mem_map.mp h
        cases e
        exact ⟨a, b, .inl hq, rfl, rfl⟩
    · rintro ⟨a, b, h | h, rfl, rfl⟩
      · exact .inr (List.mem_map.mpr ⟨(a, b), h, rfl⟩)
      · exact absurd h.1 (by decide)
  · refine mthS W S LK.PK.H6 Gc.I LK.PK.ae (Gc.fO _ (by decide)) ?_
    refine cwF LK.PK.ae.hk rfl rfl ?_
    repeat walk_at "M"
    refine args fun D' ev T₁ s₁ hD' hs hDD hpp S₁ => ?_
    repeat walk_at "M"
    refine ⟨W.X.keeps S₁.keep, ?_⟩
    refine addEdgesG W S₁ (by omega) hh LK.PK.ln LK.PK.H6 LK.PK.ae (by decide) (G.sub hs) hDD rfl (fun o ho => LsP.li ho) hpp hmem fun T₂ s₂ k₂ G₂ S₂ => ?_
    refine h T₂ s₂ ((Keep.of_sub hs).trans k₂) (G₂.congr fun p q => ?_) S₂
    unfold gR joR
    constructor
    · rintro (h | h | h)
      · exact h.elim
      · obtain ⟨⟨a, b⟩, hq, e⟩ := List.mem_map.mp h
        cases e
        exact ⟨a, b, .inl hq, rfl, rfl⟩
      · obtain ⟨⟨a, b⟩, hq, e⟩ := List.mem_map.mp h
        cases e
        exact ⟨b, a, .inr ⟨rfl, hq⟩, rfl, rfl⟩
    · rintro ⟨a, b, h | h, rfl, rfl⟩
      · exact .inr (.inl (List.mem_map.mpr ⟨(a, b), h, rfl⟩))
      · exact .inr (.inr (List.mem_map.mpr ⟨(b, a), h.2, rfl⟩))
end
end Mine
end
section
open PySem PySem.W PySem.Calls PyProof.Rows
set_option Elab.async false
set_option maxRecDepth 100000
namespace Mine
-- "L": what a name holds
local macro_rules | `(tactic| walk_at "L") => `(tactic| first
  | assumption
  | exact fs_eq
  | (refine fs_ne (by decide) ?_; walk_at "L")
  | rfl)
-- "M": the next step of the walk, where it is the same everywhere
local macro_rules | `(tactic| walk_at "M") => `(tactic| first
  | ((with_reducible refine loadG ?_); refine ldnS (by assumption) (by walk_at "L") ?_)
  | ((with_reducible refine stG ?_); refine stS (by assumption) ?_; intro _ _)
  | ((with_reducible refine nameG ?_); refine ldS (by assumption) (by walk_at "L") ?_)
  | with_reducible refine wpAny_execs_cons ?_
  | with_reducible refine wpAny_execs_nil ?_
  | with_reducible refine wpAny_BinOp ?_
  | with_reducible refine wpAny_Constant_int ?_
  | with_reducible refine wpAny_Constant_str ?_
  | with_reducible refine Constant_none ?_
  | with_reducible refine Constant_bool ?_
  | with_reducible refine wpAny_Compare1 ?_
  | with_reducible refine wpAny_isTrue_Compare1 ?_
  | with_reducible refine isTrue_not ?_
  | with_reducible refine isTrue_and_nil ?_
  | with_reducible refine isTrue_or_nil ?_
  | with_reducible refine isTrue_and ?_
  | with_reducible refine isTrue_or ?_
  | with_reducible refine IfExp_ ?_
  | with_reducible refine wpAny_If ?_
  | ((with_reducible refine asgN ?_ ?_); (focus rfl))
  | ((with_reducible refine asgS ?_ ?_); (focus rfl))
  | ((with_reducible refine asgA ?_ ?_); (focus rfl))
  | ((with_reducible refine exprE ?_ ?_ ?_); (focus rfl); (focus rfl))
  | with_reducible refine wpAny_AugAssign_Name ?_
  | with_reducible refine wpAny_Return_some ?_
  | with_reducible refine wpAny_Break ?_
  | with_reducible refine wpAny_Continue ?_
  | ((with_reducible refine isG ?_); refine wpAny_is_other (by rfl) (by intro e; cases e) ?_)
  | ((with_reducible refine trG ?_); refine isTrue_plain ?_)
  | with_reducible refine wpAny_truthy_bool ?_
  | with_reducible refine add_int ?_
  | with_reducible refine iadd_int ?_
  | with_reducible refine sub_int ?_
  | with_reducible refine lt_int ?_
  | with_reducible refine le_int ?_
  | with_reducible refine gt_int ?_
  | with_reducible refine eq_int ?_
  | with_reducible refine ne_int ?_
  | with_reducible refine splE ?_
  | ((with_reducible refine splG ?_); refine spliced_more ?_)
  | with_reducible refine Tuple_ ?_
  | with_reducible refine List_ ?_
  | ((with_reducible refine methC (pl := ?_) ?_ ?_); rotate_left; (focus rfl))
  | ((with_reducible refine callC ?_ ?_); (focus rfl))
  | ((with_reducible refine cwB1 ?_ ?_ ?_); (focus rfl); (focus rfl))
  | ((with_reducible refine cwT1 ?_ ?_ ?_); (focus rfl); (focus rfl))
  | ((with_reducible refine cwM1 ?_ ?_ ?_); (focus rfl); (focus rfl))
  | with_reducible refine Subscript_ ?_
  | ((with_reducible refine attrE ?_ ?_); (focus with_unfolding_all rfl))
  | (show wpAny _ _ (execs _ _) _ _ _; first | refine wpAny_execs_cons ?_ | refine wpAny_execs_nil ?_))
section
variable {prog : Program} {w : World} {A : Around} {E : Value → Shared → Prop} {K : Frag} {mg mb : Str → Option Value} {B : Heap} {L : Addr} {T T' : TM} {m : Str → Option Value} {O : OG} {s : Shared} {t : Tag} {f P : Addr} {cdv : Value}

theorem tupAt {x y : Addr} {a b c d : Int} {ta tb tc td : Tok} {t1 t2 : Tag} (S : St B L T m O s) (hx : T x = some (t1, TupP [.int a ta, .int b tb])) (hy : T y = some (t2, TupP [.int c tc, .int d td])) (hne : x ≠ y) (hu : A.units < cLine) :
    PySem.SeqAt.EqAt A s (.ref x) (.ref y) (a == c && b == d) := by
  have h := PySem.SeqAt.RcAt.tuples (A := A) (e := fun j => if j = 0 then a == c else b == d) (S.tup hx) (S.tup hy) hu (fun j h1 h2 => by
    simp at h1
    rcases j with _ | _ | j
    · exact PySem.SeqAt.EqAt.int_int a ta c tc
    · exact PySem.SeqAt.EqAt.int_int b tb d td
    · omega)
  have e : ((List.range (min ([Value.int a ta, Value.int b tb].toArray.size) ([Value.int c tc, Value.int d td].toArray.size))).all (fun j => if j = 0 then a == c else b == d) && [Value.int a ta, Value.int b tb].toArray.size == [Value.int c tc, Value.int d td].toArray.size) = (a == c && b == d) := by
    simp [List.range_succ]
  rw [e] at h
  exact PySem.SeqAt.EqAt.of_refs hne h

open Classical in
/-- a pair in a list of pairs -/
theorem inPairsS {J tt : Addr} {tj t2 : Tag} {jv : List Value} {js : List (Int × Int)} {a b : Int} {ta tb : Tok} {Q : Value → Shared → Prop} (S : St B L T m O s) (hJ : T J = some (tj, LsP jv)) (hp : PairL T jv js) (ht : T tt = some (t2, TupP [.int a ta, .int b tb])) (h7 : t2.1 ≠ 7) (hu : A.units + 1 < cLine)
    (h : ∀ r : Bool, (r = true ↔ (a, b) ∈ js) → Q (.bool r) s) : wpAny (model prog w) A (compareOp .In (.ref tt) (.ref J)) Q E s := by
  refine PySem.SeqAt.in_listAt (fun y => decide (∃ i : Nat, jv[i]? = some y ∧ js[i]? = some (a, b))) (S.list hJ fun o ho => LsP.li ho) (fun y hy => ?_) (h _ ?_)
  · obtain ⟨i, hi⟩ := List.mem_iff_getElem?.mp (show y ∈ jv by simpa using hy)
    obtain ⟨a', b', t', ua, ub, n, he, rfl, ht'⟩ := hp.2 i y hi
    have hne : t' ≠ tt := ne_of_tag ht' ht (fun q => h7 (congrArg Prod.fst q).symm)
    have hq := tupAt (A := A.in1) S ht' ht hne (by show A.units + 1 < cLine; exact hu)
    have e : decide (∃ i : Nat, jv[i]? = some (Value.ref t') ∧ js[i]? = some (a, b)) = (a' == a && b' == b) := by
      rw [Bool.eq_iff_iff, decide_eq_true_iff, Bool.and_eq_true, beq_iff_eq, beq_iff_eq]
      constructor
      · rintro ⟨j, h1, h2⟩
        obtain ⟨a2, b2, t2', ua2, ub2, n2, he2, hv2, ht2⟩ := hp.2 j _ h1
        rw [h2] at he2
        cases he2
        cases hv2
        obtain ⟨o, ho, hop⟩ := S.obj ht'
        obtain ⟨o2, ho2, hop2⟩ := S.obj ht2
        rw [ho] at ho2; cases ho2
        obtain ⟨n1, e1⟩ := hop
        obtain ⟨n2, e2⟩ := hop2
        rw [e1] at e2
        injection e2 with _ _ e3 _
        injection e3 with e4 _
        have e5 : [Value.int a' ua, Value.int b' ub] = [Value.int a ua2, Value.int b ub2] := by simpa using e4
        injection e5 with e6 e7
        injection e7 with e8 _
        injection e6 with e9 _
        injection e8 with e10 _
        exact ⟨e9, e10⟩
      · rintro ⟨rfl, rfl⟩
        exact ⟨i, hi, he⟩
    rw [e]; exact hq
  · rw [Array.any_eq_true']
    constructor
    · rintro ⟨y, hy, hd⟩
      obtain ⟨i, _, h2⟩ := of_decide_eq_true hd
      exact List.mem_of_getElem? h2
    · intro hm
      obtain ⟨i, hi⟩ := List.mem_iff_getElem?.mp hm
      have hlt : i < jv.length := by
        rw [hp.1]
        rcases Nat.lt_or_ge i js.length with z | z
        · exact z
        · rw [List.getElem?_eq_none z] at hi; cases hi
      exact ⟨jv[i], by simp, decide_eq_true ⟨i, List.getElem?_eq_getElem hlt, hi⟩⟩

/-- the rows: each the list of its neighbours' places -/
def RowsOk (dir : Bool) (js : List (Int × Int)) (n : Nat) (kss : List (List Int)) : Prop := ∀ (j : Nat) ks, kss[j]? = some ks → ks.length ≤ n ∧ (∀ y, y ∈ ks ↔ (0 ≤ y ∧ y < (n : Int)) ∧ joR dir js (j : Int) y)

/-- the list of rows, their tags said -/
def RowsZ (T : TM) (rs : List Value) (kss : List (List Int)) : Prop := rs.length = kss.length ∧ ∀ (i : Nat) ks, kss[i]? = some ks → ∃ a P ws, rs[i]? = some (.ref a) ∧ T a = some ((6, 0, (i : Int)), P) ∧ (∀ o, P o → LiP ws o) ∧ IntsAre ws ks
theorem RowsZ.toT {rs : List Value} {kss : List (List Int)} (h : RowsZ T rs kss) : RowsT T rs kss := ⟨h.1, fun i ks e => let ⟨a, P, ws, h1, h2, h3, h4⟩ := h.2 i ks e; ⟨a, _, P, ws, h1, h2, rfl, h3, h4⟩⟩
theorem RowsZ.mono {rs : List Value} {kss : List (List Int)} (h : RowsZ T rs kss) (hk : ∀ a c, T a = some c → c.1.1 = 6 → c.1.2.1 = 0 → T' a = some c) : RowsZ T' rs kss := ⟨h.1, fun i ks e => let ⟨a, P, ws, h1, h2, r⟩ := h.2 i ks e; ⟨a, P, ws, h1, hk _ _ h2 rfl rfl, r⟩⟩
theorem PairL.mono0 {vs : List Value} {es : List (Int × Int)} (h : PairL T vs es) (hk : ∀ x c, T x = some c → c.1.1 = 7 → c.1.2.1 = 0 → T' x = some c) : PairL T' vs es :=
  ⟨h.1, fun i v hv => let ⟨a, b, tt, ua, ub, n, h1, h2, h3⟩ := h.2 i v hv; ⟨a, b, tt, ua, ub, n, h1, h2, hk _ _ h3 rfl rfl⟩⟩
theorem lawSt9 {J : Addr} {n : Nat} {u : Tok} {dir : Bool} {jv : List Value} {js : List (Int × Int)} {Q : Flow → Shared → Prop} (W : Wd K mg mb B) (S : St B L T m O s) (hh : A.handled = none) (hu : A.units < 9000) (hrg : nsIn K mainGlobals "range" = some none)
    (hsz : T (L + 2) = some (cel (L + 2), CellP (some (.int (n : Int) u)))) (hdr : T (L + 3) = some (cel (L + 3), CellP (some (.bool dir)))) (hn6 : n ≤ 6)
    (hj : T (L + 5) = some (cel (L + 5), CellP (some (.ref J)))) (hJ : T J = some ((24, 0, 0), LsP jv)) (hp : PairL T jv js)
    (h : ∀ D rv kss T' s', RowsZ T' rv kss → kss.length = n → RowsOk dir js n kss → T' D = some ((25, 0, 0), LsP rv) → Sub T T' → St B L T' (fs m "rows" (.ref D)) O s' → Q .next s') :
    wpAny (model prog w) A (exec (lawSt 9) (lawE L f cdv)) Q E s := by
  have hu' : A.units + 1 < cLine := by show A.units + 1 < 9900; omega
  refine compA (t := (25, 0, 0)) (B := B) S rfl ?_
  repeat walk_at "M"
  refine ldBuilS (v := .type "range") W S hrg rfl (by decide) ?_
  repeat walk_at "M"
  refine ldCellS S (c := L + 2) rfl hsz ?_
  repeat walk_at "M"
  refine callRangeS S fun r s₁ ra rb S₁ hr => ?_
  refine compRangeC (n := n) hh S₁ hr (by omega) (fun _ => rfl) (fun _ => rfl) (fun _ => rfl) (fun _ => rfl)
    (fun i T' ys => Sub T T' ∧ ∃ kss, RowsZ T' ys kss ∧ kss.length = i ∧ RowsOk dir js n kss)
    ⟨.refl _, [], ⟨rfl, fun i ks e => by simp at e⟩, rfl, fun j ks e => by simp at e⟩ (fun C i ui T' ys mC B₁ s₂ hi hI hB₁ hcell S₂ => ?_) (fun T' ys D s₂ hI hD S₂ s₃ S₃ => ?_)
  · obtain ⟨hs, kss, hR, hkl, hok⟩ := hI
    have hRl := hR.1
    have W₂ := W.keeps hB₁
    refine tests_nil ?_
    rw [if_pos rfl]
    refine compE (t := (6, 0, (i : Int))) (B := B₁) S₂ rfl ?_
    repeat walk_at "M"
    refine ldBuilS (v := .type "range") W₂ S₂ hrg rfl (by decide) ?_
    repeat walk_at "M"
    refine ldCellS S₂ (c := L + 2) rfl (hs _ _ hsz) ?_
    repeat walk_at "M"
    refine callRangeS S₂ fun r₂ s₃ ra₂ rb₂ S₃ hr₃ => ?_
    refine compRange (n := n) hh S₃ hr₃ (by omega) rfl rfl
      (fun j T'' ys' => Sub T' T'' ∧ ∃ ks, IntsAre ys' ks ∧ ks.length ≤ j ∧ ∀ y, y ∈ ks ↔ (0 ≤ y ∧ y < (j : Int)) ∧ joR dir js (i : Int) y)
      ⟨.refl _, [], .nil, Nat.le_refl _, fun y => ⟨fun h => (nomatch h), fun h => absurd h.1 (by omega)⟩⟩ (fun C₂ j uj T'' ys' mC₂ B₂ s₄ hj' hI hB₂ hm S₄ => ?_) (fun T'' ys' D s₄ hI hD S₄ s₅ S₅ => ?_)
    · obtain ⟨hs', ks, hint, hkl', hks⟩ := hI
      have hc₂ := isCell_keep hcell hB₂
      have hs2 : Sub T T'' := hs.trans hs'
      have put : ∀ r : Bool, (r = true ↔ joR dir js (i : Int) (j : Int)) → ∀ T₃ s₃ m₃, Sub T' T₃ → m₃ "b" = some (.int (j : Int) uj) → St B₂ C₂ T₃ m₃ O s₃ →
          (fun ok s₃ => if ok = true then wpAny (model prog w) A (eval (.Name "b" ⟨582, 13, 582, 14⟩) (cEnv
            { kind := .function, names := [(".0", .local), ("b", .local), ("a", .free), ("directed", .free), ("joined", .free)], isGenerator := false, isCoroutine := false, more := [] } ((lawE L f cdv).cells ++ []) C₂ (cEnv
              { kind := .function, names := [(".0", .local), ("a", .cell), ("range", .globalImplicit), ("directed", .free), ("joined", .free), ("size", .free)], isGenerator := false, isCoroutine := false, more := [] } ((lawE L f cdv).cells) C (lawE L f cdv))))
            (fun y s₄ => ∃ T'₁ m', St B₂ C₂ T'₁ m' O s₄ ∧ Sub T' T'₁ ∧ ∃ ks, IntsAre (ys' ++ [y]) ks ∧ ks.length ≤ j + 1 ∧ ∀ y, y ∈ ks ↔ (0 ≤ y ∧ y < ((j + 1 : Nat) : Int)) ∧ joR dir js (i : Int) y) NoR s₃
          else ∃ T'₁ m', St B₂ C₂ T'₁ m' O s₃ ∧ Sub T' T'₁ ∧ ∃ ks, IntsAre ys' ks ∧ ks.length ≤ j + 1 ∧ ∀ y, y ∈ ks ↔ (0 ≤ y ∧ y < ((j + 1 : Nat) : Int)) ∧ joR dir js (i : Int) y) r s₃ := by
        intro r hr T₃ s₃ m₃ hs3 hm3 S₃
        cases r with
        | true =>
          dsimp only
          rw [if_pos rfl]
          refine ldS S₃ hm3 ⟨T₃, _, S₃, hs3, ks ++ [(j : Int)], hint.append (.cons _ _ .nil), by rw [List.length_append, List.length_singleton]; omega, fun y => ?_⟩
          rw [List.mem_append, hks, List.mem_singleton]
          constructor
          · rintro (⟨h1, h2⟩ | rfl)
            · exact ⟨by push_cast; omega, h2⟩
            · exact ⟨by push_cast; omega, hr.mp rfl⟩
          · rintro ⟨h1, h2⟩
            by_cases e : y = (j : Int)
            · exact .inr e
            · exact .inl ⟨by push_cast at h1; omega, h2⟩
        | false =>
          refine ⟨T₃, _, S₃, hs3, ks, hint, by omega, fun y => ?_⟩
          rw [hks]
          constructor
          · rintro ⟨h1, h2⟩; exact ⟨by push_cast; omega, h2⟩
          · rintro ⟨h1, h2⟩
            by_cases e : y = (j : Int)
            · subst e; exact absurd (hr.mpr h2) (by decide)
            · exact ⟨by push_cast at h1; omega, h2⟩
      refine tests_one ?_
      repeat walk_at "M"
      refine ldCellB S₄ (c := C + 1) rfl hc₂ ?_
      repeat walk_at "M"
      refine newTupleS S₄ (19, 0, 0) (fun tt s₅ ht S₅ => ?_) (by size_fits)
      have hs3 : Sub T (upd T'' tt ((19, 0, 0), TupP [.int (i : Int) ui, .int (j : Int) uj])) := hs2.trans (.new ht)
      have hs3' : Sub T' (upd T'' tt ((19, 0, 0), TupP [.int (i : Int) ui, .int (j : Int) uj])) := hs'.trans (.new ht)
      have ht3 : upd T'' tt ((19, 0, 0), TupP [.int (i : Int) ui, .int (j : Int) uj]) tt = _ := upd_self
      generalize upd T'' tt ((19, 0, 0), TupP [.int (i : Int) ui, .int (j : Int) uj]) = T₃ at S₅ hs3 hs3' ht3
      repeat walk_at "M"
      refine ldCellS S₅ (c := L + 5) rfl (hs3 _ _ hj) ?_
      refine inPairsS S₅ (hs3 _ _ hJ) (hp.mono fun x c e _ => hs3 _ _ e) ht3 (by decide) hu' fun r1 hr1 => ?_
      repeat walk_at "M"
      cases r1 with
      | true => exact put true ⟨fun _ => .inl (hr1.mp rfl), fun _ => rfl⟩ T₃ _ _ hs3' hm S₅
      | false =>
        rw [if_neg (by decide)]
        repeat walk_at "M"
        refine ldCellS S₅ (c := L + 3) rfl (hs3 _ _ hdr) ?_
        refine wpAny_truthy_bool ?_
        cases dir with
        | true =>
          rw [if_neg (by decide), if_neg (by decide)]
          refine isTrue_or_nil ?_
          refine put false ⟨fun e => (nomatch e), fun e => ?_⟩ T₃ _ _ hs3' hm S₅
          rcases e with e | e
          · exact absurd (hr1.mpr e) (by decide)
          · exact absurd e.1 (by decide)
        | false =>
          rw [if_pos (by decide)]
          repeat walk_at "M"
          refine ldCellB S₅ (c := C + 1) rfl hc₂ ?_
          repeat walk_at "M"
          refine newTupleS S₅ (19, 0, 1) (fun t2 s₆ ht2 S₆ => ?_) (by size_fits)
          have hs4 : Sub T (upd T₃ t2 ((19, 0, 1), TupP [.int (j : Int) uj, .int (i : Int) ui])) := hs3.trans (.new ht2)
          have hs4' : Sub T' (upd T₃ t2 ((19, 0, 1), TupP [.int (j : Int) uj, .int (i : Int) ui])) := hs3'.trans (.new ht2)
          have ht4 : upd T₃ t2 ((19, 0, 1), TupP [.int (j : Int) uj, .int (i : Int) ui]) t2 = _ := upd_self
          generalize upd T₃ t2 ((19, 0, 1), TupP [.int (j : Int) uj, .int (i : Int) ui]) = T₄ at S₆ hs4 hs4' ht4
          repeat walk_at "M"
          refine ldCellS S₆ (c := L + 5) rfl (hs4 _ _ hj) ?_
          refine inPairsS S₆ (hs4 _ _ hJ) (hp.mono fun x c e _ => hs4 _ _ e) ht4 (by decide) hu' fun r2 hr2 => ?_
          repeat walk_at "M"
          cases r2 with
          | true =>
            rw [if_pos rfl]
            refine isTrue_and_nil ?_
            exact put true ⟨fun _ => .inr ⟨rfl, hr2.mp rfl⟩, fun _ => rfl⟩ T₄ _ _ hs4' hm S₆
          | false =>
            rw [if_neg (by decide), if_neg (by decide)]
            refine isTrue_or_nil ?_
            refine put false ⟨fun e => (nomatch e), fun e => ?_⟩ T₄ _ _ hs4' hm S₆
            rcases e with e | e
            · exact absurd (hr1.mpr e) (by decide)
            · exact absurd (hr2.mpr e.2) (by decide)
    · obtain ⟨hs', ks, hint, hkl', hks⟩ := hI
      refine ⟨_, _, S₅, (hs.trans hs').trans (.new hD), kss ++ [ks], ⟨by rw [List.length_append, List.length_append, hRl]; rfl, fun i' ks' e => ?_⟩, by rw [List.length_append, hkl]; rfl, fun j ks' e => ?_⟩
      · rcases Nat.lt_or_ge i' kss.length with z | z
        · rw [List.getElem?_append_left z] at e
          obtain ⟨a, P', ws, h1, h2, h4, h5⟩ := hR.2 i' ks' e
          exact ⟨a, P', ws, by rw [List.getElem?_append_left (by omega)]; exact h1, upd_new (hs' _ _ h2) hD, h4, h5⟩
        · have : i' = kss.length := by
            rcases Nat.eq_or_lt_of_le z with q | q
            · exact q.symm
            · rw [List.getElem?_eq_none (by simp; omega)] at e; cases e
          subst this
          rw [List.getElem?_append_right (Nat.le_refl _), Nat.sub_self] at e
          cases e
          exact ⟨D, _, ys', by rw [List.getElem?_append_right (by omega), hRl, Nat.sub_self]; rfl, by rw [hkl]; exact upd_self, fun o ho => LsP.li ho, hint⟩
      · rcases Nat.lt_or_ge j kss.length with z | z
        · rw [List.getElem?_append_left z] at e
          exact hok j ks' e
        · have : j = kss.length := by
            rcases Nat.eq_or_lt_of_le z with q | q
            · exact q.symm
            · rw [List.getElem?_eq_none (by simp; omega)] at e; cases e
          subst this
          rw [List.getElem?_append_right (Nat.le_refl _), Nat.sub_self] at e
          cases e
          rw [hkl]
          exact ⟨hkl', hks⟩
  · obtain ⟨hs, kss, hR, hkl, hok⟩ := hI
    refine h D ys kss _ s₃ ⟨hR.1, fun i ks e => ?_⟩ hkl hok upd_self (hs.trans (.new hD)) S₃
    obtain ⟨a, P', ws, h1, h2, h4, h5⟩ := hR.2 i ks e
    exact ⟨a, P', ws, h1, upd_new h2 hD, h4, h5⟩
end
end Mine
end
section
open PySem PySem.W PySem.Calls PyProof.Rows
set_option Elab.async false
set_option maxRecDepth 100000
namespace Mine
section
variable {M : Model} {A : Around} {E : Value → Shared → Prop} {s : Shared} {env : Env}
theorem n_attempt {α : Type} {m : Sem α} {Q : Except Value α → Shared → Prop} (h : wpN M A m (fun a s' => Q (.ok a) s') (fun e s' => Q (.error e) s') s) : wpN M A m.attempt Q E s := by
  intro Γ p hΓ hN
  rw [Sem.wp_attempt]
  exact h Γ p hΓ hN
theorem n_comprehension {e : Expr} {scope : Scope} {pos : Pos} {newAcc first : Sem Value} {g : Comprehension} {gs : List Comprehension} {cl : List (Str × Addr)} {u : Value → Sem Unit}
    {Q : Value → Shared → Prop}
    (hcl : clausesOf e = g :: gs) (hs : ∀ x, foldedSetIterable g.iter env x = pure x) (hclos : closureFor scope env = pure cl)
    (hkind : scope.kind = .function) (hnames : ∀ x ∈ scope.names, x.2 = .local → scope.names.lookup x.1 = some .local)
    (h : wpN M A first (fun x s₁ => wpN M A (pyIter x) (fun it s₂ => wpN M A newAcc (fun acc s₃ =>
      wpN M A (newFunctionEnv scope env.globals cl [] env.qual none .none (some env)) (fun cenv s₄ =>
        codeN M A (.compStart e 0 it acc { cenv with scope := relabel scope env }) (fun r s' => match r with
          | .ok _ => wpN M A (u acc) (fun _ s'' => ∃ m, s''.heap.Ns cenv.locals m ∧ ∀ h', Heap.SameBut cenv.locals s''.heap h' → Q .none { s'' with heap := h' }) E s'
          | .error _ => False) s₄) E s₃) E s₂) E s₁) E s) :
    wpN M A (comprehension e scope env pos newAcc false first (some u)) Q E s := by
  unfold comprehension
  rw [hclos, hcl]
  refine n_bind (n_mono h (fun x s₁ h₁ => n_bind (n_standAt ?_)) fun _ _ h' => h')
  dsimp only
  rw [hs x]
  refine n_bind (n_pure (n_bind (n_holding (n_mono h₁ (fun it s₂ h₂ => ?_) fun _ _ h' => h'))))
  have key : wpN M A newAcc (fun acc s₃ => wpN M A (newFunctionEnv scope env.globals cl [] env.qual none .none (some env)) (fun cenv s₄ =>
        codeN M A (.compStart e 0 it acc { cenv with scope := relabel scope env }) (fun r s' => match r with
          | .ok _ => wpN M A (u acc) (fun _ s'' => ∃ m, s''.heap.Ns cenv.locals m ∧ ∀ h', Heap.SameBut cenv.locals s''.heap h' → Q .none { s'' with heap := h' }) E s'
          | .error _ => False) s₄) E s₃) E s₂ := h₂
  simp only [Option.isSome_some, if_true]
  refine n_bind (n_standAt (n_bind (n_mono key (fun acc s₃ h₃ => n_bind (n_pure (n_bind (n_mono h₃ (fun cenv s₄ h₄ => ?_) fun _ _ h' => h')))) fun _ _ h' => h')))
  have hv' : ∀ x ∈ (scope.names.filter fun x => (x.2 == .local || x.2 == .cell) && x.1 != (".0" : Str)).reverse.drop 1 ++ (scope.names.filter fun x => (x.2 == .local || x.2 == .cell) && x.1 != (".0" : Str)).reverse.take 1,
      x.2 = .local → Env.kindOf { cenv with scope := relabel scope env } x.1 = some .local := fun x hx hl => by
    rcases List.mem_append.mp hx with h1 | h1
    · exact lookup_relabel_local (hnames x (List.mem_filter.mp (List.mem_reverse.mp (List.mem_of_mem_drop h1))).1 hl)
    · exact lookup_relabel_local (hnames x (List.mem_filter.mp (List.mem_reverse.mp (List.mem_of_mem_take h1))).1 hl)
  refine n_holding (n_bind (n_attempt (n_holding (n_run (codeN_mono h₄ fun r s' hr => ?_)))))
  cases r with
  | error x => exact hr.elim
  | ok f =>
    refine n_bind (toN (wpAny_rule ?_))
    refine n_bind (n_holding (n_mono hr (fun _ s'' hr' => ?_) fun _ _ h' => h'))
    obtain ⟨m, hn, hr'⟩ := hr'
    exact toN (wpAny_bind (wpAny_comp_letGo (cenv := { cenv with scope := relabel scope env }) hkind _ s'' m hv' hn fun h' m' _ hs' => wpAny_pure (hr' h' hs')))
end
section
variable {prog : Program} {w : World} {A : Around} {R : Result → Shared → Prop} {s : Shared}
theorem codeN_compStart_list {elt target iter ifs rest scope pos it acc env}
    (h0 : codeN (model prog w) A (.compLoop (.ListComp elt (⟨target, iter, ifs, 0⟩ :: rest) scope pos) 0 it acc env) R s)
    (h : wpN (model prog w) A (pyIter it) (fun it' s' => codeN (model prog w) A (.compLoop (.ListComp elt (⟨target, iter, ifs, 0⟩ :: rest) scope pos) 0 it' acc env) R s') NoR s) :
    codeN (model prog w) A (.compStart (.ListComp elt (⟨target, iter, ifs, 0⟩ :: rest) scope pos) 0 it acc env) R s := by
  refine codeN_tree rfl ?_
  show wpN _ _ ((compStart (.ListComp elt (⟨target, iter, ifs, 0⟩ :: rest) scope pos) 0 it acc env).onRaise (fun x => do noteFrame x env; standAt theWindowsPlace)) _ _ s
  refine n_onRaise ?_
  unfold compStart
  show wpN _ _ (ask >>= _) _ _ s
  refine n_bind (toN (wpAny_askSetting ?_))
  have ite_n : ∀ {c : Prop} [Decidable c] {α : Type} {a b : Sem α} {A : Around} {Q : α → Shared → Prop} {E : Value → Shared → Prop} {s : Shared}, (if c then wpN (model prog w) A a Q E s else wpN (model prog w) A b Q E s) → wpN (model prog w) A (if c then a else b) Q E s := fun {c} _ {α a b A Q E s} h => by split <;> simp_all
  refine ite_n ?_
  split
  · first
      | exact n_bind (n_pure (n_pure (And.intro rfl h0)))
      | exact n_pure (And.intro rfl h0)
  · first
      | exact n_bind (toN (wpAny_rule (n_bind (n_standAt (n_bind (n_mono h (fun it' s' h' => n_pure (And.intro rfl h')) fun _ _ x => x.elim))))))
      | (refine n_bind (toN (wpAny_rule ?_)); show wpN _ _ (standAt iter.pos >>= _) _ _ s; exact n_bind (n_standAt (n_bind (n_mono h (fun it' s' h' => n_pure (And.intro rfl h')) fun _ _ x => x.elim))))
theorem codeN_compLoop_tests {elt target iter : Expr} {ifs : List Expr} {scope : Scope} {pos : Pos} {it acc : Value} {env : Env} (I : Nat → Shared → Prop) (ht : ∀ v, letOwnedTupleGo target it v = pure ())
    (turn : ∀ n s, I n s → wpN (model prog w) A (pyNext it) (fun r s₁ => match r with
      | none => R (.ok .next) s₁
      | some v => wpN (model prog w) A (assign target env v) (fun _ s₂ =>
          wpN (model prog w) A (forIn ifs true fun c r => if r = true then do let ok ← isTrue c env (eval c env); pure (ForInStep.yield ok) else pure (ForInStep.yield r)) (fun ok s₃ =>
            if ok = true then wpN (model prog w) A (eval elt env) (fun x s₄ =>
              wpN (model prog w) A (call (.builtin "list.append") [acc, x]) (fun _ s₅ => ∃ m, m < n ∧ I m s₅) NoR s₄) NoR s₃
            else ∃ m, m < n ∧ I m s₃) NoR s₂) NoR s₁) NoR s) :
    ∀ (n : Nat) (s : Shared), I n s → codeN (model prog w) A (.compLoop (.ListComp elt [⟨target, iter, ifs, 0⟩] scope pos) 0 it acc env) R s := by
  intro n
  induction n using Nat.strongRecOn with
  | _ n ih =>
    intro s hI
    refine codeN_tree rfl ?_
    show wpN _ A ((compTurn (.ListComp elt [⟨target, iter, ifs, 0⟩] scope pos) 0 it acc env).onRaise (fun x => do noteFrame x env; theTreesLotGoes x)) _ _ s
    refine n_onRaise ?_
    rw [compTurn_list]
    refine n_bind (n_standAt (n_bind (n_mono (turn n s hI) (fun r s₁ h₁ => ?_) fun _ _ h' => h'.elim)))
    cases r with
    | none => exact n_pure h₁
    | some v =>
      dsimp only
      rw [ht v]
      refine n_bind (n_pure ?_)
      refine n_bind (n_mono h₁ (fun _ s₂ h₂ => n_bind (n_mono h₂ (fun ok s₃ h₃ => ?_) fun _ _ h' => h'.elim)) fun _ _ h' => h'.elim)
      cases ok with
      | false =>
        obtain ⟨m, hm, hJ⟩ := h₃
        exact n_pure ⟨rfl, ih m hm s₃ hJ⟩
      | true =>
        exact n_bind (n_bind (n_mono h₃ (fun x s₄ h₄ => n_bind (n_mono h₄ (fun _ s₅ h₅ => n_pure (n_pure ⟨rfl, let ⟨m, hm, hJ⟩ := h₅; ih m hm s₅ hJ⟩)) fun _ _ h' => h'.elim)) fun _ _ h' => h'.elim))
end
end Mine
end
section
open PySem PySem.W PySem.Calls PyProof.Rows
set_option Elab.async false
set_option maxRecDepth 100000
namespace Mine
section
variable {prog : Program} {w : World} {A : Around} {E : Value → Shared → Prop} {B : Heap} {T : TM} {m : Str → Option Value} {O : OG} {s : Shared} {env : Env}
structure CompGoalN (prog : Program) (w : World) (A : Around) (B : Heap) (env : Env) (t : Tag) (target : Expr) (ifs : List Expr) (elt : Expr) (scope : Scope) (cl : List (Str × Addr)) (Fin : TM → List Value → Addr → (Str → Option Value) → OG → Shared → Prop) (it : Value) (s₂ : Shared) : Prop where
  ex : ∃ I X n P IT Need Os T m, ∃ (Inv : Nat → TM → List Value → Prop) (Got : Addr → Value → (Str → Option Value) → Heap → Prop), it = .ref I ∧ Itr prog w A I X n P IT Need Os ∧ n ≤ 1000000 ∧ St B env.locals T m (Os 0) s₂ ∧ Free B env.locals T X ∧ IT 0 s₂.heap ∧ Inv 0 T [] ∧
    (∀ i T ys, i ≤ n → Inv i T ys → Need T) ∧
    (∀ C v mC h T, Got C v mC h → (∀ x ∈ cellsFrom (C + 1) scope.names [], T x.2 = none ∧ x.2 ≠ C) → Got C v mC (mask h T C)) ∧
    -- the target
    (∀ C i v T mC s (R : Shared → Prop), P i v → St B env.locals T m (Os (i + 1)) s → s.heap.Ns C mC → (∀ x ∈ cellsFrom (C + 1) scope.names [], ∃ u, s.heap.IsCell x.2 u) →
      (∀ s' mC', s'.gens = s.gens → s'.os = s.os → s'.heap.Ns C mC' → (∀ b o, b ≠ C → (∀ x ∈ cellsFrom (C + 1) scope.names [], b ≠ x.2) → s.heap.get? b = some o → s'.heap.get? b = some o) → (∀ x ∈ cellsFrom (C + 1) scope.names [], ∃ u, s'.heap.IsCell x.2 u) → Got C v mC' s'.heap → R s') →
      wpAny (model prog w) A (assign target (cEnv scope cl C env) v) (fun _ => R) NoR s) ∧
    -- the tests and the item
    (∀ C i v T ys mC B₁ s, i < n → P i v → Inv i T ys → (∀ b o, B.get? b = some o → B₁.get? b = some o) → Got C v mC B₁ → St B₁ C T mC (Os (i + 1)) s →
      wpN (model prog w) A (testsOf ifs (cEnv scope cl C env)) (fun ok s₃ => if ok = true then wpN (model prog w) A (eval elt (cEnv scope cl C env)) (fun y s₄ => ∃ T' m', St B₁ C T' m' (Os (i + 1)) s₄ ∧ Inv (i + 1) T' (ys ++ [y])) NoR s₃
        else ∃ T' m', St B₁ C T' m' (Os (i + 1)) s₃ ∧ Inv (i + 1) T' ys) NoR s) ∧
    (∀ T ys D s, Inv n T ys → T D = none → St B env.locals (upd T D (t, LsP ys)) m (Os (n + 1)) s → Fin T ys D m (Os (n + 1)) s)

set_option maxHeartbeats 2000000 in
theorem compBlockN {t : Tag} {target iter : Expr} {ifs : List Expr} {elt : Expr} {scope : Scope} {pos : Pos} {cl : List (Str × Addr)} {it : Value} {s₂ : Shared} {Fin : TM → List Value → Addr → (Str → Option Value) → OG → Shared → Prop} {R : Value → Addr → Result → Shared → Prop}
    (h₂ : CompGoalN prog w A B env t target ifs elt scope cl Fin it s₂) (ht : ∀ v, letOwnedTupleGo target it v = pure ())
    (hR : ∀ T ys D C mC m O s, T D = none → T C = none → B.get? C = none → C ≠ env.locals → D ≠ C → s.heap.Ns C mC → St B env.locals (upd T D (t, LsP ys)) m O s → Fin T ys D m O s → R (.ref D) C (.ok .next) s)
    (hFin : True) :
    wpN (model prog w) A (newList []) (fun acc s₃ => wpN (model prog w) A (newFunctionEnv scope env.globals cl [] env.qual none .none (some env)) (fun cenv s₄ =>
      codeN (model prog w) A (.compStart (.ListComp elt [⟨target, iter, ifs, 0⟩] scope pos) 0 it acc { cenv with scope := relabel scope env }) (R acc cenv.locals) s₄) E s₃) E s₂ := by
  obtain ⟨I, X, n, P, IT, Need, Os, T, m, Inv, Got, rfl, W, hn, S, hX, hIT, hI, hN, hGot, asg, turn, fin⟩ := h₂.ex
  refine toN (wpAny_newObj_type ?_)
  refine toN (newCompEnv fun h₁ k₁ ns₁ cells₁ => ?_)
  -- the list, the frame, its cells
  have hD0 : (s₂.heap.push { cls := .type "list", data := .seq ([] : List Value).toArray }).get? s₂.heap.objs.size = some { cls := .type "list", data := .seq #[] 0 } := Heap.get?_push_size _ rfl
  have hsz : (s₂.heap.push { cls := .type "list", data := .seq ([] : List Value).toArray }).objs.size = s₂.heap.objs.size + 1 := Heap.size_push ..
  dsimp only at h₁ k₁ ns₁ cells₁ ⊢
  rw [hsz] at ns₁ cells₁ ⊢
  generalize hDe : s₂.heap.objs.size = D at *
  generalize hCe : D + 1 = C at *
  have hlt : ∀ (b : Nat) o, s₂.heap.get? b = some o → b < D := fun b o e => hDe ▸ Heap.lt_size e
  have hLD : @LT.lt Nat _ env.locals D := hDe ▸ S.ltL
  have hBn : ∀ b : Nat, D ≤ b → B.get? b = none := fun b hb => by
    cases e : B.get? b with
    | none => rfl
    | some o => exact absurd (hlt _ _ (S.keep _ _ e)) (Nat.not_lt.mpr hb)
  have hXD : ∀ b ∈ X, @LT.lt Nat _ b D := fun b hb => by obtain ⟨o, ho⟩ := W.has 0 _ hIT b hb; exact hlt _ _ ho
  have hTD : ∀ b : Nat, D ≤ b → T b = none := fun b hb => S.none_of (hDe ▸ hb)
  have kD : ∀ b o, s₂.heap.get? b = some o → h₁.get? b = some o := fun b o e => k₁ _ _ (Heap.get?_push_of_some _ e)
  have S₁ : St B env.locals T m (Os 0) { s₂ with heap := h₁ } := S.keeps kD
  have hIT₁ : IT 0 h₁ := W.frame _ _ _ hIT fun b _ o e => kD b o e
  have hX₁ : ∀ b ∈ X, T b = none ∧ b ≠ env.locals ∧ B.get? b = none := hX
  let cs := cellsFrom (C + 1) scope.names []
  have hcs : ∀ x ∈ cs, @LT.lt Nat _ C x.2 := fun x hx => (cells₁ x hx).1
  let J : Nat → Shared → Prop := fun k s' => ∃ i T ys mC, k = n - i ∧ i ≤ n ∧ St B env.locals T m (Os i) s' ∧ Free B env.locals T X ∧ IT i s'.heap ∧ Inv i T ys ∧ s'.heap.Ns C mC ∧ (∃ q, s'.heap.get? D = some { cls := .type "list", data := .seq ys.toArray q }) ∧
    T C = none ∧ T D = none ∧ (∀ x ∈ cs, T x.2 = none ∧ ∃ u, s'.heap.IsCell x.2 u) ∧ ys.length ≤ i
  have loop : codeN (model prog w) A (.compLoop (.ListComp elt [⟨target, iter, ifs, 0⟩] scope pos) 0 (.ref I) (.ref D) (cEnv scope cl C env)) (R (.ref D) C) { s₂ with heap := h₁ } := by
    refine codeN_compLoop_tests J ht ?_ n _ ⟨0, T, [], _, rfl, Nat.zero_le _, S₁, hX, hIT₁, hI, ns₁, ⟨0, k₁ _ _ hD0⟩, hTD _ (by omega), hTD _ (Nat.le_refl _), fun x hx => ⟨hTD _ (by have := hcs x hx; omega), _, (cells₁ x hx).2⟩, Nat.le_refl _⟩
    rintro k s' ⟨i, T, ys, mC, rfl, hi, S, hX, hIT, hI, hnC, ⟨q, hDo⟩, hTC, hTD, hcells, hlen⟩
    have hCL : C ≠ env.locals := neGt (by omega)
    have hDL : D ≠ env.locals := Nat.ne_of_gt hLD
    have hCX : C ∉ X := fun h => by have := hXD _ h; omega
    have hDX : D ∉ X := fun h => Nat.lt_irrefl _ (hXD _ h)
    have hcX : ∀ x ∈ cs, x.2 ∉ X ∧ x.2 ≠ env.locals ∧ x.2 ≠ D ∧ x.2 ≠ C ∧ B.get? x.2 = none := fun x hx => by
      have h1 := hcs x hx
      exact ⟨fun h => by have := hXD _ h; omega, neGt (by omega), neGt (by omega), neGt (by omega), hBn _ (by omega)⟩
    -- the base with the list, the frame and the cells
    have SX := S.intoX X
    have inX : ∀ b o, T b = none → b ≠ env.locals → b ∉ X → s'.heap.get? b = some o → (maskP s'.heap (butX T env.locals X)).get? b = some o := fun b o h1 h2 h3 e => by rw [maskP_get (butX_false h1 h2 h3)]; exact e
    have upX : ∀ b o, B.get? b = some o → (maskP s'.heap (butX T env.locals X)).get? b = some o := fun b o e => by
      have h1 : T b = none := by
        cases q : T b with
        | none => rfl
        | some c => rw [S.neB q] at e; cases e
      exact inX b o h1 (fun q => by rw [q, S.LB] at e; cases e) (fun q => by rw [(hX b q).2.2] at e; cases e) (S.keep b o e)
    rcases Nat.lt_or_ge i n with hlti | hge
    · refine toN (W.item i _ env.locals T m s' _ hlti SX (hN i T ys hi hI) (free_intoX hX) hIT fun v s₁ hP SX₁ hIT₁ => ?_)
      have S₁ : St B env.locals T m (Os (i + 1)) s₁ := SX₁.back upX
      have hnC₁ : s₁.heap.Ns C mC := by
        obtain ⟨o, es, ep, ho, r⟩ := hnC
        exact ⟨o, es, ep, SX₁.keep _ _ (inX _ _ hTC hCL hCX ho), r⟩
      have hDo₁ := SX₁.keep _ _ (inX _ _ hTD hDL hDX hDo)
      have hcells₁ : ∀ x ∈ cs, ∃ u, s₁.heap.IsCell x.2 u := fun x hx => by
        obtain ⟨h1, u, o, ho, hu⟩ := hcells x hx
        exact ⟨u, o, SX₁.keep _ _ (inX _ _ h1 (hcX x hx).2.1 (hcX x hx).1 ho), hu⟩
      refine toN (asg C i v T mC s₁ _ hP S₁ hnC₁ hcells₁ fun s₂ mC₂ hg ho hnC₂ hk hcells₂ hgot => ?_)
      have S₂ : St B env.locals T m (Os (i + 1)) s₂ := S₁.butP (fun b => b = C ∨ ∃ x ∈ cs, b = x.2) (fun b hb => by
          rcases hb with rfl | ⟨x, hx, rfl⟩
          · exact ⟨hTC, hCL, hBn _ (by omega)⟩
          · exact ⟨(hcells x hx).1, (hcX x hx).2.1, (hcX x hx).2.2.2.2⟩)
        (fun b o hb e => hk b o (fun h => hb (.inl h)) (fun x hx h => hb (.inr ⟨x, hx, h⟩)) e) hg ho
      have hDo₂ := hk D _ (neLt (by omega)) (fun x hx => Ne.symm (hcX x hx).2.2.1) hDo₁
      have hIT₂ : IT (i + 1) s₂.heap := W.frame _ _ _ hIT₁ fun b hb o e => hk b o (fun q => hCX (q ▸ hb)) (fun x hx q => (hcX x hx).1 (q ▸ hb)) e
      have hBC : B.get? C = none := hBn _ (by omega)
      have hbig : @LT.lt Nat _ sysModules C := by
        have h1 : @LT.lt Nat _ sysModules env.locals := S.big
        omega
      have SC := S₂.enter hnC₂ hTC hbig
      have inC : ∀ b o, T b = none → b ≠ C → s₂.heap.get? b = some o → (mask s₂.heap T C).get? b = some o := fun b o h1 h2 e => by rw [mask_get h1 h2]; exact e
      have fin1 : ∀ T' m' s₄ ys', St (mask s₂.heap T C) C T' m' (Os (i + 1)) s₄ → Inv (i + 1) T' ys' → ∀ h₅ : Heap, (∃ q, h₅.get? D = some { cls := .type "list", data := .seq ys'.toArray q }) → (∀ b o, b ≠ D → s₄.heap.get? b = some o → h₅.get? b = some o) → ys'.length ≤ i + 1 → ∃ mm, mm < n - i ∧ J mm { s₄ with heap := h₅ } := by
        intro T' m' s₄ ys' S₄ hI₄ h₅ hD₅ hk₅ hlen₅
        have hn0 : ∀ b o, (mask s₂.heap T C).get? b = some o → T' b = none := fun b o e => by
          cases q : T' b with
          | none => rfl
          | some c => rw [S₄.neB q] at e; cases e
        have hT'D : T' D = none := hn0 _ _ (inC _ _ hTD (neLt (by omega)) hDo₂)
        refine ⟨n - (i + 1), by omega, i + 1, T', ys', m', rfl, hlti, ?_, ?_, ?_, hI₄, ?_, hD₅, S₄.Lnone, hT'D, ?_, hlen₅⟩
        · exact (S₂.exit hBC (Ne.symm hCL) S₄).but hDL (hBn _ (Nat.le_refl _)) hT'D hk₅
        · intro b hb
          obtain ⟨o, ho⟩ := W.has _ _ hIT₂ b hb
          exact ⟨hn0 b o (inC b o (hX b hb).1 (fun q => hCX (q ▸ hb)) ho), (hX b hb).2⟩
        · exact W.frame _ _ _ hIT₂ fun b hb o e => hk₅ b o (fun q => hDX (q ▸ hb)) (S₄.keep _ _ (inC b o (hX b hb).1 (fun q => hCX (q ▸ hb)) e))
        · exact S₄.ns.at' fun o e => hk₅ C o (neGt (by omega)) e
        · intro x hx
          obtain ⟨u, o, ho, hu⟩ := hcells₂ x hx
          have := inC _ _ (hcells x hx).1 (hcX x hx).2.2.2.1 ho
          exact ⟨hn0 _ _ this, u, o, hk₅ _ _ (hcX x hx).2.2.1 (S₄.keep _ _ this), hu⟩
      refine n_noR (n_mono (turn C i v T ys mC₂ _ s₂ hlti hP hI (fun b o e => S₂.upC hBC e) (hGot C v mC₂ s₂.heap T hgot fun x hx => ⟨(hcells x hx).1, (hcX x hx).2.2.2.1⟩) SC) (fun ok s₃ hok => ?_) fun _ _ e => e.elim)
      cases ok with
      | false =>
        obtain ⟨T', m', S', hI'⟩ := hok
        have hDB := inC _ _ hTD (neLt (by omega)) hDo₂
        obtain ⟨mm, h1, h2⟩ := fin1 T' m' s₃ ys S' hI' s₃.heap ⟨q, S'.keep _ _ hDB⟩ (fun b o _ e => e) (by omega)
        exact ⟨mm, h1, h2⟩
      | true =>
        refine n_noR (n_mono hok (fun y s₄ hy => ?_) fun _ _ e => e.elim)
        obtain ⟨T', m', S', hI'⟩ := hy
        have hDB := inC _ _ hTD (neLt (by omega)) hDo₂
        refine toN (append_at (hsz := by rw [List.size_toArray, sizeLine_eq]; omega) (S'.keep _ _ hDB) fun h₅ hs₅ hD₅ => ?_)
        exact fin1 T' m' s₄ (ys ++ [y]) S' hI' h₅ ⟨q + 1, by rw [hD₅]; simp⟩ (fun b o hb e => (hs₅.2 b hb).trans e) (by rw [List.length_append, List.length_singleton]; omega)
    · obtain rfl : i = n := Nat.le_antisymm hi hge
      refine toN (W.done _ env.locals T m s' _ SX (hN i T ys hi hI) (free_intoX hX) hIT fun s₁ SX₁ => ?_)
      have S₁ : St B env.locals T m (Os (i + 1)) s₁ := SX₁.back upX
      have hnC₁ : s₁.heap.Ns C mC := by
        obtain ⟨o, es, ep, ho, r⟩ := hnC
        exact ⟨o, es, ep, SX₁.keep _ _ (inX _ _ hTC hCL hCX ho), r⟩
      have hDo₁ := SX₁.keep _ _ (inX _ _ hTD hDL hDX hDo)
      have SD : St B env.locals (upd T D (t, LsP ys)) m (Os (i + 1)) s₁ := by
        refine ⟨S₁.ns, S₁.keep, S₁.LB, fun a c e => ?_, S₁.gens, S₁.os, fun a c e => nm_upd S₁.nm (Nat.lt_trans S.big hLD) e, S₁.big⟩
        unfold upd at e
        split at e
        · rename_i q'; cases e; rw [q']
          exact ⟨hDL, hBn _ (Nat.le_refl _), _, hDo₁, q, rfl⟩
        · exact S₁.sat a c e
      exact hR T ys D C mC m _ s₁ hTD hTC (hBn _ (by omega)) hCL (neLt (by omega)) hnC₁ SD (fin T ys D s₁ hI hTD SD)
  exact codeN_compStart_list loop (toN (W.self B env.locals T m _ _ S₁ hIT₁ loop))
end
end Mine
end
section
open PySem PySem.W PySem.Calls PyProof.Rows
set_option Elab.async false
set_option maxRecDepth 100000
namespace Mine
section
variable {prog : Program} {w : World} {A : Around} {E : Value → Shared → Prop} {B : Heap} {T : TM} {m : Str → Option Value} {O : OG} {s : Shared} {env : Env}
theorem compAN {t : Tag} {target iter : Expr} {ifs : List Expr} {elt : Expr} {scope : Scope} {y : Str} {py : Pos} {pos spos : Pos} {cl : List (Str × Addr)} {Q : Flow → Shared → Prop}
    (_S : St B env.locals T m O s) (hclos : closureFor scope env = pure cl) (h : wpN (model prog w) A (eval iter env) (fun xv s₁ => wpN (model prog w) A (pyIter xv) (CompGoalN prog w A B env t target ifs elt scope cl (FinA B env.locals t y Q)) NoR s₁) NoR s)
    (hsw : swapsWith (.ListComp elt [⟨target, iter, ifs, 0⟩] scope pos) (some (.Name y py)) spos.line env = pure true := by rfl)
    (hk : env.scope.kind = .function := by rfl) (hy : env.kindOf y = some .local := by rfl)
    (hkind : scope.kind = .function := by rfl) (hnames : ∀ x ∈ scope.names, x.2 = .local → scope.names.lookup x.1 = some .local := by decide) (hs : ∀ x, foldedSetIterable iter env x = pure x := by intro _; rfl) (ht : ∀ it v, letOwnedTupleGo target it v = pure () := by intro _ _; rfl) :
    wpN (model prog w) A (exec (.Assign [.Name y py] (.ListComp elt [⟨target, iter, ifs, 0⟩] scope pos) spos) env) Q E s := by
  rw [exec_Assign_Name_used _ _ _ _ hsw]
  refine n_bind (n_standAt (n_bind ?_))
  show wpN _ A (do let _ ← comprehension (.ListComp elt [⟨target, iter, ifs, 0⟩] scope pos) scope env _ (newList []) false (eval iter env) (some (assign (.Name y py) env))) _ _ s
  refine n_bind (n_mono (n_comprehension (u := assign (.Name y py) env) (Q := fun _ s' => Q .next s') rfl hs hclos hkind hnames
    (n_mono h (fun xv s₁ h₁ => n_mono h₁ (fun it s₂ h₂ => ?_) fun _ _ e => e.elim) fun _ _ e => e.elim)) (fun _ s' hq => n_pure (n_pure hq)) fun _ _ e => e)
  refine compBlockN (R := fun acc C r s' => match r with
          | .ok _ => wpN (model prog w) A (assign (.Name y py) env acc) (fun _ s'' => ∃ m, s''.heap.Ns C m ∧ ∀ h', Heap.SameBut C s''.heap h' → Q .next { s'' with heap := h' }) E s'
          | .error _ => False) h₂ (ht it) (fun T ys D C mC m O s hTD hTC hBC hCL hDC hn S fin => ?_) trivial
  show wpN _ A (assign (.Name y py) env (.ref D)) _ _ _
  refine toN (wpAny_assign_Name (wpAny_storeName_local hy S.ns (fun h₂ hn₂ hs₂ => ?_) (by rw [hk]; rfl)))
  have S₂ := S.local hn₂ hs₂
  refine ⟨mC, hn.sameBut hs₂ hCL, fun h₃ hs₃ => ?_⟩
  exact fin _ (S₂.but hCL hBC (by rw [upd_ne (Ne.symm hDC)]; exact hTC) fun b o hb e => (hs₃.2 b hb).trans e)
/-- over a list, a local target -/
theorem compListN {t tl : Tag} {x : Str} {px : Pos} {ifs : List Expr} {elt : Expr} {scope : Scope} {cl : List (Str × Addr)} {Fin : TM → List Value → Addr → (Str → Option Value) → OG → Shared → Prop} {l : Addr} {xs : List Value} {P : Obj → Prop}
    (hh : A.handled = none) (S : St B env.locals T m O s) (hl : T l = some (tl, P)) (hP : ∀ o, P o → LiP xs o) (hn : xs.length ≤ 1000000) (hx : scope.names.lookup x = some .local) (hkind : scope.kind = .function)
    (Inv : Nat → TM → List Value → Prop) (h0 : Inv 0 T []) (hN : ∀ i T ys, i ≤ xs.length → Inv i T ys → NeedL l xs T)
    (turn : ∀ C i v T ys mC B₁ s, xs[i]? = some v → Inv i T ys → (∀ b o, B.get? b = some o → B₁.get? b = some o) → mC x = some v → St B₁ C T mC O s →
      wpN (model prog w) A (testsOf ifs (cEnv scope cl C env)) (fun ok s₃ => if ok = true then wpN (model prog w) A (eval elt (cEnv scope cl C env)) (fun y s₄ => ∃ T' m', St B₁ C T' m' O s₄ ∧ Inv (i + 1) T' (ys ++ [y])) NoR s₃
        else ∃ T' m', St B₁ C T' m' O s₃ ∧ Inv (i + 1) T' ys) NoR s)
    (done : ∀ T ys D s, Inv xs.length T ys → T D = none → St B env.locals (upd T D (t, LsP ys)) m O s → Fin T ys D m O s) :
    wpAny (model prog w) A (pyIter (.ref l)) (CompGoalN prog w A B env t (.Name x px) ifs elt scope cl Fin) E s :=
  pyIterList S hl hP fun I _ S' hF hit => ⟨⟨I, [I], _, _, _, _, _, T, m, Inv, fun _ v mC _ => mC x = some v, rfl, itrList hh I l xs O, hn, S', hF, hit, h0, hN, fun _ _ _ _ _ h _ => h,
    fun C i v T mC s R _ _ hC hcells h => asgLocal hx hkind hC hcells cells_ne h,
    fun C i v T ys mC B₁ s _ hv hI hB hg S => turn C i v T ys mC B₁ s hv hI hB hg S, done⟩⟩
end
end Mine
end
section
open PySem PySem.W PySem.Calls PyProof.Rows
open Sem (wp)
set_option Elab.async false
set_option maxRecDepth 100000
namespace Mine
section
variable {M : Model} {A : Around} {E : Value → Shared → Prop} {s : Shared} {env : Env}
theorem n_keep {α : Type} {vs : List Value} {m : Sem α} {Q : α → Shared → Prop} (h : wpN M A m Q E s) : wpN M A (m.keep vs) Q E s := fun Γ p hΓ hN => by rw [Sem.wp_keep]; exact h Γ p hΓ hN
theorem n_Call {func : Expr} {args : List Expr} {pos : Pos} {Q : Value → Shared → Prop} (he : eval (.Call func args [] pos) env = (do callWith pos (← eval func env) [] (backTo pos (starEach args env)) (backToKw pos (keywordEach [] env))))
    (h : wpN M A (eval func env) (fun f s₁ => wpN M A (callWith pos f [] (backTo pos (starEach args env)) []) Q E s₁) E s) : wpN M A (eval (.Call func args [] pos) env) Q E s := by
  rw [he]; exact n_bind h
theorem n_splicedNil {pos : Pos} {Q : List Value → Shared → Prop} (h : Q [] s) : wpN M A (spliced (backTo pos (starEach [] env))) Q E s := toN (spliced_none h)
theorem n_splicedMore {e : Expr} {rest : List Expr} {pos : Pos} {Q : List Value → Shared → Prop}
    (h : wpN M A (eval e env) (fun v s₁ => wpN M A (spliced (backTo pos (starEach rest env))) (fun vs s₂ => Q (v :: vs) s₂) E s₁) E s)
    (he : starEach (e :: rest) env = (false, eval e env) :: starEach rest env := by rfl) : wpN M A (spliced (backTo pos (starEach (e :: rest) env))) Q E s := by
  rw [he]
  show wpN M A (spliced ((false, eval e env) :: backTo pos (starEach rest env))) Q E s
  rw [spliced]
  refine n_bind (n_mono h (fun v s₁ h₁ => ?_) fun _ _ x => x)
  simp only [Bool.false_eq_true, if_false]
  exact n_bind (n_pure (n_bind (n_holding (n_mono h₁ (fun vs s₂ h₂ => n_pure h₂) fun _ _ x => x))))
theorem n_evalArgs {f : Value} {x : Sem Value} {rest : List (Bool × Sem Value)} {Q : Args → Shared → Prop}
    (h : wpN M A (spliced ((false, x) :: rest)) (fun vs s' => Q ⟨vs, []⟩ s') E s) : wpN M A (evalArgs f true ((false, x) :: rest) []) Q E s := by
  unfold evalArgs
  show wpN M A (spliced ((false, x) :: rest) >>= _) Q E s
  refine n_bind (n_mono h (fun vs s' h' => ?_) fun _ _ x => x)
  refine n_holding ?_
  exact n_bind (n_pure (n_bind (n_pure (n_pure h'))))
theorem n_cwB {pos : Pos} {id : String} {e : Expr} {rest : List Expr} {Q : Value → Shared → Prop} (he : starEach (e :: rest) env = (false, eval e env) :: starEach rest env) (hplain : (backTo pos (starEach rest env)).any (·.1) = false)
    (h : wpN M A (spliced (backTo pos (starEach (e :: rest) env))) (fun vs s₁ => wpN M A (call (.builtin id) vs) Q E s₁) E s) :
    wpN M A (callWith pos (.builtin id) [] (backTo pos (starEach (e :: rest) env)) []) Q E s := by
  rw [he] at h ⊢
  have hp : (List.any (backTo pos ((false, eval e env) :: starEach rest env)) (·.1)) = false := by show (false || (backTo pos (starEach rest env)).any (·.1)) = false; rw [hplain]; rfl
  have h1 : wpN M A (evalArgs (.builtin id) true (backTo pos ((false, eval e env) :: starEach rest env)) []) (fun a s₁ => wpN M A (call (.builtin id) ([] ++ a.pos) a.kw) Q E s₁) E s := n_evalArgs h
  unfold callWith
  refine n_bind (n_holding (n_mono h1 (fun a s₁ h₁ => n_bind (n_standAt ?_)) fun _ _ x => x))
  simp only [hp, List.any_nil, Bool.or_false]
  refine n_bind (n_pure ?_)
  exact n_bind (n_mono h₁ (fun r s₂ hr => n_bind (n_holding (toN (wpAny_point (n_pure hr))))) fun _ _ x => x)
theorem n_cwF {K : Frag} {f : Addr} {first : List Value} {e : Expr} {rest : List Expr} {pos : Pos} {Q : Value → Shared → Prop} (hk : keepIn K (.ref f) = true) (he : starEach (e :: rest) env = (false, eval e env) :: starEach rest env) (hplain : (backTo pos (starEach rest env)).any (·.1) = false)
    (h : wpN M A (spliced (backTo pos (starEach (e :: rest) env))) (fun vs s₁ => K.In s₁.heap ∧ wpN M A (call (.ref f) (first ++ vs)) Q E s₁) E s) :
    wpN M A (callWith pos (.ref f) first (backTo pos (starEach (e :: rest) env)) []) Q E s := by
  rw [he] at h ⊢
  have hp : (List.any (backTo pos ((false, eval e env) :: starEach rest env)) (·.1) || List.any ([] : List (Option Str × Sem Value)) (·.1.isNone)) = false := by
    show ((false || (backTo pos (starEach rest env)).any (·.1)) || false) = false; rw [hplain]; rfl
  have h1 : wpN M A (evalArgs (.ref f) true (backTo pos ((false, eval e env) :: starEach rest env)) []) (fun a s₁ => K.In s₁.heap ∧ wpN M A (call (.ref f) (first ++ a.pos) a.kw) Q E s₁) E s := n_evalArgs h
  unfold callWith
  refine n_bind (n_holding (n_mono h1 (fun a s₁ h₁ => n_bind (n_standAt ?_)) fun _ _ x => x))
  obtain ⟨k, hk', L⟩ := keeps_K (M := M) hk _ h₁.1
  simp only [hp]
  refine n_bind (toN (L.here ?_))
  have tail : ∀ {t : Sem Value}, wpN M A t Q E s₁ → wpN M A (t >>= fun r => holding [r] point >>= fun _ => pure r) Q E s₁ :=
    fun ht => n_bind (n_mono ht (fun r s₂ hr => n_bind (n_holding (toN (wpAny_point (n_pure hr))))) fun _ _ x => x)
  have marked (mk : Value) : wpN M A (callMarked mk (.ref f) (first ++ a.pos) a.kw) Q E s₁ := by unfold callMarked; exact n_keep h₁.2
  rcases hk' with rfl | rfl | rfl <;> dsimp only <;> first | exact tail h₁.2 | (split <;> first | exact tail h₁.2 | exact tail (marked _))
theorem n_If {test : Expr} {body orelse : List Stmt} {pos : Pos} {Q : Flow → Shared → Prop}
    (h : wpN M A (isTrue test env (eval test env)) (fun b s₂ => if b then wpN M A (execs body env) Q E s₂ else wpN M A (execs orelse env) Q E s₂) E s) : wpN M A (exec (.If test body orelse pos) env) Q E s := by
  rw [exec_If]
  refine n_bind (n_standAt (n_bind (n_mono h (fun b s₂ h₂ => ?_) fun _ _ x => x)))
  cases b <;> exact h₂
theorem n_isTrue_not {x pos whole} {Q : Bool → Shared → Prop} (h : wpN M A (isTrue x env (eval x env)) (fun c s' => Q (!c) s') E s) : wpN M A (isTrue (.UnaryOp .Not x pos) env whole) Q E s := by
  show wpN M A (do return !(← isTrue x env (eval x env))) Q E s
  exact n_bind (n_mono h (fun c s' h' => n_pure h') fun _ _ x => x)
theorem n_isTrue_and {x rest pos whole} {Q : Bool → Shared → Prop}
    (h : wpN M A (isTrue x env (eval x env)) (fun c s' => if c then wpN M A (isTrue (.BoolOp .And rest pos) env whole) Q E s' else Q false s') E s) : wpN M A (isTrue (.BoolOp .And (x :: rest) pos) env whole) Q E s := by
  show wpN M A (do
    match BoolOp.And, ← isTrue x env (eval x env) with
    | .And, false => pure false
    | .Or, true => pure true
    | _, _ => isTrue (.BoolOp .And rest pos) env whole) Q E s
  refine n_bind (n_mono h (fun c s' h' => ?_) fun _ _ x => x)
  cases c
  · exact n_pure h'
  · exact h'
theorem n_isTrue_or {x rest pos whole} {Q : Bool → Shared → Prop}
    (h : wpN M A (isTrue x env (eval x env)) (fun c s' => if c then Q true s' else wpN M A (isTrue (.BoolOp .Or rest pos) env whole) Q E s') E s) : wpN M A (isTrue (.BoolOp .Or (x :: rest) pos) env whole) Q E s := by
  show wpN M A (do
    match BoolOp.Or, ← isTrue x env (eval x env) with
    | .And, false => pure false
    | .Or, true => pure true
    | _, _ => isTrue (.BoolOp .Or rest pos) env whole) Q E s
  refine n_bind (n_mono h (fun c s' h' => ?_) fun _ _ x => x)
  cases c
  · exact h'
  · exact n_pure h'
theorem n_isTrue_plain {e : Expr} {whole : Sem Value} {Q : Bool → Shared → Prop} (h : wpN M A whole (fun v s₁ => wpAny M A (truthy v) Q E s₁) E s)
    (he : isTrue e env whole = (do let v ← whole; standAt e.pos; holding [v] (truthy v)) := by rfl) : wpN M A (isTrue e env whole) Q E s := by
  rw [he]
  exact n_bind (n_mono h (fun v s₁ h₁ => n_bind (n_standAt (n_holding (toN h₁)))) fun _ _ x => x)
theorem n_Compare1 {l : Expr} {op : CmpOp} {r : Expr} {pos : Pos} {Q : Value → Shared → Prop} (h : wpN M A (eval l env) (fun a s₁ => wpAny M A (eval r env) (fun b s₂ => wpAny M A (compareOp op a b) Q E s₂) E s₁) E s)
    (hm : behindInMarks op r = false := by with_unfolding_all rfl) : wpN M A (eval (.Compare l [op] [r] pos) env) Q E s := fun Γ p hΓ hN => by
  simp only [eval_Compare1, markedBehindIn_of_false hm, Sem.wp_bind', Sem.wp_holding, Sem.wp_cmd_standAt, Sem.wp_operate]
  exact Sem.wp_mono M Γ _ (fun a p₁ s₁ h₁ => Sem.wp_mono M Γ _ (fun b _ s₂ h₂ => h₂ Γ _ hΓ) (fun _ _ _ h' => h') _ _ (h₁ Γ p₁ hΓ))
    (fun _ _ _ h' => h') _ _ (h Γ p hΓ hN)
theorem n_comprehension0 {e : Expr} {scope : Scope} {pos : Pos} {newAcc first : Sem Value} {g : Comprehension} {gs : List Comprehension} {cl : List (Str × Addr)}
    {Q : Value → Shared → Prop}
    (hcl : clausesOf e = g :: gs) (hs : ∀ x, foldedSetIterable g.iter env x = pure x) (hclos : closureFor scope env = pure cl)
    (hkind : scope.kind = .function) (hnames : ∀ x ∈ scope.names, x.2 = .local → scope.names.lookup x.1 = some .local)
    (h : wpN M A first (fun x s₁ => wpN M A (pyIter x) (fun it s₂ => wpN M A newAcc (fun acc s₃ =>
      wpN M A (newFunctionEnv scope env.globals cl [] env.qual none .none (some env)) (fun cenv s₄ =>
        codeN M A (.compStart e 0 it acc { cenv with scope := relabel scope env }) (fun r s' => match r with
          | .ok _ => ∃ m, s'.heap.Ns cenv.locals m ∧ ∀ h', Heap.SameBut cenv.locals s'.heap h' → Q acc { s' with heap := h' }
          | .error _ => False) s₄) E s₃) E s₂) E s₁) E s) :
    wpN M A (comprehension e scope env pos newAcc false first none) Q E s := by
  unfold comprehension
  rw [hclos, hcl]
  refine n_bind (n_mono h (fun x s₁ h₁ => n_bind (n_standAt ?_)) fun _ _ h' => h')
  dsimp only
  rw [hs x]
  refine n_bind (n_pure (n_bind (n_holding (n_mono h₁ (fun it s₂ h₂ => ?_) fun _ _ h' => h'))))
  simp only [Option.isSome_none, Bool.false_eq_true, if_false]
  have key : wpN M A newAcc (fun acc s₃ => wpN M A (newFunctionEnv scope env.globals cl [] env.qual none .none (some env)) (fun cenv s₄ =>
        codeN M A (.compStart e 0 it acc { cenv with scope := relabel scope env }) (fun r s' => match r with
          | .ok _ => ∃ m, s'.heap.Ns cenv.locals m ∧ ∀ h', Heap.SameBut cenv.locals s'.heap h' → Q acc { s' with heap := h' }
          | .error _ => False) s₄) E s₃) E s₂ := h₂
  first
    | refine n_bind (n_pure (n_bind (n_mono key (fun acc s₃ h₃ => n_bind (n_pure (n_bind (n_mono h₃ (fun cenv s₄ h₄ => ?_) fun _ _ h' => h')))) fun _ _ h' => h')))
    | refine n_bind (n_mono key (fun acc s₃ h₃ => n_bind (n_pure (n_bind (n_mono h₃ (fun cenv s₄ h₄ => ?_) fun _ _ h' => h')))) fun _ _ h' => h')
  have hv : ∀ x ∈ (scope.names.filter fun x => (x.2 == .local || x.2 == .cell) && x.1 != (".0" : Str)).reverse, x.2 = .local →
      Env.kindOf { cenv with scope := relabel scope env } x.1 = some .local := fun x hx hl => lookup_relabel_local (hnames x (List.mem_filter.mp (List.mem_reverse.mp hx)).1 hl)
  refine n_holding (n_bind (n_attempt (n_holding (n_run (codeN_mono h₄ fun r s' hr => ?_)))))
  cases r with
  | error x => exact hr.elim
  | ok f =>
    obtain ⟨m, hn, hr⟩ := hr
    exact toN (wpAny_bind (wpAny_holding (wpAny_comp_letGo (cenv := { cenv with scope := relabel scope env }) hkind _ s' m hv hn fun h' m' _ hs' => wpAny_pure (hr h' hs'))))
end
section
variable {prog : Program} {w : World} {A : Around} {E : Value → Shared → Prop} {B : Heap} {T : TM} {m : Str → Option Value} {O : OG} {s : Shared} {env : Env}
theorem compEN {t : Tag} {target iter : Expr} {ifs : List Expr} {elt : Expr} {scope : Scope} {pos : Pos} {cl : List (Str × Addr)} {Q : Value → Shared → Prop}
    (_S : St B env.locals T m O s) (hclos : closureFor scope env = pure cl) (h : wpN (model prog w) A (eval iter env) (fun xv s₁ => wpN (model prog w) A (pyIter xv) (CompGoalN prog w A B env t target ifs elt scope cl (FinE B env.locals t Q)) NoR s₁) NoR s)
    (hkind : scope.kind = .function := by rfl) (hnames : ∀ x ∈ scope.names, x.2 = .local → scope.names.lookup x.1 = some .local := by decide) (hs : ∀ x, foldedSetIterable iter env x = pure x := by intro _; rfl) (ht : ∀ it v, letOwnedTupleGo target it v = pure () := by intro _ _; rfl) :
    wpN (model prog w) A (eval (.ListComp elt [⟨target, iter, ifs, 0⟩] scope pos) env) Q E s := by
  rw [eval_ListComp]
  refine n_comprehension0 rfl hs hclos hkind hnames (n_mono h (fun xv s₁ h₁ => n_mono h₁ (fun it s₂ h₂ => ?_) fun _ _ e => e.elim) fun _ _ e => e.elim)
  refine compBlockN (R := fun acc C r s' => match r with
          | .ok _ => ∃ m, s'.heap.Ns C m ∧ ∀ h', Heap.SameBut C s'.heap h' → Q acc { s' with heap := h' }
          | .error _ => False) h₂ (ht it) (fun T ys D C mC m O s hTD hTC hBC hCL hDC hn S fin => ?_) trivial
  exact ⟨mC, hn, fun h' hs' => fin _ (S.but hCL hBC (by rw [upd_ne (Ne.symm hDC)]; exact hTC) fun b o hb e => (hs'.2 b hb).trans e)⟩
end
end Mine
end
section
open PySem PySem.W PySem.Calls PyProof.Rows
set_option Elab.async false
set_option maxRecDepth 100000
namespace Mine
-- "L": what a name holds
local macro_rules | `(tactic| walk_at "L") => `(tactic| first
  | assumption
  | exact fs_eq
  | (refine fs_ne (by decide) ?_; walk_at "L")
  | rfl)
-- "M": the next step of the walk, where it is the same everywhere
local macro_rules | `(tactic| walk_at "M") => `(tactic| first
  | ((with_reducible refine loadG ?_); refine ldnS (by assumption) (by walk_at "L") ?_)
  | ((with_reducible refine stG ?_); refine stS (by assumption) ?_; intro _ _)
  | ((with_reducible refine nameG ?_); refine ldS (by assumption) (by walk_at "L") ?_)
  | with_reducible refine wpAny_execs_cons ?_
  | with_reducible refine wpAny_execs_nil ?_
  | with_reducible refine wpAny_BinOp ?_
  | with_reducible refine wpAny_Constant_int ?_
  | with_reducible refine wpAny_Constant_str ?_
  | with_reducible refine Constant_none ?_
  | with_reducible refine Constant_bool ?_
  | with_reducible refine wpAny_Compare1 ?_
  | with_reducible refine wpAny_isTrue_Compare1 ?_
  | with_reducible refine isTrue_not ?_
  | with_reducible refine isTrue_and_nil ?_
  | with_reducible refine isTrue_or_nil ?_
  | with_reducible refine isTrue_and ?_
  | with_reducible refine isTrue_or ?_
  | with_reducible refine IfExp_ ?_
  | with_reducible refine wpAny_If ?_
  | ((with_reducible refine asgN ?_ ?_); (focus rfl))
  | ((with_reducible refine asgS ?_ ?_); (focus rfl))
  | ((with_reducible refine asgA ?_ ?_); (focus rfl))
  | ((with_reducible refine exprE ?_ ?_ ?_); (focus rfl); (focus rfl))
  | with_reducible refine wpAny_AugAssign_Name ?_
  | with_reducible refine wpAny_Return_some ?_
  | with_reducible refine wpAny_Break ?_
  | with_reducible refine wpAny_Continue ?_
  | ((with_reducible refine isG ?_); refine wpAny_is_other (by rfl) (by intro e; cases e) ?_)
  | ((with_reducible refine trG ?_); refine isTrue_plain ?_)
  | with_reducible refine wpAny_truthy_bool ?_
  | with_reducible refine add_int ?_
  | with_reducible refine iadd_int ?_
  | with_reducible refine sub_int ?_
  | with_reducible refine lt_int ?_
  | with_reducible refine le_int ?_
  | with_reducible refine gt_int ?_
  | with_reducible refine eq_int ?_
  | with_reducible refine ne_int ?_
  | with_reducible refine splE ?_
  | ((with_reducible refine splG ?_); refine spliced_more ?_)
  | with_reducible refine Tuple_ ?_
  | with_reducible refine List_ ?_
  | ((with_reducible refine methC (pl := ?_) ?_ ?_); rotate_left; (focus rfl))
  | ((with_reducible refine callC ?_ ?_); (focus rfl))
  | ((with_reducible refine cwB1 ?_ ?_ ?_); (focus rfl); (focus rfl))
  | ((with_reducible refine cwT1 ?_ ?_ ?_); (focus rfl); (focus rfl))
  | ((with_reducible refine cwM1 ?_ ?_ ?_); (focus rfl); (focus rfl))
  | with_reducible refine Subscript_ ?_
  | ((with_reducible refine attrE ?_ ?_); (focus with_unfolding_all rfl))
  | (show wpAny _ _ (execs _ _) _ _ _; first | refine wpAny_execs_cons ?_ | refine wpAny_execs_nil ?_))
section
variable {prog : Program} {w : World} {A : Around} {E : Value → Shared → Prop} {K : Frag} {mg mb : Str → Option Value} {B : Heap} {L : Addr} {T T' : TM} {m : Str → Option Value} {O : OG} {s : Shared} {t : Tag} {f P : Addr} {cdv : Value}

theorem sortedDictS {d : Addr} {td : Tag} {kvs : List (Int × Value)} {ep : Nat} {Q : Value → Shared → Prop} (t : Tag) (S : St B L T m O s) (hh : A.handled = none) (hd : T d = some (td, DI prog w kvs ep)) (h64 : kvs.length < 64)
    (h : ∀ l ws ns' s', IntsAre ws ns' → ns'.Perm (kvs.map (·.1)) → ns'.Pairwise (· ≤ ·) → T l = none → St B L (upd T l (t, LsP ws)) m O s' → Q (.ref l) s') : wpAny (model prog w) A (call (.builtin "sorted") [.ref d]) Q E s := by
  refine sortedS t (by rw [List.length_map]; exact h64) (fun {Q' E'} hq => ?_) h
  refine collectS (V := fun ys => IntsAre ys (kvs.map (·.1))) S (S.lt hd) (fun B' T' s' hB hs S' => ?_) (fun B' T' s' hB hs S' => ?_) (fun B' T' s' hB hs S' => ?_) hq
  · obtain ⟨o, ho, hc⟩ := (S'.dict (hs _ _ hd)).typeIs
    exact ⟨.type "dict", fun A Q E s k q => wpAny_typeOf ⟨o, k _ _ ho, hc⟩ q, rfl, rfl⟩
  · refine pyIterDict S' (hs _ _ hd) fun I s₁ S₁ hF hI => ?_
    exact collGoalDict (T := T) (A := A.in1.in1) (prog := prog) (w := w) hh (by rw [sizeLine_eq]; omega) hd S₁ hF hI
  · exact hintDict (S'.dict (hs _ _ hd)).typeIs fun _ => S'

theorem ClsOf.facts {C : Addr} {dir : Bool} (h : ClsOf C dir) (LK : LawK K P) : ClsK K C ∧ AdjK K C dir ∧ SubK K C 419 := by
  rcases h with ⟨rfl, rfl⟩ | ⟨rfl, rfl⟩
  · exact ⟨LK.H8, LK.A8, LK.S8⟩
  · exact ⟨LK.PK.H6, LK.A6, LK.S6⟩

abbrev heldSc : Scope := { kind := .function, names := [(".0", .local), ("x", .local), ("sorted", .globalImplicit), ("graph", .free)], isGenerator := false, isCoroutine := false, more := [] }
theorem heldElt {C Cl x : Addr} {dir ca : Bool} {ns : List Int} {R : Int → Int → Prop} {v : Int} {u : Tok} {p1 p2 p3 p4 p5 : Pos} {Q : Value → Shared → Prop} (t : Tag) (W : Wd K mg mb B) (S : St B C T m O s) (hh : A.handled = none) (hroom : A.depth < 600) (LK : LawK K P)
    (hC : ClsOf Cl dir) (hm : m "x" = some (.int v u)) (hg : T (L + 6) = some (cel (L + 6), CellP (some (.ref x)))) (G : Gr prog w T 1 Cl x dir ca ns R) (hv : v ∈ ns)
    (h : ∀ l ws ns' T' s', Keep 1 T T' → Gr prog w T' 1 Cl x dir true ns R → T' l = some (t, LsP ws) → IntsAre ws ns' → ns'.Pairwise (· ≤ ·) → ns'.Nodup → (∀ y, y ∈ ns' ↔ R v y) → St B C T' m O s' → Q (.ref l) s') :
    wpN (model prog w) A (eval (.Call (.Name "sorted" p1) [.Subscript (.Name "graph" p2) (.Name "x" p3) p4] [] p5) (cEnv heldSc [(Str.ofString "graph", L + 6)] C (lawE L f cdv))) Q E s := by
  obtain ⟨H, HA, HS⟩ := hC.facts LK
  have hcl : ∀ a b, R a b → a ∈ ns ∧ b ∈ ns := let ⟨_, _, _, _, _, _, _, _, _, _, _, _, G⟩ := G; G.cl
  have hns : ns.length ≤ 6 := let ⟨_, _, _, _, _, _, _, _, _, _, _, _, G⟩ := G; G.len
  obtain ⟨dx, k, fx, dn, da, dp, nk, ak, pk, en, ea, ep, Gc⟩ := id G
  refine n_Call rfl (toN (ldBuilS (v := .builtin "sorted") W S LK.so rfl (by decide) ?_))
  refine n_cwB rfl rfl (n_splicedMore (n_Sub (toN (ldCellS (env := cEnv heldSc [(Str.ofString "graph", L + 6)] C (lawE L f cdv)) S (c := L + 6) rfl hg (toN (ldS (env := cEnv heldSc [(Str.ofString "graph", L + 6)] C (lawE L f cdv)) S hm ?_))))))
  refine nodeGet W S (by omega) hh H HA HS Gc hv (by with_unfolding_all rfl) fun v' T₁ s₁ k' f' k₁ G₁ N₁ S₁ => ?_
  refine n_splicedNil ?_
  obtain ⟨a, kvs, ep', rfl, ha, hks, _⟩ := N₁
  have hnd := S₁.nodup ha
  have hlen : kvs.length ≤ 6 := by
    have := nodup_le hnd (r := ns) fun y hy => (hcl _ _ ((hks y).mp hy)).2
    rw [List.length_map] at this; omega
  refine toN (sortedDictS t S₁ hh ha (by omega) fun l ws ns' s₂ hI hp hsrt hl S₂ => ?_)
  refine h l ws ns' _ s₂ (k₁.trans (.of_sub (.new hl))) ((show Gr prog w T₁ 1 Cl x dir true ns R from ⟨_, _, _, _, _, _, _, _, _, _, _, _, G₁⟩).sub (.new hl)) upd_self hI hsrt (hp.nodup_iff.mpr hnd) (fun y => ?_) S₂
  rw [hp.mem_iff]; exact hks y

/-- the sorted neighbours of every node -/
def HeldT (T : TM) (tb : Nat) (ns : List Int) (R : Int → Int → Prop) (i : Nat) (hv : List Value) : Prop :=
  hv.length = i ∧ ∀ j, j < i → ∃ a ws ns' v, hv[j]? = some (.ref a) ∧ T a = some ((tb, 0, (j : Int)), LsP ws) ∧ IntsAre ws ns' ∧ ns'.Pairwise (· ≤ ·) ∧ ns'.Nodup ∧ ns[j]? = some v ∧ ∀ y, y ∈ ns' ↔ R v y
theorem HeldT.mono {tb i : Nat} {ns : List Int} {R : Int → Int → Prop} {hv : List Value} (h : HeldT T tb ns R i hv) (hk : ∀ a c, T a = some c → c.1.2.1 = 0 → T' a = some c) : HeldT T' tb ns R i hv :=
  ⟨h.1, fun j hj => let ⟨a, ws, ns', v, h1, h2, r⟩ := h.2 j hj; ⟨a, ws, ns', v, h1, hk _ _ h2 rfl, r⟩⟩
theorem keep1_0 (h : Keep 1 T T') : ∀ a c, T a = some c → c.1.2.1 = 0 → T' a = some c := fun a c e z => h a c e (by rw [z]; decide)

/-- what the two comprehensions do, at their iterator -/
theorem heldComp {Cl x D0 : Addr} {dir ca : Bool} {ns : List Int} {nv : List Value} {R : Int → Int → Prop} {p1 p2 p3 p4 p5 px : Pos} {Fin : TM → List Value → Addr → (Str → Option Value) → OG → Shared → Prop} (tb : Nat) (t : Tag) (W : Wd K mg mb B) (S : St B L T m O s) (hh : A.handled = none) (hroom : A.depth < 600) (LK : LawK K P)
    (hC : ClsOf Cl dir) (hg : T (L + 6) = some (cel (L + 6), CellP (some (.ref x)))) (G : Gr prog w T 1 Cl x dir ca ns R) (hD : T D0 = some ((22, 0, 0), LsP nv)) (hI : IntsAre nv ns) (hl : ns.length ≤ 6)
    (h : ∀ T' hv D s, Keep 1 T T' → (∃ ca', Gr prog w T' 1 Cl x dir ca' ns R) → HeldT T' tb ns R ns.length hv → T' D = none → St B L (upd T' D (t, LsP hv)) m O s → Fin T' hv D m O s) :
    wpAny (model prog w) A (pyIter (.ref D0)) (CompGoalN prog w A B (lawE L f cdv) t (.Name "x" px) [] (.Call (.Name "sorted" p1) [.Subscript (.Name "graph" p2) (.Name "x" p3) p4] [] p5) heldSc [(Str.ofString "graph", L + 6)] Fin) E s := by
  have hnl := hI.length
  refine compListN (env := lawE L f cdv) (xs := nv) hh S hD (fun o ho => LsP.li ho) (by omega) rfl rfl (fun i T' ys => Keep 1 T T' ∧ (∃ ca', Gr prog w T' 1 Cl x dir ca' ns R) ∧ HeldT T' tb ns R i ys)
    ⟨.refl _ _, ⟨ca, G⟩, rfl, fun j hj => absurd hj (Nat.not_lt_zero _)⟩ (fun i T' ys _ hJ => ⟨_, _, hJ.1 _ _ hD (show (0 : Nat) ≠ 1 by decide), fun o ho => LsP.li ho⟩) (fun C i v T' ys mC B₁ s₁ hv hJ hB hm S₁ => ?_) (fun T' ys D s₁ hJ hD' S₁ => ?_)
  · obtain ⟨k₁, ⟨ca', G₁⟩, H₁⟩ := hJ
    obtain ⟨z, u, rfl, hz⟩ := IntsAre.at hI i v hv
    refine toN (tests_nil ?_)
    rw [if_pos rfl]
    refine heldElt (tb, 0, (i : Int)) (W.keeps hB) S₁ hh hroom LK hC hm (k₁ _ _ hg (show (0 : Nat) ≠ 1 by decide)) G₁ (List.mem_of_getElem? hz) fun l ws ns' T₂ s₂ k₂ G₂ hl₂ hI₂ hs₂ hn₂ hy₂ S₂ => ?_
    refine ⟨T₂, _, S₂, k₁.trans k₂, ⟨true, G₂⟩, by rw [List.length_append, H₁.1]; rfl, fun j hj => ?_⟩
    rcases Nat.lt_or_ge j i with q | q
    · obtain ⟨a, ws', ns'', v', h1, h2, r⟩ := H₁.2 j q
      exact ⟨a, ws', ns'', v', by rw [List.getElem?_append_left (by rw [H₁.1]; exact q)]; exact h1, keep1_0 k₂ _ _ h2 rfl, r⟩
    · obtain rfl : j = i := by omega
      exact ⟨l, ws, ns', z, by rw [List.getElem?_append_right (by rw [H₁.1]; exact Nat.le_refl _), H₁.1, Nat.sub_self]; rfl, hl₂, hI₂, hs₂, hn₂, hz, hy₂⟩
  · obtain ⟨k₁, G₁, H₁⟩ := hJ
    rw [hnl] at H₁
    exact h T' ys D s₁ k₁ G₁ H₁ hD' S₁

theorem lawSt10 {Cl x D0 : Addr} {dir ca : Bool} {ns : List Int} {nv : List Value} {R : Int → Int → Prop} {Q : Flow → Shared → Prop} (W : Wd K mg mb B) (S : St B L T m O s) (hh : A.handled = none) (hroom : A.depth < 600) (LK : LawK K P)
    (hC : ClsOf Cl dir) (hg : T (L + 6) = some (cel (L + 6), CellP (some (.ref x)))) (G : Gr prog w T 1 Cl x dir ca ns R) (hn : T (L + 4) = some (cel (L + 4), CellP (some (.ref D0)))) (hD : T D0 = some ((22, 0, 0), LsP nv)) (hI : IntsAre nv ns) (hl : ns.length ≤ 6)
    (h : ∀ D hv T' s', Keep 1 T T' → (∃ ca', Gr prog w T' 1 Cl x dir ca' ns R) → HeldT T' 27 ns R ns.length hv → T' D = some ((26, 0, 0), LsP hv) → St B L T' (fs m "held" (.ref D)) O s' → Q .next s') :
    wpN (model prog w) A (exec (lawSt 10) (lawE L f cdv)) Q E s := by
  refine compAN (t := (26, 0, 0)) (B := B) S rfl ?_
  refine toN (ldCellS S (c := L + 4) rfl hn (toN ?_))
  refine heldComp (ca := ca) 27 (26, 0, 0) W S hh hroom LK hC hg G hD hI hl fun T₁ hv D s₁ k₁ G₁ H₁ hD₁ S₁ => ?_
  intro s₂ S₂
  refine h D hv _ s₂ (k₁.trans (.of_sub (.new hD₁))) (let ⟨ca', G'⟩ := G₁; ⟨ca', G'.sub (.new hD₁)⟩) (H₁.mono fun a c e _ => upd_new e hD₁) upd_self S₂

theorem lawSt19 {Cl x D0 Dh : Addr} {dir ca : Bool} {ns : List Int} {nv hv : List Value} {R : Int → Int → Prop} {Q : Flow → Shared → Prop} (W : Wd K mg mb B) (S : St B L T m O s) (hh : A.handled = none) (hroom : A.depth < 600) (hu : A.units < 9000) (LK : LawK K P)
    (hC : ClsOf Cl dir) (hg : T (L + 6) = some (cel (L + 6), CellP (some (.ref x)))) (G : Gr prog w T 1 Cl x dir ca ns R) (hn : T (L + 4) = some (cel (L + 4), CellP (some (.ref D0)))) (hD : T D0 = some ((22, 0, 0), LsP nv)) (hI : IntsAre nv ns) (hl : ns.length ≤ 6)
    (hm : m "held" = some (.ref Dh)) (hDh : T Dh = some ((26, 0, 0), LsP hv)) (H : HeldT T 27 ns R ns.length hv)
    (h : ∀ T' s', Keep 1 T T' → St B L T' m O s' → Q (.ret (.bool true)) s') :
    wpN (model prog w) A (exec (lawSt 19) (lawE L f cdv)) Q E s := by
  refine n_Return (n_Compare1 (compEN (t := (29, 0, 0)) (B := B) S rfl ?_))
  refine toN (ldCellS S (c := L + 4) rfl hn (toN ?_))
  refine heldComp (ca := ca) 28 (29, 0, 0) W S hh hroom LK hC hg G hD hI hl fun T₁ gv D s₁ k₁ G₁ H₁ hD₁ S₁ => ?_
  intro s₂ S₂
  refine ldS S₂ hm ?_
  have k₂ : Keep 1 T (upd T₁ D ((29, 0, 0), LsP gv)) := k₁.trans (.of_sub (.new hD₁))
  have hDD : upd T₁ D ((29, 0, 0), LsP gv) D = _ := upd_self
  replace H₁ := H₁.mono (T' := upd T₁ D ((29, 0, 0), LsP gv)) fun a c e _ => upd_new e hD₁
  have H₂ := H.mono (keep1_0 k₂)
  have hDh₂ := keep1_0 k₂ _ _ hDh rfl
  generalize upd T₁ D ((29, 0, 0), LsP gv) = T₂ at S₂ k₂ hDD H₁ H₂ hDh₂
  refine PySem.SeqAt.eq_listAt (e := fun _ => true) (S₂.list hDD fun o ho => LsP.li ho) (S₂.list hDh₂ fun o ho => LsP.li ho) (by rw [List.size_toArray, List.size_toArray, H₁.1, H₂.1]) (by show A.units < 9900; omega) (fun j h1 h2 => ?_) ?_
  · have hj : j < ns.length := by rw [List.size_toArray, H₁.1] at h1; exact h1
    obtain ⟨a, ws, na, v, a1, a2, a3, a4, a5, a6, a7⟩ := H₁.2 j hj
    obtain ⟨b, ws', nb, v', b1, b2, b3, b4, b5, b6, b7⟩ := H₂.2 j hj
    rw [a6] at b6; cases b6
    have e1 : gv.toArray[j] = .ref a := by
      have := a1; rw [List.getElem?_eq_getElem (by rw [H₁.1]; exact hj)] at this
      simpa using this
    have e2 : hv.toArray[j] = .ref b := by
      have := b1; rw [List.getElem?_eq_getElem (by rw [H₂.1]; exact hj)] at this
      simpa using this
    have hne : a ≠ b := ne_of_tag a2 b2 (fun q => by have : (28 : Nat) = 27 := congrArg Prod.fst q; omega)
    have hperm : na.Perm nb := (List.perm_ext_iff_of_nodup a5 b5).mpr fun y => by rw [a7, b7]
    have heq := sorted_perm_eq hperm a4 b4
    subst heq
    rw [e1, e2]
    refine PySem.SeqAt.EqAt.of_refs hne ?_
    have := PySem.SeqAt.RcAt.lists (A := A.in1) (e := fun _ => true) (S₂.list a2 fun o ho => LsP.li ho) (S₂.list b2 fun o ho => LsP.li ho) (by rw [List.size_toArray, List.size_toArray, a3.length, b3.length]) (by show A.units + 1 < 9900; omega) (intsEqAt a3 b3)
    have e : ((List.range ws.toArray.size).all fun _ => true) = true := by simp
    rw [e] at this
    exact this
  · have e : ((List.range gv.toArray.size).all fun _ => true) = true := by simp
    rw [e]
    exact h T₂ s₂ k₂ S₂
end
end Mine
end
section
open PySem PySem.W PySem.Calls PyProof.Rows
set_option Elab.async false
set_option maxRecDepth 100000
namespace Mine
-- "L": what a name holds
local macro_rules | `(tactic| walk_at "L") => `(tactic| first
  | assumption
  | exact fs_eq
  | (refine fs_ne (by decide) ?_; walk_at "L")
  | rfl)
-- "M": the next step of the walk, where it is the same everywhere
local macro_rules | `(tactic| walk_at "M") => `(tactic| first
  | ((with_reducible refine loadG ?_); refine ldnS (by assumption) (by walk_at "L") ?_)
  | ((with_reducible refine stG ?_); refine stS (by assumption) ?_; intro _ _)
  | ((with_reducible refine nameG ?_); refine ldS (by assumption) (by walk_at "L") ?_)
  | with_reducible refine wpAny_execs_cons ?_
  | with_reducible refine wpAny_execs_nil ?_
  | with_reducible refine wpAny_BinOp ?_
  | with_reducible refine wpAny_Constant_int ?_
  | with_reducible refine wpAny_Constant_str ?_
  | with_reducible refine Constant_none ?_
  | with_reducible refine Constant_bool ?_
  | with_reducible refine wpAny_Compare1 ?_
  | with_reducible refine wpAny_isTrue_Compare1 ?_
  | with_reducible refine isTrue_not ?_
  | with_reducible refine isTrue_and_nil ?_
  | with_reducible refine isTrue_or_nil ?_
  | with_reducible refine isTrue_and ?_
  | with_reducible refine isTrue_or ?_
  | with_reducible refine IfExp_ ?_
  | with_reducible refine wpAny_If ?_
  | ((with_reducible refine asgN ?_ ?_); (focus rfl))
  | ((with_reducible refine asgS ?_ ?_); (focus rfl))
  | ((with_reducible refine asgA ?_ ?_); (focus rfl))
  | ((with_reducible refine exprE ?_ ?_ ?_); (focus rfl); (focus rfl))
  | with_reducible refine wpAny_AugAssign_Name ?_
  | with_reducible refine wpAny_Return_some ?_
  | with_reducible refine wpAny_Break ?_
  | with_reducible refine wpAny_Continue ?_
  | ((with_reducible refine isG ?_); refine wpAny_is_other (by rfl) (by intro e; cases e) ?_)
  | ((with_reducible refine trG ?_); refine isTrue_plain ?_)
  | with_reducible refine wpAny_truthy_bool ?_
  | with_reducible refine add_int ?_
  | with_reducible refine iadd_int ?_
  | with_reducible refine sub_int ?_
  | with_reducible refine lt_int ?_
  | with_reducible refine le_int ?_
  | with_reducible refine gt_int ?_
  | with_reducible refine eq_int ?_
  | with_reducible refine ne_int ?_
  | with_reducible refine splE ?_
  | ((with_reducible refine splG ?_); refine spliced_more ?_)
  | with_reducible refine Tuple_ ?_
  | with_reducible refine List_ ?_
  | ((with_reducible refine methC (pl := ?_) ?_ ?_); rotate_left; (focus rfl))
  | ((with_reducible refine callC ?_ ?_); (focus rfl))
  | ((with_reducible refine cwB1 ?_ ?_ ?_); (focus rfl); (focus rfl))
  | ((with_reducible refine cwT1 ?_ ?_ ?_); (focus rfl); (focus rfl))
  | ((with_reducible refine cwM1 ?_ ?_ ?_); (focus rfl); (focus rfl))
  | with_reducible refine Subscript_ ?_
  | ((with_reducible refine attrE ?_ ?_); (focus with_unfolding_all rfl))
  | (show wpAny _ _ (execs _ _) _ _ _; first | refine wpAny_execs_cons ?_ | refine wpAny_execs_nil ?_))
section
variable {prog : Program} {w : World} {A : Around} {E : Value → Shared → Prop} {K : Frag} {mg mb : Str → Option Value} {B : Heap} {L : Addr} {T T' : TM} {m : Str → Option Value} {O : OG} {s : Shared} {t : Tag} {f P : Addr} {cdv : Value}

theorem lawSt11 {D : Addr} {n : Nat} {dir : Bool} {js : List (Int × Int)} {rv : List Value} {kss : List (List Int)} {Q : Flow → Shared → Prop} (W : Wd K mg mb B) (S : St B L T m O s) (hh : A.handled = none) (hroom : A.depth < 600) (hu : A.units < 9000) (LK : LawK K P)
    (hm : m "rows" = some (.ref D)) (hD : T D = some ((25, 0, 0), LsP rv)) (hR : RowsT T rv kss) (hkl : kss.length = n) (hok : RowsOk dir js n kss) (hn6 : n ≤ 6)
    (h : ∀ d ls T' s', Sub T T' → T' d = some ((13, 0, 0), LsP ls) → TableP T' (rowR kss) n ls → St B L T' (fs m "steps" (.ref d)) O s' → Q .next s') :
    wpAny (model prog w) A (exec (lawSt 11) (lawE L f cdv)) Q E s := by
  obtain ⟨fn, ⟨cdn, hf⟩, hgn, hkn⟩ := LK.fSte
  refine asgN rfl ?_
  repeat walk_at "M"
  refine ldGlobS W S hgn ?_
  refine cwF hkn rfl rfl ?_
  repeat walk_at "M"
  refine ⟨W.X.keeps S.keep, ?_⟩
  refine lawSteps W S hf (Nat.lt_trans hroom (by decide)) hh hu LK.PK.ln LK.rg hD (fun o ho => LsP.li ho) hR (by omega) (fun ks hks => ?_) (by decide) (by decide) fun d T₁ ls s₁ hs hd hT S₁ => ?_
  · obtain ⟨j, hj⟩ := List.mem_iff_getElem?.mp hks
    obtain ⟨h1, h2⟩ := hok j ks hj
    rw [hkl]
    exact ⟨by omega, fun y hy => ((h2 y).mp hy).1⟩
  · rw [hkl] at hT
    refine stS S₁ fun s₂ S₂ => ?_
    exact h d ls T₁ s₂ hs hd hT S₂

/-- `NAME = 1 + numbers[j] % mo` -/
theorem drawSt {d : Addr} {ws : List Value} {ks : List Int} {x : Str} {j mo : Int} {px p1 p2 p3 p4 p5 p6 p7 p9 : Pos} {k1 k2 k3 : Nat} {Q : Flow → Shared → Prop} (S : St B L T m O s) (hd : T d = some ((21, 0, 0), LsP ws)) (hI : IntsAre ws ks) (hk : ks.length = 14) (hn : T (L + 1) = some (cel (L + 1), CellP (some (.ref d))))
    (hj : 0 ≤ j ∧ j < 14) (hmo : 0 < mo) (hsw : swapsWith (.BinOp (.Constant (.int 1) k1 p1) .Add (.BinOp (.Subscript (.Name "numbers" p2) (.Constant (.int j) k2 p3) p4) .Mod (.Constant (.int mo) k3 p5) p6) p7) (some (.Name x px)) p9.line (lawE L f cdv) = pure false)
    (hl : (lawE L f cdv).kindOf x = some .local)
    (h : ∀ (n : Nat) u s', 0 < n → (n : Int) ≤ mo → St B L T (fs m x (.int (n : Int) u)) O s' → Q .next s') :
    wpAny (model prog w) A (exec (.Assign [.Name x px] (.BinOp (.Constant (.int 1) k1 p1) .Add (.BinOp (.Subscript (.Name "numbers" p2) (.Constant (.int j) k2 p3) p4) .Mod (.Constant (.int mo) k3 p5) p6) p7) p9) (lawE L f cdv)) Q E s := by
  refine asgN hsw ?_
  repeat walk_at "M"
  refine ldCellS S (c := L + 1) rfl hn ?_
  repeat walk_at "M"
  obtain ⟨u, hu⟩ := getInt hI (i := j.toNat) (by omega)
  refine subListS S hd (fun o ho => LsP.li ho) hj.1 (by omega) hu ?_
  repeat walk_at "M"
  refine PyProof.Rows.mod_int (by omega) ?_
  repeat walk_at "M"
  have h0 := Int.fmod_nonneg_of_pos (ks.getD j.toNat 0) hmo
  have h1 := Int.fmod_lt_of_pos (ks.getD j.toNat 0) hmo
  generalize (ks.getD j.toNat 0).fmod mo = z at h0 h1
  refine stS S (fun s₂ S₂ => ?_) rfl hl
  have e : 1 + z = (((1 + z).toNat : Nat) : Int) := by omega
  rw [e] at S₂
  exact h (1 + z).toNat _ s₂ (by omega) (by omega) S₂

theorem frames1 (S : St B L T m O s) : s.heap.FunFrames (maskP s.heap (fun b => b == L)) [lawE L f cdv] := by
  obtain ⟨oL, es, ep, hoL, hdL, _⟩ := id S.ns
  exact ⟨(fun q => nomatch (show ScopeKind.function = ScopeKind.module from q)), ⟨_, _, rfl, maskP_none (by simp), hoL, (fun vs q => by rw [hdL] at q; cases q)⟩, trivial⟩

theorem lawSt15 {d x : Addr} {ws : List Value} {ks : List Int} {Q : Flow → Shared → Prop} (W : Wd K mg mb B) (S : St B L T m O s) (hh : A.handled = none) (hroom : A.depth < 600) (hfr : A.frames = some [lawE L f cdv]) (LK : LawK K P)
    (hd : T d = some ((21, 0, 0), LsP ws)) (hI : IntsAre ws ks) (hk : ks.length = 14) (hn : T (L + 1) = some (cel (L + 1), CellP (some (.ref d)))) (hg : T (L + 6) = some (cel (L + 6), CellP (some (.ref x))))
    (h : ∀ s', St B L T m O s' → Q .next s') :
    wpAny (model prog w) A (exec (lawSt 15) (lawE L f cdv)) Q E s := by
  obtain ⟨fn, ⟨cdn, hf⟩, hgn, hkn⟩ := LK.fRef
  refine wpAny_If ?_
  repeat walk_at "M"
  refine isTrue_plain ?_
  repeat walk_at "M"
  refine ldGlobS W S hgn ?_
  refine cwF hkn rfl rfl ?_
  repeat walk_at "M"
  refine ldCellS S (c := L + 6) rfl hg ?_
  repeat walk_at "M"
  refine ⟨W.X.keeps S.keep, ?_⟩
  refine lawRefused (P := P) W S hf (by omega) hh LK.PK LK.ve LK.pw LK.kpw (Int.le_refl 0) hfr (frames1 S) fun s₁ S₁ => ?_
  refine wpAny_truthy_bool ?_
  rw [if_neg (by decide)]
  clear S
  repeat walk_at "M"
  refine isTrue_plain ?_
  repeat walk_at "M"
  refine ldGlobS W S₁ hgn ?_
  refine cwF hkn rfl rfl ?_
  repeat walk_at "M"
  refine ldCellS S₁ (c := L + 6) rfl hg ?_
  repeat walk_at "M"
  refine UnaryOp_ ?_
  repeat walk_at "M"
  refine neg_int ?_
  repeat walk_at "M"
  refine ldCellS S₁ (c := L + 1) rfl hn ?_
  repeat walk_at "M"
  obtain ⟨u, hu⟩ := getInt hI (i := 5) (by omega)
  refine subListS S₁ hd (fun o ho => LsP.li ho) (by decide) (by decide) hu ?_
  repeat walk_at "M"
  refine PyProof.Rows.mod_int (by decide) ?_
  repeat walk_at "M"
  refine ⟨W.X.keeps S₁.keep, ?_⟩
  have h0 := Int.fmod_nonneg_of_pos (ks.getD 5 0) (show (0 : Int) < 5 by decide)
  refine lawRefused (P := P) W S₁ hf (by omega) hh LK.PK LK.ve LK.pw LK.kpw (by omega) hfr (frames1 S₁) fun s₂ S₂ => ?_
  refine wpAny_truthy_bool ?_
  rw [if_neg (by decide)]
  repeat walk_at "M"
  exact h _ S₂
end
end Mine
end
section
open PySem PySem.W PySem.Calls PyProof.Rows
set_option Elab.async false
set_option maxRecDepth 100000
namespace Mine
-- "L": what a name holds
local macro_rules | `(tactic| walk_at "L") => `(tactic| first
  | assumption
  | exact fs_eq
  | (refine fs_ne (by decide) ?_; walk_at "L")
  | rfl)
-- "M": the next step of the walk, where it is the same everywhere
local macro_rules | `(tactic| walk_at "M") => `(tactic| first
  | ((with_reducible refine loadG ?_); refine ldnS (by assumption) (by walk_at "L") ?_)
  | ((with_reducible refine stG ?_); refine stS (by assumption) ?_; intro _ _)
  | ((with_reducible refine nameG ?_); refine ldS (by assumption) (by walk_at "L") ?_)
  | with_reducible refine wpAny_execs_cons ?_
  | with_reducible refine wpAny_execs_nil ?_
  | with_reducible refine wpAny_BinOp ?_
  | with_reducible refine wpAny_Constant_int ?_
  | with_reducible refine wpAny_Constant_str ?_
  | with_reducible refine Constant_none ?_
  | with_reducible refine Constant_bool ?_
  | with_reducible refine wpAny_Compare1 ?_
  | with_reducible refine wpAny_isTrue_Compare1 ?_
  | with_reducible refine isTrue_not ?_
  | with_reducible refine isTrue_and_nil ?_
  | with_reducible refine isTrue_or_nil ?_
  | with_reducible refine isTrue_and ?_
  | with_reducible refine isTrue_or ?_
  | with_reducible refine IfExp_ ?_
  | with_reducible refine wpAny_If ?_
  | ((with_reducible refine asgN ?_ ?_); (focus rfl))
  | ((with_reducible refine asgS ?_ ?_); (focus rfl))
  | ((with_reducible refine asgA ?_ ?_); (focus rfl))
  | ((with_reducible refine exprE ?_ ?_ ?_); (focus rfl); (focus rfl))
  | with_reducible refine wpAny_AugAssign_Name ?_
  | with_reducible refine wpAny_Return_some ?_
  | with_reducible refine wpAny_Break ?_
  | with_reducible refine wpAny_Continue ?_
  | ((with_reducible refine isG ?_); refine wpAny_is_other (by rfl) (by intro e; cases e) ?_)
  | ((with_reducible refine trG ?_); refine isTrue_plain ?_)
  | with_reducible refine wpAny_truthy_bool ?_
  | with_reducible refine add_int ?_
  | with_reducible refine iadd_int ?_
  | with_reducible refine sub_int ?_
  | with_reducible refine lt_int ?_
  | with_reducible refine le_int ?_
  | with_reducible refine gt_int ?_
  | with_reducible refine eq_int ?_
  | with_reducible refine ne_int ?_
  | with_reducible refine splE ?_
  | ((with_reducible refine splG ?_); refine spliced_more ?_)
  | with_reducible refine Tuple_ ?_
  | with_reducible refine List_ ?_
  | ((with_reducible refine methC (pl := ?_) ?_ ?_); rotate_left; (focus rfl))
  | ((with_reducible refine callC ?_ ?_); (focus rfl))
  | ((with_reducible refine cwB1 ?_ ?_ ?_); (focus rfl); (focus rfl))
  | ((with_reducible refine cwT1 ?_ ?_ ?_); (focus rfl); (focus rfl))
  | ((with_reducible refine cwM1 ?_ ?_ ?_); (focus rfl); (focus rfl))
  | with_reducible refine Subscript_ ?_
  | ((with_reducible refine attrE ?_ ?_); (focus with_unfolding_all rfl))
  | (show wpAny _ _ (execs _ _) _ _ _; first | refine wpAny_execs_cons ?_ | refine wpAny_execs_nil ?_))
/-! ## the plain law -/
section
variable {α β : Type} {r : α → α → Prop} {f : α → β} {dom : α → Prop} {k : Nat}
/-- walks along an injection -/
theorem rch_map (hc : ∀ a b, r a b → dom a ∧ dom b) (hinj : ∀ a b, dom a → dom b → f a = f b → a = b) {a : α} (ha : dom a) {q : β} :
    rch (fun p q => ∃ a b, r a b ∧ p = f a ∧ q = f b) k (f a) q ↔ ∃ b, dom b ∧ q = f b ∧ rch r k a b := by
  induction k generalizing q with
  | zero =>
    constructor
    · intro h; exact ⟨a, ha, Eq.symm h, rfl⟩
    · rintro ⟨b, _, rfl, h⟩; exact congrArg f h
  | succ k ih =>
    constructor
    · rintro (h | ⟨x, h, a', b', h1, h2, h3⟩)
      · obtain ⟨b, h1, h2, h3⟩ := ih.mp h; exact ⟨b, h1, h2, .inl h3⟩
      · obtain ⟨b, g1, g2, g3⟩ := ih.mp h
        have := hc _ _ h1
        have e : b = a' := hinj _ _ g1 this.1 (g2.symm.trans h2)
        subst e
        exact ⟨b', this.2, h3, .inr ⟨b, g3, h1⟩⟩
    · rintro ⟨b, h1, rfl, h | ⟨x, h, e⟩⟩
      · exact .inl (ih.mpr ⟨b, h1, rfl, h⟩)
      · have := hc _ _ e
        exact .inr ⟨f x, ih.mpr ⟨x, this.1, rfl, h⟩, x, b, e, rfl, rfl⟩
/-- two relations alike on a closed set -/
theorem rch_on {q1 q2 : α → α → Prop} {S : α → Prop} (he : ∀ a b, S a → (q1 a b ↔ q2 a b)) (hcl : ∀ a b, S a → q1 a b → S b) {a b : α} (ha : S a) : rch q1 k a b ↔ rch q2 k a b := by
  have hS : ∀ k b, rch q1 k a b → S b := fun k => by
    induction k with
    | zero => intro b h; cases h; exact ha
    | succ k ih =>
      rintro b (h | ⟨x, h, e⟩)
      · exact ih b h
      · exact hcl _ _ (ih x h) e
  induction k generalizing b with
  | zero => rfl
  | succ k ih =>
    constructor
    · rintro (h | ⟨x, h, e⟩)
      · exact .inl (ih.mp h)
      · exact .inr ⟨x, ih.mp h, (he _ _ (hS k x h)).mp e⟩
    · rintro (h | ⟨x, h, e⟩)
      · exact .inl (ih.mpr h)
      · have hx := ih.mpr h
        exact .inr ⟨x, hx, (he _ _ (hS k x hx)).mpr e⟩
end
section
variable {ks : List Int} {dir : Bool} {js : List (Int × Int)} {n kk one two : Nat} {kss : List (List Int)}

theorem joR_in (hin : InN n js) {a b : Int} (h : joR dir js a b) : (0 ≤ a ∧ a < (n : Int)) ∧ 0 ≤ b ∧ b < (n : Int) := by
  rcases h with h | ⟨_, h⟩
  · exact hin _ h
  · exact (hin _ h).symm
theorem rowR_joR (hin : InN n js) (hkl : kss.length = n) (hok : RowsOk dir js n kss) {a b : Int} : rowR kss a b ↔ joR dir js a b := by
  unfold rowR
  constructor
  · rintro ⟨h0, h1⟩
    rw [List.getD_eq_getElem?_getD] at h1
    cases q : kss[a.toNat]? with
    | none => rw [q] at h1; simp at h1
    | some ks =>
      rw [q] at h1
      have := ((hok _ _ q).2 b).mp h1
      have e : ((a.toNat : Nat) : Int) = a := by omega
      rw [e] at this
      exact this.2
  · intro h
    have hr := joR_in hin h
    refine ⟨hr.1.1, ?_⟩
    have hlt : a.toNat < kss.length := by omega
    rw [List.getD_eq_getElem?_getD, List.getElem?_eq_getElem hlt]
    refine ((hok _ _ (List.getElem?_eq_getElem hlt)).2 b).mpr ⟨hr.2, ?_⟩
    have e : ((a.toNat : Nat) : Int) = a := by omega
    rw [e]; exact h
theorem gR_in (hin : InN n js) {p q : Int} (h : gR ks dir js p q) : p ∈ nmL ks n ∧ q ∈ nmL ks n := by
  obtain ⟨a, b, h, rfl, rfl⟩ := h
  have := joR_in hin h
  exact ⟨nmL_mem this.1.1 this.1.2, nmL_mem this.2.1 this.2.2⟩
theorem gR_symm {p q : Int} (h : gR ks false js p q) : gR ks false js q p := by
  obtain ⟨a, b, h, rfl, rfl⟩ := h
  refine ⟨b, a, ?_, rfl, rfl⟩
  rcases h with h | ⟨_, h⟩
  · exact .inr ⟨rfl, h⟩
  · exact .inl h
theorem rch_gR (hin : InN n js) (hn6 : n ≤ 6) (hkl : kss.length = n) (hok : RowsOk dir js n kss) {a b : Nat} (ha : a < n) (hb : b < n) : rch (gR ks dir js) kk (nmAt ks a) (nmAt ks b) ↔ rch (rowR kss) kk (a : Int) (b : Int) := by
  have e : rowR kss = joR dir js := by funext x y; exact propext (rowR_joR hin hkl hok)
  rw [e]
  have inj : ∀ x y : Int, (0 ≤ x ∧ x < (n : Int)) → (0 ≤ y ∧ y < (n : Int)) → nmAt ks x.toNat = nmAt ks y.toNat → x = y := fun x y hx hy h => by
    have := nmAt_inj (ks := ks) (i := x.toNat) (j := y.toNat) (by omega) (by omega) h
    omega
  have key := rch_map (r := joR dir js) (f := fun z : Int => nmAt ks z.toNat) (dom := fun z => 0 ≤ z ∧ z < (n : Int)) (k := kk) (fun x y h => joR_in hin h) inj (a := (a : Int)) ⟨Int.natCast_nonneg a, Int.ofNat_lt.mpr ha⟩ (q := nmAt ks b)
  have k2 : rch (gR ks dir js) kk (nmAt ks a) (nmAt ks b) ↔ ∃ b' : Int, (0 ≤ b' ∧ b' < (n : Int)) ∧ nmAt ks b = nmAt ks b'.toNat ∧ rch (joR dir js) kk (a : Int) b' := key
  rw [k2]
  constructor
  · rintro ⟨b', h1, h2, h3⟩
    have := inj (b : Int) b' ⟨Int.natCast_nonneg b, Int.ofNat_lt.mpr hb⟩ h1 (by rw [Int.toNat_natCast]; exact h2)
    subst this; exact h3
  · intro h
    exact ⟨b, ⟨Int.natCast_nonneg b, Int.ofNat_lt.mpr hb⟩, by rw [Int.toNat_natCast], h⟩
/-- what `_law_same` asks, of a power -/
theorem relPow (hin : InN n js) (hn6 : n ≤ 6) (hkl : kss.length = n) (hok : RowsOk dir js n kss) (a b : Nat) (va vb : Int) (ha : (nmL ks n)[a]? = some va) (hb : (nmL ks n)[b]? = some vb) :
    PowR (nmL ks n) (gR ks dir js) kk va vb ↔ a ≠ b ∧ (rch (rowR kss) kk (a : Int) (b : Int) ∨ rch (rowR kss) kk (b : Int) (a : Int)) := by
  have la : a < n := by
    rcases Nat.lt_or_ge a n with h | h
    · exact h
    · rw [List.getElem?_eq_none (by rw [nmL_len]; exact h)] at ha; cases ha
  have lb : b < n := by
    rcases Nat.lt_or_ge b n with h | h
    · exact h
    · rw [List.getElem?_eq_none (by rw [nmL_len]; exact h)] at hb; cases hb
  have ma := List.mem_of_getElem? ha
  have mb := List.mem_of_getElem? hb
  rw [nmL_get la] at ha
  rw [nmL_get lb] at hb
  cases ha; cases hb
  unfold PowR
  rw [rch_gR hin hn6 hkl hok la lb, rch_gR hin hn6 hkl hok lb la]
  constructor
  · rintro ⟨h1, _, _, h4⟩
    exact ⟨fun e => h1 (by rw [e]), h4⟩
  · rintro ⟨h1, h4⟩
    exact ⟨fun e => h1 (nmAt_inj (by omega) (by omega) e), ma, mb, h4⟩
/-- the power of a power -/
theorem powPow {ns : List Int} {R : Int → Int → Prop} (hcl : ∀ a b, R a b → a ∈ ns ∧ b ∈ ns) (hsy : ∀ a b, R a b → R b a) (h1 : 0 < one) {p q : Int} : PowR ns (PowR ns R one) two p q ↔ PowR ns R (one * two) p q := by
  have step : ∀ a b, a ∈ ns → (PowR ns R one a b ↔ a ≠ b ∧ rch R one a b) := fun a b ha => by
    unfold PowR
    constructor
    · rintro ⟨g1, _, _, g4⟩
      exact ⟨g1, g4.elim id (rch_symm hsy)⟩
    · rintro ⟨g1, g4⟩
      exact ⟨g1, ha, rch_in (p := fun y => y ∈ ns) (fun a b e => (hcl a b e).2) ha g4, .inl g4⟩
  have walk : ∀ a b, a ∈ ns → (rch (PowR ns R one) two a b ↔ rch R (one * two) a b) := fun a b ha => by
    rw [rch_on (S := fun y => y ∈ ns) step (fun a b _ e => e.2.2.1) ha]
    exact rch_pow h1
  unfold PowR
  constructor
  · rintro ⟨g1, g2, g3, g4⟩
    exact ⟨g1, g2, g3, g4.imp (walk p q g2).mp (walk q p g3).mp⟩
  · rintro ⟨g1, g2, g3, g4⟩
    exact ⟨g1, g2, g3, g4.imp (walk p q g2).mpr (walk q p g3).mpr⟩
end
end Mine
end
section
open PySem PySem.W PySem.Calls PyProof.Rows
set_option Elab.async false
set_option maxRecDepth 100000
namespace Mine
-- "L": what a name holds
local macro_rules | `(tactic| walk_at "L") => `(tactic| first
  | assumption
  | exact fs_eq
  | (refine fs_ne (by decide) ?_; walk_at "L")
  | rfl)
-- "M": the next step of the walk, where it is the same everywhere
local macro_rules | `(tactic| walk_at "M") => `(tactic| first
  | ((with_reducible refine loadG ?_); refine ldnS (by assumption) (by walk_at "L") ?_)
  | ((with_reducible refine stG ?_); refine stS (by assumption) ?_; intro _ _)
  | ((with_reducible refine nameG ?_); refine ldS (by assumption) (by walk_at "L") ?_)
  | with_reducible refine wpAny_execs_cons ?_
  | with_reducible refine wpAny_execs_nil ?_
  | with_reducible refine wpAny_BinOp ?_
  | with_reducible refine wpAny_Constant_int ?_
  | with_reducible refine wpAny_Constant_str ?_
  | with_reducible refine Constant_none ?_
  | with_reducible refine Constant_bool ?_
  | with_reducible refine wpAny_Compare1 ?_
  | with_reducible refine wpAny_isTrue_Compare1 ?_
  | with_reducible refine isTrue_not ?_
  | with_reducible refine isTrue_and_nil ?_
  | with_reducible refine isTrue_or_nil ?_
  | with_reducible refine isTrue_and ?_
  | with_reducible refine isTrue_or ?_
  | with_reducible refine IfExp_ ?_
  | with_reducible refine wpAny_If ?_
  | ((with_reducible refine asgN ?_ ?_); (focus rfl))
  | ((with_reducible refine asgS ?_ ?_); (focus rfl))
  | ((with_reducible refine asgA ?_ ?_); (focus rfl))
  | ((with_reducible refine exprE ?_ ?_ ?_); (focus rfl); (focus rfl))
  | with_reducible refine wpAny_AugAssign_Name ?_
  | with_reducible refine wpAny_Return_some ?_
  | with_reducible refine wpAny_Break ?_
  | with_reducible refine wpAny_Continue ?_
  | ((with_reducible refine isG ?_); refine wpAny_is_other (by rfl) (by intro e; cases e) ?_)
  | ((with_reducible refine trG ?_); refine isTrue_plain ?_)
  | with_reducible refine wpAny_truthy_bool ?_
  | with_reducible refine add_int ?_
  | with_reducible refine iadd_int ?_
  | with_reducible refine sub_int ?_
  | with_reducible refine lt_int ?_
  | with_reducible refine le_int ?_
  | with_reducible refine gt_int ?_
  | with_reducible refine eq_int ?_
  | with_reducible refine ne_int ?_
  | with_reducible refine splE ?_
  | ((with_reducible refine splG ?_); refine spliced_more ?_)
  | with_reducible refine Tuple_ ?_
  | with_reducible refine List_ ?_
  | ((with_reducible refine methC (pl := ?_) ?_ ?_); rotate_left; (focus rfl))
  | ((with_reducible refine callC ?_ ?_); (focus rfl))
  | ((with_reducible refine cwB1 ?_ ?_ ?_); (focus rfl); (focus rfl))
  | ((with_reducible refine cwT1 ?_ ?_ ?_); (focus rfl); (focus rfl))
  | ((with_reducible refine cwM1 ?_ ?_ ?_); (focus rfl); (focus rfl))
  | with_reducible refine Subscript_ ?_
  | ((with_reducible refine attrE ?_ ?_); (focus with_unfolding_all rfl))
  | (show wpAny _ _ (execs _ _) _ _ _; first | refine wpAny_execs_cons ?_ | refine wpAny_execs_nil ?_))
/-- the cells of the first graphs -/
def limT (g : Nat) (T : TM) : TM := fun a => match T a with
  | some c => if c.1.2.1 < g then some c else none
  | none => none
theorem limT_sub {g : Nat} {T : TM} : Sub (limT g T) T := fun a c e => by
  unfold limT at e
  cases q : T a with
  | none => rw [q] at e; cases e
  | some d =>
    rw [q] at e
    dsimp only at e
    split at e
    · exact e
    · cases e
theorem limT_at {g : Nat} {T : TM} {a : Addr} {c : Cel} (h : T a = some c) (hg : c.1.2.1 < g) : limT g T a = some c := by
  unfold limT; rw [h]; exact if_pos hg
theorem limT_no {g k : Nat} {T : TM} (h : g ≤ k) : NoG k (limT g T) := fun a c e => by
  unfold limT at e
  cases q : T a with
  | none => rw [q] at e; cases e
  | some d =>
    rw [q] at e
    dsimp only at e
    split at e
    · cases e; omega
    · cases e
/-- the lists and cells stand -/
def K0 (T T' : TM) : Prop := ∀ a c, T a = some c → c.1.2.1 = 0 → T' a = some c
theorem K0.trans {T₁ T₂ T₃ : TM} (h : K0 T₁ T₂) (h' : K0 T₂ T₃) : K0 T₁ T₃ := fun a c e z => h' a c (h a c e z) z
theorem K0.refl (T : TM) : K0 T T := fun _ _ e _ => e
theorem K0.of_sub {T T' : TM} (h : Sub T T') : K0 T T' := fun a c e _ => h a c e
theorem K0.of_keep {g : Nat} {T T' : TM} (hg : g ≠ 0) (h : Keep g T T') : K0 T T' := fun a c e z => h a c e (by rw [z]; exact fun q => hg q.symm)
theorem K0.lim {g : Nat} {T : TM} (hg : 0 < g) : K0 T (limT g T) := fun a c e z => limT_at e (by omega)
/-- what the law's second half leans on -/
structure LawF (prog : Program) (w : World) (T : TM) (L P : Addr) (p0 : Array Value) (ks : List Int) (n : Nat) (dir : Bool) (js : List (Int × Int)) (kss : List (List Int)) (D0 x Dh Ds : Addr) (nv hv sl : List Value) : Prop where
  cd : T (L + 3) = some (cel (L + 3), CellP (some (.bool dir)))
  cn : T (L + 4) = some (cel (L + 4), CellP (some (.ref D0)))
  cg : T (L + 6) = some (cel (L + 6), CellP (some (.ref x)))
  tn : T D0 = some ((22, 0, 0), LsP nv)
  th : T Dh = some ((26, 0, 0), LsP hv)
  ts : T Ds = some ((13, 0, 0), LsP sl)
  tP : T P = some ((10, 0, 0), TabP p0)
  iN : IntsAre nv (nmL ks n)
  tab : TableP T (rowR kss) n sl
  held : HeldT T 27 (nmL ks n) (gR ks dir js) n hv
  n6 : n ≤ 6
  inn : InN n js
  kl : kss.length = n
  ok : RowsOk dir js n kss
section
variable {prog : Program} {w : World} {A : Around} {E : Value → Shared → Prop} {K : Frag} {mg mb : Str → Option Value} {B : Heap} {L : Addr} {T T' : TM} {m : Str → Option Value} {O : OG} {s : Shared} {t : Tag} {f P : Addr} {cdv : Value}
  {p0 : Array Value} {ks : List Int} {n : Nat} {dir : Bool} {js : List (Int × Int)} {kss : List (List Int)} {D0 x Dh Ds : Addr} {nv hv sl : List Value}

theorem LawF.mono (F : LawF prog w T L P p0 ks n dir js kss D0 x Dh Ds nv hv sl) (h : K0 T T') : LawF prog w T' L P p0 ks n dir js kss D0 x Dh Ds nv hv sl :=
  { F with
    cd := h _ _ F.cd rfl
    cn := h _ _ F.cn rfl
    cg := h _ _ F.cg rfl
    tn := h _ _ F.tn rfl
    th := h _ _ F.th rfl
    ts := h _ _ F.ts rfl
    tP := h _ _ F.tP rfl
    tab := ⟨F.tab.1, fun j hj => let ⟨a, P', vs, h1, h2, r⟩ := F.tab.2 j hj; ⟨a, P', vs, h1, h _ _ h2 rfl, r⟩⟩
    held := F.held.mono h }

/-- power(graph, NAME) -/
theorem powG {Cl : Addr} {ca : Bool} {ns : List Int} {R : Int → Int → Prop} {kn : Str} {kk : Nat} {uk : Tok} {p1 p2 p3 p4 : Pos} {Q : Value → Shared → Prop} (W : Wd K mg mb B) (S : St B L T m O s) (hh : A.handled = none) (hroom : A.depth < 500) (LK : LawK K P)
    (hC : ClsOf Cl dir) (hP : T P = some ((10, 0, 0), TabP p0)) (hg : T (L + 6) = some (cel (L + 6), CellP (some (.ref x)))) (G : Gr prog w T 1 Cl x dir ca ns R) (hb : OB O) (hm : m kn = some (.int (kk : Int) uk)) (hk0 : 0 < kk) (hl : (lawE L f cdv).kindOf kn = some .local) (hd : (kn == ("__debug__" : Str)) = false)
    (h : ∀ xh T' O' s' ca', K0 T T' → (∀ a c, T' a = some c → c.1.2.1 < 3) → OB O' → O'.1 = O.1 → Gr prog w T' 1 Cl x dir ca' ns R → Gr prog w T' 2 624 xh false false ns (PowR ns R kk) → St B L T' m O' s' → Q (.ref xh) s') :
    wpN (model prog w) A (eval (.Call (.Name "power" p1) [.Name "graph" p2, .Name kn p3] [] p4) (lawE L f cdv)) Q E s := by
  obtain ⟨H, HA, HS⟩ := hC.facts LK
  have S₀ := S.forget (limT_sub (g := 2))
  have k₀ : K0 T (limT 2 T) := .lim (by decide)
  have G₀ : Gr prog w (limT 2 T) 1 Cl x dir ca ns R := G.mono fun a c e z => limT_at e (by omega)
  refine n_Call rfl (toN (ldGlobS W S₀ LK.pw (n_cwF LK.kpw rfl rfl (n_splicedMore (toN (ldCellS S₀ (c := L + 6) rfl (k₀ _ _ hg rfl) (n_splicedMore (toN (ldS S₀ hm (n_splicedNil ⟨W.X.keeps S₀.keep, ?_⟩) rfl hl hd)))))))))
  refine powerN (gg := 1) (gh := 2) (p0 := p0) W S₀ hroom hh H HA HS LK.PK (k₀ _ _ hP rfl) hb G₀ (by decide) (by decide) (by decide) (limT_no (Nat.le_refl 2)) (by omega) fun xh T₁ O₁ s₁ ca₁ k₁ hb₁ ho₁ G₁ GH₁ S₁ => ?_
  rw [Int.toNat_natCast] at GH₁
  refine h xh (limT 3 T₁) O₁ s₁ ca₁ ((k₀.trans (.of_keep (by decide) k₁)).trans (.lim (by decide))) (fun a c e => ?_) hb₁ ho₁ (G₁.mono fun a c e z => limT_at e (by omega)) (GH₁.mono fun a c e z => limT_at e (by omega)) (S₁.forget limT_sub)
  unfold limT at e
  cases q : T₁ a with
  | none => rw [q] at e; cases e
  | some d =>
    rw [q] at e
    dsimp only at e
    split at e
    · cases e; assumption
    · cases e

/-- _law_same(TOLD, names, steps, K): its first place may be a call -/
theorem sameE {te ke : Expr} {kk : Nat} {p1 p2 p3 p4 : Pos} {Q : Value → Shared → Prop} (W : Wd K mg mb B) (hh : A.handled = none) (hroom : A.depth < 500) (hu : A.units < 9000) (LK : LawK K P) (hms : m "steps" = some (.ref Ds))
    (S : St B L T m O s)
    (h1 : wpN (model prog w) A (eval te (lawE L f cdv)) (fun v s₁ => ∃ xt T₁ O₁ gid ca R', v = .ref xt ∧ St B L T₁ m O₁ s₁ ∧ LawF prog w T₁ L P p0 ks n dir js kss D0 x Dh Ds nv hv sl ∧ Gr prog w T₁ gid 624 xt false ca (nmL ks n) R' ∧
      (∀ (a b : Nat) (va vb : Int), (nmL ks n)[a]? = some va → (nmL ks n)[b]? = some vb → (R' va vb ↔ a ≠ b ∧ (rch (rowR kss) kk (a : Int) (b : Int) ∨ rch (rowR kss) kk (b : Int) (a : Int)))) ∧
      (∀ s₂ (Q' : Value → Shared → Prop) (E' : Value → Shared → Prop), St B L T₁ m O₁ s₂ → (∀ u s₃, St B L T₁ m O₁ s₃ → Q' (.int (kk : Int) u) s₃) → wpAny (model prog w) A (eval ke (lawE L f cdv)) Q' E' s₂) ∧
      ∀ s', St B L T₁ m O₁ s' → Q (.bool true) s') NoR s)
    (he1 : ∀ rest, starEach (te :: rest) (lawE L f cdv) = (false, eval te (lawE L f cdv)) :: starEach rest (lawE L f cdv)) (he4 : ∀ rest, starEach (ke :: rest) (lawE L f cdv) = (false, eval ke (lawE L f cdv)) :: starEach rest (lawE L f cdv)) :
    wpN (model prog w) A (eval (.Call (.Name "_law_same" p1) [te, .Name "names" p2, .Name "steps" p3, ke] [] p4) (lawE L f cdv)) Q E s := by
  obtain ⟨fn, ⟨cdn, hf⟩, hgn, hkn⟩ := LK.fSam
  obtain ⟨fd, MD⟩ := LK.MD
  have ep : (backTo p4 (starEach [.Name "names" p2, .Name "steps" p3, ke] (lawE L f cdv))).any (·.1) = false := by
    have e : starEach [.Name "names" p2, .Name "steps" p3, ke] (lawE L f cdv) = [(false, eval (.Name "names" p2) (lawE L f cdv)), (false, eval (.Name "steps" p3) (lawE L f cdv)), (false, eval ke (lawE L f cdv))] := by
      show (false, eval (.Name "names" p2) (lawE L f cdv)) :: (false, eval (.Name "steps" p3) (lawE L f cdv)) :: starEach [ke] (lawE L f cdv) = _
      rw [he4]; rfl
    rw [e]; rfl
  refine n_Call rfl (toN (ldGlobS W S hgn (n_cwF hkn (he1 _) ep (n_splicedMore ?_ (he1 _)))))
  refine n_noR (n_mono h1 (fun v s₁ hv => ?_) fun _ _ e => e)
  obtain ⟨xt, T₁, O₁, gid, ca, R', rfl, S₁, F, G, hrel, hk, hq⟩ := hv
  refine n_splicedMore (toN (ldCellS S₁ (c := L + 4) rfl F.cn (n_splicedMore (toN (ldS S₁ hms (n_splicedMore (toN (hk _ _ _ S₁ fun u s₂ S₂ => n_splicedNil ⟨W.X.keeps S₂.keep, toN ?_⟩)) (he4 _)))))))
  refine lawSame W S₂ hf (Nat.lt_trans hroom (by decide)) hh hu LK.PK LK.rg LK.so MD G F.tn (fun o ho => LsP.li ho) F.iN F.ts (fun o ho => LsP.li ho) (by rw [nmL_len]; exact F.tab) hrel fun s₃ S₃ => hq s₃ S₃
end
end Mine
end
section
open PySem PySem.W PySem.Calls PyProof.Rows
set_option Elab.async false
set_option maxRecDepth 100000
namespace Mine
-- "L": what a name holds
local macro_rules | `(tactic| walk_at "L") => `(tactic| first
  | assumption
  | exact fs_eq
  | (refine fs_ne (by decide) ?_; walk_at "L")
  | rfl)
-- "M": the next step of the walk, where it is the same everywhere
local macro_rules | `(tactic| walk_at "M") => `(tactic| first
  | ((with_reducible refine loadG ?_); refine ldnS (by assumption) (by walk_at "L") ?_)
  | ((with_reducible refine stG ?_); refine stS (by assumption) ?_; intro _ _)
  | ((with_reducible refine nameG ?_); refine ldS (by assumption) (by walk_at "L") ?_)
  | with_reducible refine wpAny_execs_cons ?_
  | with_reducible refine wpAny_execs_nil ?_
  | with_reducible refine wpAny_BinOp ?_
  | with_reducible refine wpAny_Constant_int ?_
  | with_reducible refine wpAny_Constant_str ?_
  | with_reducible refine Constant_none ?_
  | with_reducible refine Constant_bool ?_
  | with_reducible refine wpAny_Compare1 ?_
  | with_reducible refine wpAny_isTrue_Compare1 ?_
  | with_reducible refine isTrue_not ?_
  | with_reducible refine isTrue_and_nil ?_
  | with_reducible refine isTrue_or_nil ?_
  | with_reducible refine isTrue_and ?_
  | with_reducible refine isTrue_or ?_
  | with_reducible refine IfExp_ ?_
  | with_reducible refine wpAny_If ?_
  | ((with_reducible refine asgN ?_ ?_); (focus rfl))
  | ((with_reducible refine asgS ?_ ?_); (focus rfl))
  | ((with_reducible refine asgA ?_ ?_); (focus rfl))
  | ((with_reducible refine exprE ?_ ?_ ?_); (focus rfl); (focus rfl))
  | with_reducible refine wpAny_AugAssign_Name ?_
  | with_reducible refine wpAny_Return_some ?_
  | with_reducible refine wpAny_Break ?_
  | with_reducible refine wpAny_Continue ?_
  | ((with_reducible refine isG ?_); refine wpAny_is_other (by rfl) (by intro e; cases e) ?_)
  | ((with_reducible refine trG ?_); refine isTrue_plain ?_)
  | with_reducible refine wpAny_truthy_bool ?_
  | with_reducible refine add_int ?_
  | with_reducible refine iadd_int ?_
  | with_reducible refine sub_int ?_
  | with_reducible refine lt_int ?_
  | with_reducible refine le_int ?_
  | with_reducible refine gt_int ?_
  | with_reducible refine eq_int ?_
  | with_reducible refine ne_int ?_
  | with_reducible refine splE ?_
  | ((with_reducible refine splG ?_); refine spliced_more ?_)
  | with_reducible refine Tuple_ ?_
  | with_reducible refine List_ ?_
  | ((with_reducible refine methC (pl := ?_) ?_ ?_); rotate_left; (focus rfl))
  | ((with_reducible refine callC ?_ ?_); (focus rfl))
  | ((with_reducible refine cwB1 ?_ ?_ ?_); (focus rfl); (focus rfl))
  | ((with_reducible refine cwT1 ?_ ?_ ?_); (focus rfl); (focus rfl))
  | ((with_reducible refine cwM1 ?_ ?_ ?_); (focus rfl); (focus rfl))
  | with_reducible refine Subscript_ ?_
  | ((with_reducible refine attrE ?_ ?_); (focus with_unfolding_all rfl))
  | (show wpAny _ _ (execs _ _) _ _ _; first | refine wpAny_execs_cons ?_ | refine wpAny_execs_nil ?_))
section
variable {prog : Program} {w : World} {A : Around} {E : Value → Shared → Prop} {K : Frag} {mg mb : Str → Option Value} {B : Heap} {L : Addr} {T T' : TM} {m : Str → Option Value} {O : OG} {s : Shared} {t : Tag} {f P : Addr} {cdv : Value}
  {p0 : Array Value} {ks : List Int} {n : Nat} {dir ca : Bool} {js : List (Int × Int)} {kss : List (List Int)} {D0 x Dh Ds Cl : Addr} {nv hv sl : List Value}

theorem lawSt16 {kk : Nat} {uk : Tok} {Q : Flow → Shared → Prop} (W : Wd K mg mb B) (S : St B L T m O s) (hh : A.handled = none) (hroom : A.depth < 500) (LK : LawK K P) (hC : ClsOf Cl dir) (F : LawF prog w T L P p0 ks n dir js kss D0 x Dh Ds nv hv sl)
    (G : Gr prog w T 1 Cl x dir ca (nmL ks n) (gR ks dir js)) (hb : OB O) (hm : m "k" = some (.int (kk : Int) uk)) (hk0 : 0 < kk)
    (h : ∀ xh T' O' s' ca', K0 T T' → OB O' → O'.1 = O.1 → Gr prog w T' 1 Cl x dir ca' (nmL ks n) (gR ks dir js) → Gr prog w T' 2 624 xh false false (nmL ks n) (PowR (nmL ks n) (gR ks dir js) kk) → St B L T' (fs m "told" (.ref xh)) O' s' → Q .next s') :
    wpN (model prog w) A (exec (lawSt 16) (lawE L f cdv)) Q E s := by
  refine n_asgN rfl (powG W S hh hroom LK hC F.tP F.cg G hb hm hk0 rfl (by decide) fun xh T₁ O₁ s₁ ca₁ k₁ _ hb₁ ho₁ G₁ GH₁ S₁ => ?_)
  exact stS S₁ fun s₂ S₂ => h xh T₁ O₁ s₂ ca₁ k₁ hb₁ ho₁ G₁ GH₁ S₂

theorem lawSt17 {kk one : Nat} {uk uo : Tok} {xt : Addr} {Q : Flow → Shared → Prop} (W : Wd K mg mb B) (S : St B L T m O s) (hh : A.handled = none) (hroom : A.depth < 500) (hu : A.units < 9000) (LK : LawK K P) (hC : ClsOf Cl dir) (F : LawF prog w T L P p0 ks n dir js kss D0 x Dh Ds nv hv sl)
    (G : Gr prog w T 1 Cl x dir ca (nmL ks n) (gR ks dir js)) (GH : Gr prog w T 2 624 xt false false (nmL ks n) (PowR (nmL ks n) (gR ks dir js) kk)) (hb : OB O) (hms : m "steps" = some (.ref Ds)) (hmt : m "told" = some (.ref xt)) (hm : m "k" = some (.int (kk : Int) uk)) (hmo : m "one" = some (.int (one : Int) uo)) (ho0 : 0 < one)
    (h : ∀ T' O' s' ca', K0 T T' → OB O' → O'.1 = O.1 → Gr prog w T' 1 Cl x dir ca' (nmL ks n) (gR ks dir js) → St B L T' m O' s' → Q .next s') :
    wpN (model prog w) A (exec (lawSt 17) (lawE L f cdv)) Q E s := by
  refine n_If (n_isTrue_or (n_isTrue_not (n_isTrue_plain (sameE (kk := kk) W hh hroom hu LK hms S (toN (ldS S hmt ⟨xt, T, O, 2, false, _, rfl, S, F, GH, relPow F.inn F.n6 F.kl F.ok, fun s₂ Q' E' S₂ h => ldS S₂ hm (h _ _ S₂), fun s₁ S₁ => ?_⟩)) (fun _ => rfl) (fun _ => rfl)))))
  refine wpAny_truthy_bool ?_
  rw [if_neg (by decide)]
  refine n_isTrue_or (n_isTrue_not (n_isTrue_plain (sameE (kk := one) W hh hroom hu LK hms S₁ (powG W S₁ hh hroom LK hC F.tP F.cg G hb hmo ho0 rfl (by decide) fun xh T₁ O₁ s₂ ca₁ k₁ _ hb₁ ho₁ G₁ GH₁ S₂ =>
    ⟨xh, T₁, O₁, 2, false, _, rfl, S₂, F.mono k₁, GH₁, relPow F.inn F.n6 F.kl F.ok, fun s₃ Q' E' S₃ h => ldS S₃ hmo (h _ _ S₃), fun s₃ S₃ => ?_⟩) (fun _ => rfl) (fun _ => rfl))))
  refine wpAny_truthy_bool ?_
  rw [if_neg (by decide)]
  refine toN (isTrue_or_nil ?_)
  rw [if_neg (by decide)]
  exact toN (wpAny_execs_nil (h T₁ O₁ s₃ ca₁ k₁ hb₁ ho₁ G₁ S₃))

theorem lawSt18 {one two : Nat} {uo ut : Tok} {Q : Flow → Shared → Prop} (W : Wd K mg mb B) (S : St B L T m O s) (hh : A.handled = none) (hroom : A.depth < 500) (hu : A.units < 9000) (LK : LawK K P) (hC : ClsOf Cl dir) (F : LawF prog w T L P p0 ks n dir js kss D0 x Dh Ds nv hv sl)
    (G : Gr prog w T 1 Cl x dir ca (nmL ks n) (gR ks dir js)) (hb : OB O) (hms : m "steps" = some (.ref Ds)) (hmo : m "one" = some (.int (one : Int) uo)) (hmt : m "two" = some (.int (two : Int) ut)) (ho0 : 0 < one) (ho3 : one ≤ 3) (ht0 : 0 < two) (ht3 : two ≤ 3)
    (h : ∀ T' O' s' ca', K0 T T' → OB O' → O'.1 = O.1 → Gr prog w T' 1 Cl x dir ca' (nmL ks n) (gR ks dir js) → St B L T' m O' s' → Q .next s') :
    wpN (model prog w) A (exec (lawSt 18) (lawE L f cdv)) Q E s := by
  refine n_If (n_isTrue_and (n_isTrue_not (toN (isTrue_plain (ldCellS S (c := L + 3) rfl F.cd (wpAny_truthy_bool ?_))))))
  cases dir with
  | true =>
    rw [if_neg (by decide), if_neg (by decide)]
    exact toN (wpAny_execs_nil (h T O s ca (.refl _) hb rfl G S))
  | false =>
    rw [if_pos (by decide)]
    refine n_isTrue_and (n_isTrue_not (n_isTrue_plain (sameE (P := P) (p0 := p0) (ks := ks) (n := n) (dir := false) (js := js) (kss := kss) (D0 := D0) (x := x) (Dh := Dh) (nv := nv) (hv := hv) (sl := sl) (kk := one * two) W hh hroom hu LK hms S ?_ (fun _ => rfl) (fun _ => rfl))))
    refine n_Call rfl (toN (ldGlobS W S LK.pw (n_cwF LK.kpw rfl rfl (n_splicedMore (powG W S hh hroom LK hC F.tP F.cg G hb hmo ho0 rfl (by decide) fun xh T₁ O₁ s₁ ca₁ k₁ hl₁ hb₁ ho₁ G₁ GH₁ S₁ =>
      n_splicedMore (toN (ldS S₁ hmt (n_splicedNil ⟨W.X.keeps S₁.keep, ?_⟩))))))))
    refine powerN (gg := 2) (gh := 3) (p0 := p0) W S₁ hroom hh LK.PK.H6 LK.A6 LK.S6 LK.PK (k₁ _ _ F.tP rfl) hb₁ GH₁ (by decide) (by decide) (by decide) (fun a c e q => by have := hl₁ a c e; omega) (by omega) fun xh₂ T₂ O₂ s₂ ca₂ k₂ hb₂ ho₂ G₂ GH₂ S₂ => ?_
    rw [Int.toNat_natCast] at GH₂
    have k₂' : K0 T T₂ := k₁.trans (.of_keep (by decide) k₂)
    have hcl : ∀ a b, gR ks false js a b → a ∈ nmL ks n ∧ b ∈ nmL ks n := fun a b e => gR_in F.inn e
    have GH₃ := GH₂.congr fun p q => powPow (one := one) (two := two) hcl (fun a b e => gR_symm e) ho0
    refine ⟨xh₂, T₂, O₂, 3, false, _, rfl, S₂, F.mono k₂', GH₃, relPow F.inn F.n6 F.kl F.ok, fun s₃ Q' E' S₃ h => ?_, fun s₃ S₃ => ?_⟩
    · refine wpAny_BinOp (ldS S₃ hmo (ldS S₃ hmt (PyProof.Rows.mul_int ?_ (by mul_fits))))
      have e : (one : Int) * (two : Int) = ((one * two : Nat) : Int) := by push_cast; rfl
      rw [e]
      exact h _ _ S₃
    · refine wpAny_truthy_bool ?_
      rw [if_neg (by decide), if_neg (by decide)]
      exact toN (wpAny_execs_nil (h T₂ O₂ s₃ ca₁ k₂' hb₂ (ho₂.trans ho₁) (G₁.keep k₂ (by decide) (by decide)) S₃))

/-- the law's second half -/
theorem lawEnd {kk one two : Nat} {uk uo ut : Tok} (W : Wd K mg mb B) (S : St B L T m O s) (hh : A.handled = none) (hroom : A.depth < 500) (hu : A.units < 9000) (LK : LawK K P) (hC : ClsOf Cl dir) (F : LawF prog w T L P p0 ks n dir js kss D0 x Dh Ds nv hv sl)
    (G : Gr prog w T 1 Cl x dir ca (nmL ks n) (gR ks dir js)) (hb : OB O) (hmh : m "held" = some (.ref Dh)) (hms : m "steps" = some (.ref Ds)) (hm : m "k" = some (.int (kk : Int) uk)) (hmo : m "one" = some (.int (one : Int) uo)) (hmt : m "two" = some (.int (two : Int) ut))
    (hk0 : 0 < kk) (ho0 : 0 < one) (ho3 : one ≤ 3) (ht0 : 0 < two) (ht3 : two ≤ 3) :
    wpN (model prog w) A (execs [lawSt 16, lawSt 17, lawSt 18, lawSt 19] (lawE L f cdv)) (fun fl s' => fl = .ret (.bool true) ∧ ∃ T' m' O', St B L T' m' O' s' ∧ K0 T T' ∧ OB O' ∧ O'.1 = O.1) E s := by
  refine n_execs_cons (lawSt16 W S hh hroom LK hC F G hb hm hk0 fun xh T₁ O₁ s₁ ca₁ k₁ hb₁ ho₁ G₁ GH₁ S₁ => ?_)
  have F₁ := F.mono k₁
  refine n_execs_cons (lawSt17 W S₁ hh hroom hu LK hC F₁ G₁ GH₁ hb₁ (by walk_at "L") fs_eq (by walk_at "L") (by walk_at "L") ho0 fun T₂ O₂ s₂ ca₂ k₂ hb₂ ho₂ G₂ S₂ => ?_)
  have F₂ := F₁.mono k₂
  refine n_execs_cons (lawSt18 W S₂ hh hroom hu LK hC F₂ G₂ hb₂ (by walk_at "L") (by walk_at "L") (by walk_at "L") ho0 ho3 ht0 ht3 fun T₃ O₃ s₃ ca₃ k₃ hb₃ ho₃ G₃ S₃ => ?_)
  have F₃ := F₂.mono k₃
  have hH := F₃.held
  rw [← nmL_len (ks := ks) (n := n)] at hH
  refine n_execs_cons (lawSt19 W S₃ hh (by omega) hu LK hC F₃.cg G₃ F₃.cn F₃.tn F₃.iN (by rw [nmL_len]; exact F₃.n6) (by walk_at "L") F₃.th (by rw [nmL_len] at hH ⊢; exact hH) fun T₄ s₄ k₄ S₄ => ?_)
  exact ⟨rfl, T₄, _, O₃, S₄, ((k₁.trans k₂).trans k₃).trans (.of_keep (by decide) k₄), hb₃, (ho₃.trans ho₂).trans ho₁⟩
end
end Mine
end
section
open PySem PySem.W PySem.Calls PyProof.Rows
set_option Elab.async false
set_option maxRecDepth 100000
namespace Mine
-- "L": what a name holds
local macro_rules | `(tactic| walk_at "L") => `(tactic| first
  | assumption
  | exact fs_eq
  | (refine fs_ne (by decide) ?_; walk_at "L")
  | rfl)
-- "M": the next step of the walk, where it is the same everywhere
local macro_rules | `(tactic| walk_at "M") => `(tactic| first
  | ((with_reducible refine loadG ?_); refine ldnS (by assumption) (by walk_at "L") ?_)
  | ((with_reducible refine stG ?_); refine stS (by assumption) ?_; intro _ _)
  | ((with_reducible refine nameG ?_); refine ldS (by assumption) (by walk_at "L") ?_)
  | with_reducible refine wpAny_execs_cons ?_
  | with_reducible refine wpAny_execs_nil ?_
  | with_reducible refine wpAny_BinOp ?_
  | with_reducible refine wpAny_Constant_int ?_
  | with_reducible refine wpAny_Constant_str ?_
  | with_reducible refine Constant_none ?_
  | with_reducible refine Constant_bool ?_
  | with_reducible refine wpAny_Compare1 ?_
  | with_reducible refine wpAny_isTrue_Compare1 ?_
  | with_reducible refine isTrue_not ?_
  | with_reducible refine isTrue_and_nil ?_
  | with_reducible refine isTrue_or_nil ?_
  | with_reducible refine isTrue_and ?_
  | with_reducible refine isTrue_or ?_
  | with_reducible refine IfExp_ ?_
  | with_reducible refine wpAny_If ?_
  | ((with_reducible refine asgN ?_ ?_); (focus rfl))
  | ((with_reducible refine asgS ?_ ?_); (focus rfl))
  | ((with_reducible refine asgA ?_ ?_); (focus rfl))
  | ((with_reducible refine exprE ?_ ?_ ?_); (focus rfl); (focus rfl))
  | with_reducible refine wpAny_AugAssign_Name ?_
  | with_reducible refine wpAny_Return_some ?_
  | with_reducible refine wpAny_Break ?_
  | with_reducible refine wpAny_Continue ?_
  | ((with_reducible refine isG ?_); refine wpAny_is_other (by rfl) (by intro e; cases e) ?_)
  | ((with_reducible refine trG ?_); refine isTrue_plain ?_)
  | with_reducible refine wpAny_truthy_bool ?_
  | with_reducible refine add_int ?_
  | with_reducible refine iadd_int ?_
  | with_reducible refine sub_int ?_
  | with_reducible refine lt_int ?_
  | with_reducible refine le_int ?_
  | with_reducible refine gt_int ?_
  | with_reducible refine eq_int ?_
  | with_reducible refine ne_int ?_
  | with_reducible refine splE ?_
  | ((with_reducible refine splG ?_); refine spliced_more ?_)
  | with_reducible refine Tuple_ ?_
  | with_reducible refine List_ ?_
  | ((with_reducible refine methC (pl := ?_) ?_ ?_); rotate_left; (focus rfl))
  | ((with_reducible refine callC ?_ ?_); (focus rfl))
  | ((with_reducible refine cwB1 ?_ ?_ ?_); (focus rfl); (focus rfl))
  | ((with_reducible refine cwT1 ?_ ?_ ?_); (focus rfl); (focus rfl))
  | ((with_reducible refine cwM1 ?_ ?_ ?_); (focus rfl); (focus rfl))
  | with_reducible refine Subscript_ ?_
  | ((with_reducible refine attrE ?_ ?_); (focus with_unfolding_all rfl))
  | (show wpAny _ _ (execs _ _) _ _ _; first | refine wpAny_execs_cons ?_ | refine wpAny_execs_nil ?_))
section
variable {prog : Program} {w : World} {A : Around} {E : Value → Shared → Prop} {K : Frag} {mg mb : Str → Option Value} {B : Heap} {L : Addr} {T T' : TM} {m : Str → Option Value} {O : OG} {s : Shared} {t : Tag} {f P : Addr} {cdv : Value} {p0 : Array Value}

theorem Kp.ne {c : Addr} (h : Kp c T T') {a : Addr} {d : Cel} (e : T a = some d) (n : a ≠ c) : T' a = some d := h a d e n
theorem cel_ne {L i j : Nat} (h : i ≠ j) : (L + i : Addr) ≠ L + j := fun e => h (Nat.add_left_cancel e)
theorem Keep.k0 (h : Keep 1 T T') {a : Addr} {d : Cel} (e : T a = some d) (z : d.1.2.1 = 0) : T' a = some d := h a d e (by rw [z]; decide)
theorem ne_cel {c a : Addr} {d d' : Cel} (hc : T c = some d') (h9 : d'.1.1 = 9) (e : T a = some d) (h : d.1.1 ≠ 9) : a ≠ c := ne_of_tag e hc fun q => h (by rw [q]; exact h9)

/-- all of law -/
theorem lawBody {l : Addr} {tl : Tag} {Pl : Obj → Prop} {vs : List Value} {ns : List Int} (W : Wd K mg mb B) (S : St B L T m O s) (hh : A.handled = none) (hroom : A.depth < 400) (hu : A.units < 9000) (hfr : A.frames = some [lawE L f cdv]) (LK : LawK K P) (hb : OB O)
    (hl : T l = some (tl, Pl)) (hPl : ∀ o, Pl o → LiP vs o) (hi : IntsAre vs ns) (hlen : vs.length ≤ 63) (hm : m "script" = some (.ref l)) (hP : T P = some ((10, 0, 0), TabP p0)) (htl : tl.1 ≠ 9 ∧ tl.2.1 = 0)
    (hc1 : T (L + 1) = some (cel (L + 1), CellP none)) (hc2 : T (L + 2) = some (cel (L + 2), CellP none)) (hc3 : T (L + 3) = some (cel (L + 3), CellP none)) (hc4 : T (L + 4) = some (cel (L + 4), CellP none)) (hc5 : T (L + 5) = some (cel (L + 5), CellP none)) (hc6 : T (L + 6) = some (cel (L + 6), CellP none)) :
    wpN (model prog w) A (execs (bodyOf (top 24)) (lawE L f cdv)) (fun fl s' => fl = .ret (.bool true) ∧ ∃ T' m' O', St B L T' m' O' s' ∧ T' l = some (tl, Pl) ∧ T' P = some ((10, 0, 0), TabP p0) ∧ OB O' ∧ O'.1 = O.1) E s := by
  obtain ⟨fn, ⟨cdn, hf⟩, hgn, hkn⟩ := LK.fNum
  show wpN (model prog w) A (execs [lawSt 0, lawSt 1, lawSt 2, lawSt 3, lawSt 4, lawSt 5, lawSt 6, lawSt 7, lawSt 8, lawSt 9, lawSt 10, lawSt 11, lawSt 12, lawSt 13, lawSt 14, lawSt 15, lawSt 16, lawSt 17, lawSt 18, lawSt 19] (lawE L f cdv)) _ E s
  -- numbers
  refine n_execs_cons (toN (lawSt0 W S hh (by omega) hf hgn hkn LK.PK.ln hl hPl hi hlen hm hc1 fun dn ws ks T₁ s₁ hI hk td q1 k₁ S₁ => ?_))
  have l1 := k₁.ne hl (ne_cel hc1 rfl hl htl.1)
  have P1 := k₁.ne hP (ne_cel hc1 rfl hP (show (10 : Nat) ≠ 9 by decide))
  replace hc2 := k₁.ne hc2 (cel_ne (by decide))
  replace hc3 := k₁.ne hc3 (cel_ne (by decide))
  replace hc4 := k₁.ne hc4 (cel_ne (by decide))
  replace hc5 := k₁.ne hc5 (cel_ne (by decide))
  replace hc6 := k₁.ne hc6 (cel_ne (by decide))
  clear S k₁ hl hP hc1
  -- size
  refine n_execs_cons (toN (lawSt1 S₁ td hI hk q1 hc2 fun n un T₂ s₂ hn1 hn6 q2 k₂ S₂ => ?_))
  have l2 := k₂.ne l1 (ne_cel hc2 rfl l1 htl.1)
  have P2 := k₂.ne P1 (ne_cel hc2 rfl P1 (show (10 : Nat) ≠ 9 by decide))
  have td2 := k₂.ne td (ne_cel hc2 rfl td (show (21 : Nat) ≠ 9 by decide))
  have q12 := k₂.ne q1 (cel_ne (by decide))
  replace hc3 := k₂.ne hc3 (cel_ne (by decide))
  replace hc4 := k₂.ne hc4 (cel_ne (by decide))
  replace hc5 := k₂.ne hc5 (cel_ne (by decide))
  replace hc6 := k₂.ne hc6 (cel_ne (by decide))
  clear S₁ k₂ hc2 l1 P1 td q1
  -- directed
  refine n_execs_cons (toN (lawSt2 S₂ td2 hI hk q12 hc3 fun dir T₃ s₃ q3 k₃ S₃ => ?_))
  have l3 := k₃.ne l2 (ne_cel hc3 rfl l2 htl.1)
  have P3 := k₃.ne P2 (ne_cel hc3 rfl P2 (show (10 : Nat) ≠ 9 by decide))
  have td3 := k₃.ne td2 (ne_cel hc3 rfl td2 (show (21 : Nat) ≠ 9 by decide))
  have q13 := k₃.ne q12 (cel_ne (by decide))
  have q23 := k₃.ne q2 (cel_ne (by decide))
  replace hc4 := k₃.ne hc4 (cel_ne (by decide))
  replace hc5 := k₃.ne hc5 (cel_ne (by decide))
  replace hc6 := k₃.ne hc6 (cel_ne (by decide))
  clear S₂ k₃ hc3 l2 P2 td2 q12 q2
  -- names
  refine n_execs_cons (toN (lawSt3 W S₃ hh LK.rg td3 hI hk q13 q23 hn6 hc4 fun D0 nv T₄ s₄ iN tn q4 k₄ S₄ => ?_))
  have l4 := k₄.ne l3 (ne_cel hc4 rfl l3 htl.1)
  have P4 := k₄.ne P3 (ne_cel hc4 rfl P3 (show (10 : Nat) ≠ 9 by decide))
  have td4 := k₄.ne td3 (ne_cel hc4 rfl td3 (show (21 : Nat) ≠ 9 by decide))
  have q14 := k₄.ne q13 (cel_ne (by decide))
  have q24 := k₄.ne q23 (cel_ne (by decide))
  have q34 := k₄.ne q3 (cel_ne (by decide))
  replace hc5 := k₄.ne hc5 (cel_ne (by decide))
  replace hc6 := k₄.ne hc6 (cel_ne (by decide))
  clear S₃ k₄ hc4 l3 P3 td3 q13 q23 q3
  -- pairs
  refine n_execs_cons (toN (lawSt4 W S₄ hh LK.rg q24 q34 hn6 fun Dp pv es T₅ s₅ hpl hin hes tp k₅ S₅ => ?_))
  replace l4 := k₅ _ _ l4
  replace P4 := k₅ _ _ P4
  replace td4 := k₅ _ _ td4
  replace tn := k₅ _ _ tn
  replace q14 := k₅ _ _ q14
  replace q24 := k₅ _ _ q24
  replace q34 := k₅ _ _ q34
  replace q4 := k₅ _ _ q4
  replace hc5 := k₅ _ _ hc5
  replace hc6 := k₅ _ _ hc6
  clear S₄ k₅
  -- joined
  refine n_execs_cons (toN (lawSt5 W S₅ hh LK.en td4 hI hk q14 hc5 fs_eq tp hpl hin hes fun DJ jv js T₆ s₆ hpj hinj hjl tj q5 k₆ S₆ => ?_))
  replace l4 := k₆.ne l4 (ne_cel hc5 rfl l4 htl.1)
  replace P4 := k₆.ne P4 (ne_cel hc5 rfl P4 (show (10 : Nat) ≠ 9 by decide))
  replace td4 := k₆.ne td4 (ne_cel hc5 rfl td4 (show (21 : Nat) ≠ 9 by decide))
  replace tn := k₆.ne tn (ne_cel hc5 rfl tn (show (22 : Nat) ≠ 9 by decide))
  replace q14 := k₆.ne q14 (cel_ne (by decide))
  replace q24 := k₆.ne q24 (cel_ne (by decide))
  replace q34 := k₆.ne q34 (cel_ne (by decide))
  replace q4 := k₆.ne q4 (cel_ne (by decide))
  replace hc6 := k₆.ne hc6 (cel_ne (by decide))
  clear S₅ k₆ hc5 tp hpl hin hes
  -- all but the lists is forgotten
  have kl : K0 T₆ (limT 1 T₆) := .lim (by decide)
  have S₇ := S₆.forget (limT_sub (g := 1))
  have hno : NoG 1 (limT 1 T₆) := limT_no (Nat.le_refl 1)
  replace l4 := kl _ _ l4 htl.2
  replace P4 := kl _ _ P4 rfl
  replace td4 := kl _ _ td4 rfl
  replace tn := kl _ _ tn rfl
  replace tj := kl _ _ tj rfl
  replace q14 := kl _ _ q14 rfl
  replace q24 := kl _ _ q24 rfl
  replace q34 := kl _ _ q34 rfl
  replace q4 := kl _ _ q4 rfl
  replace q5 := kl _ _ q5 rfl
  replace hc6 := kl _ _ hc6 rfl
  replace hpj := hpj.mono0 (T' := limT 1 T₆) fun a c e _ z => kl a c e z
  clear S₆ kl
  generalize limT 1 T₆ = T₇ at *
  -- graph
  refine n_execs_cons (toN (lawSt6 W S₇ (by omega) LK hno q34 hc6 fun Cl x T₈ s₈ hC G₈ q6 k₈ S₈ => ?_))
  replace l4 := k₈.ne l4 (ne_cel hc6 rfl l4 htl.1)
  replace P4 := k₈.ne P4 (ne_cel hc6 rfl P4 (show (10 : Nat) ≠ 9 by decide))
  replace td4 := k₈.ne td4 (ne_cel hc6 rfl td4 (show (21 : Nat) ≠ 9 by decide))
  replace tn := k₈.ne tn (ne_cel hc6 rfl tn (show (22 : Nat) ≠ 9 by decide))
  replace tj := k₈.ne tj (ne_cel hc6 rfl tj (show (24 : Nat) ≠ 9 by decide))
  replace hpj := hpj.mono0 (T' := T₈) fun a c e z _ => k₈.ne e (ne_cel hc6 rfl e (by rw [z]; decide))
  replace q14 := k₈.ne q14 (cel_ne (by decide))
  replace q24 := k₈.ne q24 (cel_ne (by decide))
  replace q34 := k₈.ne q34 (cel_ne (by decide))
  replace q4 := k₈.ne q4 (cel_ne (by decide))
  replace q5 := k₈.ne q5 (cel_ne (by decide))
  clear S₇ k₈ hc6 hno
  -- its nodes, its edges
  refine n_execs_cons (toN (lawSt7 W S₈ hh (by omega) LK hC G₈ q6 q4 tn iN (nmL_nodup hn6) (by rw [nmL_len]; exact hn6) fun T₉ s₉ k₉ G₉ S₉ => ?_))
  replace hpj := hpj.mono0 (T' := T₉) fun a c e _ z => k₉.k0 e z
  refine n_execs_cons (toN (lawSt8 W S₉ hh (by omega) LK hC G₉ (k₉.k0 q6 rfl) (k₉.k0 q4 rfl) (k₉.k0 tn rfl) iN hn6 (k₉.k0 q5 rfl) (k₉.k0 tj rfl) hpj hinj hjl fun Ta sa ka Ga Sa => ?_))
  replace hpj := hpj.mono0 (T' := Ta) fun a c e _ z => ka.k0 e z
  replace ka := k₉.trans ka
  clear S₈ S₉ G₈ G₉ k₉
  -- rows
  refine n_execs_cons (toN (lawSt9 W Sa hh hu LK.rg (ka.k0 q24 rfl) (ka.k0 q34 rfl) hn6 (ka.k0 q5 rfl) (ka.k0 tj rfl) hpj fun Dr rv kss Tb sb hR hkl hok tr kb Sb => ?_))
  have Gb := Ga.sub kb
  replace kb : Keep 1 T₈ Tb := ka.trans (.of_sub kb)
  clear Sa Ga ka hpj
  -- held
  refine n_execs_cons (lawSt10 W Sb hh (by omega) LK hC (kb.k0 q6 rfl) Gb (kb.k0 q4 rfl) (kb.k0 tn rfl) iN (by rw [nmL_len]; exact hn6) fun Dh hv Tc sc kc Gc Hc th Sc => ?_)
  rw [nmL_len] at Hc
  obtain ⟨ca, Gc⟩ := Gc
  have hR' := hR.mono (T' := Tc) fun a c e _ z => kc.k0 e z
  have tr' := kc.k0 tr rfl
  replace kc := kb.trans kc
  clear Sb Gb kb hR tr
  -- steps
  refine n_execs_cons (toN (lawSt11 W Sc hh (by omega) hu LK (by walk_at "L") tr' hR'.toT hkl hok hn6 fun Ds sl Td sd kd ts hT Sd => ?_))
  have Gd := Gc.sub kd
  have Hd := Hc.mono (T' := Td) fun a c e _ => kd a c e
  have thd := kd _ _ th
  replace kd : Keep 1 T₈ Td := kc.trans (.of_sub kd)
  clear Sc Gc Hc th kc hR' tr'
  have F : LawF prog w Td L P p0 ks n dir js kss D0 x Dh Ds nv hv sl :=
    { cd := kd.k0 q34 rfl, cn := kd.k0 q4 rfl, cg := kd.k0 q6 rfl, tn := kd.k0 tn rfl, th := thd, ts := ts, tP := kd.k0 P4 rfl, iN := iN, tab := hT, held := Hd, n6 := hn6, inn := hinj, kl := hkl, ok := hok }
  have ld := kd.k0 l4 htl.2
  have tdd := kd.k0 td4 rfl
  have q1d := kd.k0 q14 rfl
  -- k, one, two
  refine n_execs_cons (toN (drawSt Sd tdd hI hk q1d (by decide) (by decide) rfl rfl fun kk uk se hk0 _ Se => ?_))
  refine n_execs_cons (toN (drawSt Se tdd hI hk q1d (by decide) (by decide) rfl rfl fun one uo sf ho0 ho3 Sf => ?_))
  refine n_execs_cons (toN (drawSt Sf tdd hI hk q1d (by decide) (by decide) rfl rfl fun two ut sg ht0 ht3 Sg => ?_))
  -- the refusals
  refine n_execs_cons (toN (lawSt15 W Sg hh (by omega) hfr LK tdd hI hk q1d F.cg fun sh Sh => ?_))
  refine n_mono (lawEnd W Sh hh (by omega) hu LK hC F Gd hb (by walk_at "L") (by walk_at "L") (by walk_at "L") (by walk_at "L") (by walk_at "L") hk0 ho0 (by omega) ht0 (by omega)) (fun fl s' hq => ?_) fun _ _ e => e
  obtain ⟨rfl, T', m', O', S', k', hb', ho'⟩ := hq
  exact ⟨rfl, T', m', O', S', k' _ _ ld htl.2, k' _ _ F.tP rfl, hb', ho'⟩
end
end Mine
end
section
open PySem PySem.W PySem.Calls PyProof.Rows
set_option Elab.async false
set_option maxRecDepth 100000
namespace Mine
section
variable {prog : Program} {w : World} {A : Around} {E : Value → Shared → Prop} {K : Frag} {mg mb : Str → Option Value} {T : TM} {s : Shared}
/-- a call from without any frame of a text -/
theorem callTopN {f : Addr} {st : Stmt} {qual : Str} {dV cdv : Value} {args : Args} {binds : List (Str × Value)} {Q : Value → Shared → Prop}
    (W : Wd K mg mb (mask s.heap T s.heap.objs.size)) (hsat : ∀ a c, T a = some c → sysModules < a ∧ ∃ o, s.heap.get? a = some o ∧ c.2 o) (hbig : sysModules < s.heap.objs.size) (hroom : A.depth < recursionLimit) (hf : FnIs K f st qual dV cdv)
    (hbind : ∀ name kV doc pm an ct, BindsTo s (fnOf name qual (argsOf st) (bodyOf st) (scopeOf st) dV kV doc pm an cdv ct) args binds)
    (hkind : ∀ n, ∀ x ∈ binds, (scopeOf st).names.lookup x.1 = some .local ∨ ((scopeOf st).names.lookup x.1 = some .cell ∧ ((cellsFrom n (scopeOf st).names []).lookup x.1).isSome = true))
    (hnd : ((cellsFrom 0 (scopeOf st).names []).map (·.1)).Nodup)
    (hco : (scopeOf st).isCoroutine = false) (hgen : (scopeOf st).isGenerator = false) (hk : (scopeOf st).kind = .function)
    (h : ∀ L' s' T₁, Sub T T₁ →
      (∀ n c, (cellsFrom (L' + 1) (scopeOf st).names []).lookup n = some c → T₁ c = some ((9, 0, (c : Int)), CellP (bindC (fun y => (scopeOf st).names.lookup y) binds (fun _ => none) n))) →
      St (mask s.heap T s.heap.objs.size) L' T₁ (bindL (fun y => (scopeOf st).names.lookup y) binds fun _ => none) (s.os, s.gens) s' →
      wpN (model prog w) (A.deeper (envF qual st L' f cdv (cellsFrom (L' + 1) (scopeOf st).names []))) (execs (bodyOf st) (envF qual st L' f cdv (cellsFrom (L' + 1) (scopeOf st).names []))) (fun fl s'' => Q (valOf fl) s'') NoR s') :
    wpN (model prog w) A (call (.ref f) args.pos args.kw) Q E s := by
  refine n_call ?_
  obtain ⟨name, kV, doc, pm, an, ct, oc, od, sl, ho⟩ := hf.ex
  have keepM : ∀ b o, (mask s.heap T s.heap.objs.size).get? b = some o → s.heap.get? b = some o := fun b o e => (of_mask e).2.2
  have ho' := keepM _ _ (W.X _ _ ho)
  obtain ⟨c, oc', vs, tq, hc, hoc, hdc, hq⟩ := codeRec_of (W.X.keeps keepM) hf.cd
  refine codeN_tree rfl (toN ?_)
  show wpAny _ A.in1 (callAny (.ref f) args) _ _ s
  simp only [callAny]
  refine wpAny_bind (wpAny_load ho' ?_)
  subst hc
  simp only [callFunction, fnOf, hco, hgen]
  refine wpAny_bind (m := field (.ref c) 1) (wpAny_field hoc hdc hq (wpAny_bind (wpAny_pure ?_)))
  refine wpAny_bind (hbind name kV doc pm an ct _ _ _ _ ?_)
  refine wpAny_bind (wpAny_newFunctionEnv_cells hk (hkind _) fun env' he s' x => ?_)
  subst he
  refine wpAny_bind (wpAny_enterFrame ((W.lim.keeps keepM).keeps x.toInCall.keep) hroom (wpAny_pure (And.intro rfl ?_)))
  refine codeN_func ?_
  obtain ⟨h₁, tk, rfl, hs⟩ := x.done
  have hk₁ := x.toInCall.keep
  have lt : ∀ a c, T a = some c → a < s.heap.objs.size := fun a c e => let ⟨_, _, ho, _⟩ := hsat a c e; Heap.lt_size ho
  have none_of : ∀ a, s.heap.objs.size ≤ a → T a = none := fun a ha => by
    cases q : T a with
    | none => rfl
    | some c => exact absurd (lt a c q) (Nat.not_lt.mpr ha)
  have S₁ : St (mask s.heap T s.heap.objs.size) s.heap.objs.size T (bindL (fun y => (scopeOf st).names.lookup y) binds fun _ => Option.none) (s.os, s.gens) { s with heap := h₁, toks := tk } :=
    ⟨x.toInCall.ns, fun b o e => hk₁ b o (of_mask e).2.2, mask_none (.inr rfl), fun a c e => let ⟨_, o, ho, hp⟩ := hsat a c e; ⟨Nat.ne_of_lt (lt a c e), mask_none (.inl (by rw [e]; rfl)), o, hk₁ _ _ ho, hp⟩, rfl, rfl, fun a c e => (hsat a c e).1, hbig⟩
  -- the cells go onto the map
  let cs := cellsFrom (s.heap.objs.size + 1) (scopeOf st).names []
  let cm := bindC (fun y => (scopeOf st).names.lookup y) binds (fun _ => Option.none)
  have hcs : ∀ n c, cs.lookup n = some c → h₁.IsCell c (cm n) ∧ s.heap.objs.size < c := fun n c e => ⟨x.cell n c e, x.above n c (mem_of_lookup e)⟩
  have hnd' : (cs.map (·.1)).Nodup := cellsFrom_names (scopeOf st).names 0 (s.heap.objs.size + 1) [] [] rfl ▸ hnd
  let T₁ : TM := fun a => match cs.find? (fun p => p.2 == a) with
    | some p => some ((9, 0, (a : Int)), CellP (cm p.1))
    | Option.none => T a
  have hmem : ∀ p ∈ cs, s.heap.objs.size < p.2 := fun p hp => (hcs p.1 p.2 (lookup_of_mem_nodup hnd' hp)).2
  have hT₁ : ∀ a, a < s.heap.objs.size → T₁ a = T a := fun a ha => by
    show (match cs.find? (fun p => p.2 == a) with | some p => some ((9, 0, (a : Int)), CellP (cm p.1)) | Option.none => T a) = T a
    cases q : cs.find? (fun p => p.2 == a) with
    | none => rfl
    | some p =>
      have h1 : p.2 = a := by have z := List.find?_some q; simpa using z
      have h2 := hmem p (List.mem_of_find?_eq_some q)
      rw [h1] at h2
      omega
  have hc₁ : ∀ n c, cs.lookup n = some c → T₁ c = some ((9, 0, (c : Int)), CellP (cm n)) := fun n c e => by
    show (match cs.find? (fun p => p.2 == c) with | some p => some ((9, 0, (c : Int)), CellP (cm p.1)) | Option.none => T c) = _
    cases q : cs.find? (fun p => p.2 == c) with
    | none => exact absurd (List.find?_eq_none.mp q (n, c) (mem_of_lookup e)) (by simp)
    | some p =>
      have h1 : p.2 = c := by have z := List.find?_some q; simpa using z
      have h2 : (p.1, c) ∈ cs := by rw [← h1]; exact List.mem_of_find?_eq_some q
      have h3 : p.1 = n := name_of_addr x.apart h2 (mem_of_lookup e)
      simp only [h3]
  have old : ∀ a c, T₁ a = some c → (T a = some c ∧ a < s.heap.objs.size) ∨ (∃ n, cs.lookup n = some a ∧ c = ((9, 0, (a : Int)), CellP (cm n))) := fun a c e => by
    have e' : (match cs.find? (fun p => p.2 == a) with | some p => some ((9, 0, (a : Int)), CellP (cm p.1)) | Option.none => T a) = some c := e
    cases q : cs.find? (fun p => p.2 == a) with
    | none => rw [q] at e'; exact .inl ⟨e', lt _ _ e'⟩
    | some p =>
      rw [q] at e'
      have h1 : p.2 = a := by have z := List.find?_some q; simpa using z
      have h2 : (p.1, a) ∈ cs := by rw [← h1]; exact List.mem_of_find?_eq_some q
      exact .inr ⟨p.1, lookup_of_mem_nodup hnd' h2, (Option.some.inj e').symm⟩
  have S₂ : St (mask s.heap T s.heap.objs.size) s.heap.objs.size T₁ (bindL (fun y => (scopeOf st).names.lookup y) binds fun _ => Option.none) (s.os, s.gens) { s with heap := h₁, toks := tk } := by
    refine ⟨S₁.ns, S₁.keep, S₁.LB, fun a c e => ?_, S₁.gens, S₁.os, fun a c e => ?_, S₁.big⟩
    case refine_2 =>
      rcases old a c e with ⟨h1, _⟩ | ⟨n, h1, _⟩
      · exact (hsat _ _ h1).1
      · exact Nat.lt_trans hbig (hcs n a h1).2
    rcases old a c e with ⟨h1, _⟩ | ⟨n, h1, rfl⟩
    · exact S₁.sat a c h1
    · obtain ⟨⟨o, ho, hp⟩, hlt⟩ := hcs n a h1
      exact ⟨Nat.ne_of_gt hlt, by
        cases q : (mask s.heap T s.heap.objs.size).get? a with
        | none => rfl
        | some o' => exact absurd (Nat.lt_trans hlt (Heap.lt_size (of_mask q).2.2)) (Nat.lt_irrefl _), o, ho, hp⟩
  refine n_mono (h _ _ T₁ (fun a c e => (hT₁ a (lt _ _ e)).trans e) hc₁ S₂) (fun fl s'' hE => ?_) fun _ _ x => x.elim
  cases fl <;> exact hE
end

/-- the law's call, from the claim's own caller -/
theorem lawTop {prog : Program} {w : World} {E : Value → Shared → Prop} {K : Frag} {mg mb : Str → Option Value} {s : Shared} {f l P : Addr} {cdv : Value} {vs : List Value} {ns : List Int} {p0 : Array Value} {Q : Value → Shared → Prop}
    (X : K.In s.heap) (hg : s.heap.Ns mainGlobals mg) (hb : s.heap.Ns builtinsNs mb) (bi : ∀ x, x ≠ ("__name__" : Str) → mb x = bootBuiltins x) (lim : s.heap.NoLimit)
    (bm : ∃ a o, mg "__builtins__" = some (.ref a) ∧ a ≠ builtinsNs ∧ s.heap.get? a = some o ∧ o.cls = .type "module" ∧ o.dict = some builtinsNs ∧ o.data = .plain)
    (LK : LawK K P) (hf : FnIs K f (top 24) "law" .none cdv) (hKP : K.lookup P = none) (hKl : K.lookup l = none) (hP : s.heap.get? P = some { cls := .none, data := .fields p0 }) (htr : TriplesOk p0.toList) (hP1 : sysModules < P)
    (hL : s.heap.IsList l vs.toArray) (hI : IntsAre vs ns) (hlen : vs.length ≤ 63) (hl1 : sysModules < l) (hgens : s.gens = #[])
    (h : ∀ s', OldK s.heap s'.heap → s'.os = s.os → AllBare s'.gens → Q (.bool true) s') : wpN (model prog w) callerA (call (.ref f) [.ref l]) Q E s := by
  obtain ⟨ol, hol, hlc, n, hld⟩ := hL
  have hlP : l ≠ P := fun q => by rw [q, hP] at hol; cases hol; cases hld
  let T : TM := fun a => if a = l then some ((30, 0, 0), fun o => o = ol) else if a = P then some ((10, 0, 0), TabP p0) else none
  have Tl : T l = some ((30, 0, 0), fun o => o = ol) := if_pos rfl
  have TP : T P = some ((10, 0, 0), TabP p0) := (if_neg (Ne.symm hlP)).trans (if_pos rfl)
  have Tn : ∀ b, b ≠ l → b ≠ P → T b = none := fun b h1 h2 => (if_neg h1).trans (if_neg h2)
  have Tof : ∀ a c, T a = some c → (a = l ∧ c = ((30, 0, 0), fun o => o = ol)) ∨ (a = P ∧ c = ((10, 0, 0), TabP p0)) := fun a c e => by
    by_cases h1 : a = l
    · subst h1; rw [Tl] at e; cases e; exact .inl ⟨rfl, rfl⟩
    · by_cases h2 : a = P
      · subst h2; rw [TP] at e; cases e; exact .inr ⟨rfl, rfl⟩
      · rw [Tn a h1 h2] at e; cases e
  have inM : ∀ b o, s.heap.get? b = some o → b ≠ l → b ≠ P → (mask s.heap T s.heap.objs.size).get? b = some o := fun b o e h1 h2 => by rw [mask_get (Tn b h1 h2) (Nat.ne_of_lt (Heap.lt_size e))]; exact e
  have nsM : ∀ (a : Addr) (mm : Str → Option Value), s.heap.Ns a mm → (mask s.heap T s.heap.objs.size).Ns a mm := fun a mm hns => by
    obtain ⟨o, es, ep, ho, hd, r⟩ := hns
    exact ⟨o, es, ep, inM _ _ ho (fun q => by rw [q, hol] at ho; cases ho; rw [hld] at hd; cases hd) (fun q => by rw [q, hP] at ho; cases ho; cases hd), hd, r⟩
  have W : Wd K mg mb (mask s.heap T s.heap.objs.size) := by
    refine ⟨fun a o e => inM _ _ (X _ _ e) (fun q => by rw [q, hKl] at e; cases e) (fun q => by rw [q, hKP] at e; cases e), nsM _ _ hg, nsM _ _ hb, bi, ?_, ?_⟩
    · obtain ⟨mc, h1, h2⟩ := lim
      exact ⟨mc, nsM _ _ h1, h2⟩
    · obtain ⟨a, o, h1, h2, h3, h4, h5, h6⟩ := bm
      exact ⟨a, o, h1, h2, inM _ _ h3 (fun q => by rw [q, hol] at h3; cases h3; rw [hld] at h6; cases h6) (fun q => by rw [q, hP] at h3; cases h3; cases h6), h4, h5, h6⟩
  have hsat : ∀ a c, T a = some c → sysModules < a ∧ ∃ o, s.heap.get? a = some o ∧ c.2 o := fun a c e => by
    rcases Tof a c e with ⟨rfl, rfl⟩ | ⟨rfl, rfl⟩
    · exact ⟨hl1, ol, hol, rfl⟩
    · exact ⟨hP1, _, hP, #[], by simp, by simpa using htr⟩
  refine callTopN (args := ⟨[.ref l], []⟩) (binds := [(Str.ofString "script", .ref l)]) W hsat (Nat.lt_trans hl1 (Heap.lt_size hol)) (by decide +kernel) hf (fun _ _ _ _ _ _ => BindsTo.of_eq rfl) (fun n y hy => ?_) (by decide) rfl rfl rfl fun L' s' T₁ hs₁ hc₁ S₁ => ?_
  · rw [List.mem_singleton.mp hy]; exact .inl rfl
  have hd : (callerA.deeper (lawE L' f cdv)).depth < 400 := by show callerA.depth + 1 < 400; decide +kernel
  have hu : (callerA.deeper (lawE L' f cdv)).units < 9000 := by show callerA.units + 3 < 9000; decide +kernel
  have hfr : (callerA.deeper (lawE L' f cdv)).frames = some [lawE L' f cdv] := rfl
  have hh : (callerA.deeper (lawE L' f cdv)).handled = none := rfl
  refine n_mono (lawBody (p0 := p0) (l := l) W S₁ hh hd hu hfr LK (fun y hy => by rw [show (s.os, s.gens).2 = s.gens from rfl, hgens] at hy; simp at hy) (hs₁ _ _ Tl) (fun o ho => ?_) hI hlen rfl (hs₁ _ _ TP) ⟨by decide, rfl⟩
    (hc₁ (Str.ofString "numbers") (L' + 1) rfl) (hc₁ (Str.ofString "size") (L' + 2) rfl) (hc₁ (Str.ofString "directed") (L' + 3) rfl) (hc₁ (Str.ofString "names") (L' + 4) rfl) (hc₁ (Str.ofString "joined") (L' + 5) rfl) (hc₁ (Str.ofString "graph") (L' + 6) rfl)) (fun fl s'' hq => ?_) fun _ _ e => e
  · have : o = ol := ho
    subst this; exact ⟨hlc, n, hld⟩
  · obtain ⟨rfl, T', m', O', S', hl', hP', hb', ho'⟩ := hq
    obtain ⟨o1, e1, e2⟩ := S'.obj hl'
    have e2' : o1 = ol := e2
    subst e2'
    obtain ⟨o2, g1, mr, g2, _⟩ := S'.obj hP'
    refine h s'' ⟨fun b o e => ?_, fun b o e => ?_⟩ (S'.os.trans ho') (fun y hy => hb' y (by rw [← S'.gens]; exact hy))
    · by_cases h1 : b = l
      · subst h1; rw [hol] at e; cases e; exact .inl e1
      · by_cases h2 : b = P
        · subst h2
          rw [hP] at e; cases e
          obtain ⟨vs, file, tf, flags, tg, inF, text, tt, sl, c1, c2, _⟩ := LK.PK.cd.ex
          exact .inr (.inl ⟨⟨638, _, vs, X _ _ c1, rfl, rfl, c2⟩, rfl, p0, mr, rfl, by rw [g1, g2]⟩)
        · exact .inl (S'.keep _ _ (inM _ _ e h1 h2))
    · by_cases h1 : b = l
      · exact ⟨_, h1 ▸ e1⟩
      · by_cases h2 : b = P
        · exact ⟨_, h2 ▸ g1⟩
        · exact ⟨_, S'.keep _ _ (inM _ _ e h1 h2)⟩
end Mine
end
section
open PySem PySem.W PySem.Calls PyProof.Rows Mine
set_option maxRecDepth 100000
namespace Mine
theorem scriptOf {w : World} {s₀ s₁ : Shared} {args : List WData} {vals : List Value} {as : List Addr} (hpre : PySem.Challenge.rw_am6019_01.row.claim.pre args = true) (hlay : WData.layableAll args = true)
    (hrd : ReadsAllW PySem.Challenge.rw_am6019_01.row.records (classAt s₀.heap) s₁.heap vals args as) (hwl : WellAll w.params s₁.heap vals args) (hlo : ∀ a ∈ as, (a == sysModules) = false) :
    ∃ a vs ns, vals = [.ref a] ∧ a ∈ as ∧ s₁.heap.IsList a vs.toArray ∧ IntsAre vs ns ∧ vs.length ≤ 63 ∧ (∀ cls, PySem.Challenge.rw_am6019_01.row.claim.raises args cls = false) ∧ PySem.Challenge.rw_am6019_01.row.claim.post args (.bool true) args = true := by
  w_on
  wrow_args hpre hlay hrd hwl hlo
  rename_i ns _ _ _ _ _ asl asr a vs _ hL _ _ r0 hI _ hc _
  refine ⟨a, vs, ns, rfl, ?_, hL, hI, by rw [hI.length]; omega, ?_, ?_⟩
  · refine List.mem_append_left _ ?_
    cases r0; exact List.mem_cons_self
  · exact raisesW_false (by wrow_none_raised)
  · first | rfl | wrow_post
end Mine
end
section
open PySem PySem.W PySem.Calls PyProof.Rows
set_option Elab.async false
set_option maxRecDepth 100000
namespace Mine
/-- power's table of inner codes, as the text's top left it -/
theorem powTab {K : Frag} {P : Addr} {h : Heap} {mg : Str → Option Value} (X : K.In h) (LK : LawK K P) (hm : mg "power" = some (.ref 639))
    (t : ∃ a o fd c P', mg "power" = some (.ref a) ∧ h.get? a = some o ∧ o.data = .func fd ∧ fd.code = .ref c ∧ h.IsCode c P' #[] ∧ h.TableAt c P' #[]) : h.get? P = some { cls := .none, data := .fields #[] } := by
  obtain ⟨a, o, fd, c, P', t1, t2, t3, t4, _, t6, t7⟩ := t
  rw [hm] at t1
  cases t1
  obtain ⟨name, kV, doc, pm, an, ct, oc, od, sl, ho⟩ := LK.PK.f.ex
  rw [X _ _ ho] at t2
  cases t2
  have t3' : Data.func (fnOf name "power" (argsOf (top 16)) (bodyOf (top 16)) (scopeOf (top 16)) .none kV doc pm an (.ref 638) ct) = Data.func fd := t3
  injection t3' with t3'
  rw [← t3'] at t4
  have t4' : Value.ref 638 = .ref c := t4
  injection t4' with t4'
  subst t4'
  obtain ⟨vs, file, tf, flags, tg, inF, text, tt, sl', e1, e2, _⟩ := LK.PK.cd.ex
  obtain ⟨o2, vs2, f1, _, f3, f4⟩ := t6
  rw [X _ _ e1] at f1
  cases f1
  have f3' : Data.fields vs = Data.fields vs2 := f3
  injection f3' with f3'
  subst f3'
  rw [e2] at f4
  have f5 : Value.ref P = .ref P' := Option.some.inj f4
  injection f5 with f5
  subst f5
  exact t7

/-- from the head's facts to the law's end -/
theorem lawGo {w : World} {s₀ s₁ : Shared} {mg mb : Str → Option Value} {args : List WData} {vals : List Value} {as : List Addr} {K : Frag} {q : Program} {loose : List Str} {mean : ExcName → Option Value} {P fa : Addr} {cdv : Value} {h₂ : Heap}
    (X : K.In s₁.heap) (X₂ : K.In h₂) (hold : ∀ a ∈ as, h₂.objs.size ≤ a) (T : Top q loose mean mg mb s₁.heap)
    (tab : ∃ a o fd c P', mg "power" = some (.ref a) ∧ s₁.heap.get? a = some o ∧ o.data = .func fd ∧ fd.code = .ref c ∧ s₁.heap.IsCode c P' #[] ∧ s₁.heap.TableAt c P' #[])
    (LK : LawK K P) (hf : FnIs K 891 (top 24) "law" .none cdv) (hl : nsIn K mainGlobals "law" = some (some (.ref 891))) (hKP : K.lookup P = none) (hP1 : sysModules < P)
    (hmg : mg "law" = some (.ref fa)) (hg : s₁.gens = #[]) (hpre : PySem.Challenge.rw_am6019_01.row.claim.pre args = true) (hlay : WData.layableAll args = true)
    (hrd : ReadsAllW PySem.Challenge.rw_am6019_01.row.records (classAt s₀.heap) s₁.heap vals args as) (hwl : WellAll w.params s₁.heap vals args) (hlo : ∀ a ∈ as, (a == sysModules) = false) :
    wpN (model PySem.Challenge.rw_am6019_01.row.prog w) callerA (call (.ref fa) vals) (fun v s' => GoodWG PySem.Challenge.rw_am6019_01.row.claim (classAt s₀.heap) (ExcName.means s₀.heap) args s₁ (.ok (.ret v)) s')
      (fun e s' => GoodWG PySem.Challenge.rw_am6019_01.row.claim (classAt s₀.heap) (ExcName.means s₀.heap) args s₁ (.error e) s') s₁ := by
  obtain ⟨l, vs, ns, rfl, hlas, hL, hI, hlen, hra, hpo⟩ := scriptOf hpre hlay hrd hwl hlo
  rw [mg_of X T.g hl] at hmg
  cases hmg
  have hsz := hold l hlas
  have h638 : (638 : Nat) < h₂.objs.size := by
    obtain ⟨vs, file, tf, flags, tg, inF, text, tt, sl', e1, _⟩ := LK.PK.cd.ex
    exact Heap.lt_size (X₂ _ _ e1)
  have hKl : K.lookup l = none := by
    cases e : K.lookup l with
    | none => rfl
    | some o => exact absurd (Heap.lt_size (X₂ _ _ e)) (Nat.not_lt.mpr hsz)
  have hl1 : sysModules < l := by
    have h1 : (638 : Nat) < l := Nat.lt_of_lt_of_le h638 hsz
    show (1 : Nat) < l
    exact Nat.lt_trans (by decide) h1
  refine lawTop (P := P) X T.g T.b T.builtins T.nolimit T.bmain LK hf hKP hKl (powTab X LK (mg_of X T.g LK.pw) tab) trivial hP1 hL hI hlen hl1 hg fun s' h1 h2 h3 => ?_
  exact ⟨.inl ⟨_, .bool true, [], rfl, hra, .bool _, hpo, fun _ => ⟨List.nodup_nil, fun _ h => (nomatch h)⟩⟩, h1, h2, h3⟩
end Mine
end
section
open PySem PySem.W PySem.Calls PyProof.Rows
def Mine.hd.tw11841097893285799298 : Unit := ()
def Mine.hd.tw3461278022420108110 : Unit := ()
def Mine.hd.tw9430667961914135727 : Unit := ()
def Mine.hd.tw3589011483332685831 : Unit := ()
def Mine.hd.tw8420012022570869532 : Unit := ()
def Mine.hd.tw16711616764599604094 : Unit := ()
def Mine.hd.tw10506430641307776541 : Unit := ()
def Mine.hd.tw15196805684393002565 : Unit := ()
def Mine.hd.tw11593659504634088250 : Unit := ()
def Mine.hd.tw9772175153400340374 : Unit := ()
def Mine.hd.tw1969208074967243228 : Unit := ()
def Mine.hd.tw855295440516085640 : Unit := ()
namespace Mine
set_option Elab.async true
set_option maxRecDepth 100000 in
set_option maxHeartbeats 8000000 in
theorem hd : PySem.Challenge.rw_am6019_01.Holds := by
  w_on; o_law; k_head; (case hw => w_witness2)
  k_fill
  intro w s₀ s₁ mg mb G Y fa o pm cd doc dV kV ho hd hcd hD hmg hg args vals as hpre hlay hrd hwl hlo hfresh
  have KX := kIn_of Y
  obtain ⟨h₂, Y₂, hold⟩ := hfresh
  have KX₂ := kIn_of Y₂
  have H6 : ClsK (Mine.hd.heap_1_39 w.params) 624 :=
      { pg := by kernel_rfl, hd := by kernel_rfl, po := by kernel_rfl, sa := by kernel_rfl, mks := by kernel_rfl
        dct := { hg := by kernel_rfl, hh := by kernel_rfl, r := ⟨625, 624, 988, .builtin "function.__dict__#set", by kernel_rfl, by kernel_rfl, by kernel_rfl, by kernel_rfl, by kernel_rfl⟩, hs1 := by kernel_rfl, hs2 := by kernel_rfl, hst := by kernel_rfl }
        aG := by kernel_rfl, aN := by kernel_rfl, aA := by kernel_rfl, aS := by kernel_rfl, aP := by kernel_rfl
        mN := ⟨by kernel_rfl, by kernel_rfl, by kernel_rfl, _, ⟨_, _, _, _, _, _, _, _, _, rfl⟩, by kernel_rfl⟩
        mNa := ⟨by kernel_rfl, by kernel_rfl, by kernel_rfl, _, ⟨_, _, _, _, _, _, _, _, _, rfl⟩, by kernel_rfl⟩
        mO := ⟨by kernel_rfl, by kernel_rfl, by kernel_rfl, _, ⟨_, _, _, _, _, _, _, _, _, rfl⟩, by kernel_rfl⟩
        mI := ⟨by kernel_rfl, by kernel_rfl, by kernel_rfl, _, ⟨_, _, _, _, _, _, _, _, _, rfl⟩, by kernel_rfl⟩
        mE := ⟨by kernel_rfl, by kernel_rfl, by kernel_rfl, _, ⟨_, _, _, _, _, _, _, _, _, rfl⟩, by kernel_rfl⟩
        mG := ⟨by kernel_rfl, by kernel_rfl, by kernel_rfl, _, ⟨_, _, _, _, _, _, _, _, _, rfl⟩, by kernel_rfl⟩
        mIt := ⟨by kernel_rfl, by kernel_rfl, by kernel_rfl, _, ⟨_, _, _, _, _, _, _, _, _, rfl⟩, by kernel_rfl⟩
        mLn := ⟨by kernel_rfl, by kernel_rfl, by kernel_rfl, _, ⟨_, _, _, _, _, _, _, _, _, rfl⟩, by kernel_rfl⟩
        mGi := ⟨by kernel_rfl, by kernel_rfl, by kernel_rfl, _, ⟨_, _, _, _, _, _, _, _, _, rfl⟩, by kernel_rfl⟩
        mHe := ⟨by kernel_rfl, by kernel_rfl, by kernel_rfl, _, ⟨_, _, _, _, _, _, _, _, _, rfl⟩, by kernel_rfl⟩
        fGi := by kernel_rfl }
  have H8 : ClsK (Mine.hd.heap_1_39 w.params) 853 :=
      { pg := by kernel_rfl, hd := by kernel_rfl, po := by kernel_rfl, sa := by kernel_rfl, mks := by kernel_rfl
        dct := { hg := by kernel_rfl, hh := by kernel_rfl, r := ⟨625, 624, 988, .builtin "function.__dict__#set", by kernel_rfl, by kernel_rfl, by kernel_rfl, by kernel_rfl, by kernel_rfl⟩, hs1 := by kernel_rfl, hs2 := by kernel_rfl, hst := by kernel_rfl }
        aG := by kernel_rfl, aN := by kernel_rfl, aA := by kernel_rfl, aS := by kernel_rfl, aP := by kernel_rfl
        mN := ⟨by kernel_rfl, by kernel_rfl, by kernel_rfl, _, ⟨_, _, _, _, _, _, _, _, _, rfl⟩, by kernel_rfl⟩
        mNa := ⟨by kernel_rfl, by kernel_rfl, by kernel_rfl, _, ⟨_, _, _, _, _, _, _, _, _, rfl⟩, by kernel_rfl⟩
        mO := ⟨by kernel_rfl, by kernel_rfl, by kernel_rfl, _, ⟨_, _, _, _, _, _, _, _, _, rfl⟩, by kernel_rfl⟩
        mI := ⟨by kernel_rfl, by kernel_rfl, by kernel_rfl, _, ⟨_, _, _, _, _, _, _, _, _, rfl⟩, by kernel_rfl⟩
        mE := ⟨by kernel_rfl, by kernel_rfl, by kernel_rfl, _, ⟨_, _, _, _, _, _, _, _, _, rfl⟩, by kernel_rfl⟩
        mG := ⟨by kernel_rfl, by kernel_rfl, by kernel_rfl, _, ⟨_, _, _, _, _, _, _, _, _, rfl⟩, by kernel_rfl⟩
        mIt := ⟨by kernel_rfl, by kernel_rfl, by kernel_rfl, _, ⟨_, _, _, _, _, _, _, _, _, rfl⟩, by kernel_rfl⟩
        mLn := ⟨by kernel_rfl, by kernel_rfl, by kernel_rfl, _, ⟨_, _, _, _, _, _, _, _, _, rfl⟩, by kernel_rfl⟩
        mGi := ⟨by kernel_rfl, by kernel_rfl, by kernel_rfl, _, ⟨_, _, _, _, _, _, _, _, _, rfl⟩, by kernel_rfl⟩
        mHe := ⟨by kernel_rfl, by kernel_rfl, by kernel_rfl, _, ⟨_, _, _, _, _, _, _, _, _, rfl⟩, by kernel_rfl⟩
        fGi := by kernel_rfl }
  have A6 : AdjK (Mine.hd.heap_1_39 w.params) 624 false := ⟨⟨390, 388, 690, .ref 308, ⟨⟨by kernel_rfl, by kernel_rfl, by kernel_rfl, ⟨389, _, _, rfl, rfl, by kernel_rfl⟩, by kernel_rfl⟩, ⟨by kernel_rfl, by kernel_rfl, by kernel_rfl, ⟨389, _, _, rfl, rfl, by kernel_rfl⟩, by kernel_rfl⟩, by kernel_rfl⟩, ⟨by kernel_rfl, by kernel_rfl, by kernel_rfl, by kernel_rfl, by kernel_rfl, by kernel_rfl⟩,
        ⟨⟨⟨_, _, _, _, _, _, _, _, _, rfl⟩, by kernel_rfl⟩, ⟨_, _, _, _, rfl⟩, by kernel_rfl⟩, .inl ⟨rfl, ⟨_, ⟨_, _, _, _, _, _, _, _, _, rfl⟩, by kernel_rfl⟩⟩⟩⟩
  have A8 : AdjK (Mine.hd.heap_1_39 w.params) 853 true := ⟨⟨663, 661, 1077, .ref 308, ⟨⟨by kernel_rfl, by kernel_rfl, by kernel_rfl, ⟨662, _, _, rfl, rfl, by kernel_rfl⟩, by kernel_rfl⟩, ⟨by kernel_rfl, by kernel_rfl, by kernel_rfl, ⟨662, _, _, rfl, rfl, by kernel_rfl⟩, by kernel_rfl⟩, by kernel_rfl⟩, ⟨by kernel_rfl, by kernel_rfl, by kernel_rfl, by kernel_rfl, by kernel_rfl, by kernel_rfl⟩,
        ⟨⟨⟨_, _, _, _, _, _, _, _, _, rfl⟩, by kernel_rfl⟩, ⟨_, _, _, _, rfl⟩, by kernel_rfl⟩, .inr ⟨rfl, ⟨_, ⟨_, _, _, _, _, _, _, _, _, rfl⟩, by kernel_rfl⟩⟩⟩⟩
  have LK : LawK (Mine.hd.heap_1_39 w.params) 634 :=
    { PK :=
      { f := ⟨⟨_, _, _, _, _, _, _, _, _, rfl⟩, by kernel_rfl⟩
        cd := ⟨_, _, _, _, _, _, _, _, _, rfl, rfl, rfl, rfl, rfl, rfl, rfl, by decide⟩
        H6 := H6
        ini := ⟨by kernel_rfl, by kernel_rfl, by kernel_rfl, _, ⟨_, _, _, _, _, _, _, _, _, rfl⟩, by kernel_rfl⟩
        df := ⟨_, _, _, _, rfl⟩
        an := ⟨by kernel_rfl, by kernel_rfl, by kernel_rfl, _, ⟨_, _, _, _, _, _, _, _, _, rfl⟩, by kernel_rfl⟩
        ae := ⟨by kernel_rfl, by kernel_rfl, by kernel_rfl, _, ⟨_, _, _, _, _, _, _, _, _, rfl⟩, by kernel_rfl⟩
        it := by kernel_rfl, ln := by kernel_rfl, gr := by kernel_rfl, kg := by kernel_rfl, hkp := by kernel_rfl }
      H8 := H8
      ini8 := ⟨by kernel_rfl, by kernel_rfl, by kernel_rfl, _, ⟨_, _, _, _, _, _, _, _, _, rfl⟩, by kernel_rfl⟩
      df8 := ⟨_, _, _, _, rfl⟩
      an8 := ⟨by kernel_rfl, by kernel_rfl, by kernel_rfl, _, ⟨_, _, _, _, _, _, _, _, _, rfl⟩, by kernel_rfl⟩
      ae8 := ⟨by kernel_rfl, by kernel_rfl, by kernel_rfl, _, ⟨_, _, _, _, _, _, _, _, _, rfl⟩, by kernel_rfl⟩
      A6 := A6
      A8 := A8
      S6 := ⟨by kernel_rfl, by kernel_rfl, by kernel_rfl⟩
      S8 := ⟨by kernel_rfl, by kernel_rfl, by kernel_rfl⟩
      dg := by kernel_rfl, kd := by kernel_rfl
      MD := ⟨590, ⟨by kernel_rfl, by kernel_rfl, by kernel_rfl, _, ⟨_, _, _, _, _, _, _, _, _, rfl⟩, by kernel_rfl⟩⟩
      rg := by kernel_rfl, en := by kernel_rfl, so := by kernel_rfl, ve := by kernel_rfl
      fNum := ⟨867, ⟨_, ⟨_, _, _, _, _, _, _, _, _, rfl⟩, by kernel_rfl⟩, by kernel_rfl, by kernel_rfl⟩
      fSte := ⟨872, ⟨_, ⟨_, _, _, _, _, _, _, _, _, rfl⟩, by kernel_rfl⟩, by kernel_rfl, by kernel_rfl⟩
      fSam := ⟨879, ⟨_, ⟨_, _, _, _, _, _, _, _, _, rfl⟩, by kernel_rfl⟩, by kernel_rfl, by kernel_rfl⟩
      fRef := ⟨886, ⟨_, ⟨_, _, _, _, _, _, _, _, _, rfl⟩, by kernel_rfl⟩, by kernel_rfl, by kernel_rfl⟩
      pw := by kernel_rfl, kpw := by kernel_rfl }
  exact lawGo KX KX₂ hold G.T (G.T.tab _ (List.mem_of_find?_eq_some (p := fun e => e.name == ("power" : Str)) rfl)) LK ⟨⟨_, _, _, _, _, _, _, _, _, rfl⟩, by kernel_rfl⟩ (by kernel_rfl) (by kernel_rfl) (by decide) hmg hg hpre hlay hrd hwl hlo
end Mine
end
open PySem PySem.W PyProof.Rows
set_option Elab.async false
set_option maxRecDepth 100000 in
set_option maxHeartbeats 8000000 in
theorem PySem.Challenge.cw_am6019_01_holds : PySem.Challenge.rw_am6019_01.Holds := by
  exact Mine.hd
