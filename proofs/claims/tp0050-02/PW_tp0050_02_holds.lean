import PyProof.Rows.All
import Wide.All
import OpenK.AllK
import Wide.FinOn
import PySem.Challenge.RW_tp0050_02
open PySem PySem.W PyProof.Rows PySem.Spec PySem.Calls
set_option Elab.async false
set_option linter.all false
set_option maxRecDepth 100000
set_option compiler.extract_closed false
set_option genSizeOf false
set_option genInjectivity false
namespace Mine
section
set_option maxHeartbeats 8000000
def cutS (i : Nat) : Stmt := (PySem.Challenge.pw_tp0050_02.main.body.drop i).headD (.Pass ⟨0, 0, 0, 0⟩)
abbrev pwS : Program := { PySem.Challenge.pw_tp0050_02 with main := { PySem.Challenge.pw_tp0050_02.main with body := [cutS 0, cutS 1, cutS 2, cutS 3, cutS 4, cutS 5, cutS 6, cutS 7, cutS 8, cutS 9, cutS 10, cutS 11, cutS 12, cutS 13, cutS 14, cutS 15, cutS 16, cutS 17, cutS 18, cutS 19, cutS 20, cutS 21, cutS 22, cutS 23, cutS 24, cutS 25, cutS 26, cutS 27, cutS 28, cutS 29, cutS 30, cutS 31, cutS 32, cutS 33, cutS 34, cutS 35, cutS 36, cutS 37, cutS 38, cutS 39, cutS 40, cutS 41, cutS 42, cutS 43, cutS 44, cutS 45, cutS 46, cutS 47, cutS 48, cutS 49, cutS 50, cutS 51, cutS 52, cutS 53, cutS 54, cutS 55, cutS 56, cutS 57, cutS 58, cutS 59, cutS 60, cutS 61, cutS 62, cutS 63, cutS 64, cutS 65, cutS 66, cutS 67, cutS 68, cutS 69, cutS 70, cutS 71, cutS 72, cutS 73] } }
abbrev rwS : OpenLaw := { PySem.Challenge.rw_tp0050_02 with prog := pwS }
theorem rwE : PySem.Challenge.rw_tp0050_02 = rwS := rfl
local macro_rules | `(tactic| k_head) => `(tactic| z_head)
open_top hd for rwS
end
local macro_rules | `(tactic| walk_at "lx") => `(tactic| first | assumption | exact Nat.le_of_ble_eq_true rfl | exact Nat.le_trans (by assumption) (Nat.le_of_ble_eq_true rfl) | exact Nat.lt_of_le_of_lt (by assumption) (Nat.le_of_ble_eq_true rfl) | omega)
section
noncomputable abbrev GMap := Addr → Option Obj

inductive D where
  | none
  | bool (b : Bool)
  | int (i : Int)
  | str (s : PySem.Str)
  | byt (b : Array UInt8)
  | tup (ds : List D)
  | lst (ds : List D)
  | fn (a : Addr)
  | rng (a b c : Int)

noncomputable def mTup (fz : GMap) (P : List Value → Prop) (v : Value) : Prop := ∃ a vs n, v = .ref a ∧ fz a = some { cls := .type "tuple", data := .seq (List.toArray vs) n } ∧ P vs
noncomputable def mLst (fz : GMap) (P : List Value → Prop) (v : Value) : Prop := ∃ a o vs n, v = .ref a ∧ fz a = some o ∧ o.cls = .type "list" ∧ o.data = .seq (List.toArray vs) n ∧ P vs
noncomputable def mRng (fz : GMap) (a b c : Int) (v : Value) : Prop := ∃ r t u w, v = .ref r ∧ fz r = some { cls := .type "range", data := .fields #[.int a t, .int b u, .int c w] }
noncomputable def mCons (P : Value → Prop) (R : List Value → Prop) (vs : List Value) : Prop := ∃ v ws, vs = v :: ws ∧ P v ∧ R ws
noncomputable def mInt (i : Int) (v : Value) : Prop := ∃ t, v = .int i t
noncomputable def mStr (x : PySem.Str) (v : Value) : Prop := ∃ t, v = .str x t
noncomputable def mByt (x : Array UInt8) (v : Value) : Prop := ∃ t, v = .bytes x t
/-- a value has data -/
noncomputable def VHd (fz : GMap) (d : D) : Value → Prop :=
  D.rec (motive_1 := fun _ => Value → Prop) (motive_2 := fun _ => List Value → Prop)
    (· = .none) (fun b v => v = .bool b) mInt mStr mByt (fun _ => mTup fz) (fun _ => mLst fz) (fun a v => v = .ref a) (mRng fz) (· = []) (fun _ _ => mCons) d
noncomputable def VHsd (fz : GMap) (ds : List D) : List Value → Prop :=
  D.rec_1 (motive_1 := fun _ => Value → Prop) (motive_2 := fun _ => List Value → Prop)
    (· = .none) (fun b v => v = .bool b) mInt mStr mByt (fun _ => mTup fz) (fun _ => mLst fz) (fun a v => v = .ref a) (mRng fz) (· = []) (fun _ _ => mCons) ds
noncomputable def VH (fz : GMap) (v : Value) (d : D) : Prop := VHd fz d v
noncomputable def VHs (fz : GMap) (vs : List Value) (ds : List D) : Prop := VHsd fz ds vs
theorem VH.int_ {fz : GMap} {v : Value} {i : Int} (h : VH fz v (.int i)) : ∃ t, v = .int i t := h
theorem VH.str_ {fz : GMap} {v : Value} {x : PySem.Str} (h : VH fz v (.str x)) : ∃ t, v = .str x t := h
theorem VH.byt_ {fz : GMap} {v : Value} {x : Array UInt8} (h : VH fz v (.byt x)) : ∃ t, v = .bytes x t := h
theorem VH.bool_ {fz : GMap} {v : Value} {b : Bool} (h : VH fz v (.bool b)) : v = .bool b := h
theorem VH.none_ {fz : GMap} {v : Value} (h : VH fz v .none) : v = .none := h
theorem VH.fn_ {fz : GMap} {v : Value} {a : Addr} (h : VH fz v (.fn a)) : v = .ref a := h
theorem VH.rng_ {fz : GMap} {v : Value} {a b c : Int} (h : VH fz v (.rng a b c)) : ∃ r t u w, v = .ref r ∧ fz r = some { cls := .type "range", data := .fields #[.int a t, .int b u, .int c w] } := h
theorem VH.lst_ {fz : GMap} {v : Value} {ds : List D} (h : VH fz v (.lst ds)) : ∃ a o vs n, v = .ref a ∧ fz a = some o ∧ o.cls = .type "list" ∧ o.data = .seq (List.toArray vs) n ∧ VHs fz vs ds := h
theorem VH.tup_ {fz : GMap} {v : Value} {ds : List D} (h : VH fz v (.tup ds)) : ∃ a vs n, v = .ref a ∧ fz a = some { cls := .type "tuple", data := .seq (List.toArray vs) n } ∧ VHs fz vs ds := h
theorem VH.none {fz : GMap} : VH fz .none .none := rfl
theorem VH.bool {fz : GMap} (b : Bool) : VH fz (.bool b) (.bool b) := rfl
theorem VH.int {fz : GMap} (i : Int) (t : Tok) : VH fz (.int i t) (.int i) := ⟨t, rfl⟩
theorem VH.str {fz : GMap} (x : PySem.Str) (t : Tok) : VH fz (.str x t) (.str x) := ⟨t, rfl⟩
theorem VH.byt {fz : GMap} (x : Array UInt8) (t : Tok) : VH fz (.bytes x t) (.byt x) := ⟨t, rfl⟩
theorem VH.fn {fz : GMap} (a : Addr) : VH fz (.ref a) (.fn a) := rfl
theorem VH.tup {fz : GMap} {a : Addr} {vs : List Value} {n : Nat} {ds : List D} (h : fz a = some { cls := .type "tuple", data := .seq vs.toArray n }) (r : VHs fz vs ds) : VH fz (.ref a) (.tup ds) := ⟨a, vs, n, rfl, h, r⟩
theorem VH.lst {fz : GMap} {a : Addr} {o : Obj} {vs : List Value} {n : Nat} {ds : List D} (h : fz a = some o) (c : o.cls = .type "list") (d : o.data = .seq vs.toArray n) (r : VHs fz vs ds) : VH fz (.ref a) (.lst ds) := ⟨a, o, vs, n, rfl, h, c, d, r⟩
theorem VH.rng {fz : GMap} {r : Addr} {a b c : Int} {t u v : Tok} (h : fz r = some { cls := .type "range", data := .fields #[.int a t, .int b u, .int c v] }) : VH fz (.ref r) (.rng a b c) := ⟨r, t, u, v, rfl, h⟩
theorem VHs.nil {fz : GMap} : VHs fz [] [] := rfl
theorem VHs.cons {fz : GMap} {v : Value} {vs : List Value} {d : D} {ds : List D} (h : VH fz v d) (r : VHs fz vs ds) : VHs fz (v :: vs) (d :: ds) := ⟨v, vs, rfl, h, r⟩
theorem VHs.nil_ {fz : GMap} {vs : List Value} (h : VHs fz vs []) : vs = [] := h
theorem VHs.cons_ {fz : GMap} {vs : List Value} {d : D} {ds : List D} (h : VHs fz vs (d :: ds)) : ∃ v ws, vs = v :: ws ∧ VH fz v d ∧ VHs fz ws ds := h
theorem VHs.one {fz : GMap} {vs : List Value} {d : D} (h : VHs fz vs [d]) : ∃ v, vs = [v] ∧ VH fz v d := by
  obtain ⟨v, _, e, h1, rfl⟩ := h
  exact ⟨v, e, h1⟩
theorem VHs.two {fz : GMap} {vs : List Value} {d e : D} (h : VHs fz vs [d, e]) : ∃ v w, vs = [v, w] ∧ VH fz v d ∧ VH fz w e := by
  obtain ⟨v, _, e1, h1, r⟩ := h
  obtain ⟨w, rfl, h2⟩ := VHs.one r
  exact ⟨v, w, e1, h1, h2⟩
theorem VHs.three {fz : GMap} {vs : List Value} {d e f : D} (h : VHs fz vs [d, e, f]) : ∃ v w x, vs = [v, w, x] ∧ VH fz v d ∧ VH fz w e ∧ VH fz x f := by
  obtain ⟨v, _, e1, h1, r⟩ := h
  obtain ⟨w, x, rfl, h2, h3⟩ := VHs.two r
  exact ⟨v, w, x, e1, h1, h2, h3⟩
theorem mCons.imp {P P' : Value → Prop} {R R' : List Value → Prop} (h : ∀ v, P v → P' v) (k : ∀ vs, R vs → R' vs) (vs : List Value) : mCons P R vs → mCons P' R' vs
  | ⟨v, ws, e, p, r⟩ => ⟨v, ws, e, h v p, k ws r⟩
theorem mTup.imp {fz fz' : GMap} (hs : ∀ b o, fz b = some o → fz' b = some o) {P P' : List Value → Prop} (h : ∀ v, P v → P' v) (v : Value) : mTup fz P v → mTup fz' P' v
  | ⟨a, vs, n, e, f, r⟩ => ⟨a, vs, n, e, hs _ _ f, h vs r⟩
theorem mLst.imp {fz fz' : GMap} (hs : ∀ b o, fz b = some o → fz' b = some o) {P P' : List Value → Prop} (h : ∀ v, P v → P' v) (v : Value) : mLst fz P v → mLst fz' P' v
  | ⟨a, o, vs, n, e, f, c, d, r⟩ => ⟨a, o, vs, n, e, hs _ _ f, c, d, h vs r⟩
theorem mRng.imp {fz fz' : GMap} (hs : ∀ b o, fz b = some o → fz' b = some o) {a b c : Int} (v : Value) : mRng fz a b c v → mRng fz' a b c v
  | ⟨r, t, u, w, e, f⟩ => ⟨r, t, u, w, e, hs _ _ f⟩
theorem VH.mono {fz fz' : GMap} (hs : ∀ b o, fz b = some o → fz' b = some o) {v : Value} {d : D} : VH fz v d → VH fz' v d :=
  D.rec (motive_1 := fun d => ∀ v, VH fz v d → VH fz' v d) (motive_2 := fun ds => ∀ vs, VHs fz vs ds → VHs fz' vs ds)
    (fun _ h => h) (fun _ _ h => h) (fun _ _ h => h) (fun _ _ h => h) (fun _ _ h => h) (fun _ => mTup.imp hs) (fun _ => mLst.imp hs) (fun _ _ h => h) (fun _ _ _ => mRng.imp hs) (fun _ h => h) (fun _ _ => mCons.imp) d v
theorem VHs.mono {fz fz' : GMap} (hs : ∀ b o, fz b = some o → fz' b = some o) {vs : List Value} {ds : List D} (h : VHs fz vs ds) : VHs fz' vs ds := by
  induction ds generalizing vs with
  | nil => exact h
  | cons d ds ih => exact mCons.imp (fun _ => VH.mono hs) (fun _ => ih) vs h

theorem VHs.length {fz : GMap} {vs : List Value} {ds : List D} (h : VHs fz vs ds) : vs.length = ds.length := by
  induction ds generalizing vs with
  | nil => rw [h.nil_]; rfl
  | cons d ds ih => obtain ⟨v, ws, rfl, _, r⟩ := h.cons_; rw [List.length_cons, List.length_cons, ih r]
theorem VHs.append {fz : GMap} {vs ws : List Value} {ds es : List D} (h : VHs fz vs ds) (k : VHs fz ws es) : VHs fz (vs ++ ws) (ds ++ es) := by
  induction ds generalizing vs with
  | nil => rw [h.nil_]; exact k
  | cons d ds ih => obtain ⟨v, us, rfl, h1, r⟩ := h.cons_; exact .cons h1 (ih r)
theorem VHs.get {fz : GMap} {vs : List Value} {ds : List D} (h : VHs fz vs ds) {k : Nat} {d : D} (e : ds[k]? = some d) : ∃ v, vs[k]? = some v ∧ VH fz v d := by
  induction ds generalizing vs k with
  | nil => cases e
  | cons d' ds ih =>
    obtain ⟨v, us, rfl, h1, r⟩ := h.cons_
    cases k with
    | zero => cases e; exact ⟨v, rfl, h1⟩
    | succ k => exact ih r e
theorem VHs.take {fz : GMap} {vs : List Value} {ds : List D} (k : Nat) (h : VHs fz vs ds) : VHs fz (vs.take k) (ds.take k) := by
  induction ds generalizing vs k with
  | nil => rw [h.nil_, List.take_nil, List.take_nil]; exact .nil
  | cons d ds ih =>
    obtain ⟨v, us, rfl, h1, r⟩ := h.cons_
    cases k with
    | zero => exact .nil
    | succ k => exact .cons h1 (ih k r)
theorem VHs.drop {fz : GMap} {vs : List Value} {ds : List D} (k : Nat) (h : VHs fz vs ds) : VHs fz (vs.drop k) (ds.drop k) := by
  induction ds generalizing vs k with
  | nil => rw [h.nil_, List.drop_nil, List.drop_nil]; exact .nil
  | cons d ds ih =>
    obtain ⟨v, us, rfl, h1, r⟩ := h.cons_
    cases k with
    | zero => exact .cons h1 r
    | succ k => exact ih k r
theorem VHs.set {fz : GMap} {vs : List Value} {ds : List D} (k : Nat) {v : Value} {d : D} (h : VHs fz vs ds) (x : VH fz v d) : VHs fz (vs.set k v) (ds.set k d) := by
  induction ds generalizing vs k with
  | nil => rw [h.nil_]; exact .nil
  | cons d' ds ih =>
    obtain ⟨w, us, rfl, h1, r⟩ := h.cons_
    cases k with
    | zero => exact .cons x r
    | succ k => exact .cons h1 (ih k r)

/-- the world that a proof speaks of -/
structure WP where
  prog : Program
  w : World
  K : Frag
  p : Program
  loose : List PySem.Str
  mean : ExcName → Option Value
  mg : PySem.Str → Option Value
  mb : PySem.Str → Option Value
  X : Frag := []

noncomputable abbrev WP.M (W : WP) : Model := model W.prog W.w

noncomputable def WF (W : WP) (kp : GMap) : Prop := (∃ hw : Heap, W.K.In hw ∧ Top W.p W.loose W.mean W.mg W.mb hw ∧ ∀ b o, hw.get? b = some o → kp b = some o) ∧ ∀ b o, W.X.lookup b = some o → kp b = some o

theorem WF.mono {W : WP} {kp kp' : GMap} (h : WF W kp) (hs : ∀ b o, kp b = some o → kp' b = some o) : WF W kp' :=
  let ⟨⟨hw, a, b, c⟩, d⟩ := h; ⟨⟨hw, a, b, fun x o e => hs _ _ (c x o e)⟩, fun x o e => hs _ _ (d x o e)⟩

structure Ext (fz : GMap) (s : Shared) (fz' : GMap) (s' : Shared) : Prop where
  keeps : Keeps s s'
  sub : ∀ b o, fz b = some o → fz' b = some o
  inH : ∀ b o, fz' b = some o → s'.heap.get? b = some o
  new : ∀ b o, fz' b = some o → fz b = some o ∨ s.heap.get? b = none

theorem kRfl {s : Shared} : Keeps s s := ⟨s.heap, s.toks, by cases s; rfl, fun _ _ e => e⟩
theorem kTr {s s₁ s₂ : Shared} (h : Keeps s s₁) (k : Keeps s₁ s₂) : Keeps s s₂ := by
  obtain ⟨h1, t1, rfl, k1⟩ := h
  obtain ⟨h2, t2, rfl, k2⟩ := k
  exact ⟨h2, t2, rfl, fun b o e => k2 b o (k1 b o e)⟩
theorem kGet {s s' : Shared} (h : Keeps s s') {b : Addr} {o : Obj} (e : s.heap.get? b = some o) : s'.heap.get? b = some o := by
  obtain ⟨h1, t1, rfl, k1⟩ := h; exact k1 b o e

theorem Ext.refl {fz : GMap} {s : Shared} (h : ∀ b o, fz b = some o → s.heap.get? b = some o) : Ext fz s fz s := ⟨kRfl, fun _ _ e => e, h, fun _ _ e => .inl e⟩
theorem Ext.trans {fz fz₁ fz₂ : GMap} {s s₁ s₂ : Shared} (h : Ext fz s fz₁ s₁) (k : Ext fz₁ s₁ fz₂ s₂) : Ext fz s fz₂ s₂ :=
  ⟨kTr h.keeps k.keeps, fun b o e => k.sub b o (h.sub b o e), k.inH, fun b o e => (k.new b o e).elim (h.new b o) fun hn => .inr (by
    cases q : s.heap.get? b with
    | none => rfl
    | some o' => rw [kGet h.keeps q] at hn; cases hn)⟩
theorem Ext.toks {fz : GMap} {s : Shared} {t : Nat} (h : ∀ b o, fz b = some o → s.heap.get? b = some o) : Ext fz s fz { s with toks := t } :=
  ⟨⟨s.heap, t, rfl, fun _ _ e => e⟩, fun _ _ e => e, h, fun _ _ e => .inl e⟩
theorem Ext.heap {fz : GMap} {s : Shared} {h' : Heap} {t : Nat} (h : ∀ b o, fz b = some o → s.heap.get? b = some o) (k : ∀ b o, s.heap.get? b = some o → h'.get? b = some o) : Ext fz s fz { s with heap := h', toks := t } :=
  ⟨⟨h', t, rfl, k⟩, fun _ _ e => e, fun b o e => k b o (h b o e), fun _ _ e => .inl e⟩

/-- a map with one object more -/
noncomputable def GMap.add (fz : GMap) (a : Addr) (o : Obj) : GMap := fun b => if b = a then some o else fz b
theorem GMap.add_self {fz : GMap} {a : Addr} {o : Obj} : fz.add a o a = some o := by simp [GMap.add]
theorem GMap.add_of {fz : GMap} {a b : Addr} {o q : Obj} (h : fz a = none) (e : fz b = some q) : fz.add a o b = some q := by
  unfold GMap.add
  by_cases hb : b = a
  · subst hb; rw [h] at e; cases e
  · rw [if_neg hb]; exact e

/-- a new object is frozen -/
theorem Ext.freeze {fz fz' : GMap} {s s' : Shared} {a : Addr} {o : Obj} (h : Ext fz s fz' s') (ha : s.heap.get? a = none) (hn : fz' a = none) (ho : s'.heap.get? a = some o) : Ext fz s (fz'.add a o) s' where
  keeps := h.keeps
  sub := fun b q e => GMap.add_of hn (h.sub b q e)
  inH := fun b q e => by
    unfold GMap.add at e
    by_cases hb : b = a
    · rw [if_pos hb] at e; cases e; subst hb; exact ho
    · rw [if_neg hb] at e; exact h.inH b q e
  new := fun b q e => by
    unfold GMap.add at e
    by_cases hb : b = a
    · subst hb; exact .inr ha
    · rw [if_neg hb] at e; exact h.new b q e

inductive Slot where
  | val (d : D)
  | own (ds : List D)
noncomputable abbrev Sto := List (PySem.Str × Slot)

noncomputable def Look (env : Env) (m : PySem.Str → Option Value) (h : Heap) (x : PySem.Str) (v : Value) : Prop :=
  (env.kindOf x = some .local ∧ m x = some v) ∨ ((env.kindOf x = some .cell ∨ (env.kindOf x = some .free ∧ (x == ("__classdict__" : PySem.Str)) = false)) ∧ ∃ c, env.cells.lookup x = some c ∧ h.IsCell c (some v))

noncomputable def Holds (env : Env) (fz : GMap) (ad : PySem.Str → Addr) (m : PySem.Str → Option Value) (h : Heap) (x : PySem.Str) : Slot → Prop
  | .val d => ∃ v, Look env m h x v ∧ VH fz v d
  | .own ds => env.kindOf x = some .local ∧ m x = some (.ref (ad x)) ∧ ∃ us n, h.get? (ad x) = some { cls := .type "list", data := .seq (List.toArray us) n } ∧ VHs fz us ds

structure Ok (W : WP) (env : Env) (kp fz₀ : GMap) (σ : Sto) (fz : GMap) (ad : PySem.Str → Addr) (m : PySem.Str → Option Value) (s : Shared) : Prop where
  wf : WF W kp
  kept : ∀ b o, kp b = some o → s.heap.get? b = some o
  fzIn : ∀ b o, fz b = some o → s.heap.get? b = some o
  fz0 : ∀ b o, fz₀ b = some o → fz b = some o
  fzNew : ∀ b o, fz b = some o → fz₀ b = some o ∨ kp b = none
  ns : s.heap.Ns env.locals m
  nsK : kp env.locals = none
  nsF : fz env.locals = none
  cells : ∀ x c, env.cells.lookup x = some c → ∃ v, s.heap.IsCell c v
  cinj : ∀ x y c, env.cells.lookup x = some c → env.cells.lookup y = some c → x = y
  cfree : ∀ x c, env.cells.lookup x = some c → env.locals < c → kp c = none ∧ fz c = none
  vars : ∀ x sl, (x, sl) ∈ σ → Holds env fz ad m s.heap x sl
  own : ∀ x ds, (x, Slot.own ds) ∈ σ → kp (ad x) = none ∧ fz (ad x) = none
  inj : ∀ x y ds es, (x, Slot.own ds) ∈ σ → (y, Slot.own es) ∈ σ → ad x = ad y → x = y

theorem IsCell.keeps' {h h' : Heap} {c : Addr} {v : Option Value} (x : h.IsCell c v) (k : ∀ b o, h.get? b = some o → h'.get? b = some o) : h'.IsCell c v := let ⟨o, a, b⟩ := x; ⟨o, k _ _ a, b⟩

theorem Look.keeps {env : Env} {m : PySem.Str → Option Value} {h h' : Heap} {x : PySem.Str} {v : Value} (l : Look env m h x v) (k : ∀ b o, h.get? b = some o → h'.get? b = some o) : Look env m h' x v :=
  l.elim .inl fun ⟨a, c, b, d⟩ => .inr ⟨a, c, b, IsCell.keeps' d k⟩

theorem Ok.ext {W : WP} {env : Env} {kp fz₀ : GMap} {σ : Sto} {fz fz' : GMap} {ad : PySem.Str → Addr} {m : PySem.Str → Option Value} {s s' : Shared} (H : Ok W env kp fz₀ σ fz ad m s) (e : Ext fz s fz' s') : Ok W env kp fz₀ σ fz' ad m s' where
  wf := H.wf
  kept := fun b o h => kGet e.keeps (H.kept b o h)
  fzIn := e.inH
  fz0 := fun b o h => e.sub b o (H.fz0 b o h)
  fzNew := fun b o h => (e.new b o h).elim (H.fzNew b o) fun hn => .inr (by
    cases q : kp b with
    | none => rfl
    | some o' => rw [H.kept b o' q] at hn; cases hn)
  ns := H.ns.keeps fun b o h => kGet e.keeps h
  nsK := H.nsK
  nsF := by
    cases q : fz' env.locals with
    | none => rfl
    | some o => rcases e.new _ _ q with h | h
                · rw [H.nsF] at h; cases h
                · obtain ⟨o', _, _, ho, _⟩ := H.ns; rw [ho] at h; cases h
  cells := fun x c h => let ⟨v, hv⟩ := H.cells x c h; ⟨v, IsCell.keeps' hv fun b o h => kGet e.keeps h⟩
  cinj := H.cinj
  cfree := fun x c h hl => ⟨(H.cfree x c h hl).1, by
    cases q : fz' c with
    | none => rfl
    | some o => rcases e.new _ _ q with h' | h'
                · rw [(H.cfree x c h hl).2] at h'; cases h'
                · obtain ⟨v, ob, g, _⟩ := H.cells x c h; rw [h'] at g; cases g⟩
  vars := fun x sl h => by
    have := H.vars x sl h
    cases sl with
    | val d => obtain ⟨v, a, b⟩ := this; exact ⟨v, a.keeps fun b o h => kGet e.keeps h, b.mono e.sub⟩
    | own ds => obtain ⟨a, b, us, n, c, d⟩ := this; exact ⟨a, b, us, n, kGet e.keeps c, d.mono e.sub⟩
  own := fun x ds h => ⟨(H.own x ds h).1, by
    obtain ⟨_, _, us, n, c, _⟩ := H.vars _ _ h
    cases q : fz' (ad x) with
    | none => rfl
    | some o => rcases e.new _ _ q with h' | h'
                · rw [(H.own x ds h).2] at h'; cases h'
                · rw [c] at h'; cases h'⟩
  inj := H.inj

theorem Ok.refl {W : WP} {env : Env} {kp fz₀ : GMap} {σ : Sto} {fz : GMap} {ad : PySem.Str → Addr} {m : PySem.Str → Option Value} {s : Shared} (H : Ok W env kp fz₀ σ fz ad m s) : Ext fz s fz s := Ext.refl H.fzIn

/-- what a frame is -/
structure FOK (n : Nat) (A : Around) (env : Env) : Prop where
  hh : A.handled = none
  hk : env.scope.kind = .function
  hg : env.globals = mainGlobals
  hb : env.builtins = builtinsNs
  dp : A.depth + n < recursionLimit
  un : A.units + 16 * n < cLine

noncomputable def Ev (W : WP) (A : Around) (env : Env) (σ : Sto) (e : PySem.Expr) (d : D) : Prop :=
  ∀ (kp fz₀ fz : GMap) (ad : PySem.Str → Addr) (m : PySem.Str → Option Value) (s : Shared) (Q E : Value → Shared → Prop), Ok W env kp fz₀ σ fz ad m s →
    (∀ v fz' s', Ext fz s fz' s' → VH fz' v d → Q v s') → wpAny W.M A (eval e env) Q E s

/-- a list of the call's own: nobody else holds it -/
noncomputable def EvF (W : WP) (A : Around) (env : Env) (σ : Sto) (e : PySem.Expr) (ds : List D) : Prop :=
  ∀ (kp fz₀ fz : GMap) (ad : PySem.Str → Addr) (m : PySem.Str → Option Value) (s : Shared) (Q E : Value → Shared → Prop), Ok W env kp fz₀ σ fz ad m s →
    (∀ a us n fz' s', Ext fz s fz' s' → s.heap.get? a = none → fz' a = none → s'.heap.get? a = some { cls := .type "list", data := .seq (List.toArray us) n } → VHs fz' us ds → Q (.ref a) s') → wpAny W.M A (eval e env) Q E s

theorem EvF.ev {W : WP} {A : Around} {env : Env} {σ : Sto} {e : PySem.Expr} {ds : List D} (h : EvF W A env σ e ds) : Ev W A env σ e (.lst ds) := by
  intro kp fz₀ fz ad m s Q E H k
  refine h kp fz₀ fz ad m s Q E H fun a us n fz' s' x ha hn ho hd => ?_
  exact k _ _ _ (x.freeze ha hn ho) (.lst (GMap.add_self) rfl rfl (hd.mono fun b q e => GMap.add_of hn e))

section
variable {W : WP} {A : Around} {env : Env} {σ : Sto}

theorem ev_int {i : Int} {k : Nat} {pos : Pos} : Ev W A env σ (.Constant (.int i) k pos) (.int i) := fun kp fz₀ fz ad m s Q E H k => wpAny_Constant_int (k _ _ _ (Ext.toks H.fzIn) (.int _ _))
theorem ev_str {x : PySem.Str} {k : Nat} {pos : Pos} : Ev W A env σ (.Constant (.str x) k pos) (.str x) := fun kp fz₀ fz ad m s Q E H k => wpAny_Constant_str (k _ _ _ (Ext.toks H.fzIn) (.str _ _))
theorem ev_bool {b : Bool} {k : Nat} {pos : Pos} : Ev W A env σ (.Constant (.bool b) k pos) (.bool b) := fun kp fz₀ fz ad m s Q E H k => wpAny_Constant_bool (k _ _ _ H.refl (.bool _))
theorem ev_none {k : Nat} {pos : Pos} : Ev W A env σ (.Constant .none k pos) .none := fun kp fz₀ fz ad m s Q E H k => wpAny_Constant_none (k _ _ _ H.refl .none)
theorem ev_byt {x : List UInt8} {k : Nat} {pos : Pos} : Ev W A env σ (.Constant (.bytes x) k pos) (.byt x.toArray) := fun kp fz₀ fz ad m s Q E H k => PySem.W.Constant_bytes (k _ _ _ (Ext.toks H.fzIn) (.byt _ _))

theorem Look.ev {n : Nat} {x : PySem.Str} {pos : Pos} {m : PySem.Str → Option Value} {s : Shared} {v : Value} {Q E : Value → Shared → Prop} (F : FOK n A env) (l : Look env m s.heap x v) (N : s.heap.Ns env.locals m) (hd : (x == ("__debug__" : PySem.Str)) = false) (h : Q v s) : wpAny W.M A (eval (.Name x pos) env) Q E s := by
  rcases l with ⟨a, b⟩ | ⟨a | a, c, b, d⟩
  · exact wpAny_Name (wpAny_loadName_local F.hk a N b h) hd
  · exact wpAny_Name (wpAny_loadName_cell F.hk a b d h) hd
  · exact wpAny_Name (wpAny_loadName_free F.hk a.1 b d h a.2) hd

theorem ev_name {n : Nat} {x : PySem.Str} {pos : Pos} {d : D} (F : FOK n A env) (hx : (x, Slot.val d) ∈ σ) (hd : (x == ("__debug__" : PySem.Str)) = false) : Ev W A env σ (.Name x pos) d := by
  intro kp fz₀ fz ad m s Q E H k
  obtain ⟨v, l, hv⟩ := H.vars _ _ hx
  exact Look.ev F l H.ns hd (k _ _ _ H.refl hv)

theorem ev_glob {n : Nat} {x : PySem.Str} {pos : Pos} {v : Value} {d : D} (F : FOK n A env) (hx : env.kindOf x = some .globalImplicit) (hv : nsIn W.K mainGlobals x = some (some v)) (hd : (x == ("__debug__" : PySem.Str)) = false)
    (hr : ∀ fz, VH fz v d) : Ev W A env σ (.Name x pos) d := by
  intro kp fz₀ fz ad m s Q E H k
  obtain ⟨⟨hw, X, T, hk⟩, _⟩ := H.wf
  have kk : ∀ b o, hw.get? b = some o → s.heap.get? b = some o := fun b o e => H.kept _ _ (hk _ _ e)
  exact Name_function_global F.hk hx (loadGlobal_global (env := env) (show s.heap.Ns env.globals W.mg from F.hg ▸ (T.keeps kk).g) (mg_of X T.g hv) (k _ _ _ H.refl (hr _))) hd

end
end
section
noncomputable def FzIn (fz : GMap) (s : Shared) : Prop := ∀ b o, fz b = some o → s.heap.get? b = some o

/-- an operation on two values -/
noncomputable def Op2 (W : WP) (A : Around) (op : Value → Value → Sem Value) (d₁ d₂ d : D) : Prop :=
  ∀ (fz : GMap) (s : Shared) (v₁ v₂ : Value) (Q E : Value → Shared → Prop), FzIn fz s → VH fz v₁ d₁ → VH fz v₂ d₂ →
    (∀ v fz' s', Ext fz s fz' s' → VH fz' v d → Q v s') → wpAny W.M A (op v₁ v₂) Q E s
noncomputable def Op1 (W : WP) (A : Around) (op : Value → Sem Value) (d₁ d : D) : Prop :=
  ∀ (fz : GMap) (s : Shared) (v₁ : Value) (Q E : Value → Shared → Prop), FzIn fz s → VH fz v₁ d₁ →
    (∀ v fz' s', Ext fz s fz' s' → VH fz' v d → Q v s') → wpAny W.M A (op v₁) Q E s
/-- a call by values -/
noncomputable def CallV (W : WP) (A : Around) (f : Value) (ds : List D) (d : D) : Prop :=
  ∀ (fz : GMap) (s : Shared) (vs : List Value) (Q E : Value → Shared → Prop), WF W (fun b => s.heap.get? b) → FzIn fz s → VHs fz vs ds →
    (∀ v fz' s', Ext fz s fz' s' → VH fz' v d → Q v s') → wpAny W.M A (call f vs) Q E s

section
variable {W : WP} {A : Around} {env : Env} {σ : Sto}

theorem Ok.heapWF {kp fz₀ fz : GMap} {ad : PySem.Str → Addr} {m : PySem.Str → Option Value} {s : Shared} (H : Ok W env kp fz₀ σ fz ad m s) : WF W (fun b => s.heap.get? b) := H.wf.mono H.kept

theorem ev_bin {e₁ e₂ : PySem.Expr} {op : Operator} {pos : Pos} {d₁ d₂ d : D} (h₁ : Ev W A env σ e₁ d₁) (h₂ : Ev W A env σ e₂ d₂) (ho : Op2 W A (binaryOp op) d₁ d₂ d) : Ev W A env σ (.BinOp e₁ op e₂ pos) d := by
  intro kp fz₀ fz ad m s Q E H k
  refine wpAny_BinOp (h₁ _ _ _ _ _ _ _ _ H fun v₁ fz₁ s₁ x₁ hv₁ => h₂ _ _ _ _ _ _ _ _ (H.ext x₁) fun v₂ fz₂ s₂ x₂ hv₂ => ?_)
  exact ho _ _ _ _ _ _ x₂.inH (hv₁.mono x₂.sub) hv₂ fun v fz' s' x hv => k _ _ _ ((x₁.trans x₂).trans x) hv
theorem ev_cmp {e₁ e₂ : PySem.Expr} {op : CmpOp} {pos : Pos} {d₁ d₂ d : D} (h₁ : Ev W A env σ e₁ d₁) (h₂ : Ev W A env σ e₂ d₂) (ho : Op2 W A (compareOp op) d₁ d₂ d) (hm : behindInMarks op e₂ = false) : Ev W A env σ (.Compare e₁ [op] [e₂] pos) d := by
  intro kp fz₀ fz ad m s Q E H k
  refine wpAny_Compare1 (h₁ _ _ _ _ _ _ _ _ H fun v₁ fz₁ s₁ x₁ hv₁ => h₂ _ _ _ _ _ _ _ _ (H.ext x₁) fun v₂ fz₂ s₂ x₂ hv₂ => ?_) hm
  exact ho _ _ _ _ _ _ x₂.inH (hv₁.mono x₂.sub) hv₂ fun v fz' s' x hv => k _ _ _ ((x₁.trans x₂).trans x) hv
theorem ev_un {e₁ : PySem.Expr} {op : UnaryOp} {pos : Pos} {d₁ d : D} (h₁ : Ev W A env σ e₁ d₁) (ho : Op1 W A (unaryOp op) d₁ d) : Ev W A env σ (.UnaryOp op e₁ pos) d := by
  intro kp fz₀ fz ad m s Q E H k
  refine wpAny_UnaryOp (h₁ _ _ _ _ _ _ _ _ H fun v₁ fz₁ s₁ x₁ hv₁ => ?_)
  exact ho _ _ _ _ _ x₁.inH hv₁ fun v fz' s' x hv => k _ _ _ (x₁.trans x) hv

/-- a test's truth -/
noncomputable def Tr (W : WP) (A : Around) (env : Env) (σ : Sto) (e : PySem.Expr) (b : Bool) : Prop :=
  ∀ (kp fz₀ fz : GMap) (ad : PySem.Str → Addr) (m : PySem.Str → Option Value) (s : Shared) (Q : Bool → Shared → Prop) (E : Value → Shared → Prop), Ok W env kp fz₀ σ fz ad m s →
    (∀ fz' s', Ext fz s fz' s' → Q b s') → wpAny W.M A (isTrue e env (eval e env)) Q E s
/-- a value's truth -/
noncomputable def Truth (W : WP) (A : Around) (d : D) (b : Bool) : Prop :=
  ∀ (fz : GMap) (s : Shared) (v : Value) (Q : Bool → Shared → Prop) (E : Value → Shared → Prop), FzIn fz s → VH fz v d →
    (∀ fz' s', Ext fz s fz' s' → Q b s') → wpAny W.M A (truthy v) Q E s

theorem truth_bool {b : Bool} : Truth W A (.bool b) b := by
  intro fz s v Q E hf hv k; obtain rfl := hv.bool_; exact wpAny_truthy_bool (k _ _ (Ext.refl hf))

theorem tr_val {e : PySem.Expr} {d : D} {b : Bool} (h : Ev W A env σ e d) (t : Truth W A d b) (he : isTrue e env (eval e env) = (do let v ← eval e env; standAt e.pos; holding [v] (truthy v)) := by rfl) : Tr W A env σ e b := by
  intro kp fz₀ fz ad m s Q E H k
  refine wpAny_isTrue_value (h _ _ _ _ _ _ _ _ H fun v fz₁ s₁ x₁ hv => ?_) he
  exact t _ _ _ _ _ x₁.inH hv fun fz' s' x => k _ _ (x₁.trans x)
theorem tr_not {e : PySem.Expr} {pos : Pos} {b : Bool} (h : Tr W A env σ e b) : Tr W A env σ (.UnaryOp .Not e pos) (!b) := by
  intro kp fz₀ fz ad m s Q E H k
  exact wpAny_isTrue_Not (h _ _ _ _ _ _ _ _ H fun fz' s' x => k _ _ x)
theorem tr_cmp {e₁ e₂ : PySem.Expr} {op : CmpOp} {pos : Pos} {d₁ d₂ : D} {b : Bool} (h₁ : Ev W A env σ e₁ d₁) (h₂ : Ev W A env σ e₂ d₂) (ho : Op2 W A (compareOp op) d₁ d₂ (.bool b)) (hm : behindInMarks op e₂ = false) : Tr W A env σ (.Compare e₁ [op] [e₂] pos) b := by
  intro kp fz₀ fz ad m s Q E H k
  refine wpAny_isTrue_Compare1 (h₁ _ _ _ _ _ _ _ _ H fun v₁ fz₁ s₁ x₁ hv₁ => h₂ _ _ _ _ _ _ _ _ (H.ext x₁) fun v₂ fz₂ s₂ x₂ hv₂ => ?_) hm
  refine ho _ _ _ _ _ _ x₂.inH (hv₁.mono x₂.sub) hv₂ fun v fz' s' x hv => ?_
  exact truth_bool _ _ _ _ _ x.inH hv fun fz'' s'' x' => k _ _ (((x₁.trans x₂).trans x).trans x')

/-- the tests of a BoolOp -/
noncomputable def AllT (W : WP) (A : Around) (env : Env) (σ : Sto) (op : BoolOp) (es : List PySem.Expr) (b : Bool) : Prop :=
  ∀ (kp fz₀ fz : GMap) (ad : PySem.Str → Addr) (m : PySem.Str → Option Value) (s : Shared) (Q : Bool → Shared → Prop) (E : Value → Shared → Prop), Ok W env kp fz₀ σ fz ad m s →
    (∀ fz' s', Ext fz s fz' s' → Q b s') → wpAny W.M A (allTrue op es env) Q E s
theorem tr_bool {op : BoolOp} {es : List PySem.Expr} {pos : Pos} {b : Bool} (h : AllT W A env σ op es b) : Tr W A env σ (.BoolOp op es pos) b := by
  intro kp fz₀ fz ad m s Q E H k
  exact wpAny_isTrue_BoolOp (h _ _ _ _ _ _ _ _ H k)
theorem allT_nil {op : BoolOp} : AllT W A env σ op [] (op == .And) := by
  intro kp fz₀ fz ad m s Q E H k
  exact wpAny_pure (k _ _ H.refl)
theorem allT_and {e : PySem.Expr} {es : List PySem.Expr} {b c : Bool} (h : Tr W A env σ e b) (r : b = true → AllT W A env σ .And es c) : AllT W A env σ .And (e :: es) (b && c) := by
  intro kp fz₀ fz ad m s Q E H k
  show wpAny _ A (do match BoolOp.And, ← isTrue e env (eval e env) with
    | .And, false => pure false
    | .Or, true => pure true
    | _, _ => allTrue .And es env) Q E s
  refine wpAny_bind (h _ _ _ _ _ _ _ _ H fun fz' s' x => ?_)
  cases b with
  | false => exact wpAny_pure (k _ _ x)
  | true => exact r rfl _ _ _ _ _ _ _ _ (H.ext x) fun fz'' s'' x' => k _ _ (x.trans x')
theorem allT_or {e : PySem.Expr} {es : List PySem.Expr} {b c : Bool} (h : Tr W A env σ e b) (r : b = false → AllT W A env σ .Or es c) : AllT W A env σ .Or (e :: es) (b || c) := by
  intro kp fz₀ fz ad m s Q E H k
  show wpAny _ A (do match BoolOp.Or, ← isTrue e env (eval e env) with
    | .And, false => pure false
    | .Or, true => pure true
    | _, _ => allTrue .Or es env) Q E s
  refine wpAny_bind (h _ _ _ _ _ _ _ _ H fun fz' s' x => ?_)
  cases b with
  | true => exact wpAny_pure (k _ _ x)
  | false => exact r rfl _ _ _ _ _ _ _ _ (H.ext x) fun fz'' s'' x' => k _ _ (x.trans x')

theorem ev_if {t e₁ e₂ : PySem.Expr} {pos : Pos} {b : Bool} {d : D} (h : Tr W A env σ t b) (h₁ : b = true → Ev W A env σ e₁ d) (h₂ : b = false → Ev W A env σ e₂ d) : Ev W A env σ (.IfExp t e₁ e₂ pos) d := by
  intro kp fz₀ fz ad m s Q E H k
  refine wpAny_IfExp (h _ _ _ _ _ _ _ _ H fun fz' s' x => ?_)
  cases b with
  | true => exact h₁ rfl _ _ _ _ _ _ _ _ (H.ext x) fun v fz'' s'' x' hv => k _ _ _ (x.trans x') hv
  | false => exact h₂ rfl _ _ _ _ _ _ _ _ (H.ext x) fun v fz'' s'' x' hv => k _ _ _ (x.trans x') hv
theorem ev_or {e₁ e₂ : PySem.Expr} {pos : Pos} {b : Bool} {d₁ d : D} (h : Ev W A env σ e₁ d₁) (t : Truth W A d₁ b) (h₁ : b = true → d = d₁) (h₂ : b = false → Ev W A env σ e₂ d) : Ev W A env σ (.BoolOp .Or [e₁, e₂] pos) d := by
  intro kp fz₀ fz ad m s Q E H k
  refine wpAny_Or2 (h _ _ _ _ _ _ _ _ H fun v fz₁ s₁ x hv => t _ _ _ _ _ x.inH hv fun fz₂ s₂ x₂ => ?_)
  cases b with
  | true => exact k _ _ _ (x.trans x₂) (h₁ rfl ▸ hv.mono x₂.sub)
  | false => exact h₂ rfl _ _ _ _ _ _ _ _ ((H.ext x).ext x₂) fun v' fz'' s'' x' hv' => k _ _ _ ((x.trans x₂).trans x') hv'

/-- arguments, items of a display -/
noncomputable def Evs (W : WP) (A : Around) (env : Env) (σ : Sto) (es : List PySem.Expr) (ds : List D) : Prop :=
  ∀ (pos : Pos) (kp fz₀ fz : GMap) (ad : PySem.Str → Addr) (m : PySem.Str → Option Value) (s : Shared) (Q : List Value → Shared → Prop) (E : Value → Shared → Prop), Ok W env kp fz₀ σ fz ad m s →
    (∀ vs fz' s', Ext fz s fz' s' → VHs fz' vs ds → Q vs s') → wpAny W.M A (spliced (backTo pos (starEach es env))) Q E s
theorem evs_nil : Evs W A env σ [] [] := fun pos kp fz₀ fz ad m s Q E H k => spliced_nil (k _ _ _ H.refl .nil)
theorem evs_cons {e : PySem.Expr} {es : List PySem.Expr} {d : D} {ds : List D} (h : Ev W A env σ e d) (r : Evs W A env σ es ds) (he : starEach (e :: es) env = (false, eval e env) :: starEach es env := by rfl) : Evs W A env σ (e :: es) (d :: ds) := by
  intro pos kp fz₀ fz ad m s Q E H k
  rw [he]
  refine spliced_cons (h _ _ _ _ _ _ _ _ H fun v fz₁ s₁ x hv => ?_)
  exact r pos _ _ _ _ _ _ _ _ (H.ext x) fun vs fz₂ s₂ x₂ hvs => k _ _ _ (x.trans x₂) (.cons (hv.mono x₂.sub) hvs)

theorem get_push {h : Heap} {o : Obj} {b : Addr} {q : Obj} (e : h.get? b = some q) : (h.push o).get? b = some q := Heap.get?_push_of_some _ e
theorem get_fresh (h : Heap) : h.get? h.objs.size = none := by
  cases q : h.get? h.objs.size with
  | none => rfl
  | some o => exact absurd (Heap.lt_size q) (Nat.lt_irrefl _)
theorem Ext.push {fz : GMap} {s : Shared} {o : Obj} {t : Nat} (h : FzIn fz s) : Ext fz s fz { s with heap := s.heap.push o, toks := t } := Ext.heap h fun _ _ e => get_push e

theorem Ext.fresh {fz fz' : GMap} {s s' : Shared} (x : Ext fz s fz' s') {a : Addr} (hs : s'.heap.get? a = none) : s.heap.get? a = none ∧ fz' a = none := by
  constructor
  · cases q : s.heap.get? a with
    | none => rfl
    | some o => rw [kGet x.keeps q] at hs; cases hs
  · cases q : fz' a with
    | none => rfl
    | some o => rw [x.inH _ _ q] at hs; cases hs

theorem evF_list {es : List PySem.Expr} {pos : Pos} {ds : List D} (h : Evs W A env σ es ds) (hl : ds.length ≤ 1000) : EvF W A env σ (.List es pos) ds := by
  intro kp fz₀ fz ad m s Q E H k
  refine wpAny_List_spliced (h pos _ _ _ _ _ _ _ _ H fun vs fz₁ s₁ x hv => ⟨?_, ?_⟩)
  · rw [hv.length, PySem.sizeLine_eq]; walk_at "lx"
  · have f := x.fresh (get_fresh s₁.heap)
    exact k _ _ _ _ _ (x.trans (Ext.push (t := s₁.toks) x.inH)) f.1 f.2 (Heap.get?_push_size _ rfl) hv
theorem ev_tuple {es : List PySem.Expr} {n : Nat} {pos : Pos} {ds : List D} (h : Evs W A env σ es ds) (hl : ds.length ≤ 1000) : Ev W A env σ (.Tuple es n pos) (.tup ds) := by
  intro kp fz₀ fz ad m s Q E H k
  refine wpAny_Tuple_spliced (h pos _ _ _ _ _ _ _ _ H fun vs fz₁ s₁ x hv => ⟨?_, ?_⟩)
  · rw [hv.length, PySem.sizeLine_eq]; walk_at "lx"
  · have f := x.fresh (get_fresh s₁.heap)
    exact k _ _ _ ((x.trans (Ext.push (t := s₁.toks) x.inH)).freeze f.1 f.2 (Heap.get?_push_size _ rfl)) (.tup GMap.add_self (hv.mono fun b q e => GMap.add_of f.2 e))

theorem op2II {op : Value → Value → Sem Value} {a b : Int} {d : D} (h : ∀ (t u : Tok) (fz : GMap) (s : Shared) (Q E : Value → Shared → Prop), FzIn fz s → (∀ v fz' s', Ext fz s fz' s' → VH fz' v d → Q v s') → wpAny W.M A (op (.int a t) (.int b u)) Q E s) : Op2 W A op (.int a) (.int b) d := by
  intro fz s v₁ v₂ Q E hf h₁ h₂ k
  obtain ⟨t, rfl⟩ := h₁.int_
  obtain ⟨u, rfl⟩ := h₂.int_
  exact h t u fz s Q E hf k
theorem op2SS {op : Value → Value → Sem Value} {a b : PySem.Str} {d : D} (h : ∀ (t u : Tok) (fz : GMap) (s : Shared) (Q E : Value → Shared → Prop), FzIn fz s → (∀ v fz' s', Ext fz s fz' s' → VH fz' v d → Q v s') → wpAny W.M A (op (.str a t) (.str b u)) Q E s) : Op2 W A op (.str a) (.str b) d := by
  intro fz s v₁ v₂ Q E hf h₁ h₂ k
  obtain ⟨t, rfl⟩ := h₁.str_
  obtain ⟨u, rfl⟩ := h₂.str_
  exact h t u fz s Q E hf k
-- ints
theorem op_add {a b : Int} : Op2 W A (binaryOp .Add) (.int a) (.int b) (.int (a + b)) :=
  op2II fun t u fz s Q E hf k => add_int (k _ _ _ (Ext.toks hf) (.int _ _))
theorem op_sub {a b : Int} : Op2 W A (binaryOp .Sub) (.int a) (.int b) (.int (a - b)) :=
  op2II fun t u fz s Q E hf k => sub_int (k _ _ _ (Ext.toks hf) (.int _ _))
theorem op_mul {a b : Int} (hm : IntMulOk a b) : Op2 W A (binaryOp .Mult) (.int a) (.int b) (.int (a * b)) :=
  op2II fun t u fz s Q E hf k => mul_int (k _ _ _ (Ext.toks hf) (.int _ _)) hm
theorem op_mod {a b : Int} (hb : b ≠ 0) : Op2 W A (binaryOp .Mod) (.int a) (.int b) (.int (a.fmod b)) :=
  op2II fun t u fz s Q E hf k => mod_int' hb (k _ _ _ (Ext.toks hf) (.int _ _))
theorem op_div {a b : Int} (hb : b ≠ 0) (hp : Builtin.divisionGoesByPylong a b = false) : Op2 W A (binaryOp .FloorDiv) (.int a) (.int b) (.int (a.fdiv b)) :=
  op2II fun t u fz s Q E hf k => floordiv_int hb (k _ _ _ (Ext.toks hf) (.int _ _)) (.inl hp)
theorem op_pow {a n : Int} (h0 : 0 ≤ n) (hz : (Builtin.Int.intBits a : Int) * n ≤ 2 ^ 27) : Op2 W A (binaryOp .Pow) (.int a) (.int n) (.int (a ^ n.toNat)) :=
  op2II fun t u fz s Q E hf k => pow_int h0 hz (k _ _ _ (Ext.toks hf) (.int _ _))
theorem op_shl {a n : Int} (h0 : 0 ≤ n) (h1 : n ≤ 1000000) (ha : a.natAbs < 2 ^ 64) : Op2 W A (binaryOp .LShift) (.int a) (.int n) (.int (a * 2 ^ n.toNat)) :=
  op2II fun t u fz s Q E hf k => lshift_int_small h0 h1 ha (k _ _ _ (Ext.toks hf) (.int _ _))
theorem op_shr {a n : Int} (h0 : 0 ≤ n) : Op2 W A (binaryOp .RShift) (.int a) (.int n) (.int (a.fdiv (2 ^ n.toNat))) :=
  op2II fun t u fz s Q E hf k => rshift_int h0 (k _ _ _ (Ext.toks hf) (.int _ _))
theorem op_band {a b : Int} : Op2 W A (binaryOp .BitAnd) (.int a) (.int b) (.int (Builtin.bitAnd a b)) :=
  op2II fun t u fz s Q E hf k => and_int (k _ _ _ (Ext.toks hf) (.int _ _))
theorem op_neg {a : Int} : Op1 W A (unaryOp .USub) (.int a) (.int (-a)) := by
  intro fz s v₁ Q E hf h₁ k; obtain ⟨t, rfl⟩ := h₁.int_; exact neg_int (k _ _ _ (Ext.toks hf) (.int _ _))
theorem op_eqI {a b : Int} : Op2 W A (compareOp .Eq) (.int a) (.int b) (.bool (a == b)) :=
  op2II fun t u fz s Q E hf k => eq_int (k _ _ _ (Ext.refl hf) (.bool _))
theorem op_neI {a b : Int} : Op2 W A (compareOp .NotEq) (.int a) (.int b) (.bool (a != b)) :=
  op2II fun t u fz s Q E hf k => ne_int (k _ _ _ (Ext.refl hf) (.bool _))
theorem op_ltI {a b : Int} : Op2 W A (compareOp .Lt) (.int a) (.int b) (.bool (decide (a < b))) :=
  op2II fun t u fz s Q E hf k => lt_int (k _ _ _ (Ext.refl hf) (.bool _))
theorem op_gtI {a b : Int} : Op2 W A (compareOp .Gt) (.int a) (.int b) (.bool (decide (b < a))) :=
  op2II fun t u fz s Q E hf k => gt_int (k _ _ _ (Ext.refl hf) (.bool _))
theorem op_leI {a b : Int} : Op2 W A (compareOp .LtE) (.int a) (.int b) (.bool (decide (a ≤ b))) :=
  op2II fun t u fz s Q E hf k => le_int (k _ _ _ (Ext.refl hf) (.bool _))
theorem op_eqS {x y : PySem.Str} : Op2 W A (compareOp .Eq) (.str x) (.str y) (.bool (x == y)) :=
  op2SS fun t u fz s Q E hf k => eq_str (k _ _ _ (Ext.refl hf) (.bool _))
theorem op_inS {x y : PySem.Str} : Op2 W A (compareOp .In) (.str y) (.str x) (.bool !(Builtin.Str.occurrences x y 0 x.length 1).isEmpty) :=
  op2SS fun t u fz s Q E hf k => in_str (k _ _ _ (Ext.refl hf) (.bool _))
theorem op_addS {x y : PySem.Str} (hz : x.length + y.length ≤ 16777216) : Op2 W A (binaryOp .Add) (.str x) (.str y) (.str (x ++ y)) :=
  op2SS fun t u fz s Q E hf k => SB.add (fun t' c => k _ _ _ (Ext.toks hf) (.str _ _)) (by rw [PySem.sizeLine_eq]; exact hz)
theorem op_addB {x y : Array UInt8} (hz : x.size + y.size ≤ 16777216) : Op2 W A (binaryOp .Add) (.byt x) (.byt y) (.byt (x ++ y)) := by
  intro fz s v₁ v₂ Q E hf h₁ h₂ k; obtain ⟨t, rfl⟩ := h₁.byt_; obtain ⟨u, rfl⟩ := h₂.byt_
  exact KBy.add_bytes hz (fun t' c => k _ _ _ (Ext.toks hf) (.byt _ _))

theorem VH.isList {fz : GMap} {s : Shared} {v : Value} {ds : List D} (hf : FzIn fz s) (h : VH fz v (.lst ds)) : ∃ a vs, v = .ref a ∧ s.heap.IsList a (List.toArray vs) ∧ VHs fz vs ds := by
  obtain ⟨a, o, vs, n, rfl, e, c, d, r⟩ := h.lst_
  exact ⟨_, _, rfl, ⟨_, hf _ _ e, c, _, d⟩, r⟩

/-- a new list is made -/
theorem newL {fz : GMap} {s : Shared} {t : Nat} {us : List Value} {ds : List D} {Q : Value → Shared → Prop} (hf : FzIn fz s) (hd : VHs fz us ds) (k : ∀ v fz' s', Ext fz s fz' s' → VH fz' v (.lst ds) → Q v s') :
    Q (.ref s.heap.objs.size) { s with heap := s.heap.push { cls := .type "list", data := .seq us.toArray }, toks := t } := by
  have f := (Ext.refl hf).fresh (get_fresh s.heap)
  exact k _ _ _ ((Ext.push (t := t) hf).freeze f.1 f.2 (Heap.get?_push_size _ rfl)) (.lst GMap.add_self rfl rfl (hd.mono fun b q e => GMap.add_of f.2 e))

theorem op_addL {xs ys : List D} (hz : xs.length + ys.length ≤ 10000) : Op2 W A (binaryOp .Add) (.lst xs) (.lst ys) (.lst (xs ++ ys)) := by
  intro fz s v₁ v₂ Q E hf h₁ h₂ k
  obtain ⟨a, vs, rfl, l₁, r₁⟩ := h₁.isList hf
  obtain ⟨b, ws, rfl, l₂, r₂⟩ := h₂.isList hf
  obtain ⟨⟨c1, d1, da1, s1⟩, o1, hc1, n1, hd1⟩ := l₁
  obtain ⟨⟨c2, d2, da2, s2⟩, o2, hc2, n2, hd2⟩ := l₂
  simp only at hc1 hd1 hc2 hd2
  subst hc1 hd1 hc2 hd2
  refine concat_meets ⟨_, o1, rfl⟩ ⟨_, o2, rfl⟩ noFill_list_add seq_list_add PySem.F.slot_list_add PySem.F.entry_list_add (PySem.F.args_list_add_2 _ _)
    (list_addW a b vs.toArray ws.toArray n1 n2 d1 d2 s1 s2 (by rw [List.size_toArray, List.size_toArray, r₁.length, r₂.length, PySem.sizeLine_eq]; walk_at "lx")) ⟨o1, o2, ?_⟩
  rw [List.append_toArray]
  exact newL hf (r₁.append r₂) k
end
end
section
inductive Out where
  | next (σ : Sto)
  | ret (d : D)

structure Fin (kp fz₀ fz : GMap) (s : Shared) : Prop where
  kept : ∀ b o, kp b = some o → s.heap.get? b = some o
  fzIn : FzIn fz s
  fz0 : ∀ b o, fz₀ b = some o → fz b = some o
  fzNew : ∀ b o, fz b = some o → fz₀ b = some o ∨ kp b = none

theorem Ok.fin {W : WP} {env : Env} {kp fz₀ fz : GMap} {σ : Sto} {ad : PySem.Str → Addr} {m : PySem.Str → Option Value} {s : Shared} (H : Ok W env kp fz₀ σ fz ad m s) : Fin kp fz₀ fz s := ⟨H.kept, H.fzIn, H.fz0, H.fzNew⟩

noncomputable def Post (W : WP) (env : Env) (kp fz₀ : GMap) (s : Shared) (Q : Flow → Shared → Prop) : Out → Prop
  | .next σ => ∀ fz ad m h tk, Ok W env kp fz₀ σ fz ad m { s with heap := h, toks := tk } → Q .next { s with heap := h, toks := tk }
  | .ret d => ∀ v fz h tk, Fin kp fz₀ fz { s with heap := h, toks := tk } → VH fz v d → Q (.ret v) { s with heap := h, toks := tk }

theorem Post.moved {W : WP} {env : Env} {kp fz₀ : GMap} {s : Shared} {Q : Flow → Shared → Prop} {o : Out} {h : Heap} {tk : Nat} (p : Post W env kp fz₀ s Q o) : Post W env kp fz₀ { s with heap := h, toks := tk } Q o := by
  cases o with
  | next σ => exact p
  | ret d => exact p
theorem Post.keeps {W : WP} {env : Env} {kp fz₀ : GMap} {s s' : Shared} {Q : Flow → Shared → Prop} {o : Out} (k : Keeps s s') (p : Post W env kp fz₀ s Q o) : Post W env kp fz₀ s' Q o := by
  obtain ⟨h, tk, rfl, _⟩ := k; exact p.moved

noncomputable def X (W : WP) (A : Around) (env : Env) (σ : Sto) (ss : List Stmt) (o : Out) : Prop :=
  ∀ (kp fz₀ fz : GMap) (ad : PySem.Str → Addr) (m : PySem.Str → Option Value) (s : Shared) (Q : Flow → Shared → Prop) (E : Value → Shared → Prop), Ok W env kp fz₀ σ fz ad m s →
    Post W env kp fz₀ s Q o → wpAny W.M A (execs ss env) Q E s
noncomputable def X1 (W : WP) (A : Around) (env : Env) (σ : Sto) (st : Stmt) (o : Out) : Prop :=
  ∀ (kp fz₀ fz : GMap) (ad : PySem.Str → Addr) (m : PySem.Str → Option Value) (s : Shared) (Q : Flow → Shared → Prop) (E : Value → Shared → Prop), Ok W env kp fz₀ σ fz ad m s →
    Post W env kp fz₀ s Q o → wpAny W.M A (exec st env) Q E s

section
variable {W : WP} {A : Around} {env : Env} {σ σ' : Sto}

theorem Ok.weaken {kp fz₀ fz : GMap} {ad : PySem.Str → Addr} {m : PySem.Str → Option Value} {s : Shared} (H : Ok W env kp fz₀ σ fz ad m s) (hs : ∀ p ∈ σ', p ∈ σ) : Ok W env kp fz₀ σ' fz ad m s :=
  { H with vars := fun x sl h => H.vars x sl (hs _ h), own := fun x ds h => H.own x ds (hs _ h), inj := fun x y ds es h h' => H.inj x y ds es (hs _ h) (hs _ h') }

theorem x_weak {ss : List Stmt} {o : Out} (hs : ∀ p ∈ σ', p ∈ σ) (h : X W A env σ' ss o) : X W A env σ ss o := fun kp fz₀ fz ad m s Q E H p => h _ _ _ _ _ _ _ _ (H.weaken hs) p
theorem x_weakO {ss : List Stmt} {σ₁ : Sto} (h : X W A env σ ss (.next σ₁)) (hs : ∀ p ∈ σ', p ∈ σ₁) : X W A env σ ss (.next σ') := fun kp fz₀ fz ad m s Q E H p => h _ _ _ _ _ _ _ _ H fun fz ad m h tk H' => p _ _ _ _ _ (H'.weaken hs)
theorem x1_weak {ss : Stmt} {o : Out} (hs : ∀ p ∈ σ', p ∈ σ) (h : X1 W A env σ' ss o) : X1 W A env σ ss o := fun kp fz₀ fz ad m s Q E H p => h _ _ _ _ _ _ _ _ (H.weaken hs) p

theorem x_nil : X W A env σ [] (.next σ) := fun kp fz₀ fz ad m s Q E H p => wpAny_execs_nil (p _ _ _ s.heap s.toks H)
theorem x_cons {st : Stmt} {rest : List Stmt} {σ₁ : Sto} {o : Out} (h : X1 W A env σ st (.next σ₁)) (r : X W A env σ₁ rest o) : X W A env σ (st :: rest) o := by
  intro kp fz₀ fz ad m s Q E H p
  refine wpAny_execs_cons (h _ _ _ _ _ _ _ _ H fun fz ad m h tk H' => ?_)
  exact r _ _ _ _ _ _ _ _ H' p.moved
theorem x_stop {st : Stmt} {rest : List Stmt} {d : D} (h : X1 W A env σ st (.ret d)) : X W A env σ (st :: rest) (.ret d) := by
  intro kp fz₀ fz ad m s Q E H p
  exact wpAny_execs_cons (h _ _ _ _ _ _ _ _ H fun v fz h tk F hv => p v fz h tk F hv)

theorem x_if {t : PySem.Expr} {body orelse : List Stmt} {pos : Pos} {b : Bool} {o : Out} (h : Tr W A env σ t b) (h₁ : b = true → X W A env σ body o) (h₂ : b = false → X W A env σ orelse o) : X1 W A env σ (.If t body orelse pos) o := by
  intro kp fz₀ fz ad m s Q E H p
  refine wpAny_If (h _ _ _ _ _ _ _ _ H fun fz' s' x => ?_)
  cases b with
  | true => exact h₁ rfl _ _ _ _ _ _ _ _ (H.ext x) (p.keeps x.keeps)
  | false => exact h₂ rfl _ _ _ _ _ _ _ _ (H.ext x) (p.keeps x.keeps)
theorem x_ret {e : PySem.Expr} {pos : Pos} {d : D} (h : Ev W A env σ e d) : X1 W A env σ (.Return (some e) pos) (.ret d) := by
  intro kp fz₀ fz ad m s Q E H p
  refine wpAny_Return_some (h _ _ _ _ _ _ _ _ H fun v fz' s' x hv => ?_)
  obtain ⟨h', tk, e', _⟩ := id x.keeps
  have F := (H.ext x).fin
  subst e'
  exact p v fz' h' tk F hv

/-- the store with x told anew -/
noncomputable def upd (σ : Sto) (x : PySem.Str) (sl : Slot) : Sto := (x, sl) :: σ.filter fun p => !decide (p.1 = x)
theorem mem_upd {x y : PySem.Str} {sl t : Slot} (h : (y, t) ∈ upd σ x sl) : (y = x ∧ t = sl) ∨ (y ≠ x ∧ (y, t) ∈ σ) := by
  rcases List.mem_cons.mp h with e | h
  · exact .inl ⟨congrArg Prod.fst e, congrArg Prod.snd e⟩
  · have := List.mem_filter.mp h
    exact .inr ⟨by simpa using this.2, this.1⟩
theorem upd_self {x : PySem.Str} {sl : Slot} : (x, sl) ∈ upd σ x sl := .head _
theorem upd_of {x y : PySem.Str} {sl t : Slot} (hn : y ≠ x) (h : (y, t) ∈ σ) : (y, t) ∈ upd σ x sl := .tail _ (List.mem_filter.mpr ⟨h, by simpa using hn⟩)

theorem Look.sameBut {m m' : PySem.Str → Option Value} {h h' : Heap} {x y : PySem.Str} {v : Value} (l : Look env m h y v) (hn : y ≠ x) (hm : ∀ z, z ≠ x → m' z = m z) (hc : ∀ c, env.cells.lookup y = some c → h'.get? c = h.get? c) : Look env m' h' y v := by
  rcases l with ⟨a, b⟩ | ⟨a, c, b, o, d, e⟩
  · exact .inl ⟨a, (hm y hn).trans b⟩
  · exact .inr ⟨a, c, b, o, (hc c b).trans d, e⟩

/-- one object, of the frame's own, is another one now -/
theorem Ok.changed {kp fz₀ fz : GMap} {ad : PySem.Str → Addr} {m m' : PySem.Str → Option Value} {s : Shared} {a : Addr} {h' : Heap} {tk : Nat} (H : Ok W env kp fz₀ σ fz ad m s)
    (hs : Heap.SameBut a s.heap h') (hk : kp a = none) (hf : fz a = none) (hn : h'.Ns env.locals m') (hcell : ∀ x c, env.cells.lookup x = some c → ∃ v, h'.IsCell c v)
    (hv : ∀ x sl, (x, sl) ∈ σ' → Holds env fz ad m' h' x sl) (ho : ∀ x ds, (x, Slot.own ds) ∈ σ' → ∃ es, (x, Slot.own es) ∈ σ) : Ok W env kp fz₀ σ' fz ad m' { s with heap := h', toks := tk } where
  wf := H.wf
  kept := fun b o e => (hs.2 b (fun q => by subst q; rw [hk] at e; cases e)).trans (H.kept b o e)
  fzIn := fun b o e => (hs.2 b (fun q => by subst q; rw [hf] at e; cases e)).trans (H.fzIn b o e)
  fz0 := H.fz0
  fzNew := H.fzNew
  ns := hn
  nsK := H.nsK
  nsF := H.nsF
  cells := hcell
  cinj := H.cinj
  cfree := H.cfree
  vars := hv
  own := fun x ds h => let ⟨es, h'⟩ := ho x ds h; H.own x es h'
  inj := fun x y ds es h h' e => let ⟨ds', h1⟩ := ho x ds h; let ⟨es', h2⟩ := ho y es h'; H.inj x y ds' es' h1 h2 e

theorem Ok.objOwn {kp fz₀ fz : GMap} {ad : PySem.Str → Addr} {m : PySem.Str → Option Value} {s : Shared} (H : Ok W env kp fz₀ σ fz ad m s) {x : PySem.Str} {ds : List D} (h : (x, Slot.own ds) ∈ σ) : ∃ us n, s.heap.get? (ad x) = some { cls := .type "list", data := .seq (List.toArray us) n } ∧ VHs fz us ds := (H.vars _ _ h).2.2

theorem Ok.ownNotLoc {kp fz₀ fz : GMap} {ad : PySem.Str → Addr} {m : PySem.Str → Option Value} {s : Shared} (H : Ok W env kp fz₀ σ fz ad m s) {x : PySem.Str} {ds : List D} (h : (x, Slot.own ds) ∈ σ) : ad x ≠ env.locals := by
  intro e
  obtain ⟨us, n, g, _⟩ := H.objOwn h
  obtain ⟨o, es, ep, ho, hd, _⟩ := H.ns
  rw [e, ho] at g
  rw [Option.some.inj g] at hd
  cases hd
theorem Ok.cellNotLoc {kp fz₀ fz : GMap} {ad : PySem.Str → Addr} {m : PySem.Str → Option Value} {s : Shared} (H : Ok W env kp fz₀ σ fz ad m s) {x : PySem.Str} {c : Addr} (h : env.cells.lookup x = some c) : c ≠ env.locals := by
  intro e
  obtain ⟨v, o', g, hd'⟩ := H.cells _ _ h
  obtain ⟨o, es, ep, ho, hd, _⟩ := H.ns
  rw [e, ho] at g
  rw [Option.some.inj g, hd'] at hd
  cases hd
theorem Ok.ownNotCell {kp fz₀ fz : GMap} {ad : PySem.Str → Addr} {m : PySem.Str → Option Value} {s : Shared} (H : Ok W env kp fz₀ σ fz ad m s) {x y : PySem.Str} {ds : List D} {c : Addr} (h : (x, Slot.own ds) ∈ σ) (h' : env.cells.lookup y = some c) : ad x ≠ c := by
  intro e
  obtain ⟨us, n, g, _⟩ := H.objOwn h
  obtain ⟨v, o', g', hd'⟩ := H.cells _ _ h'
  rw [e, g'] at g
  rw [Option.some.inj g] at hd'
  cases hd'

/-- a name is stored -/
theorem wp_store {n : Nat} {x : PySem.Str} {v : Value} {d : D} {kp fz₀ fz : GMap} {ad : PySem.Str → Addr} {m : PySem.Str → Option Value} {s : Shared} {Q : Unit → Shared → Prop} {E : Value → Shared → Prop} (F : FOK n A env) (H : Ok W env kp fz₀ σ fz ad m s)
    (hx : env.kindOf x = some .local ∨ (env.kindOf x = some .cell ∧ ∃ c, env.cells.lookup x = some c ∧ kp c = none ∧ fz c = none)) (hv : VH fz v d)
    (k : ∀ m' h' tk, Ok W env kp fz₀ (upd σ x (.val d)) fz ad m' { s with heap := h', toks := tk } → Q () { s with heap := h', toks := tk }) : wpAny W.M A (storeName env x v) Q E s := by
  rcases hx with hx | ⟨hx, c, hc, hck, hcf⟩
  · refine wpAny_storeName_local hx H.ns (fun h' hn hs => k (fun y => if y = x then some v else m y) _ _ ?_) (by show (env.scope.kind == .class || (env.scope.kind == .module && env.locals != env.globals)) = false; rw [F.hk]; rfl)
    refine H.changed hs H.nsK H.nsF hn (fun y c h => ?_) (fun y sl h => ?_) (fun y ds h => ?_)
    · obtain ⟨v', o, g, q⟩ := H.cells y c h
      exact ⟨v', o, (hs.2 c (H.cellNotLoc h)).trans g, q⟩
    · rcases mem_upd h with ⟨rfl, rfl⟩ | ⟨hn', h⟩
      · exact ⟨v, .inl ⟨hx, by simp⟩, hv⟩
      · have hl := H.vars _ _ h
        cases sl with
        | val d' => obtain ⟨v', l, hv'⟩ := hl; exact ⟨v', Look.sameBut l hn' (fun z hz => by simp [hz]) (fun c hc => hs.2 c (H.cellNotLoc hc)), hv'⟩
        | own ds => obtain ⟨a, b, us, n, g, q⟩ := hl; exact ⟨a, by simp [hn', b], us, n, (hs.2 _ (H.ownNotLoc h)).trans g, q⟩
    · rcases mem_upd h with ⟨_, e⟩ | ⟨_, h⟩
      · cases e
      · exact ⟨ds, h⟩
  · obtain ⟨v₀, hv₀⟩ := H.cells _ _ hc
    refine wpAny_storeName_cell F.hk hx hc hv₀ (fun h' hc' hs => k m h' s.toks ?_)
    refine H.changed hs hck hcf (H.ns.sameBut hs (H.cellNotLoc hc).symm) (fun y c' h => ?_) (fun y sl h => ?_) (fun y ds h => ?_)
    · by_cases e : c' = c
      · subst e; exact ⟨_, hc'⟩
      · obtain ⟨v', o, g, q⟩ := H.cells y c' h
        exact ⟨v', o, (hs.2 c' e).trans g, q⟩
    · rcases mem_upd h with ⟨rfl, rfl⟩ | ⟨hn', h⟩
      · exact ⟨v, .inr ⟨.inl hx, c, hc, hc'⟩, hv⟩
      · have hl := H.vars _ _ h
        cases sl with
        | val d' => obtain ⟨v', l, hv'⟩ := hl; exact ⟨v', Look.sameBut l hn' (fun z hz => rfl) (fun c' hc'' => hs.2 c' fun e => hn' (H.cinj _ _ _ hc'' (e ▸ hc))), hv'⟩
        | own ds => obtain ⟨a, b, us, n, g, q⟩ := hl; exact ⟨a, b, us, n, (hs.2 _ (H.ownNotCell h hc)).trans g, q⟩
    · rcases mem_upd h with ⟨_, e⟩ | ⟨_, h⟩
      · cases e
      · exact ⟨ds, h⟩

theorem x_assign {n : Nat} {x : PySem.Str} {e : PySem.Expr} {px pos : Pos} {d : D} (F : FOK n A env) (h : Ev W A env σ e d) (hx : env.kindOf x = some .local) (hsw : swapsWith e (some (.Name x px)) pos.line env = pure false := by rfl) :
    X1 W A env σ (.Assign [.Name x px] e pos) (.next (upd σ x (.val d))) := by
  intro kp fz₀ fz ad m s Q E H p
  refine wpAny_Assign_Name (h _ _ _ _ _ _ _ _ H fun v fz' s' x' hv => ?_) hsw
  refine wp_store F (H.ext x') (.inl hx) hv fun m' h' tk H' => ?_
  obtain ⟨h'', tk'', e', _⟩ := id x'.keeps
  subst e'
  exact p _ _ _ _ _ H'

/-- a fresh list under a name -/
theorem Ok.setOwn {kp fz₀ fz : GMap} {ad : PySem.Str → Addr} {m : PySem.Str → Option Value} {s : Shared} {x : PySem.Str} {a : Addr} {us : List Value} {nn : Nat} {ds : List D} {h' : Heap} {tk : Nat} (H : Ok W env kp fz₀ σ fz ad m s)
    (hx : env.kindOf x = some .local) (hn : h'.Ns env.locals (fun y => if y = x then some (.ref a) else m y)) (hs : Heap.SameBut env.locals s.heap h') (hk : kp a = none) (hf : fz a = none)
    (hg : s.heap.get? a = some { cls := .type "list", data := .seq us.toArray nn }) (hd : VHs fz us ds) (hnew : ∀ y es, (y, Slot.own es) ∈ σ → ad y ≠ a) : Ok W env kp fz₀ (upd σ x (.own ds)) fz (fun y => if y = x then a else ad y) (fun y => if y = x then some (.ref a) else m y) { s with heap := h', toks := tk } where
  wf := H.wf
  kept := fun b o e => (hs.2 b (fun q => by subst q; rw [H.nsK] at e; cases e)).trans (H.kept b o e)
  fzIn := fun b o e => (hs.2 b (fun q => by subst q; rw [H.nsF] at e; cases e)).trans (H.fzIn b o e)
  fz0 := H.fz0
  fzNew := H.fzNew
  ns := hn
  nsK := H.nsK
  nsF := H.nsF
  cells := fun y c h => by
    obtain ⟨v', o, g, q⟩ := H.cells y c h
    exact ⟨v', o, (hs.2 c (H.cellNotLoc h)).trans g, q⟩
  cinj := H.cinj
  cfree := H.cfree
  vars := fun y sl h => by
    have hal : a ≠ env.locals := by
      intro e
      obtain ⟨o, es, ep, ho, hd, _⟩ := H.ns
      rw [e, ho] at hg
      rw [Option.some.inj hg] at hd
      cases hd
    rcases mem_upd h with ⟨rfl, rfl⟩ | ⟨hn', h⟩
    · exact ⟨hx, by simp, us, nn, by simpa using (hs.2 a hal).trans hg, hd⟩
    · have hl := H.vars _ _ h
      cases sl with
      | val d' => obtain ⟨v', l, hv'⟩ := hl; exact ⟨v', Look.sameBut l hn' (fun z hz => by simp [hz]) (fun c hc => hs.2 c (H.cellNotLoc hc)), hv'⟩
      | own es => obtain ⟨a', b, us, n, g, q⟩ := hl; exact ⟨a', by simp [hn', b], us, n, by simpa [hn'] using (hs.2 _ (H.ownNotLoc h)).trans g, q⟩
  own := fun y es h => by
    rcases mem_upd h with ⟨rfl, e⟩ | ⟨hn', h⟩
    · simp [hk, hf]
    · simpa [hn'] using H.own y es h
  inj := fun y z es es' h h' e => by
    rcases mem_upd h with ⟨e1, _⟩ | ⟨hn1, h1⟩ <;> rcases mem_upd h' with ⟨e2, _⟩ | ⟨hn2, h2⟩
    · exact e1.trans e2.symm
    · simp [e1, hn2] at e; exact absurd e.symm (hnew _ _ h2)
    · simp [e2, hn1] at e; exact absurd e (hnew _ _ h1)
    · simp [hn1, hn2] at e; exact H.inj _ _ _ _ h1 h2 e

theorem wp_storeOwn {n : Nat} {x : PySem.Str} {a : Addr} {us : List Value} {nn : Nat} {ds : List D} {kp fz₀ fz : GMap} {ad : PySem.Str → Addr} {m : PySem.Str → Option Value} {s : Shared} {Q : Unit → Shared → Prop} {E : Value → Shared → Prop} (F : FOK n A env) (H : Ok W env kp fz₀ σ fz ad m s)
    (hx : env.kindOf x = some .local) (hk : kp a = none) (hf : fz a = none) (hg : s.heap.get? a = some { cls := .type "list", data := .seq us.toArray nn }) (hd : VHs fz us ds) (hnew : ∀ y es, (y, Slot.own es) ∈ σ → ad y ≠ a)
    (k : ∀ ad' m' h' tk, Ok W env kp fz₀ (upd σ x (.own ds)) fz ad' m' { s with heap := h', toks := tk } → Q () { s with heap := h', toks := tk }) : wpAny W.M A (storeName env x (.ref a)) Q E s := by
  refine wpAny_storeName_local hx H.ns (fun h' hn hs => k (fun y => if y = x then a else ad y) (fun y => if y = x then some (.ref a) else m y) _ _ ?_) (by show (env.scope.kind == .class || (env.scope.kind == .module && env.locals != env.globals)) = false; rw [F.hk]; rfl)
  exact H.setOwn hx hn hs hk hf hg hd hnew

theorem Ok.newAddr {kp fz₀ fz fz' : GMap} {ad : PySem.Str → Addr} {m : PySem.Str → Option Value} {s s' : Shared} {a : Addr} (H : Ok W env kp fz₀ σ fz ad m s) (x : Ext fz s fz' s') (ha : s.heap.get? a = none) : kp a = none ∧ ∀ y es, (y, Slot.own es) ∈ σ → ad y ≠ a := by
  constructor
  · cases q : kp a with
    | none => rfl
    | some o => rw [H.kept _ _ q] at ha; cases ha
  · intro y es h e
    obtain ⟨us, n, g, _⟩ := H.objOwn h
    rw [e, ha] at g; cases g

theorem x_assignF {n : Nat} {x : PySem.Str} {e : PySem.Expr} {px pos : Pos} {ds : List D} (F : FOK n A env) (h : EvF W A env σ e ds) (hx : env.kindOf x = some .local) (hsw : swapsWith e (some (.Name x px)) pos.line env = pure false := by rfl) :
    X1 W A env σ (.Assign [.Name x px] e pos) (.next (upd σ x (.own ds))) := by
  intro kp fz₀ fz ad m s Q E H p
  refine wpAny_Assign_Name (h _ _ _ _ _ _ _ _ H fun a us nn fz' s' x' ha hn hg hd => ?_) hsw
  have N := H.newAddr x' ha
  refine wp_storeOwn F (H.ext x') hx N.1 hn hg hd N.2 fun ad' m' h' tk H' => ?_
  obtain ⟨h'', tk'', e', _⟩ := id x'.keeps
  subst e'
  exact p _ _ _ _ _ H'

/-- an own list is frozen -/
theorem Ok.freeze {kp fz₀ fz : GMap} {ad : PySem.Str → Addr} {m : PySem.Str → Option Value} {s : Shared} {x : PySem.Str} {ds : List D} (H : Ok W env kp fz₀ σ fz ad m s) (hm : (x, Slot.own ds) ∈ σ) : ∃ fz', Ok W env kp fz₀ (upd σ x (.val (.lst ds))) fz' ad m s := by
  obtain ⟨hx, hmx, us, n, g, hd⟩ := H.vars _ _ hm
  obtain ⟨hk, hf⟩ := H.own _ _ hm
  refine ⟨fz.add (ad x) { cls := .type "list", data := .seq us.toArray n }, ?_⟩
  have sub : ∀ b o, fz b = some o → fz.add (ad x) { cls := .type "list", data := .seq us.toArray n } b = some o := fun b o e => GMap.add_of hf e
  have only : ∀ b o, fz.add (ad x) { cls := .type "list", data := .seq us.toArray n } b = some o → (b = ad x ∧ o = { cls := .type "list", data := .seq us.toArray n }) ∨ fz b = some o := by
    intro b o e
    unfold GMap.add at e
    by_cases hb : b = ad x
    · rw [if_pos hb] at e; exact .inl ⟨hb, (Option.some.inj e).symm⟩
    · rw [if_neg hb] at e; exact .inr e
  refine { H with fzIn := ?_, fz0 := fun b o e => sub b o (H.fz0 b o e), fzNew := ?_, nsF := ?_, vars := ?_, own := ?_, inj := ?_, cfree := fun y c h hl => ⟨(H.cfree y c h hl).1, by unfold GMap.add; rw [if_neg (fun e => H.ownNotCell hm h e.symm)]; exact (H.cfree y c h hl).2⟩ }
  · intro b o e
    rcases only b o e with ⟨rfl, rfl⟩ | e
    · exact g
    · exact H.fzIn b o e
  · intro b o e
    rcases only b o e with ⟨rfl, rfl⟩ | e
    · exact .inr hk
    · exact H.fzNew b o e
  · show fz.add _ _ env.locals = none
    unfold GMap.add; rw [if_neg (H.ownNotLoc hm).symm]; exact H.nsF
  · intro y sl h
    rcases mem_upd h with ⟨rfl, rfl⟩ | ⟨hn', h⟩
    · exact ⟨.ref (ad y), .inl ⟨hx, hmx⟩, .lst GMap.add_self rfl rfl (hd.mono sub)⟩
    · have hl := H.vars _ _ h
      cases sl with
      | val d' => obtain ⟨v', l, hv'⟩ := hl; exact ⟨v', l, hv'.mono sub⟩
      | own es => obtain ⟨a', b, us, n, g, q⟩ := hl; exact ⟨a', b, us, n, g, q.mono sub⟩
  · intro y es h
    rcases mem_upd h with ⟨_, e⟩ | ⟨hn', h⟩
    · cases e
    · refine ⟨(H.own y es h).1, ?_⟩
      show fz.add _ _ (ad y) = none
      unfold GMap.add; rw [if_neg fun e => hn' (H.inj _ _ _ _ h hm e)]; exact (H.own y es h).2
  · intro y z es es' h h' e
    rcases mem_upd h with ⟨_, q⟩ | ⟨_, h⟩
    · cases q
    · rcases mem_upd h' with ⟨_, q⟩ | ⟨_, h'⟩
      · cases q
      · exact H.inj _ _ _ _ h h' e
theorem x_freeze {x : PySem.Str} {ds : List D} {ss : List Stmt} {o : Out} (hm : (x, Slot.own ds) ∈ σ) (h : X W A env (upd σ x (.val (.lst ds))) ss o) : X W A env σ ss o := by
  intro kp fz₀ fz ad m s Q E H p
  obtain ⟨fz', H'⟩ := H.freeze hm
  exact h _ _ _ _ _ _ _ _ H' p
/-- an own list is turned in place -/
theorem Ok.turnOwn {kp fz₀ fz : GMap} {ad : PySem.Str → Addr} {m : PySem.Str → Option Value} {s : Shared} {x : PySem.Str} {ds es : List D} {us : List Value} {nn : Nat} {h' : Heap} {tk : Nat} (H : Ok W env kp fz₀ σ fz ad m s) (hm : (x, Slot.own ds) ∈ σ)
    (hs : Heap.SameBut (ad x) s.heap h') (hg : h'.get? (ad x) = some { cls := .type "list", data := .seq us.toArray nn }) (hd : VHs fz us es) : Ok W env kp fz₀ (upd σ x (.own es)) fz ad m { s with heap := h', toks := tk } := by
  obtain ⟨hx, hmx, us₀, n₀, g, _⟩ := H.vars _ _ hm
  refine H.changed hs (H.own _ _ hm).1 (H.own _ _ hm).2 (H.ns.sameBut hs (H.ownNotLoc hm).symm) (fun y c h => ?_) (fun y sl h => ?_) (fun y ds' h => ?_)
  · obtain ⟨v', o, g, q⟩ := H.cells y c h
    exact ⟨v', o, (hs.2 c (H.ownNotCell hm h).symm).trans g, q⟩
  · rcases mem_upd h with ⟨rfl, rfl⟩ | ⟨hn', h⟩
    · exact ⟨hx, hmx, us, nn, hg, hd⟩
    · have hl := H.vars _ _ h
      cases sl with
      | val d' => obtain ⟨v', l, hv'⟩ := hl; exact ⟨v', Look.sameBut (x := x) l hn' (fun z hz => rfl) (fun c' hc'' => hs.2 c' (H.ownNotCell hm hc'').symm), hv'⟩
      | own ds' => obtain ⟨a, b, us, n, g, q⟩ := hl; exact ⟨a, b, us, n, (hs.2 _ fun e => hn' (H.inj _ _ _ _ h hm e)).trans g, q⟩
  · rcases mem_upd h with ⟨rfl, _⟩ | ⟨_, h⟩
    · exact ⟨ds, hm⟩
    · exact ⟨ds', h⟩
end
end
section
section
variable {W : WP} {A : Around} {env : Env} {σ σ' : Sto}

/-- what a while does in n turns at most -/
noncomputable def WhileRun (test : Sto → Bool → Prop) (body : Sto → Out → Prop) : Nat → Sto → Out → Prop
  | 0, σ, o => ∃ σ', (∀ p ∈ σ', p ∈ σ) ∧ ((test σ' false ∧ o = .next σ') ∨ ∃ d, test σ' true ∧ body σ' (.ret d) ∧ o = .ret d)
  | n + 1, σ, o => ∃ σ', (∀ p ∈ σ', p ∈ σ) ∧ ((test σ' false ∧ o = .next σ') ∨ (∃ d, test σ' true ∧ body σ' (.ret d) ∧ o = .ret d) ∨ ∃ σ₁, test σ' true ∧ body σ' (.next σ₁) ∧ WhileRun test body n σ₁ o)
section
variable {test : Sto → Bool → Prop} {body : Sto → Out → Prop} {n : Nat} {o : Out}
theorem WhileRun.stop (t : test σ false) : WhileRun test body n σ (.next σ) := by
  cases n with
  | zero => exact ⟨σ, fun _ h => h, .inl ⟨t, rfl⟩⟩
  | succ n => exact ⟨σ, fun _ h => h, .inl ⟨t, rfl⟩⟩
theorem WhileRun.next {σ₁ : Sto} (t : test σ true) (b : body σ (.next σ₁)) (r : WhileRun test body n σ₁ o) : WhileRun test body (n + 1) σ o := ⟨σ, fun _ h => h, .inr (.inr ⟨σ₁, t, b, r⟩)⟩
theorem WhileRun.weak0 (hs : ∀ p ∈ σ', p ∈ σ) (r : WhileRun test body n σ' o) : WhileRun test body n σ o := by
  cases n with
  | zero => obtain ⟨σ₂, h, r⟩ := r; exact ⟨σ₂, fun p hp => hs p (h p hp), r⟩
  | succ n => obtain ⟨σ₂, h, r⟩ := r; exact ⟨σ₂, fun p hp => hs p (h p hp), r⟩
theorem WhileRun.more : ∀ {n : Nat} {σ : Sto}, WhileRun test body n σ o → WhileRun test body (n + 1) σ o
  | 0, _, ⟨σ', h, r⟩ => ⟨σ', h, r.imp id .inl⟩
  | _ + 1, _, ⟨σ', h, r⟩ => ⟨σ', h, r.imp id fun r => r.imp id fun ⟨σ₁, t, b, r⟩ => ⟨σ₁, t, b, r.more⟩⟩
theorem WhileRun.weak (hs : ∀ p ∈ σ', p ∈ σ) (r : WhileRun test body n σ' o) : WhileRun test body (n + 1) σ o := (r.weak0 hs).more
/-- one look -/
theorem WhileRun.look (r : WhileRun test body n σ o) : ∃ σ' b, (∀ p ∈ σ', p ∈ σ) ∧ test σ' b ∧ (b = false → o = .next σ') ∧ (b = true → (∃ d, body σ' (.ret d) ∧ o = .ret d) ∨ ∃ σ₁ k, k < n ∧ body σ' (.next σ₁) ∧ WhileRun test body k σ₁ o) := by
  have key : ∀ {k : Nat} {σ' : Sto}, ((test σ' false ∧ o = .next σ') ∨ (∃ d, test σ' true ∧ body σ' (.ret d) ∧ o = .ret d) ∨ ∃ σ₁, k < n ∧ test σ' true ∧ body σ' (.next σ₁) ∧ WhileRun test body k σ₁ o) → ∃ b, test σ' b ∧ (b = false → o = .next σ') ∧ (b = true → (∃ d, body σ' (.ret d) ∧ o = .ret d) ∨ ∃ σ₁ k, k < n ∧ body σ' (.next σ₁) ∧ WhileRun test body k σ₁ o) := by
    rintro k σ' (⟨t, e⟩ | ⟨d, t, b, e⟩ | ⟨σ₁, hk, t, b, r⟩)
    · exact ⟨false, t, fun _ => e, (fun h => nomatch h)⟩
    · exact ⟨true, t, (fun h => nomatch h), fun _ => .inl ⟨d, b, e⟩⟩
    · exact ⟨true, t, (fun h => nomatch h), fun _ => .inr ⟨σ₁, k, hk, b, r⟩⟩
  cases n with
  | zero => obtain ⟨σ', h, r⟩ := r; obtain ⟨b, q⟩ := key (k := 0) (r.imp id .inl); exact ⟨σ', b, h, q⟩
  | succ n => obtain ⟨σ', h, r⟩ := r; obtain ⟨b, q⟩ := key (k := n) (r.imp id fun r => r.imp id fun ⟨σ₁, t, b, r⟩ => ⟨σ₁, Nat.lt_succ_self n, t, b, r⟩); exact ⟨σ', b, h, q⟩
end
/-- a state of the walk: kp and fz₀ stay -/
noncomputable def At (W : WP) (env : Env) (kp fz₀ : GMap) (σ : Sto) (s s' : Shared) : Prop := ∃ fz ad m h tk, s' = { s with heap := h, toks := tk } ∧ Ok W env kp fz₀ σ fz ad m s'
noncomputable def WInv (W : WP) (env : Env) (kp fz₀ : GMap) (s : Shared) (P : Nat → Sto → Prop) (k : Nat) (s' : Shared) : Prop := ∃ σ, At W env kp fz₀ σ s s' ∧ P k σ

theorem x_while {test : PySem.Expr} {body : List Stmt} {pos : Pos} {n : Nat} {o : Out} (h : WhileRun (fun σ b => Tr W A env σ test b) (fun σ o => X W A env σ body o) n σ o) : X1 W A env σ (.While test body [] pos) o := by
  intro kp fz₀ fz ad m s Q E H p
  refine wpAny_While (codeAny_whileLoop (WInv W env kp fz₀ s fun k σ => WhileRun (fun σ b => Tr W A env σ test b) (fun σ o => X W A env σ body o) k σ o) ?_ n ⟨σ, ⟨fz, ad, m, s.heap, s.toks, rfl, H⟩, h⟩)
  rintro k s' ⟨σ₁, ⟨fz₁, ad₁, m₁, h₁, tk₁, rfl, H₁⟩, r⟩
  obtain ⟨σ', b, hs, t, r1, r2⟩ := r.look
  replace H₁ := H₁.weaken hs
  refine t _ _ _ _ _ _ _ _ H₁ fun fz' s' x => ?_
  obtain ⟨h', tk', e, _⟩ := id x.keeps
  have H₂ := H₁.ext x
  subst e
  clear t r x H₁
  cases b with
  | false =>
    cases r1 rfl
    exact wpAny_execs_nil (p _ _ _ _ _ H₂)
  | true =>
    rcases r2 rfl with ⟨d, b, rfl⟩ | ⟨σ₂, j, hj, b, r⟩
    · exact b _ _ _ _ _ _ _ _ H₂ fun v fz h tk F hv => p v fz h tk F hv
    · exact b _ _ _ _ _ _ _ _ H₂ fun fz ad m h tk H₃ => ⟨j, hj, σ₂, ⟨fz, ad, m, h, tk, rfl, H₃⟩, r⟩

/-- a map over another -/
noncomputable def GMap.ov (kp g : GMap) : GMap := fun b => (g b).or (kp b)
theorem GMap.ov_none {kp g : GMap} {b : Addr} (h : g b = none) : kp.ov g b = kp b := by unfold GMap.ov; rw [h]; rfl
theorem GMap.ov_some {kp g : GMap} {b : Addr} {o : Obj} (h : g b = some o) : kp.ov g b = some o := by unfold GMap.ov; rw [h]; rfl
theorem GMap.ov_eq {kp g : GMap} {b : Addr} {o : Obj} (h : kp.ov g b = some o) : g b = some o ∨ (g b = none ∧ kp b = some o) := by
  cases q : g b with
  | none => rw [GMap.ov_none q] at h; exact .inr ⟨rfl, h⟩
  | some o' => rw [GMap.ov_some q] at h; cases h; exact .inl rfl
theorem GMap.ov_off {kp g : GMap} {b : Addr} (h : kp.ov g b = none) : g b = none ∧ kp b = none := by
  cases q : g b with
  | none => rw [GMap.ov_none q] at h; exact ⟨rfl, h⟩
  | some o' => rw [GMap.ov_some q] at h; cases h
/-- apart -/
noncomputable def Dis (g kp : GMap) : Prop := ∀ b o, kp b = some o → g b = none
noncomputable def OffEnv (g : GMap) (env : Env) : Prop := g env.locals = none ∧ ∀ x c, env.cells.lookup x = some c → g c = none
/-- objects that this heap knows nothing of -/
noncomputable def New (g : GMap) (h : Heap) : Prop := ∀ b o, h.get? b = some o → g b = none
theorem New.dis {g kp : GMap} {h : Heap} (n : New g h) (k : ∀ b o, kp b = some o → h.get? b = some o) : Dis g kp := fun b o e => n b o (k b o e)

theorem Ok.offNew {kp fz₀ fz g : GMap} {ad : PySem.Str → Addr} {m : PySem.Str → Option Value} {s : Shared} (H : Ok W env kp fz₀ σ fz ad m s) (n : New g s.heap) : OffEnv g env :=
  ⟨let ⟨o, _, _, ho, _⟩ := H.ns; n _ o ho, fun x c h => let ⟨_, o, ho, _⟩ := H.cells x c h; n _ o ho⟩
theorem Ok.enter {kp fz₀ fz g : GMap} {ad : PySem.Str → Addr} {m : PySem.Str → Option Value} {s : Shared} {h' : Heap} {tk : Nat} (H : Ok W env kp fz₀ σ fz ad m s) (keep : ∀ b o, s.heap.get? b = some o → h'.get? b = some o) (n : New g s.heap) (hg : ∀ b o, g b = some o → h'.get? b = some o) : Ok W env (kp.ov g) fz σ fz ad m { s with heap := h', toks := tk } := by
  have H' := H.ext (Ext.heap (t := tk) H.fzIn keep)
  have of := H.offNew n
  refine { H' with wf := H.wf.mono fun b o e => (GMap.ov_none (n b o (H.kept b o e))).trans e, kept := fun b o e => (GMap.ov_eq e).elim (hg b o) fun ⟨_, e⟩ => H'.kept b o e, fz0 := fun _ _ e => e, fzNew := fun _ _ e => .inl e, nsK := (GMap.ov_none of.1).trans H.nsK, own := fun y es h => ⟨?_, (H'.own y es h).2⟩, cfree := fun x c h hl => ⟨(GMap.ov_none (of.2 x c h)).trans (H.cfree x c h hl).1, (H'.cfree x c h hl).2⟩ }
  obtain ⟨us, nn, ho, _⟩ := H.objOwn h
  exact (GMap.ov_none (n _ _ ho)).trans (H.own y es h).1

/-- the objects on top turn, new ones freeze -/
theorem Ok.turn' {kp fz₀ fz fz₂ g g' : GMap} {ad : PySem.Str → Addr} {m : PySem.Str → Option Value} {s : Shared} {h' : Heap} {tk : Nat} (H : Ok W env (kp.ov g) fz₀ σ fz ad m s) (hwf : WF W kp) (d1 : Dis g kp) (d0 : Dis g fz₀) (of : OffEnv g env) (dom : ∀ b, g b = none → g' b = none)
    (keep : ∀ b o, g b = none → s.heap.get? b = some o → h'.get? b = some o) (hg : ∀ b o, g' b = some o → h'.get? b = some o) (hs : ∀ b o, fz b = some o → fz₂ b = some o) (hnew : ∀ b o, fz₂ b = some o → fz b = some o ∨ s.heap.get? b = none) (hin : ∀ b o, fz₂ b = some o → h'.get? b = some o) : Ok W env (kp.ov g') fz₀ σ fz₂ ad m { s with heap := h', toks := tk } := by
  have off : ∀ b, kp.ov g b = none → kp.ov g' b = none := fun b h => (GMap.ov_none (dom b (GMap.ov_off h).1)).trans (GMap.ov_off h).2
  have ow : ∀ y es, (y, Slot.own es) ∈ σ → g (ad y) = none := fun y es h => (GMap.ov_off (H.own y es h).1).1
  have nt : ∀ b o, s.heap.get? b = some o → fz b = none → fz₂ b = none := fun b o e f => by
    cases q : fz₂ b with
    | none => rfl
    | some o' => rcases hnew b o' q with h | h
                 · rw [f] at h; cases h
                 · rw [e] at h; cases h
  refine { wf := hwf.mono fun b o e => (GMap.ov_none (dom b (d1 b o e))).trans e, kept := fun b o e => (GMap.ov_eq e).elim (hg b o) fun ⟨_, e⟩ => keep b o (d1 b o e) (H.kept b o ((GMap.ov_none (d1 b o e)).trans e)), fzIn := hin, fz0 := fun b o e => hs b o (H.fz0 b o e), fzNew := fun b o e => (hnew b o e).elim (fun e => (H.fzNew b o e).imp id (off b)) fun h => .inr (off b ?_), ns := H.ns.at' fun o e => keep _ _ of.1 e, nsK := off _ H.nsK, nsF := let ⟨o, _, _, ho, _⟩ := H.ns; nt _ o ho H.nsF, cells := ?_, cinj := H.cinj, cfree := fun x c h hl => ⟨off _ (H.cfree x c h hl).1, let ⟨_, o, ho, _⟩ := H.cells x c h; nt _ o ho (H.cfree x c h hl).2⟩, vars := ?_, own := fun y es h => ⟨off _ (H.own y es h).1, let ⟨_, _, ho, _⟩ := H.objOwn h; nt _ _ ho (H.own y es h).2⟩, inj := H.inj }
  · cases q : kp.ov g b with
    | none => rfl
    | some o' => rw [H.kept b o' q] at h; cases h
  · intro x c h
    obtain ⟨v, o, e, q⟩ := H.cells x c h
    exact ⟨v, o, keep _ _ (of.2 x c h) e, q⟩
  · intro x sl h
    have hl := H.vars x sl h
    cases sl with
    | val d =>
      obtain ⟨v, l, hv⟩ := hl
      exact ⟨v, l.imp id fun ⟨a, c, b, o, e, q⟩ => ⟨a, c, b, o, keep _ _ (of.2 x c b) e, q⟩, hv.mono hs⟩
    | own ds =>
      obtain ⟨a, b, us, n, e, q⟩ := hl
      exact ⟨a, b, us, n, keep _ _ (ow x ds h) e, q.mono hs⟩
theorem Ok.turn {kp fz₀ fz g g' : GMap} {ad : PySem.Str → Addr} {m : PySem.Str → Option Value} {s : Shared} {h' : Heap} {tk : Nat} (H : Ok W env (kp.ov g) fz₀ σ fz ad m s) (hwf : WF W kp) (d1 : Dis g kp) (d0 : Dis g fz₀) (of : OffEnv g env) (dom : ∀ b, g b = none → g' b = none)
    (keep : ∀ b o, g b = none → s.heap.get? b = some o → h'.get? b = some o) (hg : ∀ b o, g' b = some o → h'.get? b = some o) : Ok W env (kp.ov g') fz₀ σ fz ad m { s with heap := h', toks := tk } :=
  H.turn' hwf d1 d0 of dom keep hg (fun _ _ e => e) (fun _ _ e => .inl e) fun b o e => keep b o ((H.fzNew b o e).elim (d0 b o) fun h => (GMap.ov_off h).1) (H.fzIn b o e)
theorem Ok.rebase {kp fz₀ fz : GMap} {ad : PySem.Str → Addr} {m : PySem.Str → Option Value} {s : Shared} (H : Ok W env kp fz₀ σ fz ad m s) : Ok W env kp fz σ fz ad m s := { H with fz0 := fun _ _ e => e, fzNew := fun _ _ e => .inl e }
theorem Ok.unbase {kp fz₀ fz₁ fz : GMap} {ad : PySem.Str → Addr} {m : PySem.Str → Option Value} {s : Shared} (H : Ok W env kp fz₁ σ fz ad m s) (h0 : ∀ b o, fz₀ b = some o → fz₁ b = some o) (hn : ∀ b o, fz₁ b = some o → fz₀ b = some o ∨ kp b = none) : Ok W env kp fz₀ σ fz ad m s :=
  { H with fz0 := fun b o e => H.fz0 b o (h0 b o e), fzNew := fun b o e => (H.fzNew b o e).elim (hn b o) .inr }
/-- the objects on top are forgotten -/
theorem Ok.leave {kp fz₀ fz₁ fz g : GMap} {ad : PySem.Str → Addr} {m : PySem.Str → Option Value} {s : Shared} {h' : Heap} {tk : Nat} (H : Ok W env (kp.ov g) fz₁ σ fz ad m s) (hwf : WF W kp) (d1 : Dis g kp) (d0 : Dis g fz₁) (of : OffEnv g env) (keep : ∀ b o, g b = none → s.heap.get? b = some o → h'.get? b = some o)
    (h0 : ∀ b o, fz₀ b = some o → fz₁ b = some o) (hn : ∀ b o, fz₁ b = some o → fz₀ b = some o ∨ kp b = none) : Ok W env kp fz₀ σ fz ad m { s with heap := h', toks := tk } :=
  Ok.unbase (H.turn (g' := fun _ => none) hwf d1 d0 of (fun _ _ => rfl) keep (fun _ _ e => nomatch e)) h0 hn
theorem Fin.leave {kp fz₀ fz₁ fz g : GMap} {s : Shared} (H : Fin (kp.ov g) fz₁ fz s) (d1 : Dis g kp) (h0 : ∀ b o, fz₀ b = some o → fz₁ b = some o) (hn : ∀ b o, fz₁ b = some o → fz₀ b = some o ∨ kp b = none) : Fin kp fz₀ fz s :=
  ⟨fun b o e => H.kept b o ((GMap.ov_none (d1 b o e)).trans e), H.fzIn, fun b o e => H.fz0 b o (h0 b o e), fun b o e => (H.fzNew b o e).elim (hn b o) fun h => .inr (GMap.ov_off h).2⟩

/-- what stands behind an item's coming -/
noncomputable def Go (W : WP) (A : Around) (lo : Option PySem.Expr) (I : Addr) (v : Value) (Q : Shared → Prop) (E : Value → Shared → Prop) (s : Shared) : Prop := match lo with
  | none => Q s
  | some t => wpAny W.M A (letOwnedTupleGo t (.ref I) v) (fun _ => Q) E s
noncomputable def Nxt (W : WP) (A : Around) (lo : Option PySem.Expr) (I : Addr) (QN : Shared → Prop) (QS : Value → Shared → Prop) (E : Value → Shared → Prop) (s : Shared) : Prop :=
  wpAny W.M A (pyNext (.ref I)) (fun r s₁ => match r with | none => QN s₁ | some v => Go W A lo I v (QS v) E s₁) E s
/-- an iterator with objects of its own gives these -/
noncomputable def Gen (W : WP) (A : Around) (lo : Option PySem.Expr) (I : Addr) (fz₁ : GMap) : List D → GMap → Prop
  | [], g => ∀ (fz : GMap) (s : Shared) (QN : Shared → Prop) (QS E : Value → Shared → Prop), (∀ b o, fz₁ b = some o → fz b = some o) → FzIn fz s → FzIn g s → Dis g fz →
      (∀ h' tk', (∀ b o, g b = none → s.heap.get? b = some o → h'.get? b = some o) → QN { s with heap := h', toks := tk' }) → Nxt W A lo I QN QS E s
  | d :: ds, g => ∀ (fz : GMap) (s : Shared) (QN : Shared → Prop) (QS E : Value → Shared → Prop), (∀ b o, fz₁ b = some o → fz b = some o) → FzIn fz s → FzIn g s → Dis g fz →
      (∀ v fz' g' h' tk', VH fz' v d → (∀ b o, fz b = some o → fz' b = some o) → (∀ b o, fz' b = some o → fz b = some o ∨ s.heap.get? b = none) → (∀ b o, fz' b = some o → h'.get? b = some o) → (∀ b, g b = none → g' b = none) → (∀ b o, g b = none → s.heap.get? b = some o → h'.get? b = some o) → (∀ b o, g' b = some o → h'.get? b = some o) → Gen W A lo I fz₁ ds g' → QS v { s with heap := h', toks := tk' }) → Nxt W A lo I QN QS E s
/-- what a for goes over -/
noncomputable def Iter (W : WP) (A : Around) (d : D) (ds : List D) : Prop :=
  ∀ (fz : GMap) (s : Shared) (v : Value) (Q E : Value → Shared → Prop), FzIn fz s → VH fz v d →
    (∀ I g h' tk', New g s.heap → (∀ b o, s.heap.get? b = some o → h'.get? b = some o) → (∀ b o, g b = some o → h'.get? b = some o) → (∀ s', FzIn g s' → FzIn fz s' → ∀ (QQ EE : Value → Shared → Prop), QQ (.ref I) s' → wpAny W.M A (pyIter (.ref I)) QQ EE s') → Gen W A none I fz ds g → Q (.ref I) { s with heap := h', toks := tk' }) →
    wpAny W.M A (pyIter v) Q E s

noncomputable def Asg (W : WP) (A : Around) (env : Env) (t : PySem.Expr) (d : D) (σ σ₁ : Sto) : Prop :=
  ∀ (kp fz₀ fz : GMap) (ad : PySem.Str → Addr) (m : PySem.Str → Option Value) (s : Shared) (v : Value) (Q : Unit → Shared → Prop) (E : Value → Shared → Prop), Ok W env kp fz₀ σ fz ad m s → VH fz v d →
    (∀ fz' ad' m' h' tk', Ok W env kp fz₀ σ₁ fz' ad' m' { s with heap := h', toks := tk' } → Q () { s with heap := h', toks := tk' }) → wpAny W.M A (assign t env v) Q E s

theorem asg_name {n : Nat} {x : PySem.Str} {px : Pos} {d : D} (F : FOK n A env) (hx : env.kindOf x = some .local) : Asg W A env (.Name x px) d σ (upd σ x (.val d)) := by
  intro kp fz₀ fz ad m s v Q E H hv k
  exact wpAny_assign_Name (wp_store F H (.inl hx) hv fun m' h' tk H' => k _ _ _ _ _ H')

/-- a for's run -/
noncomputable def ForRun (step : D → Sto → Out → Prop) : List D → Sto → Out → Prop
  | [], σ, o => o = .next σ
  | d :: ds, σ, o => (∃ σ₁, step d σ (.next σ₁) ∧ ForRun step ds σ₁ o) ∨ ∃ r, step d σ (.ret r) ∧ o = .ret r
theorem ForRun.nil {step : D → Sto → Out → Prop} : ForRun step [] σ (.next σ) := rfl
theorem ForRun.next {step : D → Sto → Out → Prop} {d : D} {ds : List D} {σ₁ : Sto} {o : Out} (h : step d σ (.next σ₁)) (r : ForRun step ds σ₁ o) : ForRun step (d :: ds) σ o := .inl ⟨σ₁, h, r⟩
theorem ForRun.ret {step : D → Sto → Out → Prop} {d r : D} {ds : List D} (h : step d σ (.ret r)) : ForRun step (d :: ds) σ (.ret r) := .inr ⟨r, h, rfl⟩
noncomputable abbrev FStep (W : WP) (A : Around) (env : Env) (t : PySem.Expr) (body : List Stmt) (d : D) (σ : Sto) (o : Out) : Prop := ∃ σ₁, Asg W A env t d σ σ₁ ∧ X W A env σ₁ body o

/-- what a loop over an iterator knows -/
noncomputable def FInv (W : WP) (A : Around) (lo : Option PySem.Expr) (env : Env) (kp fz₁ g₀ : GMap) (I : Addr) (s : Shared) (P : List D → Sto → Prop) (k : Nat) (s' : Shared) : Prop :=
  ∃ es σ g, k = es.length ∧ (∀ b, g₀ b = none → g b = none) ∧ Gen W A lo I fz₁ es g ∧ At W env (kp.ov g) fz₁ σ s s' ∧ P es σ
/-- one turn -/
theorem wp_turn {lo : Option PySem.Expr} {t : PySem.Expr} {body : List Stmt} {kp fz₀ fz₁ g₀ : GMap} {I : Addr} {s : Shared} {o : Out} {k : Nat} {s' : Shared} {Q : Flow → Shared → Prop} {QN : Shared → Prop} {E : Value → Shared → Prop}
    (h : FInv W A lo env kp fz₁ g₀ I s (fun es σ => ForRun (FStep W A env t body) es σ o) k s') (hwf : WF W kp) (d1 : Dis g₀ kp) (d0 : Dis g₀ fz₁) (of : OffEnv g₀ env) (h0 : ∀ b o, fz₀ b = some o → fz₁ b = some o) (hn : ∀ b o, fz₁ b = some o → fz₀ b = some o ∨ kp b = none) (p : Post W env kp fz₀ s Q o)
    (hN : ∀ s₁, Q .next s₁ → QN s₁) {QS : Value → Shared → Prop} (hS : ∀ v s₁, wpAny W.M A (assign t env v) (fun _ s₂ => wpAny W.M A (execs body env) (fun f s₃ => match f with | .next => ∃ m, m < k ∧ FInv W A lo env kp fz₁ g₀ I s (fun es σ => ForRun (FStep W A env t body) es σ o) m s₃ | .ret v => Q (.ret v) s₃ | _ => False) E s₂) E s₁ → QS v s₁) :
    Nxt W A lo I QN QS E s' := by
  obtain ⟨es, σ', g, rfl, hg0, G, ⟨fz', ad', m', h', tk', rfl, H'⟩, r⟩ := h
  have sub : ∀ {x : GMap}, Dis g₀ x → Dis g x := fun d b o e => hg0 b (d b o e)
  have ofg : OffEnv g env := ⟨hg0 _ of.1, fun x c hc => hg0 _ (of.2 x c hc)⟩
  have gIn : FzIn g { s with heap := h', toks := tk' } := fun b o e => H'.kept b o (GMap.ov_some e)
  have dz : Dis g fz' := fun b o e => (H'.fzNew b o e).elim (sub d0 b o) fun h => (GMap.ov_off h).1
  cases es with
  | nil =>
    refine G fz' _ _ _ _ H'.fz0 H'.fzIn gIn dz fun h₅ tk₅ keep => hN _ ?_
    cases r
    exact p _ _ _ h₅ tk₅ (H'.leave hwf (sub d1) (sub d0) ofg keep h0 hn)
  | cons d ds =>
    refine G fz' _ _ _ _ H'.fz0 H'.fzIn gIn dz fun v fz₂ g₂ h₂ tk₂ hv hs hnew hin hd keep hg₂ G₂ => hS _ _ ?_
    have H₂ := H'.turn' (tk := tk₂) hwf (sub d1) (sub d0) ofg hd keep hg₂ hs hnew hin
    rcases r with ⟨σ₁, ⟨σ₂, ha, hb⟩, r⟩ | ⟨r, ⟨σ₂, ha, hb⟩, rfl⟩
    · refine ha _ _ _ _ _ _ _ _ _ H₂ hv fun fz₄ ad₄ m₄ h₄ tk₄ H₄ => ?_
      exact hb _ _ _ _ _ _ _ _ H₄ fun fz₅ ad₅ m₅ h₅ tk₅ H₅ => ⟨ds.length, Nat.lt_succ_self _, ds, σ₁, g₂, rfl, fun b e => hd b (hg0 b e), G₂, ⟨_, _, _, h₅, tk₅, rfl, H₅⟩, r⟩
    · refine ha _ _ _ _ _ _ _ _ _ H₂ hv fun fz₄ ad₄ m₄ h₄ tk₄ H₄ => ?_
      exact hb _ _ _ _ _ _ _ _ H₄ fun v fz₅ h₅ tk₅ F₅ hv₅ => p v fz₅ h₅ tk₅ (F₅.leave (fun b o e => hd b (sub d1 b o e)) h0 hn) hv₅
theorem x_for {t iter : PySem.Expr} {body : List Stmt} {pos : Pos} {d : D} {ds : List D} {o : Out} (he : Ev W A env σ iter d) (hi : Iter W A d ds)
    (h : ForRun (FStep W A env t body) ds σ o) (hs : ∀ x, foldedSetIterable iter env x = pure x := by intro _; rfl) (ht : ∀ it v, letOwnedTupleGo t it v = pure () := by intro _ _; rfl) :
    X1 W A env σ (.For t iter body [] pos) o := by
  intro kp fz₀ fz ad m s Q E H p
  refine wpAny_For (he _ _ _ _ _ _ _ _ H fun v fz₁ s₁ x₁ hv => hi _ _ _ _ _ x₁.inH hv fun I g h₂ tk₂ n hk₂ hg₂ _ G => ?_) hs
  have H₁ := H.ext x₁
  have H₂ := H₁.enter (tk := tk₂) hk₂ n hg₂
  obtain ⟨h₁, tk₁, e₁, _⟩ := id x₁.keeps
  subst e₁
  refine codeAny_forLoop (FInv W A none env kp fz₁ g I s fun es σ => ForRun (FStep W A env t body) es σ o) (fun k s' hk => ?_) ds.length ⟨ds, σ, g, rfl, fun _ e => e, G, ⟨_, _, _, h₂, tk₂, rfl, H₂⟩, h⟩ (fun v => ht _ v)
  exact wp_turn hk H.wf (n.dis H₁.kept) (n.dis x₁.inH) (H₁.offNew n) H₁.fz0 H₁.fzNew p (fun s₁ q => wpAny_execs_nil q) fun v s₁ q => wpAny_mono q (fun _ s₂ q => wpAny_mono q (fun f s₃ q => by cases f <;> first | exact q | exact q.elim) fun _ _ e => e) fun _ _ e => e

/-- what the library's iterators are -/
structure IterOk (W : WP) (A : Around) (I : Addr) (fp wr : List Addr) (n : Nat) (P : Nat → Value → Prop) (St : Nat → Heap → Prop) (fz : GMap) (ds : List D) : Prop where
  walks : Walks W.prog W.w A I fp wr n P St
  len : n = ds.length
  wr : ∀ b ∈ wr, b = I
  fp : ∀ b ∈ fp, b = I ∨ ∃ o, fz b = some o
  item : ∀ i v, i < n → P i v → ∃ d, ds[i]? = some d ∧ VH fz v d
  has : ∀ i h, St i h → ∃ o, h.get? I = some o
noncomputable def one (I : Addr) (o : Obj) : GMap := fun b => if b = I then some o else none
theorem one_self {I : Addr} {o : Obj} : one I o I = some o := if_pos rfl
theorem one_off {I b : Addr} {o : Obj} (h : b ≠ I) : one I o b = none := if_neg h
theorem one_eq {I b : Addr} {o q : Obj} (h : one I o b = some q) : b = I ∧ q = o := by
  by_cases e : b = I
  · rw [e, one_self] at h; exact ⟨e, (Option.some.inj h).symm⟩
  · rw [one_off e] at h; cases h
theorem one_ne {I b : Addr} {o : Obj} (h : one I o b = none) : b ≠ I := fun e => by rw [e, one_self] at h; cases h
theorem gen_walks {I : Addr} {fp wr : List Addr} {n : Nat} {P : Nat → Value → Prop} {St : Nat → Heap → Prop} {fz₁ : GMap} {ds : List D} (K : IterOk W A I fp wr n P St fz₁ ds) : ∀ (k i : Nat) (h : Heap) (oI : Obj), i + k = n → St i h → h.get? I = some oI → (∀ b o, fz₁ b = some o → h.get? b = some o) → Gen W A none I fz₁ (ds.drop i) (one I oI) := by
  have fr : ∀ {i h oI fz} {s : Shared}, St i h → h.get? I = some oI → (∀ b o, fz₁ b = some o → h.get? b = some o) → (∀ b o, fz₁ b = some o → fz b = some o) → FzIn fz s → FzIn (one I oI) s → St i s.heap := by
    intro i h oI fz s st hI hf hs hz hg
    refine K.walks.frame _ _ _ st fun b hb q e => ?_
    rcases K.fp b hb with rfl | ⟨o, ho⟩
    · rw [hI] at e; cases e; exact hg _ _ one_self
    · rw [hf b o ho] at e; cases e; exact hz _ _ (hs _ _ ho)
  intro k
  induction k with
  | zero =>
    intro i h oI hn st hI hf
    obtain rfl : i = n := hn
    rw [List.drop_eq_nil_of_le (Nat.le_of_eq K.len.symm)]
    intro fz s QN QS E hs hz hg dz kont
    exact K.walks.done _ _ _ (fr st hI hf hs hz hg) fun h₃ tk₃ keep => kont h₃ tk₃ fun b o e q => keep b o (fun hw => one_ne e (K.wr b hw)) q
  | succ k ih =>
    intro i h oI hn st hI hf
    have hlt : i < n := by walk_at "lx"
    rw [List.drop_eq_getElem_cons (by rw [← K.len]; exact hlt)]
    intro fz s QN QS E hs hz hg dz kont
    refine K.walks.item i _ _ _ hlt (fr st hI hf hs hz hg) fun v h₃ tk₃ hP st₃ keep => ?_
    obtain ⟨dv, hdv, hvv⟩ := K.item i v hlt hP
    obtain ⟨oI₃, hoI₃⟩ := K.has _ _ st₃
    have keep' : ∀ b o, one I oI b = none → s.heap.get? b = some o → h₃.get? b = some o := fun b o e q => keep b o (fun hw => one_ne e (K.wr b hw)) q
    rw [List.getElem?_eq_getElem (by rw [← K.len]; exact hlt)] at hdv
    cases hdv
    exact kont v fz (one I oI₃) h₃ tk₃ (hvv.mono hs) (fun _ _ e => e) (fun _ _ e => .inl e) (fun b o e => keep' b o (dz b o e) (hz b o e)) (fun b e => one_off (one_ne e)) keep' (fun b o e => by obtain ⟨rfl, rfl⟩ := one_eq e; exact hoI₃) (ih (i + 1) h₃ oI₃ (by walk_at "lx") st₃ hoI₃ fun b o e => keep' b o (dz b o (hs b o e)) (hz b o (hs b o e)))
/-- from the library's iterators -/
theorem iter_walks {I : Addr} {fp wr : List Addr} {n : Nat} {P : Nat → Value → Prop} {St : Nat → Heap → Prop} {fz : GMap} {ds : List D} {s : Shared} {h' : Heap} {tk' : Nat} {Q : Value → Shared → Prop} (K : IterOk W A I fp wr n P St fz ds) (st : St 0 h') (hI : s.heap.get? I = none) (hk : ∀ b o, s.heap.get? b = some o → h'.get? b = some o) (hf : FzIn fz s)
    (k : ∀ I g h' tk', New g s.heap → (∀ b o, s.heap.get? b = some o → h'.get? b = some o) → (∀ b o, g b = some o → h'.get? b = some o) → (∀ s', FzIn g s' → FzIn fz s' → ∀ (QQ EE : Value → Shared → Prop), QQ (.ref I) s' → wpAny W.M A (pyIter (.ref I)) QQ EE s') → Gen W A none I fz ds g → Q (.ref I) { s with heap := h', toks := tk' }) : Q (.ref I) { s with heap := h', toks := tk' } := by
  obtain ⟨oI, hoI⟩ := K.has _ _ st
  have hfh : ∀ b o, fz b = some o → h'.get? b = some o := fun b o e => hk b o (hf b o e)
  refine k I (one I oI) h' tk' (fun b o e => one_off fun q => by rw [q, hI] at e; cases e) hk (fun b o e => by obtain ⟨rfl, rfl⟩ := one_eq e; exact hoI) (fun s' hg hz QQ EE q => K.walks.self 0 _ _ _ (K.walks.frame _ _ _ st fun b hb o e => ?_) q) (gen_walks K n 0 h' oI (Nat.zero_add n) st hoI hfh)
  rcases K.fp b hb with rfl | ⟨o', ho'⟩
  · rw [hoI] at e; cases e; exact hg _ _ one_self
  · rw [hfh b o' ho'] at e; cases e; exact hz _ _ ho'
theorem iter_list {ds : List D} (hh : A.handled = none) : Iter W A (.lst ds) ds := by
  intro fz s v Q E hf hv k
  obtain ⟨a, o, vs, n, rfl, e, c, d, r⟩ := hv.lst_
  have hl : s.heap.IsList a vs.toArray := ⟨_, hf _ _ e, c, n, d⟩
  have hne : a ≠ s.heap.objs.size := Nat.ne_of_lt (Heap.lt_size (hf _ _ e))
  refine wpAny_pyIter_list hl ?_
  refine iter_walks (tk' := s.toks) ⟨Walks.list hh s.heap.objs.size a hne vs.toArray, by simp [r.length], fun b hb => List.mem_singleton.mp hb, ?_, ?_, ?_⟩ ⟨⟨_, Heap.get?_push_size _ rfl, rfl, rfl⟩, hl.push _⟩ (get_fresh _) (fun b o e => get_push e) hf k
  · intro b hb
    rcases List.mem_cons.mp hb with h | h
    · exact .inl h
    · rw [List.mem_singleton.mp h]; exact .inr ⟨o, e⟩
  · intro i v hi hv
    have hv' : vs[i]? = some v := by simpa using hv
    have hi' : i < ds.length := by rw [← r.length]; simpa using hi
    obtain ⟨v', h1, h2⟩ := r.get (List.getElem?_eq_getElem hi')
    rw [hv'] at h1; cases h1
    exact ⟨_, List.getElem?_eq_getElem hi', h2⟩
  · intro i h st
    obtain ⟨⟨oI, ho, _⟩, _⟩ := st
    exact ⟨oI, ho⟩

/-- the ints of a range -/
noncomputable def rngL (a c : Int) : Nat → List D
  | 0 => []
  | n + 1 => .int a :: rngL (a + c) c n
theorem rngL_length (c : Int) : ∀ (n : Nat) (a : Int), (rngL a c n).length = n
  | 0, _ => rfl
  | n + 1, a => by rw [rngL, List.length_cons, rngL_length c n]
theorem rngL_get (c : Int) : ∀ (n : Nat) (a : Int) (i : Nat), i < n → (rngL a c n)[i]? = some (.int (a + i * c))
  | 0, _, _, h => absurd h (Nat.not_lt_zero _)
  | n + 1, a, 0, _ => by simp [rngL]
  | n + 1, a, i + 1, h => by
    rw [rngL, List.getElem?_cons_succ, rngL_get c n (a + c) i (Nat.lt_of_succ_lt_succ h)]
    congr 2
    rw [Int.natCast_succ, Int.add_mul]
    walk_at "lx"

theorem iter_rng {a b c : Int} {n : Nat} (hh : A.handled = none) (hs : Builtin.Range.small a b c = true) (hn : Builtin.Range.rangeSize a b c = (n : Int)) : Iter W A (.rng a b c) (rngL a c n) := by
  intro fz s v Q E hf hv k
  obtain ⟨r, t, u, x, rfl, e⟩ := hv.rng_
  have hr : IsRange s.heap r a b c t u x := by first | exact ⟨_, hf _ _ e, rfl, rfl⟩ | exact hf _ _ e
  refine wpAny_pyIter_range hr hs ?_
  have W0 := Walks.range (prog := W.prog) (w := W.w) hh s.heap.objs.size a c n
  rw [hn]
  refine iter_walks (tk' := s.toks) ⟨W0, by rw [rngL_length], fun b hb => List.mem_singleton.mp hb, fun b hb => .inl (List.mem_singleton.mp hb), ?_, ?_⟩ ?_ (get_fresh _) (fun b o e => get_push e) hf k
  · rintro i v hi ⟨t, rfl⟩
    exact ⟨_, rngL_get c n a i hi, .int _ _⟩
  · intro i h st
    exact ⟨_, st⟩
  · refine (Heap.get?_push_size _ rfl).trans ?_
    simp
end
end
section
/-- a def, called with room for k frames -/
noncomputable def CallOk (W : WP) (k : Nat) (f : Addr) (ds : List D) (d : D) : Prop :=
  ∀ A : Around, A.handled = none → A.depth + k < recursionLimit → A.units + 16 * k < cLine → CallV W A (.ref f) ds d

theorem bindL_notin {kof : PySem.Str → Option NameKind} : ∀ (names : List PySem.Str) (vs : List Value) (m : PySem.Str → Option Value) (x : PySem.Str), x ∉ names → bindL kof (names.zip vs) m x = m x
  | [], _, _, _, _ => by simp [bindL]
  | _ :: _, [], _, _, _ => by simp [bindL]
  | n :: ns, v :: vs, m, x, h => by
    have h1 : x ≠ n := fun e => h (by simp [e])
    have h2 : x ∉ ns := fun e => h (by simp [e])
    rw [List.zip_cons_cons, bindL, bindL_notin ns vs _ x h2]
    by_cases q : kof n = some .local
    · simp [q, h1]
    · simp [q]
theorem bindC_notin {kof : PySem.Str → Option NameKind} : ∀ (names : List PySem.Str) (vs : List Value) (m : PySem.Str → Option Value) (x : PySem.Str), x ∉ names → bindC kof (names.zip vs) m x = m x
  | [], _, _, _, _ => by simp [bindC]
  | _ :: _, [], _, _, _ => by simp [bindC]
  | n :: ns, v :: vs, m, x, h => by
    have h1 : x ≠ n := fun e => h (by simp [e])
    have h2 : x ∉ ns := fun e => h (by simp [e])
    rw [List.zip_cons_cons, bindC, bindC_notin ns vs _ x h2]
    by_cases q : kof n = some .local
    · simp [q]
    · simp [q, h1]
theorem bind_get {kof : PySem.Str → Option NameKind} {fz : GMap} (names : List PySem.Str) : ∀ (vs : List Value) (ds : List D) (m cm : PySem.Str → Option Value) (x : PySem.Str) (sl : Slot), names.Nodup → VHs fz vs ds → (x, sl) ∈ names.zip (ds.map Slot.val) →
    ∃ v d, sl = .val d ∧ VH fz v d ∧ (kof x = some .local → bindL kof (names.zip vs) m x = some v) ∧ (kof x ≠ some .local → bindC kof (names.zip vs) cm x = some v) := by
  induction names with
  | nil => intro vs ds m cm x sl _ _ h; simp at h
  | cons n ns ih =>
    intro vs ds m cm x sl hn hv h
    cases ds with
    | nil => simp at h
    | cons d ds =>
      obtain ⟨v, vs, rfl, hv, r⟩ := hv.cons_
      rw [List.nodup_cons] at hn
      rw [List.map_cons, List.zip_cons_cons] at h
      rcases List.mem_cons.mp h with e | h
      · cases e
        refine ⟨v, d, rfl, hv, fun q => ?_, fun q => ?_⟩
        · rw [List.zip_cons_cons, bindL, bindL_notin _ _ _ _ hn.1]; simp [q]
        · rw [List.zip_cons_cons, bindC, bindC_notin _ _ _ _ hn.1]; simp [q]
      · rw [List.zip_cons_cons, bindL, bindC]
        exact ih vs ds _ _ x sl hn.2 r h
theorem all1 {P : List Value → Prop} (h : ∀ a, P [a]) (vs : List Value) (e : vs.length = 1) : P vs := by
  cases vs with
  | nil => cases e
  | cons a r => cases r with
    | nil => exact h a
    | cons b r => cases e
theorem all2 {P : List Value → Prop} (h : ∀ a b, P [a, b]) (vs : List Value) (e : vs.length = 2) : P vs := by
  cases vs with
  | nil => cases e
  | cons a r => exact all1 (P := fun r => P (a :: r)) (h a) r (Nat.succ.inj e)
theorem all3 {P : List Value → Prop} (h : ∀ a b c, P [a, b, c]) (vs : List Value) (e : vs.length = 3) : P vs := by
  cases vs with
  | nil => cases e
  | cons a r => exact all2 (P := fun r => P (a :: r)) (h a) r (Nat.succ.inj e)

theorem def_ok {W : WP} {k : Nat} {f : Addr} {fc : Value} {od : Option Addr} {osl : Array (Option Value)} {name qual : PySem.Str} {params : Arguments} {body : List Stmt} {scope : Scope} {dV kV doc pm cdv ct : Value} {an : Option Addr} {ds : List D} {d : D} {names : List PySem.Str}
    (hK : W.K.lookup f = some ⟨fc, od, .func (fnOf name qual params body scope dV kV doc pm an cdv ct), osl⟩) (hcd : codeIn W.K cdv qual = true)
    (hb : ∀ vs : List Value, vs.length = ds.length → bindArgs (fnOf name qual params body scope dV kV doc pm an cdv ct) ⟨vs, []⟩ = pure (names.zip vs))
    (hn : names.Nodup) (hkind : ∀ (n : Nat), ∀ x ∈ names, scope.names.lookup x = some .local ∨ (scope.names.lookup x = some .cell ∧ ((cellsFrom n scope.names []).lookup x).isSome = true)) (hl : names.length = ds.length)
    (hk : scope.kind = .function) (hco : scope.isCoroutine = false) (hgen : scope.isGenerator = false)
    (h : ∀ A L, FOK k A (envOfC qual scope L f cdv) → X W A (envOfC qual scope L f cdv) (names.zip (ds.map Slot.val)) body (.ret d)) : CallOk W (k + 1) f ds d := by
  intro A hh hd hu fz s vs Q E hwf hf hvs kont
  obtain ⟨⟨hw, Xk, T, hkk⟩, hXX⟩ := hwf
  have ho := (Xk.keeps hkk) _ _ hK
  have hcdR : s.heap.CodeRec cdv qual := codeRec_of (Xk.keeps hkk) hcd
  have hvl := hvs.length
  refine wpAny_call (codeAny_call_function (fd := fnOf name qual params body scope dV kV doc pm an cdv ct) (by walk_at "lx") ho rfl hco hgen rfl hcdR ?_)
  refine (BindsTo.of_eq (s := s) (hb vs hvl)) _ _ _ _ ?_
  refine wpAny_newFunctionEnv_cells hk ?_ ?_
  · intro x hx
    have : x.1 ∈ names := (List.of_mem_zip hx).1
    exact hkind _ _ this
  · intro env henv s₁ C
    have henv' : env = envOfC qual scope s.heap.objs.size f cdv := henv
    subst henv'
    obtain ⟨h₁, tk₁, e₁⟩ := C.toInCall.same
    have kp₁ : ∀ b o, s.heap.get? b = some o → s₁.heap.get? b = some o := C.toInCall.keep
    refine ⟨(T.keeps fun b o e => kp₁ b o (hkk b o e)).nolimit, ?_⟩
    have hL : s.heap.get? s.heap.objs.size = none := get_fresh _
    have F : FOK k (A.deeper (envOfC qual scope s.heap.objs.size f cdv)) (envOfC qual scope s.heap.objs.size f cdv) :=
      ⟨hh, hk, rfl, rfl, by show A.depth + 1 + k < _; walk_at "lx", by show A.units + 3 + 16 * k < _; walk_at "lx"⟩
    refine codeAny_func (h _ _ F (fun b => s.heap.get? b) fz fz (fun _ => 0) (bindL (envOfC qual scope s.heap.objs.size f cdv).kindOf (names.zip vs) fun _ => none) s₁ _ _ ?_ ?_)
    · refine { wf := ⟨⟨hw, Xk, T, hkk⟩, hXX⟩, kept := kp₁, fzIn := fun b o e => kp₁ b o (hf b o e), fz0 := fun _ _ e => e, fzNew := fun _ _ e => .inl e, ns := C.toInCall.ns, nsK := hL, nsF := ?_, cells := ?_, cinj := ?_, cfree := ?_, vars := ?_, own := ?_, inj := ?_ }
      · show fz s.heap.objs.size = none
        cases q : fz s.heap.objs.size with
        | none => rfl
        | some o => rw [hf _ _ q] at hL; cases hL
      · intro x c hc
        exact ⟨_, C.cell x c hc⟩
      · intro x y c hx hy
        exact name_of_addr C.apart (mem_of_lookup hx) (mem_of_lookup hy)
      · intro x c hc hl
        have hn : s.heap.get? c = none := by
          cases q : s.heap.get? c with
          | none => rfl
          | some o => exact absurd (Heap.lt_size q) (Nat.not_lt.mpr (Nat.le_of_lt hl))
        refine ⟨hn, ?_⟩
        cases q : fz c with
        | none => rfl
        | some o => rw [hf _ _ q] at hn; cases hn
      · intro x sl hx
        obtain ⟨v, d', rfl, hv, h1, h2⟩ := bind_get (kof := (envOfC qual scope s.heap.objs.size f cdv).kindOf) names vs ds (fun _ => none) (fun _ => none) x sl hn hvs hx
        refine ⟨v, ?_, hv⟩
        rcases hkind (s.heap.objs.size + 1) x (List.of_mem_zip hx).1 with a | ⟨a, b⟩
        · exact .inl ⟨a, h1 a⟩
        · obtain ⟨c, hc⟩ := Option.isSome_iff_exists.mp b
          refine .inr ⟨.inl a, c, hc, ?_⟩
          have := C.cell x c hc
          rw [h2 (by show scope.names.lookup x ≠ _; rw [a]; decide)] at this
          exact this
      · intro x es hx
        obtain ⟨v, d', e, _⟩ := bind_get (kof := (envOfC qual scope s.heap.objs.size f cdv).kindOf) names vs ds (fun _ => none) (fun _ => none) x _ hn hvs hx
        cases e
      · intro x y es es' hx
        obtain ⟨v, d', e, _⟩ := bind_get (kof := (envOfC qual scope s.heap.objs.size f cdv).kindOf) names vs ds (fun _ => none) (fun _ => none) x _ hn hvs hx
        cases e
    · intro v fz' h' tk' Fn hv
      have e₂ : ({ s₁ with heap := h', toks := tk' } : Shared) = { s with heap := h', toks := tk' } := by rw [e₁]
      rw [e₂] at Fn ⊢
      exact kont v fz' _ ⟨⟨h', tk', rfl, Fn.kept⟩, Fn.fz0, Fn.fzIn, Fn.fzNew⟩ hv

section
variable {W : WP} {A : Around} {env : Env} {σ σ' : Sto}

/-- a def's name, called -/
theorem ev_call {n k : Nat} {x : PySem.Str} {p pos : Pos} {es : List PySem.Expr} {f : Addr} {ds : List D} {d : D} {fc : Value} {od : Option Addr} {osl : Array (Option Value)} {fd : FuncData} (F : FOK n A env) (hx : env.kindOf x = some .globalImplicit) (hv : nsIn W.K mainGlobals x = some (some (.ref f)))
    (hd : (x == ("__debug__" : PySem.Str)) = false) (hK : W.K.lookup f = some ⟨fc, od, .func fd, osl⟩) (ha : Evs W A env σ es ds) (hc : CallOk W k f ds d) (hk : k ≤ n) (hne : backTo pos (starEach es env) = (match backTo pos (starEach es env) with | (_, t) :: r => (false, t) :: r | [] => []) := by rfl) (hne' : es ≠ [] := by exact List.cons_ne_nil _ _)
    (hs : ∀ e rest, es = e :: rest → starEach es env = (false, eval e env) :: starEach rest env := by (intro e rest h; cases h; rfl)) :
    Ev W A env σ (.Call (.Name x p) es [] pos) d := by
  intro kp fz₀ fz ad m s Q E H kont
  obtain ⟨⟨hw, Xk, T, hkk⟩, _⟩ := H.wf
  have kk : ∀ b o, hw.get? b = some o → s.heap.get? b = some o := fun b o e => H.kept _ _ (hkk _ _ e)
  refine Call_Name rfl (Name_function_global F.hk hx (loadGlobal_global (env := env) (show s.heap.Ns env.globals W.mg from F.hg ▸ (T.keeps kk).g) (mg_of Xk T.g hv) ?_) hd)
  cases es with
  | nil => exact absurd rfl hne'
  | cons e rest =>
    have hst := hs e rest rfl
    refine callWith_function (o := ⟨fc, od, .func fd, osl⟩) (fd := fd) ?_
    have ha' := ha pos
    rw [hst] at ha' ⊢
    refine evalArgs_plain (ha' _ _ _ _ _ _ _ _ H fun vs fz' s' x' hvs => ⟨⟨?_, rfl⟩, ?_⟩)
    · exact kGet x'.keeps ((Xk.keeps kk) _ _ hK)
    · rw [List.nil_append]
      have hh := F.hh; have hdp := F.dp; have hun := F.un
      exact hc A F.hh (by walk_at "lx") (by walk_at "lx") _ _ _ _ _ (H.ext x').heapWF x'.inH hvs fun v fz'' s'' x'' hv' => kont _ _ _ (x'.trans x'') hv'

/-- a built-in function's name, called -/
theorem ev_callB {n : Nat} {x : PySem.Str} {id : String} {p pos : Pos} {e : PySem.Expr} {rest : List PySem.Expr} {ds : List D} {d : D} (F : FOK n A env) (hx : env.kindOf x = some .globalImplicit) (hv : nsIn W.K mainGlobals x = some none) (hb : bootBuiltins x = some (.builtin id)) (hnn : x ≠ "__name__")
    (hd : (x == ("__debug__" : PySem.Str)) = false) (ha : Evs W A env σ (e :: rest) ds) (hc : CallV W A (.builtin id) ds d)
    (hs : starEach (e :: rest) env = (false, eval e env) :: starEach rest env := by rfl) (hs2 : ((backTo pos (starEach rest env)).any fun x => x.1) = false := by rfl) :
    Ev W A env σ (.Call (.Name x p) (e :: rest) [] pos) d := by
  intro kp fz₀ fz ad m s Q E H kont
  obtain ⟨⟨hw, Xk, T, hkk⟩, _⟩ := H.wf
  have kk : ∀ b o, hw.get? b = some o → s.heap.get? b = some o := fun b o e => H.kept _ _ (hkk _ _ e)
  refine Call_Name rfl (Name_function_global F.hk hx (loadGlobal_builtin (env := env) (show s.heap.Ns env.globals W.mg from F.hg ▸ (T.keeps kk).g) (mg_none_of Xk T.g hv) (show s.heap.Ns env.builtins W.mb from F.hb ▸ (T.keeps kk).b) ((T.builtins x hnn).trans hb) ?_) hd)
  refine callWith_method1 (first := []) ?_ hs hs2
  refine ha pos _ _ _ _ _ _ _ _ H fun vs fz' s' x' hvs => ?_
  rw [List.nil_append]
  exact hc _ _ _ _ _ (H.ext x').heapWF x'.inH hvs fun v fz'' s'' x'' hv' => kont _ _ _ (x'.trans x'') hv'
/-- a built-in type's name, called -/
theorem ev_callT {n : Nat} {x : PySem.Str} {T' : String} {p pos : Pos} {e : PySem.Expr} {rest : List PySem.Expr} {ds : List D} {d : D} (F : FOK n A env) (hx : env.kindOf x = some .globalImplicit) (hv : nsIn W.K mainGlobals x = some none) (hb : bootBuiltins x = some (.type T')) (hnn : x ≠ "__name__")
    (hd : (x == ("__debug__" : PySem.Str)) = false) (ha : Evs W A env σ (e :: rest) ds) (hc : CallV W A (.type T') ds d)
    (hs : starEach (e :: rest) env = (false, eval e env) :: starEach rest env := by rfl) (hs2 : ((backTo pos (starEach rest env)).any fun x => x.1) = false := by rfl) :
    Ev W A env σ (.Call (.Name x p) (e :: rest) [] pos) d := by
  intro kp fz₀ fz ad m s Q E H kont
  obtain ⟨⟨hw, Xk, T, hkk⟩, _⟩ := H.wf
  have kk : ∀ b o, hw.get? b = some o → s.heap.get? b = some o := fun b o e => H.kept _ _ (hkk _ _ e)
  refine Call_Name rfl (Name_function_global F.hk hx (loadGlobal_builtin (env := env) (show s.heap.Ns env.globals W.mg from F.hg ▸ (T.keeps kk).g) (mg_none_of Xk T.g hv) (show s.heap.Ns env.builtins W.mb from F.hb ▸ (T.keeps kk).b) ((T.builtins x hnn).trans hb) ?_) hd)
  refine PyProof.Rows.callWith_type1 ?_ hs hs2
  refine ha pos _ _ _ _ _ _ _ _ H fun vs fz' s' x' hvs => ?_
  exact hc _ _ _ _ _ (H.ext x').heapWF x'.inH hvs fun v fz'' s'' x'' hv' => kont _ _ _ (x'.trans x'') hv'

-- the built-ins
theorem cv_min {a b : Int} (hh : A.handled = none) : CallV W A (.builtin "min") [.int a, .int b] (.int (if b < a then b else a)) := by
  intro fz s vs Q E hw hf hvs k
  obtain ⟨_, _, rfl, h1, h2⟩ := hvs.two; obtain ⟨t, rfl⟩ := h1.int_; obtain ⟨u, rfl⟩ := h2.int_
  refine min_two_ints hh fun h' tk hk => ?_
  by_cases c : b < a
  · rw [if_pos c] at k ⊢; exact k _ _ _ (Ext.heap hf hk) (.int _ _)
  · rw [if_neg c] at k ⊢; exact k _ _ _ (Ext.heap hf hk) (.int _ _)
theorem cv_max {a b : Int} (hh : A.handled = none) : CallV W A (.builtin "max") [.int a, .int b] (.int (if b > a then b else a)) := by
  intro fz s vs Q E hw hf hvs k
  obtain ⟨_, _, rfl, h1, h2⟩ := hvs.two; obtain ⟨t, rfl⟩ := h1.int_; obtain ⟨u, rfl⟩ := h2.int_
  refine max_two_ints hh fun h' tk hk => ?_
  by_cases c : b > a
  · rw [if_pos c] at k ⊢; exact k _ _ _ (Ext.heap hf hk) (.int _ _)
  · rw [if_neg c] at k ⊢; exact k _ _ _ (Ext.heap hf hk) (.int _ _)
theorem cv_abs {a : Int} : CallV W A (.builtin "abs") [.int a] (.int (if a < 0 then -a else a)) := by
  intro fz s vs Q E hw hf hvs k
  obtain ⟨_, rfl, h1⟩ := hvs.one; obtain ⟨t, rfl⟩ := h1.int_; exact call_abs_int fun u tk => k _ _ _ (Ext.toks hf) (.int _ _)
theorem cv_int {a : Int} : CallV W A (.type "int") [.int a] (.int a) := by
  intro fz s vs Q E hw hf hvs k
  obtain ⟨_, rfl, h1⟩ := hvs.one; obtain ⟨t, rfl⟩ := h1.int_; exact call_int_int (k _ _ _ (Ext.refl hf) (.int _ _))
theorem cv_chr {a : Int} (h0 : 0 ≤ a) (h1 : a ≤ 1114111) : CallV W A (.builtin "chr") [.int a] (.str ⟨#[a.toNat]⟩) := by
  intro fz s vs Q E hw hf hvs k
  obtain ⟨_, rfl, h2⟩ := hvs.one; obtain ⟨t, rfl⟩ := h2.int_; exact P.chr_of_int (by simp; walk_at "lx") (k _ _ _ (Ext.toks hf) (.str _ _))
theorem cv_lenS {x : PySem.Str} (h : x.length < 2 ^ 62) : CallV W A (.builtin "len") [.str x] (.int x.length) := by
  intro fz s vs Q E hw hf hvs k
  obtain ⟨_, rfl, h1⟩ := hvs.one; obtain ⟨t, rfl⟩ := h1.str_; exact P.len_str (by walk_at "lx") (k _ _ _ (Ext.toks hf) (.int _ _))
theorem cv_lenL {xs : List D} (h : xs.length < 2 ^ 62) : CallV W A (.builtin "len") [.lst xs] (.int xs.length) := by
  intro fz s vs Q E hw hf hvs k
  obtain ⟨_, rfl, h1⟩ := hvs.one
  obtain ⟨a, us, rfl, l, r⟩ := h1.isList hf
  have := r.length
  refine PyProof.Rows.len_list l (by rw [List.size_toArray]; walk_at "lx") ?_
  rw [List.size_toArray, this]
  exact k _ _ _ (Ext.toks hf) (.int _ _)
theorem newR {fz : GMap} {s : Shared} {tk : Nat} {a b c : Int} {t u v : Tok} {Q : Value → Shared → Prop} (hf : FzIn fz s) (k : ∀ v fz' s', Ext fz s fz' s' → VH fz' v (.rng a b c) → Q v s') :
    Q (.ref s.heap.objs.size) { s with heap := s.heap.push { cls := .type "range", data := .fields #[.int a t, .int b u, .int c v] }, toks := tk } := by
  have f := (Ext.refl hf).fresh (get_fresh s.heap)
  exact k _ _ _ ((Ext.push (t := tk) hf).freeze f.1 f.2 (Heap.get?_push_size _ rfl)) (.rng GMap.add_self)
theorem cv_rng1 {b : Int} : CallV W A (.type "range") [.int b] (.rng 0 b 1) := by
  intro fz s vs Q E hw hf hvs k
  obtain ⟨_, rfl, h1⟩ := hvs.one; obtain ⟨t, rfl⟩ := h1.int_; exact call_range_1 (newR hf k)
theorem cv_rng2 {a b : Int} : CallV W A (.type "range") [.int a, .int b] (.rng a b 1) := by
  intro fz s vs Q E hw hf hvs k
  obtain ⟨_, _, rfl, h1, h2⟩ := hvs.two; obtain ⟨t, rfl⟩ := h1.int_; obtain ⟨u, rfl⟩ := h2.int_; exact call_range_2 (newR hf k)
theorem cv_rng3 {a b c : Int} (hc : c ≠ 0) (hp : Builtin.divisionGoesByPylong (b - a) c = false) : CallV W A (.type "range") [.int a, .int b, .int c] (.rng a b c) := by
  intro fz s vs Q E hw hf hvs k
  obtain ⟨_, _, _, rfl, h1, h2, h3⟩ := hvs.three; obtain ⟨t, rfl⟩ := h1.int_; obtain ⟨u, rfl⟩ := h2.int_; obtain ⟨x, rfl⟩ := h3.int_; exact call_range_3 hc (newR hf k) (.inl hp)
end
end
section
section
variable {W : WP} {A : Around} {env : Env} {σ σ' : Sto}

/-- a bound of a slice -/
noncomputable def EvP (W : WP) (A : Around) (env : Env) (σ : Sto) (e : Option PySem.Expr) (l : Option Int) : Prop :=
  ∀ (kp fz₀ fz : GMap) (ad : PySem.Str → Addr) (m : PySem.Str → Option Value) (s : Shared) (Q E : Value → Shared → Prop), Ok W env kp fz₀ σ fz ad m s →
    (∀ v fz' s', Ext fz s fz' s' → IsPart v l → Q v s') → wpAny W.M A (evalPart e env) Q E s
theorem evp_nil : EvP W A env σ none none := fun kp fz₀ fz ad m s Q E H k => wpAny_pure (k _ _ _ H.refl .none)
theorem evp_int {e : PySem.Expr} {i : Int} (h : Ev W A env σ e (.int i)) : EvP W A env σ (some e) (some i) := fun kp fz₀ fz ad m s Q E H k =>
  h _ _ _ _ _ _ _ _ H fun v fz' s' x hv => by obtain ⟨t, rfl⟩ := hv.int_; exact k _ _ _ x (.int _ _)
theorem evp_none {e : PySem.Expr} (h : Ev W A env σ e .none) : EvP W A env σ (some e) none := fun kp fz₀ fz ad m s Q E H k =>
  h _ _ _ _ _ _ _ _ H fun v fz' s' x hv => by obtain rfl := hv.none_; exact k _ _ _ x .none

theorem ev_sliceL {value : PySem.Expr} {lo hi : Option PySem.Expr} {p pos : Pos} {xs : List D} {l u : Option Int} {ys : List D} (h : Ev W A env σ value (.lst xs)) (hl : EvP W A env σ lo l) (hu : EvP W A env σ hi u) (hz : xs.length ≤ 100000)
    (hy : ∀ (fz : GMap) (vs : List Value), VHs fz vs xs → VHs fz (slicePick vs.toArray l u none).toList ys) : Ev W A env σ (.Subscript value (.Slice lo hi none p) pos) (.lst ys) := by
  intro kp fz₀ fz ad m s Q E H k
  refine Subscript_ (h _ _ _ _ _ _ _ _ H fun v fz₁ s₁ x₁ hv => ?_)
  obtain ⟨a, vs, rfl, hL, hr⟩ := hv.isList x₁.inH
  refine wpAny_Slice (hl _ _ _ _ _ _ _ _ (H.ext x₁) fun vl fz₂ s₂ x₂ hpl => hu _ _ _ _ _ _ _ _ ((H.ext x₁).ext x₂) fun vu fz₃ s₃ x₃ hpu => ?_)
  refine wpAny_pure ?_
  have hL₃ : s₃.heap.IsList a vs.toArray := (hL.at fun o e => kGet x₂.keeps e).at fun o e => kGet x₃.keeps e
  have hL₄ := hL₃.push { cls := .type "slice", data := .fields #[vl, vu, .none] }
  refine tail_any (T := "list") (s := { s₃ with heap := s₃.heap.push { cls := .type "slice", data := .fields #[vl, vu, .none] } }) hL₄.typeIs list_getitem_lookup ?_ rfl
  refine wpAny_getItem_list_slice hL₄ (Heap.IsSliceOf.new ..) hpl hpu .none (by simp) ?_ (by rw [List.size_toArray, hr.length, PySem.sizeLine_eq]; walk_at "lx")
  have x₄ := ((x₁.trans x₂).trans x₃).trans (Ext.push (t := s₃.toks) (o := { cls := .type "slice", data := .fields #[vl, vu, .none] }) x₃.inH)
  have hd : VHs fz₃ (slicePick vs.toArray l u none).toList ys := hy _ _ ((hr.mono x₂.sub).mono x₃.sub)
  have := newL (t := s₃.toks) (us := (slicePick vs.toArray l u none).toList) (Q := Q) x₄.inH hd fun v fz' s' x hv => k _ _ _ (x₄.trans x) hv
  simpa using this

theorem pick_from {fz : GMap} {vs : List Value} {xs : List D} {i : Int} (hv : VHs fz vs xs) (h0 : 0 ≤ i) (h1 : i ≤ xs.length) : VHs fz (slicePick vs.toArray (some i) none none).toList (xs.drop i.toNat) := by
  obtain ⟨n, rfl⟩ : ∃ n : Nat, i = n := ⟨i.toNat, by walk_at "lx"⟩
  have hl := hv.length
  rw [slicePick_from vs.toArray n (by simp; walk_at "lx")]
  simpa using hv.drop n
/-- an item -/
theorem ev_item {value slice : PySem.Expr} {pos : Pos} {d₁ d₂ d : D} (h₁ : Ev W A env σ value d₁) (h₂ : Ev W A env σ slice d₂)
    (ho : ∀ (fz : GMap) (s : Shared) (v₁ v₂ : Value) (Q E : Value → Shared → Prop), FzIn fz s → VH fz v₁ d₁ → VH fz v₂ d₂ → (∀ v fz' s', Ext fz s fz' s' → VH fz' v d → Q v s') → ∃ T id, s.TypeIs v₁ T ∧ typeLookup (.type T) "__getitem__" = pure (some (.builtin id)) ∧ wpAny W.M A (getItem v₁ v₂) Q E s)
    (hs : ∀ o i, subscripted slice false o i = operate [o, i] (getItem o i) := by intro _ _; rfl) : Ev W A env σ (.Subscript value slice pos) d := by
  intro kp fz₀ fz ad m s Q E H k
  refine Subscript_ (h₁ _ _ _ _ _ _ _ _ H fun v₁ fz₁ s₁ x₁ hv₁ => h₂ _ _ _ _ _ _ _ _ (H.ext x₁) fun v₂ fz₂ s₂ x₂ hv₂ => ?_)
  obtain ⟨T, id, hT, hl, hw⟩ := ho fz₂ s₂ v₁ v₂ Q E x₂.inH (hv₁.mono x₂.sub) hv₂ fun v fz' s' x hv => k _ _ _ ((x₁.trans x₂).trans x) hv
  exact tail_any hT hl hw (hs _ _)
theorem ev_itemL {value slice : PySem.Expr} {pos : Pos} {xs : List D} {i : Int} {d : D} (h₁ : Ev W A env σ value (.lst xs)) (h₂ : Ev W A env σ slice (.int i)) (h0 : 0 ≤ i) (hx : xs[i.toNat]? = some d) (hz : xs.length < 2 ^ 62)
    (hs : ∀ o i, subscripted slice false o i = operate [o, i] (getItem o i) := by intro _ _; rfl) : Ev W A env σ (.Subscript value slice pos) d := by
  refine ev_item h₁ h₂ (fun fz s v₁ v₂ Q E hf hv₁ hv₂ k => ?_) hs
  obtain ⟨a, vs, rfl, hL, hr⟩ := hv₁.isList hf
  obtain ⟨t₂, rfl⟩ := hv₂.int_
  obtain ⟨v, h3, h4⟩ := hr.get hx
  have hlt : i.toNat < xs.length := by
    rcases Nat.lt_or_ge i.toNat xs.length with h | h
    · exact h
    · rw [List.getElem?_eq_none h] at hx; cases hx
  exact ⟨"list", _, hL.typeIs, list_getitem_lookup, wpAny_getItem_list hL h0 (by walk_at "lx") (by simpa using h3) (k _ _ _ (Ext.refl hf) h4)⟩
theorem ev_itemS {value slice : PySem.Expr} {pos : Pos} {x : PySem.Str} {i : Int} (h₁ : Ev W A env σ value (.str x)) (h₂ : Ev W A env σ slice (.int i)) (hr : fitsSsize i = true) (hin : (Txt.charAt x i).isSome = true)
    (hs : ∀ o i, subscripted slice false o i = operate [o, i] (getItem o i) := by intro _ _; rfl) : Ev W A env σ (.Subscript value slice pos) (.str (Txt.item x i)) := by
  refine ev_item h₁ h₂ (fun fz s v₁ v₂ Q E hf hv₁ hv₂ k => ?_) hs
  obtain ⟨t, rfl⟩ := hv₁.str_
  obtain ⟨u, rfl⟩ := hv₂.int_
  exact ⟨"str", _, typeIs_str _ _ _, PySem.F.slot_str_getitem.lookup, SB.getItem hr hin (k _ _ _ (Ext.toks hf) (.str _ _))⟩

/-- an item of a list of the frame's own -/
theorem ev_itemO {n : Nat} {x : PySem.Str} {px pos : Pos} {slice : PySem.Expr} {xs : List D} {i : Int} {d : D} (F : FOK n A env) (hm : (x, Slot.own xs) ∈ σ) (h₂ : Ev W A env σ slice (.int i)) (h0 : 0 ≤ i) (hx : xs[i.toNat]? = some d) (hz : xs.length < 2 ^ 62) (hd : (x == ("__debug__" : PySem.Str)) = false)
    (hs : ∀ o i, subscripted slice false o i = operate [o, i] (getItem o i) := by intro _ _; rfl) : Ev W A env σ (.Subscript (.Name x px) slice pos) d := by
  intro kp fz₀ fz ad m s Q E H k
  obtain ⟨hxl, hxm, _⟩ := H.vars _ _ hm
  refine Subscript_ (wpAny_Name (wpAny_loadName_local F.hk hxl H.ns hxm (h₂ _ _ _ _ _ _ _ _ H fun v₂ fz₂ s₂ x₂ hv₂ => ?_)) hd)
  obtain ⟨t₂, rfl⟩ := hv₂.int_
  obtain ⟨us, nn, g, hr⟩ := (H.ext x₂).objOwn hm
  have hL : s₂.heap.IsList (ad x) us.toArray := ⟨_, g, rfl, nn, rfl⟩
  obtain ⟨v, h3, h4⟩ := hr.get hx
  have hlt : i.toNat < xs.length := by
    rcases Nat.lt_or_ge i.toNat xs.length with h | h
    · exact h
    · rw [List.getElem?_eq_none h] at hx; cases hx
  exact tail_any hL.typeIs list_getitem_lookup (wpAny_getItem_list hL h0 (by walk_at "lx") (by simpa using h3) (k _ _ _ x₂ h4)) (hs _ _)

theorem ev_sliceS {value : PySem.Expr} {lo hi : Option PySem.Expr} {p pos : Pos} {x : PySem.Str} {l u : Option Int} (h : Ev W A env σ value (.str x)) (hl : EvP W A env σ lo l) (hu : EvP W A env σ hi u) (hz : x.length ≤ 16777216) : Ev W A env σ (.Subscript value (.Slice lo hi none p) pos) (.str (Txt.slice x l u)) := by
  intro kp fz₀ fz ad m s Q E H k
  refine Subscript_ (h _ _ _ _ _ _ _ _ H fun v fz₁ s₁ x₁ hv => ?_)
  obtain ⟨tv, rfl⟩ := hv.str_
  refine wpAny_Slice (hl _ _ _ _ _ _ _ _ (H.ext x₁) fun vl fz₂ s₂ x₂ hpl => hu _ _ _ _ _ _ _ _ ((H.ext x₁).ext x₂) fun vu fz₃ s₃ x₃ hpu => ?_)
  refine wpAny_pure ?_
  have KP : KeptH (fun h' => ∀ b o, s₃.heap.get? b = some o → h'.get? b = some o) := fun h ob hh b o e => get_push (hh b o e)
  have fin : ∀ (y : PySem.Str) (h' : Heap) (t' : Tok) (kk : Nat), (∀ b o, s₃.heap.get? b = some o → h'.get? b = some o) → y = Txt.slice x l u → Q (.str y t') { s₃ with heap := h', toks := kk } := by
    intro y h' t' kk hk e
    subst e
    exact k _ _ _ (((x₁.trans x₂).trans x₃).trans (Ext.heap x₃.inH hk)) (.str _ _)
  have hzz : x.length ≤ sizeLine := by rw [PySem.sizeLine_eq]; exact hz
  have it : ItemOn W.M A E (.str x (by assumption)) (.ref s₃.heap.objs.size) Q { s₃ with heap := s₃.heap.push { cls := .type "slice", data := .fields #[vl, vu, .none] } } := by
    cases hpl <;> cases hpu
    · exact SBH.sliceItem_nn KP (fun _ _ e => e) (fun h' t' kk hk => fin _ h' t' kk hk rfl) hzz
    · exact SBH.sliceItem_ns KP (fun _ _ e => e) (fun h' t' kk hk => fin _ h' t' kk hk rfl) hzz
    · exact SBH.sliceItem_sn KP (fun _ _ e => e) (fun h' t' kk hk => fin _ h' t' kk hk rfl) hzz
    · exact SBH.sliceItem_ss KP (fun _ _ e => e) (fun h' t' kk hk => fin _ h' t' kk hk rfl) hzz
  obtain ⟨T, id, hl', hT', hw'⟩ := it
  exact tail_any hT' hl' hw' rfl

theorem ev_sliceB {value : PySem.Expr} {lo hi : Option PySem.Expr} {p pos : Pos} {x : Array UInt8} {l u : Option Int} (h : Ev W A env σ value (.byt x)) (hl : EvP W A env σ lo l) (hu : EvP W A env σ hi u) (hne : KBy.whole x l u = false) (hz : (KBy.picked x l u).size ≤ 16777216) : Ev W A env σ (.Subscript value (.Slice lo hi none p) pos) (.byt (KBy.picked x l u)) := by
  intro kp fz₀ fz ad m s Q E H k
  refine Subscript_ (h _ _ _ _ _ _ _ _ H fun v fz₁ s₁ x₁ hv => ?_)
  obtain ⟨tv, rfl⟩ := hv.byt_
  refine wpAny_Slice (hl _ _ _ _ _ _ _ _ (H.ext x₁) fun vl fz₂ s₂ x₂ hpl => hu _ _ _ _ _ _ _ _ ((H.ext x₁).ext x₂) fun vu fz₃ s₃ x₃ hpu => ?_)
  refine wpAny_pure ?_
  refine tail_any (typeIs_bytes _ _ _) FB.slot_bytes_getitem.lookup (getItem_meets (typeIs_bytes _ _ _) (by decide) FB.slot_bytes_getitem FB.entry_bytes_getitem (FB.args_bytes_getitem_2 _ _) (KBy.meets_slice x _ _ hpl hpu hne)
    ⟨Heap.IsSliceOf.new _ _ _ _, by rw [PySem.sizeLine_eq]; exact hz, ?_⟩) rfl
  exact k _ _ _ ((((x₁.trans x₂).trans x₃).trans (Ext.push (t := s₃.toks) x₃.inH)).trans (Ext.toks fun b o e => get_push (x₃.inH b o e))) (.byt _ _)

theorem cv_lower {x : PySem.Str} (h : Builtin.Str.tooLong (Txt.lower x).length = false) : CallV W A (.builtin "str.lower") [.str x] (.str (Txt.lower x)) := by
  intro fz s vs Q E hw hf hvs k
  obtain ⟨_, rfl, h1⟩ := hvs.one; obtain ⟨t, rfl⟩ := h1.str_; exact SC.lower h (k _ _ _ (Ext.toks hf) (.str _ _))

theorem VHs.strs {fz : GMap} {vs : List Value} {ys : List PySem.Str} (h : VHs fz vs (ys.map D.str)) : StrsAre vs ys := by
  induction ys generalizing vs with
  | nil => obtain rfl := h.nil_; exact .nil
  | cons y ys ih => obtain ⟨v, ws, rfl, h1, r⟩ := VHs.cons_ h; obtain ⟨t, rfl⟩ := h1.str_; exact .cons y t (ih r)
theorem VHs.ints {fz : GMap} {vs : List Value} {ns : List Int} (h : VHs fz vs (ns.map D.int)) : IntsAre vs ns := by
  induction ns generalizing vs with
  | nil => obtain rfl := h.nil_; exact .nil
  | cons y ys ih => obtain ⟨v, ws, rfl, h1, r⟩ := VHs.cons_ h; obtain ⟨t, rfl⟩ := h1.int_; exact .cons y t (ih r)
theorem cv_join {x : PySem.Str} {ys : List PySem.Str} (hok : (ys.map (·.length)).sum + ys.length * x.length ≤ 16777216) : CallV W A (.builtin "str.join") [.str x, .lst (ys.map D.str)] (.str (Txt.join x ys)) := by
  intro fz s vs Q E hw hf hvs k
  obtain ⟨_, _, rfl, h1, h2⟩ := hvs.two
  obtain ⟨t, rfl⟩ := h1.str_
  obtain ⟨a, us, rfl, hL, hr⟩ := h2.isList hf
  exact PyProof.Rows.join_list hL (by simpa using hr.strs) hok fun t' kk => k _ _ _ (Ext.toks hf) (.str _ _)

end
end
section
section
variable {W : WP} {A : Around} {env : Env} {σ σ' : Sto}

theorem Evs.mk1 {e : PySem.Expr} {d : D} (h : Ev W A env σ e d) (hs : starEach [e] env = [(false, eval e env)]) : Evs W A env σ [e] [d] := evs_cons h evs_nil hs
theorem sameUpd {h : Heap} {a : Addr} {f : Obj → Obj} : Heap.SameBut a h (h.update a f) := Heap.SameBut.update ..

/-- x.append(e) -/
theorem x_append {n : Nat} {x : PySem.Str} {px apos cpos pos : Pos} {e : PySem.Expr} {xs : List D} {d : D} (F : FOK n A env) (hm : (x, Slot.own xs) ∈ σ) {pl : Sem Bool} (h : Ev W A env σ e d) (hz : xs.length ≤ 100000) (hd : (x == ("__debug__" : PySem.Str)) = false)
    (hi : interactive env = false) (hsw : swapsWith (.Call (.Attribute (.Name x px) "append" apos) [e] [] cpos) none pos.line env = pure false := by rfl)
    (hs : starEach [e] env = [(false, eval e env)] := by rfl)
    (hme : eval (((PySem.Expr.Name x px).Attribute "append" apos).Call [e] [] cpos) env = (do let ov ← eval (.Name x px) env; standAt apos.atName; let (f, first) ← holding [ov] (getMethod ov "append" pl); callWith cpos f first (backTo cpos (starEach [e] env)) []) := by rfl) :
    X1 W A env σ (.Expr (.Call (.Attribute (.Name x px) "append" apos) [e] [] cpos) pos) (.next (upd σ x (.own (xs ++ [d])))) := by
  intro kp fz₀ fz ad m s Q E H p
  obtain ⟨hxl, hxm, _⟩ := H.vars _ _ hm
  obtain ⟨us₀, n₀, g₀, _⟩ := H.objOwn hm
  refine wpAny_Expr (MethodCall_ (pl := pl) (wpAny_Name (wpAny_loadName_local F.hk hxl H.ns hxm ?_) hd) hme) hi hsw
  refine getMethod_builtin (T := "list") ⟨_, g₀, rfl⟩ PySem.F.plainAttrs_list PySem.F.slot_list_append PySem.F.type_list_append (fun a e => by cases e; exact ⟨_, g₀, rfl⟩) ?_
  refine callWith_method1 (e := e) (rest := []) ?_ hs rfl
  have hs' := Evs.mk1 (W := W) (A := A) (env := env) (σ := σ) h hs
  refine hs' cpos _ _ _ _ _ _ _ _ H fun vs fz₁ s₁ x₁ hvs => ?_
  obtain ⟨v, rfl, hv⟩ := hvs.one
  · have H₁ := H.ext x₁
    obtain ⟨us, nn, g, hr⟩ := H₁.objOwn hm
    refine wpAny_list_append_plain ⟨_, g⟩ (fun h' hp hsb => ?_) (by rw [List.size_toArray, hr.length, PySem.sizeLine_eq]; walk_at "lx")
    obtain ⟨n', g'⟩ := hp
    rw [List.push_toArray] at g'
    obtain ⟨h'', tk'', e', _⟩ := id x₁.keeps
    subst e'
    exact p _ _ _ h' tk'' (H₁.turnOwn hm hsb g' (hr.append (.cons hv .nil)))

/-- x[i] = e -/
theorem x_setItem {n : Nat} {x : PySem.Str} {px sp pos : Pos} {i e : PySem.Expr} {xs : List D} {k : Int} {d : D} (F : FOK n A env) (hm : (x, Slot.own xs) ∈ σ) (h : Ev W A env σ e d) (hi : Ev W A env σ i (.int k)) (h0 : 0 ≤ k) (h1 : k < xs.length) (hz : xs.length < 2 ^ 62) (hd : (x == ("__debug__" : PySem.Str)) = false)
    (hsw : swapsWith e (some (.Subscript (.Name x px) i sp)) pos.line env = pure false := by rfl) :
    X1 W A env σ (.Assign [.Subscript (.Name x px) i sp] e pos) (.next (upd σ x (.own (xs.set k.toNat d)))) := by
  intro kp fz₀ fz ad m s Q E H p
  refine wpAny_Assign_Subscript (h _ _ _ _ _ _ _ _ H fun v fz₁ s₁ x₁ hv => ?_) hsw
  have H₁ := H.ext x₁
  obtain ⟨hxl, hxm, _⟩ := H₁.vars _ _ hm
  refine wpAny_Name (wpAny_loadName_local F.hk hxl H₁.ns hxm ?_) hd
  refine hi _ _ _ _ _ _ _ _ H₁ fun vi fz₂ s₂ x₂ hvi => ?_
  obtain ⟨ti, rfl⟩ := hvi.int_
  have H₂ := H₁.ext x₂
  obtain ⟨us, nn, g, hr⟩ := H₂.objOwn hm
  have hl := hr.length
  refine ki_setAt g h0 (by walk_at "lx") (by rw [List.size_toArray]; walk_at "lx") ?_
  obtain ⟨h', tk', e', _⟩ := id (kTr x₁.keeps x₂.keeps)
  subst e'
  refine p _ _ _ _ tk' (H₂.turnOwn hm sameUpd ?_ (hr.set k.toNat (hv.mono x₂.sub)) (nn := nn))
  refine (Heap.get?_update_self _ g ?_).trans ?_
  · simp [Obj.mapSeq, Obj.isFreed]
  · simp [Obj.mapSeq]

/-- a name, an operation in place -/
theorem x_aug {n : Nat} {x : PySem.Str} {px pos : Pos} {op : Operator} {e : PySem.Expr} {d₁ d₂ d : D} (F : FOK n A env) (hm : (x, Slot.val d₁) ∈ σ) (hx : env.kindOf x = some .local) (h : Ev W A env σ e d₂) (ho : Op2 W A (inplaceOp op) d₁ d₂ d) :
    X1 W A env σ (.AugAssign (.Name x px) op e pos) (.next (upd σ x (.val d))) := by
  intro kp fz₀ fz ad m s Q E H p
  obtain ⟨v, l, hv⟩ := H.vars _ _ hm
  have hml : m x = some v := by
    rcases l with ⟨_, b⟩ | ⟨a | a, _⟩
    · exact b
    · rw [hx] at a; cases a
    · rw [hx] at a; cases a.1
  refine wpAny_AugAssign_Name (wpAny_loadName_local F.hk hx H.ns hml (h _ _ _ _ _ _ _ _ H fun v₂ fz₂ s₂ x₂ hv₂ => ?_))
  refine ho _ _ _ _ _ _ x₂.inH (hv.mono x₂.sub) hv₂ fun v₃ fz₃ s₃ x₃ hv₃ => ?_
  refine wp_store F ((H.ext x₂).ext x₃) (.inl hx) hv₃ fun m' h' tk H' => ?_
  obtain ⟨h'', tk'', e', _⟩ := id (kTr x₂.keeps x₃.keeps)
  subst e'
  exact p _ _ _ _ _ H'
theorem op_iaddI {a b : Int} : Op2 W A (inplaceOp .Add) (.int a) (.int b) (.int (a + b)) :=
  op2II fun t u fz s Q E hf k => iadd_int (k _ _ _ (Ext.toks hf) (.int _ _))
theorem op_isubI {a b : Int} : Op2 W A (inplaceOp .Sub) (.int a) (.int b) (.int (a - b)) :=
  op2II fun t u fz s Q E hf k => AutoIntOps.isub_0 (k _ _ _ (Ext.toks hf) (.int _ _))
theorem op_imulI {a b : Int} (hm : IntMulOk a b) : Op2 W A (inplaceOp .Mult) (.int a) (.int b) (.int (a * b)) :=
  op2II fun t u fz s Q E hf k => imul_int (k _ _ _ (Ext.toks hf) (.int _ _)) hm
theorem op_iaddS {x y : PySem.Str} (hz : x.length + y.length ≤ 16777216) : Op2 W A (inplaceOp .Add) (.str x) (.str y) (.str (x ++ y)) :=
  op2SS fun t u fz s Q E hf k => SB.iadd (fun t' c => k _ _ _ (Ext.toks hf) (.str _ _)) (by rw [PySem.sizeLine_eq]; exact hz)

/-- x[i] += e, of an own list of ints -/
theorem x_augItem {n : Nat} {x y : PySem.Str} {px py sp pos : Pos} {op : Operator} {e : PySem.Expr} {xs : List D} {k : Int} {d₁ d₂ d : D} (F : FOK n A env) (hm : (x, Slot.own xs) ∈ σ) (hy : (y, Slot.val (.int k)) ∈ σ) (h0 : 0 ≤ k) (hx : xs[k.toNat]? = some d₁) (h : Ev W A env σ e d₂) (ho : Op2 W A (inplaceOp op) d₁ d₂ d) (hz : xs.length < 2 ^ 62)
    (hd : (x == ("__debug__" : PySem.Str)) = false) (hd' : (y == ("__debug__" : PySem.Str)) = false) :
    X1 W A env σ (.AugAssign (.Subscript (.Name x px) (.Name y py) sp) op e pos) (.next (upd σ x (.own (xs.set k.toNat d)))) := by
  intro kp fz₀ fz ad m s Q E H p
  obtain ⟨hxl, hxm, _⟩ := H.vars _ _ hm
  have hlt : k.toNat < xs.length := by
    rcases Nat.lt_or_ge k.toNat xs.length with h | h
    · exact h
    · rw [List.getElem?_eq_none h] at hx; cases hx
  refine wpAny_AugAssign_Subscript (wpAny_Name (wpAny_loadName_local F.hk hxl H.ns hxm ?_) hd)
  obtain ⟨vy, ly, hvy⟩ := H.vars _ _ hy
  refine Look.ev F ly H.ns hd' ?_
  obtain ⟨ty, rfl⟩ := hvy.int_
  obtain ⟨us, nn, g, hr⟩ := H.objOwn hm
  have hL : s.heap.IsList (ad x) us.toArray := ⟨_, g, rfl, nn, rfl⟩
  obtain ⟨v₁, h3, h4⟩ := hr.get hx
  refine wpAny_getItem_list hL h0 (by walk_at "lx") (by simpa using h3) ?_
  refine h _ _ _ _ _ _ _ _ H fun v₂ fz₂ s₂ x₂ hv₂ => ?_
  refine ho _ _ _ _ _ _ x₂.inH (h4.mono x₂.sub) hv₂ fun v₃ fz₃ s₃ x₃ hv₃ => ?_
  have H₃ := (H.ext x₂).ext x₃
  obtain ⟨us', nn', g', hr'⟩ := H₃.objOwn hm
  have hl := hr'.length
  refine ki_setAt g' h0 (by walk_at "lx") (by rw [List.size_toArray]; walk_at "lx") ?_
  obtain ⟨h', tk', e', _⟩ := id (kTr x₂.keeps x₃.keeps)
  subst e'
  refine p _ _ _ _ tk' (H₃.turnOwn hm sameUpd ?_ (hr'.set k.toNat hv₃) (nn := nn'))
  refine (Heap.get?_update_self _ g' ?_).trans ?_
  · simp [Obj.mapSeq, Obj.isFreed]
  · simp [Obj.mapSeq]

/-- truths -/
theorem truth_int {i : Int} : Truth W A (.int i) (i != 0) := by
  intro fz s v Q E hf hv k; obtain ⟨t, rfl⟩ := hv.int_; exact truthy_int (k _ _ (Ext.refl hf))
theorem truth_str {x : PySem.Str} (hz : x.length < 2 ^ 62) : Truth W A (.str x) ((x.length : Int) != 0) := by
  intro fz s v Q E hf hv k; obtain ⟨t, rfl⟩ := hv.str_; exact P.truthy_str (by walk_at "lx") (k _ _ (Ext.toks hf))
theorem truth_lst {xs : List D} (hz : xs.length < 2 ^ 62) : Truth W A (.lst xs) (!xs.isEmpty) := by
  intro fz s v Q E hf hv k
  obtain ⟨a, us, rfl, l, r⟩ := hv.isList hf
  have hl := r.length
  refine wpAny_truthy_list l (by rw [List.size_toArray]; walk_at "lx") ?_
  have e : us.toArray.isEmpty = xs.isEmpty := by
    cases us <;> cases xs <;> simp_all
  rw [e]
  exact k _ _ (Ext.toks hf)

/-- sums, the least one -/
theorem intsToks : ∀ {us : List Value} {ns : List Int}, IntsAre us ns → ∃ l : List (Int × Tok), us = l.map (fun p => Value.int p.1 p.2) ∧ l.map (·.1) = ns
  | _, _, .nil => ⟨[], rfl, rfl⟩
  | _, _, .cons n t h => by obtain ⟨l, e1, e2⟩ := intsToks h; exact ⟨(n, t) :: l, by rw [e1]; rfl, by rw [List.map_cons, e2]⟩
theorem cv_sum {ns : List Int} (hh : A.handled = none) : CallV W A (.builtin "sum") [.lst (ns.map D.int)] (.int ns.sum) := by
  intro fz s vs Q E hw hf hvs k
  obtain ⟨_, rfl, h1⟩ := hvs.one
  · obtain ⟨a, us, rfl, l, r⟩ := h1.isList hf
    obtain ⟨xs, e1, e2⟩ := intsToks r.ints
    subst e1
    have hl : s.heap.IsList a (intItems xs.toArray) := by simpa [intItems] using l
    refine sum_intListG hh hl fun h' tk t' hk => ?_
    have e3 : preSum (numAt xs.toArray) xs.toArray.size = ns.sum := by
      have : numAt xs.toArray = fun i => ns.getD i 0 := by
        funext i
        rw [← e2]
        simp only [numAt]
        cases h : xs[i]? <;> simp [h]
      rw [this, preSum_getD, List.size_toArray, ← e2, List.take_of_length_le (by simp)]
    rw [e3]
    exact k _ _ _ (Ext.heap hf hk) (.int _ _)
end
end
section
section
variable {W : WP} {A : Around} {env : Env} {σ σ' : Sto}

/-- a comprehension's tests -/
noncomputable def Tst (W : WP) (A : Around) (env : Env) (σ : Sto) (ifs : List PySem.Expr) (b : Bool) : Prop :=
  ∀ (kp fz₀ fz : GMap) (ad : PySem.Str → Addr) (m : PySem.Str → Option Value) (s : Shared) (Q : Bool → Shared → Prop) (E : Value → Shared → Prop), Ok W env kp fz₀ σ fz ad m s →
    (∀ fz' s', Ext fz s fz' s' → Q b s') → wpAny W.M A (forIn ifs true fun c r => if r = true then do let ok ← isTrue c env (eval c env); pure (ForInStep.yield ok) else pure (ForInStep.yield r)) Q E s
theorem tst_nil : Tst W A env σ [] true := fun kp fz₀ fz ad m s Q E H k => wpAny_pure (k _ _ H.refl)
theorem tst_one {c : PySem.Expr} {b : Bool} (h : Tr W A env σ c b) : Tst W A env σ [c] b := by
  intro kp fz₀ fz ad m s Q E H k
  simp only [List.forIn_cons, List.forIn_nil, if_true]
  refine wpAny_bind (wpAny_bind (h _ _ _ _ _ _ _ _ H fun fz' s' x => wpAny_pure ?_))
  exact wpAny_pure (k _ _ x)

/-- one item of a comprehension, what it gives -/
noncomputable def CStep (W : WP) (A : Around) (env : Env) (t : PySem.Expr) (cap : Sto) (ifs : List PySem.Expr) (elt : PySem.Expr) (d : D) : Option D → Prop
  | none => ∃ σ₁, Asg W A env t d cap σ₁ ∧ (∀ p ∈ cap, p ∈ σ₁) ∧ Tst W A env σ₁ ifs false
  | some e => ∃ σ₁, Asg W A env t d cap σ₁ ∧ (∀ p ∈ cap, p ∈ σ₁) ∧ Tst W A env σ₁ ifs true ∧ Ev W A env σ₁ elt e

/-- item by item -/
noncomputable def All2 {α β : Type} (R : α → β → Prop) : List α → List β → Prop
  | [], bs => bs = []
  | a :: as, bs => ∃ b cs, bs = b :: cs ∧ R a b ∧ All2 R as cs
theorem All2.nil {α β : Type} {R : α → β → Prop} : All2 R [] [] := rfl
theorem All2.cons {α β : Type} {R : α → β → Prop} {a : α} {b : β} {as : List α} {bs : List β} (h : R a b) (r : All2 R as bs) : All2 R (a :: as) (b :: bs) := ⟨b, bs, rfl, h, r⟩
theorem All2.length {α β : Type} {R : α → β → Prop} : ∀ {as : List α} {bs : List β}, All2 R as bs → as.length = bs.length := by
  intro as
  induction as with
  | nil => intro bs r; cases r; rfl
  | cons a as ih => intro bs r; obtain ⟨b, cs, rfl, _, r⟩ := r; rw [List.length_cons, List.length_cons, ih r]
theorem All2.map {α β γ : Type} {R : α → β → Prop} (f : γ → α) (g : γ → β) {l : List γ} (h : ∀ c ∈ l, R (f c) (g c)) : All2 R (l.map f) (l.map g) := by
  induction l with
  | nil => exact .nil
  | cons c l ih => exact .cons (h c (.head _)) (ih fun c' hc => h c' (.tail _ hc))
theorem All2.imp {α β γ : Type} {R : α → β → Prop} {S : α → γ → Prop} (f : β → γ) (h : ∀ a b, R a b → S a (f b)) : ∀ {as : List α} {bs : List β}, All2 R as bs → All2 S as (bs.map f) := by
  intro as
  induction as with
  | nil => intro bs r; cases r; exact .nil
  | cons a as ih => intro bs r; obtain ⟨b, cs, rfl, h1, r⟩ := r; exact .cons (h a b h1) (ih r)

/-- what the comprehension's end knows -/
structure CEnd (fz₁ : GMap) (s₁ : Shared) (outs : List D) (a C : Addr) (us : List Value) (nn : Nat) (m : PySem.Str → Option Value) (fz : GMap) (s' : Shared) : Prop where
  keeps : Keeps s₁ s'
  aNew : s₁.heap.get? a = none
  cNew : s₁.heap.get? C = none
  ne : a ≠ C
  ns : s'.heap.Ns C m
  get : s'.heap.get? a = some { cls := .type "list", data := .seq us.toArray nn }
  vals : VHs fz us outs
  sub : ∀ b o, fz₁ b = some o → fz b = some o
  inH : FzIn fz s'
  aF : fz a = none
  cF : fz C = none
  new : ∀ b o, fz b = some o → fz₁ b = some o ∨ s₁.heap.get? b = none

/-- the captured cells -/
structure Caps (env : Env) (σ : Sto) (cenv : Env) (cap : List (PySem.Str × D)) : Prop where
  cells : ∀ x c, cenv.cells.lookup x = some c → env.cells.lookup x = some c
  caps : ∀ p ∈ cap, (p.1, Slot.val p.2) ∈ σ ∧ env.kindOf p.1 ≠ some .local ∧ cenv.kindOf p.1 = some .cell ∧ cenv.cells.lookup p.1 = env.cells.lookup p.1

theorem Keeps.of {s : Shared} {h : Heap} {tk : Nat} (k : ∀ b o, s.heap.get? b = some o → h.get? b = some o) : Keeps s { s with heap := h, toks := tk } := ⟨h, tk, rfl, k⟩


theorem GMap.ov_comm {kp g a : GMap} (d : ∀ b o, g b = some o → a b = none) : (kp.ov g).ov a = (kp.ov a).ov g := by
  funext b
  unfold GMap.ov
  cases q : g b with
  | none => cases a b <;> rfl
  | some o => rw [d b o q]; rfl
noncomputable abbrev lstO (us : List Value) (c : Nat) : Obj := { cls := .type "list", data := .seq us.toArray c }
/-- the frame's list under way, at Dd -/
noncomputable abbrev AccOk (W : WP) (env : Env) (kp : GMap) (Dd : Addr) (us : List Value) (c : Nat) (fz₀ : GMap) (σ : Sto) (fz : GMap) (ad : PySem.Str → Addr) (m : PySem.Str → Option Value) (s : Shared) : Prop := Ok W env (kp.ov (one Dd (lstO us c))) fz₀ σ fz ad m s
/-- what stands about the list under way -/
structure AccAt (W : WP) (env : Env) (kp : GMap) (Dd : Addr) (fz₀ : GMap) : Prop where
  wf : WF W kp
  kp : kp Dd = none
  fz : fz₀ Dd = none
  loc : env.locals ≠ Dd
  cell : ∀ x c, env.cells.lookup x = some c → c ≠ Dd
theorem AccAt.dis {kp : GMap} {Dd : Addr} {fz₀ : GMap} (a : AccAt W env kp Dd fz₀) {o : Obj} : Dis (one Dd o) kp := fun b q e => one_off fun h => by rw [h, a.kp] at e; cases e
theorem AccAt.dis0 {kp : GMap} {Dd : Addr} {fz₀ : GMap} (a : AccAt W env kp Dd fz₀) {o : Obj} : Dis (one Dd o) fz₀ := fun b q e => one_off fun h => by rw [h, a.fz] at e; cases e
theorem AccAt.off {kp : GMap} {Dd : Addr} {fz₀ : GMap} (a : AccAt W env kp Dd fz₀) {o : Obj} : OffEnv (one Dd o) env := ⟨one_off a.loc, fun x c h => one_off (a.cell x c h)⟩
theorem AccAt.fzN {kp : GMap} {Dd : Addr} {fz₀ fz : GMap} {us : List Value} {c : Nat} {ad : PySem.Str → Addr} {m : PySem.Str → Option Value} {s : Shared} (a : AccAt W env kp Dd fz₀) (H : AccOk W env kp Dd us c fz₀ σ fz ad m s) : fz Dd = none := by
  cases q : fz Dd with
  | none => rfl
  | some o =>
    rcases H.fzNew Dd o q with h | h
    · rw [a.fz] at h; cases h
    · have := (GMap.ov_off h).1; rw [one_self] at this; cases this
noncomputable abbrev AccK (W : WP) (env : Env) (kp : GMap) (Dd : Addr) (us : List Value) (fz₀ : GMap) (σ : Sto) (fz : GMap) (s : Shared) (es : List D) (P : Shared → Prop) : Prop :=
  ∀ fz' ad' m' h' tk' vals c', AccOk W env kp Dd (us ++ vals) c' fz₀ σ fz' ad' m' { s with heap := h', toks := tk' } → (∀ b o, fz b = some o → fz' b = some o) → VHs fz' vals es → P { s with heap := h', toks := tk' }
/-- one item's turn -/
noncomputable def CTurn (W : WP) (env : Env) (Dd : Addr) (σ : Sto) (code : Value → (Shared → Prop) → Shared → Prop) (d : D) (es : List D) : Prop :=
  ∀ (kp fz₀ fz : GMap) (ad : PySem.Str → Addr) (m : PySem.Str → Option Value) (s : Shared) (us : List Value) (c : Nat) (v : Value) (P : Shared → Prop), AccAt W env kp Dd fz₀ → AccOk W env kp Dd us c fz₀ σ fz ad m s → VH fz v d → us.length + es.length ≤ 100000 → AccK W env kp Dd us fz₀ σ fz s es P → code v P s
noncomputable def AInv (W : WP) (A : Around) (lo : Option PySem.Expr) (env : Env) (kp : GMap) (Dd : Addr) (us : List Value) (fz₁ g₀ : GMap) (I : Addr) (σ : Sto) (s : Shared) (code : Value → (Shared → Prop) → Shared → Prop) (all : List D) (k : Nat) (s' : Shared) : Prop :=
  ∃ es oss g fz ad m h tk vals c pre, s' = { s with heap := h, toks := tk } ∧ k = es.length ∧ (∀ b, g₀ b = none → g b = none) ∧ Gen W A lo I fz₁ es g ∧ AccOk W env (kp.ov g) Dd (us ++ vals) c fz₁ σ fz ad m s' ∧ VHs fz vals pre ∧ pre ++ oss.flatten = all ∧ All2 (CTurn W env Dd σ code) es oss
theorem acc_loop {lo : Option PySem.Expr} {kp fz₁ fz g₀ : GMap} {I Dd : Addr} {s : Shared} {us : List Value} {c : Nat} {ad : PySem.Str → Addr} {m : PySem.Str → Option Value} {code : Value → (Shared → Prop) → Shared → Prop} {ds : List D} {oss : List (List D)} {C R : Shared → Prop} {E : Value → Shared → Prop}
    (rule : ∀ Inv : Nat → Shared → Prop, (∀ n s, Inv n s → Nxt W A lo I R (fun v s₁ => code v (fun s' => ∃ m, m < n ∧ Inv m s') s₁) E s) → ∀ n s, Inv n s → C s)
    (at_ : AccAt W env kp Dd fz₁) (d1 : Dis g₀ kp) (d0 : Dis g₀ fz₁) (of : OffEnv g₀ env) (gD : g₀ Dd = none) (H : AccOk W env (kp.ov g₀) Dd us c fz₁ σ fz ad m s) (G : Gen W A lo I fz₁ ds g₀) (st : All2 (CTurn W env Dd σ code) ds oss) (hz : us.length + oss.flatten.length ≤ 100000)
    (hR : ∀ fz' ad' m' h' tk' vals c', AccOk W env kp Dd (us ++ vals) c' fz₁ σ fz' ad' m' { s with heap := h', toks := tk' } → VHs fz' vals oss.flatten → R { s with heap := h', toks := tk' }) : C s := by
  refine rule (AInv W A lo env kp Dd us fz₁ g₀ I σ s code oss.flatten) (fun n s' h => ?_) ds.length s ⟨ds, oss, g₀, fz, ad, m, s.heap, s.toks, [], c, [], rfl, rfl, fun _ e => e, G, by rw [List.append_nil]; exact H, .nil, rfl, st⟩
  obtain ⟨es, os, g, fz', ad', m', h', tk', vals, c', pre, rfl, rfl, hg0, G, H', hv, hall, st⟩ := h
  have sub : ∀ {x : GMap}, Dis g₀ x → Dis g x := fun d b o e => hg0 b (d b o e)
  have com : ∀ {q : GMap} {o : Obj}, q Dd = none → (kp.ov q).ov (one Dd o) = (kp.ov (one Dd o)).ov q := fun hq => GMap.ov_comm fun b o' e => one_off fun h => by rw [h, hq] at e; cases e
  have gD' := hg0 _ gD
  unfold AccOk at H'
  rw [com gD'] at H'
  have wfA : WF W (kp.ov (one Dd (lstO (us ++ vals) c'))) := at_.wf.mono fun b o e => (GMap.ov_none (at_.dis b o e)).trans e
  have dA : Dis g (kp.ov (one Dd (lstO (us ++ vals) c'))) := fun b o e => (GMap.ov_eq e).elim (fun e => by rw [(one_eq e).1]; exact gD') fun e => sub d1 b o e.2
  have ofg : OffEnv g env := ⟨hg0 _ of.1, fun x c hc => hg0 _ (of.2 x c hc)⟩
  have gIn : FzIn g { s with heap := h', toks := tk' } := fun b o e => H'.kept b o (GMap.ov_some e)
  have dz : Dis g fz' := fun b o e => (H'.fzNew b o e).elim (sub d0 b o) fun h => (GMap.ov_off h).1
  cases es with
  | nil =>
    refine G fz' _ _ _ _ H'.fz0 H'.fzIn gIn dz fun h₅ tk₅ keep => ?_
    cases st
    rw [List.flatten_nil, List.append_nil] at hall
    subst hall
    exact hR _ _ _ _ _ _ _ (H'.turn (g' := fun _ => none) wfA dA (sub d0) ofg (fun _ _ => rfl) keep fun _ _ e => nomatch e) hv
  | cons d ds =>
    obtain ⟨e1, os, rfl, ht, st⟩ := st
    refine G fz' _ _ _ _ H'.fz0 H'.fzIn gIn dz fun v fz₂ g₂ h₂ tk₂ hvv hs hnew hin hd keep hg₂ G₂ => ?_
    have H₂ := H'.turn' (tk := tk₂) wfA dA (sub d0) ofg hd keep hg₂ hs hnew hin
    have gD₂ := hd _ gD'
    rw [← com gD₂] at H₂
    have hl := congrArg List.length hall
    rw [List.flatten_cons, List.length_append, List.length_append] at hl
    refine ht (kp.ov g₂) fz₁ fz₂ ad' m' _ (us ++ vals) c' v _ ⟨at_.wf.mono fun b o e => (GMap.ov_none (hd b (sub d1 b o e))).trans e, (GMap.ov_none gD₂).trans at_.kp, at_.fz, at_.loc, at_.cell⟩ H₂ hvv (by rw [List.length_append, hv.length]; walk_at "lx") fun fz₃ ad₃ m₃ h₃ tk₃ vals₃ c₃ H₃ hs₃ hv₃ => ?_
    rw [List.append_assoc] at H₃
    exact ⟨ds.length, Nat.lt_succ_self _, ds, os, g₂, fz₃, ad₃, m₃, h₃, tk₃, vals ++ vals₃, c₃, pre ++ e1, rfl, rfl, fun b e => hd b (hg0 b e), G₂, H₃, ((hv.mono hs).mono hs₃).append hv₃, by rw [List.append_assoc, ← List.flatten_cons]; exact hall, st⟩
/-- the append at a turn's end -/
theorem acc_append {kp fz₀ fz : GMap} {Dd : Addr} {us : List Value} {c : Nat} {ad : PySem.Str → Addr} {m : PySem.Str → Option Value} {s : Shared} {y : Value} {P : Shared → Prop} {E : Value → Shared → Prop} (a : AccAt W env kp Dd fz₀) (H : AccOk W env kp Dd us c fz₀ σ fz ad m s) (hz : us.length < 100000)
    (k : ∀ h' c', AccOk W env kp Dd (us ++ [y]) c' fz₀ σ fz ad m { s with heap := h', toks := s.toks } → P { s with heap := h', toks := s.toks }) : wpAny W.M A (call (.builtin "list.append") [.ref Dd, y]) (fun _ s' => P s') E s := by
  refine wpAny_list_append_plain ⟨c, H.kept _ _ (GMap.ov_some one_self)⟩ (fun h' hp hsb => ?_) (by rw [List.size_toArray, PySem.sizeLine_eq]; walk_at "lx")
  obtain ⟨c', g'⟩ := hp
  rw [List.push_toArray] at g'
  exact k h' c' (H.turn a.wf a.dis a.dis0 a.off (fun b e => one_off (one_ne e)) (fun b o e q => (hsb.2 b (one_ne e)).trans q) fun b o e => by obtain ⟨rfl, rfl⟩ := one_eq e; exact g')
end
end
section
section
variable {W : WP} {A : Around} {env : Env} {σ σ' : Sto}

/-- a comprehension's code, to its end -/
noncomputable def CompOk (W : WP) (A : Around) (env : Env) (σ : Sto) (e : PySem.Expr) (scope : Scope) (cl : List (PySem.Str × Addr)) (first : Sem Value) (outs : List D) : Prop :=
  ∀ (kp fz₀ fz : GMap) (ad : PySem.Str → Addr) (m : PySem.Str → Option Value) (s : Shared) (RR : Value → Addr → Result → Shared → Prop) (E : Value → Shared → Prop), Ok W env kp fz₀ σ fz ad m s →
    (∀ a C us k m' fz₁ s₁ fz' h tk, Ext fz s fz₁ s₁ → CEnd fz₁ s₁ outs a C us k m' fz' { s₁ with heap := h, toks := tk } → RR (.ref a) C (.ok .next) { s₁ with heap := h, toks := tk }) →
    wpAny W.M A first (fun x s₁ => wpAny W.M A (pyIter x) (fun it s₂ => wpAny W.M A (newList []) (fun acc s₃ => wpAny W.M A (newFunctionEnv scope env.globals cl [] env.qual none .none (some env)) (fun cenv s₄ =>
      codeAny W.M A (.compStart e 0 it acc { cenv with scope := relabel scope env }) (RR acc cenv.locals) s₄) E s₃) E s₂) E s₁) E s
noncomputable abbrev CCode := Addr → Env → (Value → Shared → Prop) → Value → (Shared → Prop) → Shared → Prop
/-- the loop's rule at depth 0 -/
noncomputable def CRule (W : WP) (A : Around) (e : PySem.Expr) (code : CCode) : Prop :=
  ∀ (I Dd : Addr) (cenv : Env) (R : Result → Shared → Prop) (Inv : Nat → Shared → Prop), (∀ n s, Inv n s → Nxt W A none I (fun s => R (.ok .next) s) (fun v s₁ => code Dd cenv (fun e s' => R (.error e) s') v (fun s' => ∃ m, m < n ∧ Inv m s') s₁) (notedBy W.M A cenv fun e s' => R (.error e) s') s) → ∀ n s, Inv n s → codeAny W.M A (.compLoop e 0 (.ref I) (.ref Dd) cenv) R s
/-- the loop's rule at depth 0, the target any -/
noncomputable def CRuleG (lo : Option PySem.Expr) (W : WP) (A : Around) (e : PySem.Expr) (code : CCode) : Prop :=
  ∀ (I Dd : Addr) (cenv : Env) (R : Result → Shared → Prop) (Inv : Nat → Shared → Prop), (∀ n s, Inv n s → Nxt W A lo I (fun s => R (.ok .next) s) (fun v s₁ => code Dd cenv (fun e s' => R (.error e) s') v (fun s' => ∃ m, m < n ∧ Inv m s') s₁) (notedBy W.M A cenv fun e s' => R (.error e) s') s) → ∀ n s, Inv n s → codeAny W.M A (.compLoop e 0 (.ref I) (.ref Dd) cenv) R s
/-- what the first iterable gives -/
noncomputable def FirstOk (W : WP) (A : Around) (env : Env) (σ : Sto) (iter : PySem.Expr) (lo : Option PySem.Expr) (ds : List D) : Prop :=
  ∀ (kp fz₀ fz : GMap) (ad : PySem.Str → Addr) (m : PySem.Str → Option Value) (s : Shared) (Q E : Value → Shared → Prop), Ok W env kp fz₀ σ fz ad m s →
    (∀ I g fz₁ s₁ h₂ tk₂, Ext fz s fz₁ s₁ → New g s₁.heap → (∀ b o, s₁.heap.get? b = some o → h₂.get? b = some o) → (∀ b o, g b = some o → h₂.get? b = some o) → (∀ s', FzIn g s' → FzIn fz₁ s' → ∀ (QQ EE : Value → Shared → Prop), QQ (.ref I) s' → wpAny W.M A (pyIter (.ref I)) QQ EE s') → Gen W A lo I fz₁ ds g → Q (.ref I) { s₁ with heap := h₂, toks := tk₂ }) →
    wpAny W.M A (eval iter env) (fun x s₁ => wpAny W.M A (pyIter x) Q E s₁) E s
theorem comp_startG {lo : Option PySem.Expr} {n : Nat} {elt iter t : PySem.Expr} {ifs : List PySem.Expr} {gs : List Comprehension} {scope : Scope} {cl : List (PySem.Str × Addr)} {pos : Pos} {ds : List D} {oss : List (List D)} {cap : List (PySem.Str × D)} {code : CCode}
    (F : FOK n A env) (hf : FirstOk W A env σ iter lo ds) (rule : CRuleG lo W A (.ListComp elt (⟨t, iter, ifs, 0⟩ :: gs) scope pos) code)
    (hcell : ∀ y ∈ scope.names, y.2 ≠ .cell) (hkind : scope.kind = .function) (hcaps : ∀ C, Caps env σ (compEnvC scope cl C env) cap)
    (hstep : ∀ C Dd Eo, FOK n A (compEnvC scope cl C env) → All2 (CTurn W (compEnvC scope cl C env) Dd (cap.map fun p => (p.1, Slot.val p.2)) (code Dd (compEnvC scope cl C env) Eo)) ds oss) (hz : oss.flatten.length ≤ 100000) :
    CompOk W A env σ (.ListComp elt (⟨t, iter, ifs, 0⟩ :: gs) scope pos) scope cl (eval iter env) oss.flatten := by
  intro kp fz₀ fz ad m s RR E H hRR
  refine hf _ _ _ _ _ _ _ _ H fun I g fz₁ s₁ h₂ tk₂ x₁ hn hk₂ hg₂ self G => ?_
  replace hRR := fun a C us k m' fz' h tk => hRR a C us k m' fz₁ s₁ fz' h tk x₁
  replace H := H.ext x₁
  clear x₁ hf
  refine wpAny_newObj_type (wpAny_newFunctionEnv hcell (by intro y hy; simp at hy) (fun h₃ hns₃ hsb₃ => ?_) hkind)
  dsimp only at hns₃ hsb₃ ⊢
  have hC : (h₂.push { cls := .type "list", dict := none, data := .seq ([] : List Value).toArray }).objs.size = h₂.objs.size + 1 := by rw [Heap.size_push]
  have lt2 : ∀ b o, h₂.get? b = some o → b < h₂.objs.size := fun b o e => Heap.lt_size e
  generalize hCC : (h₂.push { cls := .type "list", dict := none, data := .seq ([] : List Value).toArray }).objs.size = C at *
  have hacc₂ : (h₂.push { cls := .type "list", dict := none, data := .seq ([] : List Value).toArray }).get? h₂.objs.size = some (lstO [] 0) := Heap.get?_push_size _ rfl
  generalize hDD : h₂.objs.size = Dd at *
  have hDC : Dd ≠ C := by rw [hC]; exact Nat.ne_of_lt (Nat.lt_succ_self _)
  have none1 : ∀ (k : GMap), (∀ b o, k b = some o → h₂.get? b = some o) → ∀ b, Dd ≤ b → k b = none := fun k hk b hb => by
    cases q : k b with
    | none => rfl
    | some o => exact absurd (lt2 b o (hk b o q)) (Nat.not_lt.mpr hb)
  have leC : Dd ≤ C := by rw [hC]; exact Nat.le_succ _
  have ltC : ∀ c o, s₁.heap.get? c = some o → c < C := fun c o e => Nat.lt_of_lt_of_le (lt2 c o (hk₂ c o e)) leC
  have old : ∀ b o, h₂.get? b = some o → h₃.get? b = some o := fun b o e => hsb₃.extBut b o (Nat.ne_of_lt (by rw [hC]; exact Nat.lt_succ_of_lt (lt2 b o e))) (Heap.get?_push_of_some _ (Heap.get?_push_of_some _ e))
  have hacc : h₃.get? Dd = some (lstO [] 0) := hsb₃.extBut _ _ hDC (Heap.get?_push_of_some _ hacc₂)
  have sD := none1 (fun b => s₁.heap.get? b) hk₂ Dd (Nat.le_refl _)
  have sC := none1 (fun b => s₁.heap.get? b) hk₂ C leC
  have fD := none1 fz₁ (fun b o e => hk₂ b o (H.fzIn b o e)) Dd (Nat.le_refl _)
  have fC := none1 fz₁ (fun b o e => hk₂ b o (H.fzIn b o e)) C leC
  have gD := none1 g hg₂ Dd (Nat.le_refl _)
  have gC := none1 g hg₂ C leC
  have FC : FOK n A (compEnvC scope cl C env) := ⟨F.hh, hkind, F.hg, F.hb, F.dp, F.un⟩
  have hcp := hcaps C
  have hst := hstep C Dd (fun e s' => RR (.ref Dd) C (.error e) s') FC
  have keep₃ : ∀ b o, s₁.heap.get? b = some o → h₃.get? b = some o := fun b o e => old b o (hk₂ b o e)
  clear hstep hcaps hk₂ lt2 none1 hacc₂ hsb₃ hCC hC
  have cellsOut : ∀ x c, (compEnvC scope cl C env).cells.lookup x = some c → ∃ v, s₁.heap.IsCell c v := fun x c h => H.cells x c (hcp.cells x c h)
  have hwf₁ : WF W (fun b => s₁.heap.get? b) := H.heapWF
  have at_ : AccAt W (compEnvC scope cl C env) (fun b => s₁.heap.get? b) Dd fz₁ := ⟨hwf₁, sD, fD, Ne.symm hDC, fun x c h e => by obtain ⟨v, o, q, _⟩ := cellsOut x c h; rw [e] at q; exact absurd (q.symm.trans sD) (fun h => nomatch h)⟩
  have of : OffEnv g (compEnvC scope cl C env) := ⟨gC, fun x c h => let ⟨_, o, q, _⟩ := cellsOut x c h; hn _ o q⟩
  have offK : ∀ {b : Addr} {o : Obj}, b ≠ Dd → g b = none → (GMap.ov (GMap.ov (fun b => s₁.heap.get? b) g) (one Dd o)) b = s₁.heap.get? b := fun h1 h2 => (GMap.ov_none (one_off h1)).trans (GMap.ov_none h2)
  have H₃ : AccOk W (compEnvC scope cl C env) (GMap.ov (fun b => s₁.heap.get? b) g) Dd [] 0 fz₁ (cap.map fun p => (p.1, Slot.val p.2)) fz₁ (fun _ => 0) (fun x => List.lookup x ([] : List (PySem.Str × Value)).reverse) { s₁ with heap := h₃, toks := tk₂ + ([] : List (PySem.Str × Value)).length } := by
    have noOwn : ∀ x es, (x, Slot.own es) ∉ cap.map fun p => (p.1, Slot.val p.2) := fun x es h => by obtain ⟨p, _, e⟩ := List.mem_map.mp h; cases e
    refine { wf := hwf₁.mono fun b o e => (offK (fun h => by rw [h] at e; exact absurd (e.symm.trans sD) (fun h => nomatch h)) (hn b o e)).trans e, kept := ?_, fzIn := fun b o e => keep₃ b o (H.fzIn b o e), fz0 := fun _ _ e => e, fzNew := fun _ _ e => .inl e, ns := hns₃, nsK := (offK (Ne.symm hDC) gC).trans sC, nsF := fC, cells := ?_, cinj := fun x y c hx hy => H.cinj x y c (hcp.cells x c hx) (hcp.cells y c hy), cfree := ?_, vars := ?_, own := fun x es h => absurd h (noOwn x es), inj := fun x y es es' h => absurd h (noOwn x es) }
    · intro b o e
      rcases GMap.ov_eq e with e | ⟨_, e⟩
      · obtain ⟨rfl, rfl⟩ := one_eq e; exact hacc
      · rcases GMap.ov_eq e with e | ⟨_, e⟩
        · exact old _ _ (hg₂ _ _ e)
        · exact keep₃ _ _ e
    · intro x c h
      obtain ⟨v, o, q, r⟩ := cellsOut x c h
      exact ⟨v, o, keep₃ _ _ q, r⟩
    · intro x c hx hl
      obtain ⟨v, o, q, _⟩ := cellsOut x c hx
      exact absurd (Nat.lt_trans hl (ltC c o q)) (Nat.lt_irrefl _)
    · intro x sl hx
      obtain ⟨p, hp, e⟩ := List.mem_map.mp hx
      cases e
      obtain ⟨h1, h2, h3, h4⟩ := hcp.caps p hp
      obtain ⟨v, l, hv⟩ := H.vars _ _ h1
      refine ⟨v, ?_, hv⟩
      rcases l with ⟨a, _⟩ | ⟨_, c, b, o, q, r⟩
      · exact absurd a h2
      · exact .inr ⟨.inl h3, c, h4.trans b, o, keep₃ _ _ q, r⟩
  have d1 : Dis g (fun b => s₁.heap.get? b) := hn
  have d0 : Dis g fz₁ := hn.dis H.fzIn
  have loop : codeAny W.M A (.compLoop (.ListComp elt (⟨t, iter, ifs, 0⟩ :: gs) scope pos) 0 (.ref I) (.ref Dd) (compEnvC scope cl C env)) (RR (.ref Dd) C) { s₁ with heap := h₃, toks := tk₂ + ([] : List (PySem.Str × Value)).length } := by
    refine acc_loop (us := []) (rule I Dd _ (RR (.ref Dd) C)) at_ d1 d0 of gD H₃ G hst (by rw [List.length_nil, Nat.zero_add]; exact hz) fun fz' ad' m' h' tk' vals c' H' hv => ?_
    refine hRR Dd C vals c' m' fz' h' tk' ⟨Keeps.of fun b o e => H'.kept b o ((GMap.ov_none (at_.dis b o e)).trans e), sD, sC, hDC, H'.ns, H'.kept _ _ (GMap.ov_some one_self), hv, H'.fz0, H'.fzIn, at_.fzN H', H'.nsF, fun b o e => (H'.fzNew b o e).imp id fun h => (GMap.ov_off h).2⟩
  exact codeAny_compStart_list loop (self _ (fun b o e => old _ _ (hg₂ _ _ e)) (fun b o e => keep₃ _ _ (H.fzIn _ _ e)) _ _ loop)
theorem comp_start {n : Nat} {elt iter t : PySem.Expr} {ifs : List PySem.Expr} {gs : List Comprehension} {scope : Scope} {cl : List (PySem.Str × Addr)} {pos : Pos} {d : D} {ds : List D} {oss : List (List D)} {cap : List (PySem.Str × D)} {code : CCode}
    (F : FOK n A env) (he : Ev W A env σ iter d) (hi : Iter W A d ds) (rule : CRule W A (.ListComp elt (⟨t, iter, ifs, 0⟩ :: gs) scope pos) code)
    (hcell : ∀ y ∈ scope.names, y.2 ≠ .cell) (hkind : scope.kind = .function) (hcaps : ∀ C, Caps env σ (compEnvC scope cl C env) cap)
    (hstep : ∀ C Dd Eo, FOK n A (compEnvC scope cl C env) → All2 (CTurn W (compEnvC scope cl C env) Dd (cap.map fun p => (p.1, Slot.val p.2)) (code Dd (compEnvC scope cl C env) Eo)) ds oss) (hz : oss.flatten.length ≤ 100000) :
    CompOk W A env σ (.ListComp elt (⟨t, iter, ifs, 0⟩ :: gs) scope pos) scope cl (eval iter env) oss.flatten :=
  comp_startG (lo := none) F (fun kp fz₀ fz ad m s Q E H kont => he _ _ _ _ _ _ _ _ H fun v fz₁ s₁ x₁ hv => hi _ _ _ _ _ x₁.inH hv fun I g h₂ tk₂ hn hk₂ hg₂ self G => kont I g fz₁ s₁ h₂ tk₂ x₁ hn hk₂ hg₂ self G) rule hcell hkind hcaps hstep hz
theorem evF_of_comp {elt iter t : PySem.Expr} {ifs : List PySem.Expr} {gs : List Comprehension} {scope : Scope} {cl : List (PySem.Str × Addr)} {pos : Pos} {outs : List D} (h : CompOk W A env σ (.ListComp elt (⟨t, iter, ifs, 0⟩ :: gs) scope pos) scope cl (eval iter env) outs)
    (hclos : closureFor scope env = pure cl) (hkind : scope.kind = .function) (hnames : ∀ y ∈ scope.names, y.2 = .local → scope.names.lookup y.1 = some .local) (hs : ∀ x, foldedSetIterable iter env x = pure x) : EvF W A env σ (.ListComp elt (⟨t, iter, ifs, 0⟩ :: gs) scope pos) outs := by
  intro kp fz₀ fz ad m s Q E H k
  rw [eval_ListComp]
  refine wpAny_comprehension_free (use := none) rfl hs hclos hkind hnames (h kp fz₀ fz ad m s (fun acc C => compPost W.M A E none Q acc C) E H ?_)
  intro a C us c m' fz₁ s₁ fz' h tk x₁ X
  refine ⟨m', X.ns, fun h' hs' => ?_⟩
  have x₂ : Ext fz₁ s₁ fz' { s₁ with heap := h', toks := tk } := by
    refine ⟨⟨h', tk, rfl, fun b o e => ?_⟩, X.sub, fun b o e => ?_, X.new⟩
    · exact hs'.extBut b o (fun q => by rw [q, X.cNew] at e; cases e) (kGet X.keeps e)
    · exact hs'.extBut b o (fun q => by rw [q, X.cF] at e; cases e) (X.inH b o e)
  have ha : s.heap.get? a = none := by
    cases q : s.heap.get? a with
    | none => rfl
    | some o => have := kGet x₁.keeps q; rw [X.aNew] at this; cases this
  exact k a us c fz' _ (x₁.trans x₂) ha X.aF (hs'.extBut _ _ X.ne X.get) X.vals

/-- y = [comprehension], the store exchanged -/
theorem x_of_comp {n : Nat} {y : PySem.Str} {py spos : Pos} {elt iter t : PySem.Expr} {ifs : List PySem.Expr} {gs : List Comprehension} {scope : Scope} {cl : List (PySem.Str × Addr)} {pos : Pos} {outs : List D} (F : FOK n A env) (h : CompOk W A env σ (.ListComp elt (⟨t, iter, ifs, 0⟩ :: gs) scope pos) scope cl (eval iter env) outs)
    (hy : env.kindOf y = some .local) (hsw : swapsWith (.ListComp elt (⟨t, iter, ifs, 0⟩ :: gs) scope pos) (some (.Name y py)) spos.line env = pure true)
    (hclos : closureFor scope env = pure cl) (hkind : scope.kind = .function) (hnames : ∀ y ∈ scope.names, y.2 = .local → scope.names.lookup y.1 = some .local) (hs : ∀ x, foldedSetIterable iter env x = pure x) :
    X1 W A env σ (.Assign [.Name y py] (.ListComp elt (⟨t, iter, ifs, 0⟩ :: gs) scope pos) spos) (.next (upd σ y (.own outs))) := by
  intro kp fz₀ fz ad m s Q E H p
  rw [exec_Assign_Name_used _ _ _ _ hsw]
  refine wpAny_bind (wpAny_standAt (wpAny_bind ?_))
  show wpAny _ A (do let _ ← comprehension (.ListComp elt (⟨t, iter, ifs, 0⟩ :: gs) scope pos) scope env _ (newList []) false (eval iter env) (some (assign (.Name y py) env))) _ _ s
  refine wpAny_bind (wpAny_mono (wpAny_comprehension_free (use := some (assign (.Name y py) env)) (Q := fun _ s' => Q .next s') rfl hs hclos hkind hnames (h kp fz₀ fz ad m s (fun acc C => compPost W.M A E (some (assign (.Name y py) env)) (fun _ s' => Q .next s') acc C) E H ?_)) (fun _ s' hq => wpAny_pure (wpAny_pure hq)) fun _ _ e => e)
  intro a C us c m' fz₁ s₁ fz' h tk x₁ X
  have H₁ := H.ext x₁
  have x₂ : Ext fz₁ s₁ fz' { s₁ with heap := h, toks := tk } := ⟨X.keeps, X.sub, X.inH, X.new⟩
  have H₂ := H₁.ext x₂
  have N := H₁.newAddr x₂ X.aNew
  have hLC : env.locals ≠ C := fun e => by obtain ⟨o, _, _, ho, _⟩ := H₁.ns; rw [e, X.cNew] at ho; cases ho
  show wpAny _ A (assign (.Name y py) env (.ref a)) _ _ _
  refine wpAny_assign_Name (wpAny_storeName_local hy H₂.ns (fun h' hn hs' => ?_) (by show (env.scope.kind == .class || (env.scope.kind == .module && env.locals != env.globals)) = false; rw [F.hk]; rfl))
  refine ⟨m', X.ns.sameBut hs' (Ne.symm hLC), fun h₃ hs₃ => ?_⟩
  have H₃ := H₂.setOwn (tk := tk + 1) hy hn hs' N.1 X.aF X.get X.vals N.2
  have hkC : ∀ b o, kp b = some o → b ≠ C := fun b o e q => by have := H₁.kept b o e; rw [q, X.cNew] at this; cases this
  obtain ⟨h₁, tk₁, e₁, _⟩ := id x₁.keeps
  subst e₁
  -- the comprehension's own dict may have turned: nothing that we know speaks of it
  have keepC : ∀ b q, b ≠ C → h'.get? b = some q → h₃.get? b = some q := fun b q hb e => hs₃.extBut b q hb e
  have cellC : ∀ x c, env.cells.lookup x = some c → c ≠ C := fun x c h e => by
    obtain ⟨_, o, g, _⟩ := H₁.cells x c h
    rw [e, X.cNew] at g; cases g
  refine p fz' (fun z => if z = y then a else ad z) (fun z => if z = y then some (.ref a) else m z) h₃ (tk + 1) ?_
  refine { H₃ with kept := fun b o e => keepC b o (hkC b o e) (H₃.kept b o e), fzIn := fun b o e => keepC b o (fun q => by rw [q, X.cF] at e; cases e) (H₃.fzIn b o e), ns := H₃.ns.at' fun o e => keepC _ _ hLC e, cells := ?_, vars := ?_ }
  · intro x cc hc
    obtain ⟨v, o, g, q⟩ := H₃.cells x cc hc
    exact ⟨v, o, keepC _ _ (cellC x cc hc) g, q⟩
  · intro x sl hx
    have hl := H₃.vars x sl hx
    cases sl with
    | val d =>
      obtain ⟨v, l, hv⟩ := hl
      refine ⟨v, ?_, hv⟩
      rcases l with ⟨a, b⟩ | ⟨a, cc, b, o, g, q⟩
      · exact .inl ⟨a, b⟩
      · exact .inr ⟨a, cc, b, o, keepC _ _ (cellC x cc b) g, q⟩
    | own es =>
      obtain ⟨a', b, us', nn', g, q⟩ := hl
      refine ⟨a', b, us', nn', keepC _ _ ?_ g, q⟩
      intro e
      rcases mem_upd hx with ⟨rfl, _⟩ | ⟨hn', hx'⟩
      · simp at e; exact X.ne e
      · simp [hn'] at e
        obtain ⟨_, _, g', _⟩ := H₁.objOwn hx'
        rw [e, X.cNew] at g'; cases g'

/-- one generator -/
noncomputable def code1 (W : WP) (A : Around) (t elt : PySem.Expr) (ifs : List PySem.Expr) : CCode := fun Dd cenv Eo v P s =>
  wpAny W.M A (assign t cenv v) (fun _ s₂ => wpAny W.M A (forIn ifs true fun c r => if r = true then do let ok ← isTrue c cenv (eval c cenv); pure (ForInStep.yield ok) else pure (ForInStep.yield r)) (fun ok s₃ =>
    if ok = true then wpAny W.M A (eval elt cenv) (fun x s₄ => wpAny W.M A (call (.builtin "list.append") [.ref Dd, x]) (fun _ s₅ => P s₅) (notedBy W.M A cenv Eo) s₄) (notedBy W.M A cenv Eo) s₃ else P s₃) (notedBy W.M A cenv Eo) s₂) (notedBy W.M A cenv Eo) s
theorem rule1 {elt iter t : PySem.Expr} {ifs : List PySem.Expr} {scope : Scope} {pos : Pos} (ht : ∀ it v, letOwnedTupleGo t it v = pure ()) : CRule W A (.ListComp elt [⟨t, iter, ifs, 0⟩] scope pos) (code1 W A t elt ifs) :=
  fun I Dd cenv R Inv turn n s h => codeAny_compLoop_tests Inv (fun n s hI => wpAny_mono (turn n s hI) (fun r s₁ q => by cases r <;> exact q) fun _ _ e => e) n h (fun v => ht _ v)
theorem turn1 {elt t : PySem.Expr} {ifs : List PySem.Expr} {cenv : Env} {Dd : Addr} {Eo : Value → Shared → Prop} {d : D} {o : Option D} (h : CStep W A cenv t σ ifs elt d o) : CTurn W cenv Dd σ (code1 W A t elt ifs Dd cenv Eo) d o.toList := by
  have key : ∃ σ₁, Asg W A cenv t d σ σ₁ ∧ (∀ p ∈ σ, p ∈ σ₁) ∧ Tst W A cenv σ₁ ifs o.isSome ∧ ∀ e, o = some e → Ev W A cenv σ₁ elt e := by
    cases o with
    | none => obtain ⟨σ₁, a, b, c⟩ := h; exact ⟨σ₁, a, b, c, fun _ e => nomatch e⟩
    | some e => obtain ⟨σ₁, a, b, c, q⟩ := h; exact ⟨σ₁, a, b, c, fun _ h => by cases h; exact q⟩
  obtain ⟨σ₁, ha, hsub, htst, hel⟩ := key
  intro kp fz₀ fz ad m s us c v P at_ H hv hz k
  refine ha _ _ _ _ _ _ _ _ _ (Ok.rebase H) hv fun fz₅ ad₅ m₅ h₅ tk₅ H₅ => ?_
  refine htst _ _ _ _ _ _ _ _ H₅ fun fz₆ s₆ x₆ => ?_
  have H₆ := H₅.ext x₆
  obtain ⟨h₇, tk₇, e₇, _⟩ := id x₆.keeps
  subst e₇
  have nb : ∀ {us c} b q, fz b = some q → fz₀ b = some q ∨ (kp.ov (one Dd (lstO us c))) b = none := fun b q e => (H.fzNew b q e).imp id fun h => (GMap.ov_none (one_off (one_ne (GMap.ov_off h).1))).trans (GMap.ov_off h).2
  cases o with
  | none =>
    rw [Option.isSome_none, if_neg (by decide)]
    exact k fz₆ ad₅ m₅ h₇ tk₇ [] c (by rw [List.append_nil]; exact (Ok.unbase H₆ H.fz0 nb).weaken hsub) H₆.fz0 .nil
  | some e =>
    rw [Option.isSome_some, if_pos rfl]
    refine hel e rfl _ _ _ _ _ _ _ _ H₆ fun y fz₈ s₈ x₈ hy => ?_
    have H₈ := H₆.ext x₈
    obtain ⟨h₉, tk₉, e₉, _⟩ := id x₈.keeps
    subst e₉
    exact acc_append at_ ((Ok.unbase H₈ H.fz0 nb).weaken hsub) (by simp at hz; walk_at "lx") fun h' c' H' => k fz₈ ad₅ m₅ h' tk₉ [y] c' H' H₈.fz0 (.cons hy .nil)
theorem flat_opt (os : List (Option D)) : (os.map Option.toList).flatten = os.filterMap id := by
  induction os with
  | nil => rfl
  | cons o os ih => cases o <;> simp [ih]
section
variable {n : Nat} {elt iter t : PySem.Expr} {ifs : List PySem.Expr} {scope : Scope} {cl : List (PySem.Str × Addr)} {pos : Pos} {d : D} {ds : List D} {os : List (Option D)} {cap : List (PySem.Str × D)}
theorem comp_ok1 (F : FOK n A env) (he : Ev W A env σ iter d) (hi : Iter W A d ds) (hcell : ∀ y ∈ scope.names, y.2 ≠ .cell) (hkind : scope.kind = .function)
    (hcaps : ∀ C, Caps env σ (compEnvC scope cl C env) cap) (hstep : ∀ C, FOK n A (compEnvC scope cl C env) → All2 (fun d o => CStep W A (compEnvC scope cl C env) t (cap.map fun p => (p.1, Slot.val p.2)) ifs elt d o) ds os) (hz : (os.filterMap id).length ≤ 100000) (ht : ∀ it v, letOwnedTupleGo t it v = pure ()) :
    CompOk W A env σ (.ListComp elt [⟨t, iter, ifs, 0⟩] scope pos) scope cl (eval iter env) (os.filterMap id) := by
  rw [← flat_opt] at hz ⊢
  exact comp_start F he hi (rule1 ht) hcell hkind hcaps (fun C Dd Eo FC => (hstep C FC).imp Option.toList fun d o h => turn1 h) hz
theorem evF_comp (F : FOK n A env) (he : Ev W A env σ iter d) (hi : Iter W A d ds) (hclos : closureFor scope env = pure cl) (hcell : ∀ y ∈ scope.names, y.2 ≠ .cell) (hkind : scope.kind = .function) (hnames : ∀ y ∈ scope.names, y.2 = .local → scope.names.lookup y.1 = some .local)
    (hcaps : ∀ C, Caps env σ (compEnvC scope cl C env) cap)
    (hstep : ∀ C, FOK n A (compEnvC scope cl C env) → All2 (fun d o => CStep W A (compEnvC scope cl C env) t (cap.map fun p => (p.1, Slot.val p.2)) ifs elt d o) ds os) (hz : ds.length ≤ 100000)
    (hs : ∀ x, foldedSetIterable iter env x = pure x := by intro _; rfl) (ht : ∀ it v, letOwnedTupleGo t it v = pure () := by intro _ _; rfl) :
    EvF W A env σ (.ListComp elt [⟨t, iter, ifs, 0⟩] scope pos) (os.filterMap id) := evF_of_comp (comp_ok1 F he hi hcell hkind hcaps hstep (Nat.le_trans (List.length_filterMap_le id os) (by rw [← (hstep 0 ⟨F.hh, hkind, F.hg, F.hb, F.dp, F.un⟩).length]; exact hz)) ht) hclos hkind hnames hs
end

/-- names bound one by one -/
noncomputable def BndL (W : WP) (A : Around) (env : Env) (fs : List (Value → Sem Unit)) (ds : List D) (σ σ₁ : Sto) : Prop :=
  ∀ (kp fz₀ fz : GMap) (ad : PySem.Str → Addr) (m : PySem.Str → Option Value) (s : Shared) (vs : List Value) (Q : Unit → Shared → Prop) (E : Value → Shared → Prop), Ok W env kp fz₀ σ fz ad m s → VHs fz vs ds →
    (∀ fz' ad' m' h' tk', Ok W env kp fz₀ σ₁ fz' ad' m' { s with heap := h', toks := tk' } → Q () { s with heap := h', toks := tk' }) → wpAny W.M A (assignInOrder fs vs) Q E s
noncomputable def Bnd (W : WP) (A : Around) (env : Env) (f : Value → Sem Unit) (d : D) (σ σ₁ : Sto) : Prop :=
  ∀ (kp fz₀ fz : GMap) (ad : PySem.Str → Addr) (m : PySem.Str → Option Value) (s : Shared) (v : Value) (Q : Unit → Shared → Prop) (E : Value → Shared → Prop), Ok W env kp fz₀ σ fz ad m s → VH fz v d →
    (∀ fz' ad' m' h' tk', Ok W env kp fz₀ σ₁ fz' ad' m' { s with heap := h', toks := tk' } → Q () { s with heap := h', toks := tk' }) → wpAny W.M A (f v) Q E s
theorem bnd_asg {t : PySem.Expr} {d : D} {σ₁ : Sto} (h : Asg W A env t d σ σ₁) : Bnd W A env (assign t env) d σ σ₁ := h
theorem bnd_name {n : Nat} {x : PySem.Str} {d : D} (F : FOK n A env) (hx : env.kindOf x = some .local) : Bnd W A env (fun v => bindName env x v) d σ (upd σ x (.val d)) := by
  intro kp fz₀ fz ad m s v Q E H hv k
  exact wpAny_bindName (wp_store F H (.inl hx) hv fun m' h' tk H' => k _ _ _ _ _ H')
theorem bndl_nil {fs : List (Value → Sem Unit)} : BndL W A env fs [] σ σ := by
  intro kp fz₀ fz ad m s vs Q E H hv k
  obtain rfl := hv.nil_
  have : assignInOrder fs [] = pure () := by cases fs <;> rfl
  rw [this]
  exact wpAny_pure (k _ _ _ s.heap s.toks H)
theorem bndl_cons {f : Value → Sem Unit} {fs : List (Value → Sem Unit)} {d : D} {ds : List D} {σ₁ σ₂ : Sto} (h : Bnd W A env f d σ σ₁) (r : BndL W A env fs ds σ₁ σ₂) : BndL W A env (f :: fs) (d :: ds) σ σ₂ := by
  intro kp fz₀ fz ad m s vs Q E H hv k
  obtain ⟨v, vs, rfl, hv, hr⟩ := hv.cons_
  · show wpAny _ A (do holding vs (f v); assignInOrder fs vs) _ _ s
    refine wpAny_bind (wpAny_holding (h _ _ _ _ _ _ _ _ _ H.rebase hv fun fz' ad' m' h' tk' H' => ?_))
    refine r _ _ _ _ _ _ _ _ _ (H'.unbase H.fz0 H.fzNew) (hr.mono H'.fz0) fun fz'' ad'' m'' h'' tk'' H'' => k _ _ _ _ _ H''

theorem VH.isTup {fz : GMap} {s : Shared} {v : Value} {ds : List D} (hf : FzIn fz s) (h : VH fz v (.tup ds)) : ∃ a vs, v = .ref a ∧ s.heap.IsTuple a (List.toArray vs) ∧ VHs fz vs ds := by
  obtain ⟨a, vs, n, rfl, e, r⟩ := h.tup_
  exact ⟨_, _, rfl, ⟨_, hf _ _ e, rfl, _, rfl⟩, r⟩

/-- targets = a tuple, stored in order -/
theorem x_tup {ts : List PySem.Expr} {k : Nat} {tp pos : Pos} {e : PySem.Expr} {ds : List D} {σ₁ : Sto} (hh : A.handled = none) (h : Ev W A env σ e (.tup ds)) (hl : ts.length = ds.length) (hb : BndL W A env ((assignEach ts env).map (·.2)) ds σ σ₁)
    (hs : swapsWithSole [.Tuple ts k tp] e pos.line env = pure false) (hw : swappedStores [.Tuple ts k tp] e env = pure none) (hln : (assignEach ts env).length = ts.length) (hst : (assignEach ts env).findIdx? (·.1) = none) :
    X1 W A env σ (.Assign [.Tuple ts k tp] e pos) (.next σ₁) := by
  intro kp fz₀ fz ad m s Q E H p
  refine wpAny_Assign_stores (h _ _ _ _ _ _ _ _ H fun v fz₁ s₁ x₁ hv => ?_) hs hw
  obtain ⟨a, vs, rfl, hT, hr⟩ := hv.isTup x₁.inH
  show wpAny _ A (do standAt tp; unpack (.ref a) (assignEach ts env)) _ _ s₁
  refine wpAny_bind (wpAny_standAt (wpAny_unpack_tuple hh hT (by rw [hln, List.size_toArray, hr.length]; exact hl) hst fun h' he => ?_))
  have x₂ : Ext fz₁ s₁ fz₁ { s₁ with heap := h', toks := s₁.toks } := Ext.heap x₁.inH fun b o e => he b o (Nat.ne_of_lt (Heap.lt_size e)) e
  refine hb _ _ _ _ _ _ _ _ _ ((H.ext x₁).ext x₂) hr fun fz' ad' m' h'' tk' H' => ?_
  obtain ⟨h₁, tk₁, e₁, _⟩ := id x₁.keeps
  subst e₁
  exact p _ _ _ _ _ H'
/-- names = a tuple display, stored from the last to the first -/
theorem x_tupS {ts : List PySem.Expr} {k : Nat} {tp pos : Pos} {e : PySem.Expr} {ds : List D} {names : List PySem.Str} {σ₁ : Sto} (hh : A.handled = none) (h : Ev W A env σ e (.tup ds)) (hl : names.length = ds.length) (hb : BndL W A env (names.reverse.map fun n => fun v => bindName env n v) ds.reverse σ σ₁)
    (hs : swapsWithSole [.Tuple ts k tp] e pos.line env = pure false) (hw : swappedStores [.Tuple ts k tp] e env = pure (some names)) :
    X1 W A env σ (.Assign [.Tuple ts k tp] e pos) (.next σ₁) := by
  intro kp fz₀ fz ad m s Q E H p
  rw [exec_Assign_arm]
  refine wpAny_bind (wpAny_standAt ?_)
  rw [hs]
  refine wpAny_bind (wpAny_pure ?_)
  rw [if_neg (by decide)]
  refine wpAny_bind (h _ _ _ _ _ _ _ _ H fun v fz₁ s₁ x₁ hv => ?_)
  obtain ⟨a, vs, rfl, hT, hr⟩ := hv.isTup x₁.inH
  rw [hw]
  refine wpAny_bind (wpAny_pure ?_)
  show wpAny _ A (do rule "assign.swapped-stores"; let items ← unpackItems (.ref a) names.length none; assignInOrder (names.reverse.map fun n => bindName env n) items.reverse; pure Flow.next) _ _ s₁
  refine wpAny_bind (wpAny_rule (wpAny_bind ?_))
  have hsz : names.length = vs.toArray.size := by rw [List.size_toArray, hr.length, hl]
  rw [hsz]
  refine wpAny_unpackItems_tuple hh hT fun h' he => ?_
  have x₂ : Ext fz₁ s₁ fz₁ { s₁ with heap := h', toks := s₁.toks } := Ext.heap x₁.inH fun b o e => he b o (Nat.ne_of_lt (Heap.lt_size e)) e
  have rev : ∀ {vs : List Value} {ds : List D}, VHs fz₁ vs ds → VHs fz₁ vs.reverse ds.reverse := by
    intro vs ds h
    induction ds generalizing vs with
    | nil => obtain rfl := h.nil_; exact .nil
    | cons d ds ih => obtain ⟨v, ws, rfl, h, r⟩ := h.cons_; rw [List.reverse_cons, List.reverse_cons]; exact (ih r).append (.cons h .nil)
  refine wpAny_bind (hb _ _ _ _ _ _ _ _ _ ((H.ext x₁).ext x₂) (rev hr) fun fz' ad' m' h'' tk' H' => wpAny_pure ?_)
  obtain ⟨h₁, tk₁, e₁, _⟩ := id x₁.keeps
  subst e₁
  exact p _ _ _ _ _ H'

/-- x = y = e -/
theorem x_assign2 {n : Nat} {x y : PySem.Str} {px py pos : Pos} {e : PySem.Expr} {d : D} (F : FOK n A env) (h : Ev W A env σ e d) (hx : env.kindOf x = some .local) (hy : env.kindOf y = some .local) :
    X1 W A env σ (.Assign [.Name x px, .Name y py] e pos) (.next (upd (upd σ x (.val d)) y (.val d))) := by
  intro kp fz₀ fz ad m s Q E H p
  refine wpAny_Assign_two (h _ _ _ _ _ _ _ _ H fun v fz₁ s₁ x₁ hv => ?_) rfl
  have H₁ := H.ext x₁
  refine wpAny_assign_Name (wp_store F H₁.rebase (.inl hx) hv fun m' h' tk H' => ?_)
  refine wpAny_assign_Name (wp_store F (H'.unbase H₁.fz0 H₁.fzNew) (.inl hy) (hv.mono H'.fz0) fun m'' h'' tk'' H'' => ?_)
  obtain ⟨h₁, tk₁, e₁, _⟩ := id x₁.keeps
  subst e₁
  exact p _ _ _ _ _ H''

/-- a cell stored -/
theorem asg_cell {n : Nat} {x : PySem.Str} {px : Pos} {d : D} {c : Addr} (F : FOK n A env) (hx : env.kindOf x = some .cell) (hc : env.cells.lookup x = some c) (hl : env.locals < c) : Asg W A env (.Name x px) d σ (upd σ x (.val d)) := by
  intro kp fz₀ fz ad m s v Q E H hv k
  exact wpAny_assign_Name (wp_store F H (.inr ⟨hx, c, hc, H.cfree _ _ hc hl⟩) hv fun m' h' tk H' => k _ _ _ _ _ H')

/-- going over a text, over bytes -/
theorem iter_str {x : PySem.Str} (hh : A.handled = none) (ha : (x.cps.all fun c => decide (c < 128)) = true) : Iter W A (.str x) (x.cps.toList.map fun c => .str ⟨#[c]⟩) := by
  intro fz s v Q E hf hv k
  obtain ⟨t, rfl⟩ := hv.str_
  · refine wpAny_pyIter_ascii ha ?_
    refine iter_walks (tk' := s.toks) ⟨Walks.strAscii hh s.heap.objs.size x t, by simp, fun b hb => List.mem_singleton.mp hb, fun b hb => .inl (List.mem_singleton.mp hb), ?_, ?_⟩ ⟨_, Heap.get?_push_size _ rfl, rfl, rfl⟩ (get_fresh _) (fun b o e => get_push e) hf k
    · rintro i v hi ⟨c, u, hc, rfl⟩
      exact ⟨.str ⟨#[c]⟩, by simp [hc], .str _ _⟩
    · rintro i h ⟨o, ho, _⟩
      exact ⟨o, ho⟩
theorem iter_byt {x : Array UInt8} (hh : A.handled = none) : Iter W A (.byt x) (x.toList.map fun c => .int (c.toNat : Int)) := by
  intro fz s v Q E hf hv k
  obtain ⟨t, rfl⟩ := hv.byt_
  · refine KBw.pyIter_bytes ?_
    refine iter_walks (tk' := s.toks) ⟨KBw.walks hh s.heap.objs.size x t, by simp, fun b hb => List.mem_singleton.mp hb, fun b hb => .inl (List.mem_singleton.mp hb), ?_, ?_⟩ ⟨_, Heap.get?_push_size _ rfl, rfl, rfl⟩ (get_fresh _) (fun b o e => get_push e) hf k
    · rintro i v hi ⟨c, u, hc, rfl⟩
      exact ⟨.int (c.toNat : Int), by simp [hc], .int _ _⟩
    · rintro i h ⟨o, ho, _⟩
      exact ⟨o, ho⟩

theorem VHs.ofGet {fz : GMap} : ∀ {vs : List Value} {ds : List D}, vs.length = ds.length → (∀ (i : Nat) (v : Value) (d : D), vs[i]? = some v → ds[i]? = some d → VH fz v d) → VHs fz vs ds
  | [], [], _, _ => .nil
  | v :: vs, d :: ds, hl, h => .cons (h 0 v d rfl rfl) (VHs.ofGet (by simpa using hl) fun i v d h1 h2 => h (i + 1) v d (by simpa using h1) (by simpa using h2))
/-- list(range(..)), a list of the call's own -/
theorem evF_listRng {n : Nat} {p pos : Pos} {e : PySem.Expr} {a b c : Int} {k : Nat} (F : FOK n A env) (hx : env.kindOf "list" = some .globalImplicit) (hv : nsIn W.K mainGlobals "list" = some none)
    (h : Ev W A env σ e (.rng a b c)) (hsm : Builtin.Range.small a b c = true) (hn : Builtin.Range.rangeSize a b c = (k : Int)) (hz : k ≤ 2 ^ 24) (hs : starEach [e] env = [(false, eval e env)] := by rfl) :
    EvF W A env σ (.Call (.Name "list" p) [e] [] pos) (rngL a c k) := by
  intro kp fz₀ fz ad m s Q E H kont
  obtain ⟨⟨hw, Xk, T, hkk⟩, _⟩ := H.wf
  have kk : ∀ b o, hw.get? b = some o → s.heap.get? b = some o := fun b o e => H.kept _ _ (hkk _ _ e)
  refine Call_Name rfl (Name_function_global F.hk hx (loadGlobal_builtin (env := env) (show s.heap.Ns env.globals W.mg from F.hg ▸ (T.keeps kk).g) (mg_none_of Xk T.g hv) (show s.heap.Ns env.builtins W.mb from F.hb ▸ (T.keeps kk).b) ((T.builtins _ (by decide)).trans boot_list) ?_) (by decide))
  refine PyProof.Rows.callWith_type1 (e := e) (rest := []) ?_ hs rfl
  refine Evs.mk1 h hs pos _ _ _ _ _ _ _ _ H fun vs fz₁ s₁ x₁ hvs => ?_
  obtain ⟨v, rfl, hv⟩ := hvs.one
  obtain ⟨r, t, u, x, rfl, e⟩ := hv.rng_
  have hr : IsRange s₁.heap r a b c t u x := x₁.inH _ _ e
  refine call_list_range F.hh hr hsm hn hz fun h' tk acc' c' hk hg hit => ?_
  have f := x₁.fresh (get_fresh s₁.heap)
  refine kont _ acc'.toList c' fz₁ _ (x₁.trans (Ext.heap x₁.inH hk)) f.1 f.2 (by simpa using hg) ?_
  refine VHs.ofGet (by rw [rngL_length, Array.length_toList]; exact hit.1) fun i v d h1 h2 => ?_
  have hi : i < k := by
    rcases Nat.lt_or_ge i k with h | h
    · exact h
    · rw [List.getElem?_eq_none (by rw [rngL_length]; exact h)] at h2; cases h2
  rw [rngL_get c k a i hi] at h2
  cases h2
  obtain ⟨t', rfl⟩ := hit.2 i v (by simpa using h1)
  exact .int _ _
end
end
section
section
variable {W : WP} {A : Around} {env : Env} {σ σ' : Sto}

theorem ev_methS0 {o : PySem.Expr} {name : PySem.Str} {id : String} {apos pos : Pos} {x : PySem.Str} {d : D} {pl : Sem Bool} (h : Ev W A env σ o (.str x)) (slot : PySem.Slot "str" name id) (ty : typeOf (.builtin id) = pure (.type "method_descriptor"))
    (hc : CallV W A (.builtin id) [.str x] d)
    (hm : eval ((o.Attribute name apos).Call [] [] pos) env = (do let ov ← eval o env; standAt apos.atName; let (f, first) ← holding [ov] (getMethod ov name pl); callWith pos f first (backTo pos (starEach [] env)) []) := by rfl) :
    Ev W A env σ (.Call (.Attribute o name apos) [] [] pos) d := by
  intro kp fz₀ fz ad m s Q E H k
  refine MethodCall_ (pl := pl) (h _ _ _ _ _ _ _ _ H fun v fz₁ s₁ x₁ hv => ?_) hm
  obtain ⟨t, rfl⟩ := hv.str_
  refine getMethod_builtin (typeIs_str _ _ _) PySem.F.plainAttrs_str slot ty (fun a e => nomatch e) ?_
  refine callWith_method0 ?_
  exact hc _ _ _ _ _ (H.ext x₁).heapWF x₁.inH (.cons (.str _ _) .nil) fun v' fz' s' x' hv' => k _ _ _ (x₁.trans x') hv'
theorem ev_methS1 {o e : PySem.Expr} {rest : List PySem.Expr} {name : PySem.Str} {id : String} {apos pos : Pos} {x : PySem.Str} {ds : List D} {d : D} {pl : Sem Bool} (h : Ev W A env σ o (.str x)) (slot : PySem.Slot "str" name id) (ty : typeOf (.builtin id) = pure (.type "method_descriptor")) (ha : Evs W A env σ (e :: rest) ds)
    (hc : CallV W A (.builtin id) (.str x :: ds) d)
    (hm : eval ((o.Attribute name apos).Call (e :: rest) [] pos) env = (do let ov ← eval o env; standAt apos.atName; let (f, first) ← holding [ov] (getMethod ov name pl); callWith pos f first (backTo pos (starEach (e :: rest) env)) []) := by rfl)
    (hs : starEach (e :: rest) env = (false, eval e env) :: starEach rest env := by rfl) (hs2 : ((backTo pos (starEach rest env)).any fun x => x.1) = false := by rfl) :
    Ev W A env σ (.Call (.Attribute o name apos) (e :: rest) [] pos) d := by
  intro kp fz₀ fz ad m s Q E H k
  refine MethodCall_ (pl := pl) (h _ _ _ _ _ _ _ _ H fun v fz₁ s₁ x₁ hv => ?_) hm
  obtain ⟨t, rfl⟩ := hv.str_
  refine getMethod_builtin (typeIs_str _ _ _) PySem.F.plainAttrs_str slot ty (fun a e => nomatch e) ?_
  refine callWith_method1 (ha pos _ _ _ _ _ _ _ _ (H.ext x₁) fun vs fz₂ s₂ x₂ hvs => ?_) hs hs2
  exact hc _ _ _ _ _ ((H.ext x₁).ext x₂).heapWF x₂.inH (.cons (.str _ _) hvs) fun v' fz' s' x' hv' => k _ _ _ ((x₁.trans x₂).trans x') hv'

theorem lower_fits (z : PySem.Str) (hz : z.length ≤ 1000) : Builtin.Str.tooLong (Txt.lower z).length = false := by
  have := PyProof.Rows.len_lower z
  simp [Builtin.Str.tooLong, PySem.sizeLine_eq]; walk_at "lx"
end
end
section
section
variable {W : WP} {A : Around} {env : Env} {σ σ' : Sto}
/-- the pairs of an enumerate -/
noncomputable def enumL : Nat → List D → List D
  | _, [] => []
  | i, d :: ds => .tup [.int (i : Int), d] :: enumL (i + 1) ds
/-- an enumerate's two objects -/
noncomputable abbrev enumG (e it : Addr) (i : Int) (old : Value) (oi : Obj) : GMap := (one it oi).ov (one e { cls := .type "enumerate", dict := none, data := .fields #[.none, .bool false, .ref it, rawInt i, .none, old], slots := #[] })
/-- a name's tuple, bound in order -/
theorem asg_tup {ts : List PySem.Expr} {k : Nat} {tp : Pos} {ds : List D} {σ₁ : Sto} (hh : A.handled = none) (hb : BndL W A env ((assignEach ts env).map (·.2)) ds σ σ₁) (hl : (assignEach ts env).length = ds.length) (hst : (assignEach ts env).findIdx? (·.1) = none) : Asg W A env (.Tuple ts k tp) (.tup ds) σ σ₁ := by
  intro kp fz₀ fz ad m s v Q E H hv kont
  obtain ⟨a, vs, rfl, hT, hr⟩ := hv.isTup H.fzIn
  refine wpAny_assign_Tuple hh hT (by rw [hl, List.size_toArray, hr.length]) hst fun h' hx => ?_
  exact hb _ _ _ _ _ _ _ _ _ (H.ext (Ext.heap (t := s.toks) H.fzIn fun b o e => hx b o (Nat.ne_of_lt (Heap.lt_size e)) e)) hr fun fz' ad' m' h'' tk' H' => kont _ _ _ _ _ H'
end
end
section
variable {W : WP} {A : Around} {env : Env} {σ σ' : Sto}
end
section
variable {W : WP} {A : Around} {env : Env} {σ σ' : Sto}
end
section
noncomputable abbrev comp2 (elt t1 i1 t2 i2 : PySem.Expr) (scope : Scope) (pos : Pos) : PySem.Expr := .ListComp elt [⟨t1, i1, [], 0⟩, ⟨t2, i2, [], 0⟩] scope pos
theorem compTurn_two0 (elt t1 i1 t2 i2 : PySem.Expr) (scope : Scope) (pos : Pos) (it acc : Value) (env : Env) :
    compTurn (comp2 elt t1 i1 t2 i2 scope pos) 0 it acc env = (do
      standAt i1.pos
      match ← pyNext it with
      | none => pure (.done .next)
      | some v =>
        letOwnedTupleGo t1 it v
        assign t1 env v
        let x ← eval i2 env
        standAt i2.pos
        let x ← foldedSetIterable i2 env x
        let _ ← runOwn (.compStart (comp2 elt t1 i1 t2 i2 scope pos) 1 (← holding [x] (pyIter x)) acc env) env
        again (.compLoop (comp2 elt t1 i1 t2 i2 scope pos) 0 it acc env)) := by rfl
theorem compTurn_two1 (elt t1 i1 t2 i2 : PySem.Expr) (scope : Scope) (pos : Pos) (it acc : Value) (env : Env) :
    compTurn (comp2 elt t1 i1 t2 i2 scope pos) 1 it acc env = (do
      standAt i2.pos
      match ← pyNext it with
      | none => pure (.done .next)
      | some v =>
        letOwnedTupleGo t2 it v
        assign t2 env v
        (do let _ ← call (.builtin "list.append") [acc, ← eval elt env])
        again (.compLoop (comp2 elt t1 i1 t2 i2 scope pos) 1 it acc env)) := by rfl
section
variable {prog : Program} {w : World} {A : Around} {E : Value → Shared → Prop} {R : Result → Shared → Prop} {s : Shared}
theorem codeAny_loop2_in {elt t1 i1 t2 i2 : PySem.Expr} {scope : Scope} {pos : Pos} {it acc : Value} {env : Env} (I : Nat → Shared → Prop)
    (turn : ∀ n s, I n s → wpAny (model prog w) A (pyNext it) (fun r s₁ => match r with
      | none => R (.ok .next) s₁
      | some v => wpAny (model prog w) A (assign t2 env v) (fun _ s₂ =>
          wpAny (model prog w) A (eval elt env) (fun x s₄ =>
              wpAny (model prog w) A (call (.builtin "list.append") [acc, x]) (fun _ s₅ => ∃ m, m < n ∧ I m s₅) (notedBy (model prog w) A env fun e s' => R (.error e) s') s₄) (notedBy (model prog w) A env fun e s' => R (.error e) s') s₂) (notedBy (model prog w) A env fun e s' => R (.error e) s') s₁) (notedBy (model prog w) A env fun e s' => R (.error e) s') s)
    (n : Nat) (h : I n s) (ht : ∀ v, letOwnedTupleGo t2 it v = pure ()) :
    codeAny (model prog w) A (.compLoop (comp2 elt t1 i1 t2 i2 scope pos) 1 it acc env) R s := by
  refine codeAny_loop rfl I (fun n s hI => ?_) n h
  show wpAny _ A ((compTurn (comp2 elt t1 i1 t2 i2 scope pos) 1 it acc env).onRaise (fun x => do noteFrame x env; theTreesLotGoes x)) _ _ s
  refine wpAny_noted ?_
  rw [compTurn_two1]
  refine wpAny_bind (wpAny_standAt (wpAny_bind (wpAny_mono (turn n s hI) (fun r s₁ h₁ => ?_) fun _ _ h' => h')))
  cases r with
  | none => exact wpAny_pure h₁
  | some v =>
    refine wpAny_bind (wpAny_of_eq (ht v) ?_)
    refine wpAny_bind (wpAny_mono h₁ (fun _ s₂ h₂ => ?_) fun _ _ h' => h')
    exact wpAny_bind (wpAny_bind (wpAny_mono h₂ (fun x s₄ h₄ => wpAny_bind (wpAny_mono h₄ (fun _ s₅ h₅ => wpAny_pure (wpAny_pure ⟨rfl, h₅⟩)) fun _ _ h' => h')) fun _ _ h' => h'))
theorem codeAny_loop2_out {elt t1 i1 t2 i2 : PySem.Expr} {scope : Scope} {pos : Pos} {it acc : Value} {env : Env} (I : Nat → Shared → Prop)
    (turn : ∀ n s, I n s → wpAny (model prog w) A (pyNext it) (fun r s₁ => match r with
      | none => R (.ok .next) s₁
      | some v => wpAny (model prog w) A (assign t1 env v) (fun _ s₂ =>
          wpAny (model prog w) A (eval i2 env) (fun x s₃ => wpAny (model prog w) A (pyIter x) (fun it2 s₄ =>
            codeAny (model prog w) A (.compStart (comp2 elt t1 i1 t2 i2 scope pos) 1 it2 acc env) (fun r s' => match r with | .ok f => ∃ m, m < n ∧ I m s' | .error e => cameBackBy (model prog w) A env (notedBy (model prog w) A env fun e s' => R (.error e) s') e s') s₄)
            (notedBy (model prog w) A env fun e s' => R (.error e) s') s₃) (notedBy (model prog w) A env fun e s' => R (.error e) s') s₂) (notedBy (model prog w) A env fun e s' => R (.error e) s') s₁) (notedBy (model prog w) A env fun e s' => R (.error e) s') s)
    (n : Nat) (h : I n s) (ht : ∀ v, letOwnedTupleGo t1 it v = pure ()) (hs : ∀ x, foldedSetIterable i2 env x = pure x) :
    codeAny (model prog w) A (.compLoop (comp2 elt t1 i1 t2 i2 scope pos) 0 it acc env) R s := by
  refine codeAny_loop rfl I (fun n s hI => ?_) n h
  show wpAny _ A ((compTurn (comp2 elt t1 i1 t2 i2 scope pos) 0 it acc env).onRaise (fun x => do noteFrame x env; theTreesLotGoes x)) _ _ s
  refine wpAny_noted ?_
  rw [compTurn_two0]
  refine wpAny_bind (wpAny_standAt (wpAny_bind (wpAny_mono (turn n s hI) (fun r s₁ h₁ => ?_) fun _ _ h' => h')))
  cases r with
  | none => exact wpAny_pure h₁
  | some v =>
    refine wpAny_bind (wpAny_of_eq (ht v) ?_)
    refine wpAny_bind (wpAny_mono h₁ (fun _ s₂ h₂ => ?_) fun _ _ h' => h')
    refine wpAny_bind (wpAny_mono h₂ (fun x s₃ h₃ => wpAny_bind (wpAny_standAt (wpAny_bind (wpAny_of_eq (hs x) (wpAny_bind (wpAny_holding (wpAny_mono h₃ (fun it2 s₄ h₄ => wpAny_bind (wpAny_mono (wpAny_runOwn h₄) (fun _ s₅ h₅ => wpAny_pure ⟨rfl, h₅⟩) fun _ _ h' => h')) fun _ _ h' => h'))))))) fun _ _ h' => h')
theorem codeAny_start2 {elt t1 i1 t2 i2 : PySem.Expr} {scope : Scope} {pos : Pos} {it acc : Value} {env : Env}
    (h0 : codeAny (model prog w) A (.compLoop (comp2 elt t1 i1 t2 i2 scope pos) 1 it acc env) R s)
    (h : wpAny (model prog w) A (pyIter it) (fun it' s' => codeAny (model prog w) A (.compLoop (comp2 elt t1 i1 t2 i2 scope pos) 1 it' acc env) R s')
      (notedBy (model prog w) A env fun x s' => R (.error x) s') s) :
    codeAny (model prog w) A (.compStart (comp2 elt t1 i1 t2 i2 scope pos) 1 it acc env) R s := by
  refine codeAny_of_tree ?_
  show wpAny _ _ ((compStart (comp2 elt t1 i1 t2 i2 scope pos) 1 it acc env).onRaise (fun x => do noteFrame x env; standAt theWindowsPlace)) _ _ s
  refine wpAny_notedAt ?_
  unfold compStart
  show wpAny _ _ (ask >>= _) _ _ s
  refine wpAny_bind (wpAny_askSetting (wpAny_ite ?_))
  split
  · first
      | exact wpAny_bind (wpAny_pure (wpAny_pure (And.intro rfl h0)))
      | exact wpAny_pure (And.intro rfl h0)
  · first
      | exact wpAny_bind (wpAny_rule (wpAny_bind (wpAny_standAt (wpAny_bind (wpAny_mono h (fun it' s' h' => wpAny_pure (And.intro rfl h')) fun _ _ x => x)))))
      | (refine wpAny_bind (wpAny_rule ?_); show wpAny _ _ (standAt i2.pos >>= _) _ _ s; exact wpAny_bind (wpAny_standAt (wpAny_bind (wpAny_mono h (fun it' s' h' => wpAny_pure (And.intro rfl h')) fun _ _ x => x))))
end
end
section
section
variable {W : WP} {A : Around} {env : Env} {σ σ' σ₁ : Sto}
/-- the inner turn -/
noncomputable def IStep (W : WP) (A : Around) (env : Env) (t : PySem.Expr) (σ₁ : Sto) (elt : PySem.Expr) (d e : D) : Prop :=
  ∃ σ₂, Asg W A env t d σ₁ σ₂ ∧ (∀ p ∈ σ₁, p ∈ σ₂) ∧ Ev W A env σ₂ elt e
/-- the outer turn -/
noncomputable def OStep (W : WP) (A : Around) (env : Env) (t : PySem.Expr) (cap : Sto) (t2 i2 elt : PySem.Expr) (d : D) (es : List D) : Prop :=
  ∃ σ₁ d2 ds2, Asg W A env t d cap σ₁ ∧ (∀ p ∈ cap, p ∈ σ₁) ∧ Ev W A env σ₁ i2 d2 ∧ Iter W A d2 ds2 ∧ All2 (IStep W A env t2 σ₁ elt) ds2 es
noncomputable def codeI (W : WP) (A : Around) (t2 elt : PySem.Expr) (Dd : Addr) (cenv : Env) (N : Value → Shared → Prop) (v : Value) (P : Shared → Prop) (s : Shared) : Prop :=
  wpAny W.M A (assign t2 cenv v) (fun _ s₂ => wpAny W.M A (eval elt cenv) (fun x s₄ => wpAny W.M A (call (.builtin "list.append") [.ref Dd, x]) (fun _ s₅ => P s₅) N s₄) N s₂) N s
theorem turnI {elt t : PySem.Expr} {cenv : Env} {Dd : Addr} {N : Value → Shared → Prop} {d e : D} (h : IStep W A cenv t σ elt d e) : CTurn W cenv Dd σ (codeI W A t elt Dd cenv N) d [e] := by
  obtain ⟨σ₁, ha, hsub, hel⟩ := h
  intro kp fz₀ fz ad m s us c v P at_ H hv hz k
  refine ha _ _ _ _ _ _ _ _ _ (Ok.rebase H) hv fun fz₅ ad₅ m₅ h₅ tk₅ H₅ => ?_
  have nb : ∀ {us c} b q, fz b = some q → fz₀ b = some q ∨ (kp.ov (one Dd (lstO us c))) b = none := fun b q e => (H.fzNew b q e).imp id fun h => (GMap.ov_none (one_off (one_ne (GMap.ov_off h).1))).trans (GMap.ov_off h).2
  refine hel _ _ _ _ _ _ _ _ H₅ fun y fz₈ s₈ x₈ hy => ?_
  have H₈ := H₅.ext x₈
  obtain ⟨h₉, tk₉, e₉, _⟩ := id x₈.keeps
  subst e₉
  exact acc_append at_ ((Ok.unbase H₈ H.fz0 nb).weaken hsub) (by simp at hz; walk_at "lx") fun h' c' H' => k fz₈ ad₅ m₅ h' tk₉ [y] c' H' H₈.fz0 (.cons hy .nil)
noncomputable def code2 (W : WP) (A : Around) (elt t i1 t2 i2 : PySem.Expr) (scope : Scope) (pos : Pos) : CCode := fun Dd cenv Eo v P s =>
  wpAny W.M A (assign t cenv v) (fun _ s₂ => wpAny W.M A (eval i2 cenv) (fun x s₃ => wpAny W.M A (pyIter x) (fun it2 s₄ =>
    codeAny W.M A (.compStart (comp2 elt t i1 t2 i2 scope pos) 1 it2 (.ref Dd) cenv) (fun r s' => match r with | .ok f => P s' | .error e => cameBackBy W.M A cenv (notedBy W.M A cenv Eo) e s') s₄)
      (notedBy W.M A cenv Eo) s₃) (notedBy W.M A cenv Eo) s₂) (notedBy W.M A cenv Eo) s
theorem rule2 {elt t iter t2 i2 : PySem.Expr} {scope : Scope} {pos : Pos} (ht : ∀ it v, letOwnedTupleGo t it v = pure ()) (hs2 : ∀ cenv x, foldedSetIterable i2 cenv x = pure x) : CRule W A (comp2 elt t iter t2 i2 scope pos) (code2 W A elt t iter t2 i2 scope pos) :=
  fun I Dd cenv R Inv turn n s h => codeAny_loop2_out Inv (fun n s hI => wpAny_mono (turn n s hI) (fun r s₁ q => by
    cases r with
    | none => exact q
    | some v => exact wpAny_mono q (fun _ s₂ q => wpAny_mono q (fun _ s₃ q => wpAny_mono q (fun _ s₄ q => codeAny_mono q fun r s' q => by cases r <;> exact q) fun _ _ e => e) fun _ _ e => e) fun _ _ e => e) fun _ _ e => e) n h (fun v => ht _ v) (hs2 cenv)
theorem turn2 {elt t iter t2 i2 : PySem.Expr} {scope : Scope} {pos : Pos} {cenv : Env} {Dd : Addr} {Eo : Value → Shared → Prop} {d : D} {es : List D} (ht2 : ∀ it v, letOwnedTupleGo t2 it v = pure ()) (h : OStep W A cenv t σ t2 i2 elt d es) : CTurn W cenv Dd σ (code2 W A elt t iter t2 i2 scope pos Dd cenv Eo) d es := by
  obtain ⟨σ₁, d2, ds2, ha, hsub, hev2, hit2, hall⟩ := h
  intro kp fz₀ fz ad m s us c v P at_ H hv hz k
  refine ha _ _ _ _ _ _ _ _ _ (Ok.rebase H) hv fun fz₅ ad₅ m₅ h₅ tk₅ H₅ => ?_
  have nb : ∀ {us c} b q, fz b = some q → fz₀ b = some q ∨ (kp.ov (one Dd (lstO us c))) b = none := fun b q e => (H.fzNew b q e).imp id fun h => (GMap.ov_none (one_off (one_ne (GMap.ov_off h).1))).trans (GMap.ov_off h).2
  have fD := at_.fzN H
  refine hev2 _ _ _ _ _ _ _ _ H₅ fun v2 fz₆ s₆ x₆ hv2 => ?_
  have H₆ := H₅.ext x₆
  obtain ⟨h₇, tk₇, e₇, _⟩ := id x₆.keeps
  subst e₇
  refine hit2 _ _ _ _ _ H₆.fzIn hv2 fun I2 g h₂ tk₂ hn hk₂ hg₂ self G => ?_
  have H₈ := H₆.enter (tk := tk₂) hk₂ hn hg₂
  have at₂ : AccAt W cenv kp Dd fz₆ := ⟨at_.wf, at_.kp, AccAt.fzN ⟨at_.wf, at_.kp, fD, at_.loc, at_.cell⟩ H₆, at_.loc, at_.cell⟩
  have gD : g Dd = none := hn _ _ (H₆.kept _ _ (GMap.ov_some one_self))
  rw [← GMap.ov_comm fun b o e => one_off fun h => by rw [h, gD] at e; cases e] at H₈
  have st : All2 (CTurn W cenv Dd σ₁ (codeI W A t2 elt Dd cenv (notedBy W.M A cenv fun e s' => cameBackBy W.M A cenv (notedBy W.M A cenv Eo) e s'))) ds2 (es.map fun e => [e]) := hall.imp (fun e => [e]) fun d e h => turnI h
  have hflat : (es.map fun e => [e]).flatten = es := by
    clear st hall k hz
    induction es with
    | nil => rfl
    | cons e es ih => rw [List.map_cons, List.flatten_cons, ih]; rfl
  have inner : codeAny W.M A (.compLoop (comp2 elt t iter t2 i2 scope pos) 1 (.ref I2) (.ref Dd) cenv) (fun r s' => match r with | .ok f => P s' | .error e => cameBackBy W.M A cenv (notedBy W.M A cenv Eo) e s') { s with heap := h₂, toks := tk₂ } := by
    refine acc_loop (R := P) (code := codeI W A t2 elt Dd cenv (notedBy W.M A cenv fun e s' => cameBackBy W.M A cenv (notedBy W.M A cenv Eo) e s')) (fun Inv turn n s h => codeAny_loop2_in Inv (fun n s hI => wpAny_mono (turn n s hI) (fun r s₁ q => by cases r <;> exact q) fun _ _ e => e) n h (fun v => ht2 _ v)) at₂ (hn.dis fun b o e => H₆.kept b o ((GMap.ov_none (at_.dis b o e)).trans e)) (hn.dis H₆.fzIn) (H₆.offNew hn) gD H₈ G st (by rw [hflat]; exact hz) fun fz₉ ad₉ m₉ h₉ tk₉ vals c₉ H₉ hv₉ => ?_
    rw [hflat] at hv₉
    have nb₂ : ∀ {us c} b q, fz₆ b = some q → fz₀ b = some q ∨ (kp.ov (one Dd (lstO us c))) b = none := fun b q e => (H₆.fzNew b q e).elim (fun e => nb b q e) fun h => .inr ((GMap.ov_none (one_off (one_ne (GMap.ov_off h).1))).trans (GMap.ov_off h).2)
    exact k fz₉ ad₉ m₉ h₉ tk₉ vals c₉ ((Ok.unbase H₉ (fun b o e => H₆.fz0 b o (H.fz0 b o e)) nb₂).weaken hsub) (fun b o e => H₉.fz0 b o (H₆.fz0 b o e)) hv₉
  exact codeAny_start2 inner (self _ (fun b o e => hg₂ b o e) (fun b o e => hk₂ b o (H₆.fzIn b o e)) _ _ inner)
section
variable {n : Nat} {elt iter t t2 i2 : PySem.Expr} {scope : Scope} {cl : List (PySem.Str × Addr)} {pos : Pos} {d : D} {ds : List D} {os : List (List D)} {cap : List (PySem.Str × D)}
theorem comp_ok2 (F : FOK n A env) (he : Ev W A env σ iter d) (hi : Iter W A d ds) (hcell : ∀ y ∈ scope.names, y.2 ≠ .cell) (hkind : scope.kind = .function)
    (hcaps : ∀ C, Caps env σ (compEnvC scope cl C env) cap)
    (hstep : ∀ C, FOK n A (compEnvC scope cl C env) → All2 (fun d o => OStep W A (compEnvC scope cl C env) t (cap.map fun p => (p.1, Slot.val p.2)) t2 i2 elt d o) ds os) (hz : os.flatten.length ≤ 100000)
    (ht : ∀ it v, letOwnedTupleGo t it v = pure ()) (ht2 : ∀ it v, letOwnedTupleGo t2 it v = pure ()) (hs2 : ∀ cenv x, foldedSetIterable i2 cenv x = pure x) : CompOk W A env σ (comp2 elt t iter t2 i2 scope pos) scope cl (eval iter env) os.flatten := by
  have h := comp_start (gs := [⟨t2, i2, [], 0⟩]) F he hi (rule2 ht hs2) hcell hkind hcaps (fun C Dd Eo FC => (hstep C FC).imp id fun d o h => turn2 (Eo := Eo) (Dd := Dd) (iter := iter) (scope := scope) (pos := pos) ht2 h) (by rw [List.map_id]; exact hz)
  rw [List.map_id] at h
  exact h
end
end
end
section
section
variable {W : WP} {A : Around} {env : Env} {σ σ' : Sto}
theorem op_eqSI {x : PySem.Str} {b : Int} : Op2 W A (compareOp .Eq) (.str x) (.int b) (.bool false) := by
  intro fz s v₁ v₂ Q E hf h₁ h₂ k; obtain ⟨t, rfl⟩ := h₁.str_; obtain ⟨u, rfl⟩ := h₂.int_
  exact EqMixed.eq_str_int (k _ _ _ (Ext.refl hf) (.bool _))
/-- a list of strs: where one stands -/
theorem cv_index {ys : List PySem.Str} {x : PySem.Str} {j : Nat} (hj : ys[j]? = some x) (hno : ∀ m y, m < j → ys[m]? = some y → (y == x) = false) (hz : ys.length ≤ 1000) : CallV W A (.builtin "list.index") [.lst (ys.map D.str), .str x] (.int (j : Int)) := by
  intro fz s vs Q E hw hf hvs k
  obtain ⟨_, _, rfl, h1, h2⟩ := hvs.two
  obtain ⟨tx, rfl⟩ := h2.str_
  obtain ⟨a, o, us, n, rfl, eo, hcls, hdata, hr⟩ := h1.lst_
  have hs := hr.strs
  obtain ⟨cls, dd, data, sl⟩ := o
  simp only at hcls hdata
  subst hcls hdata
  have hl := hr.length
  rw [List.length_map] at hl
  have hget : ∀ (m : Nat) (hm : m < us.length), ∃ y t, us[m]? = some (.str y t) ∧ ys[m]? = some y := by
    intro m hm
    have hm' : m < ys.length := by walk_at "lx"
    obtain ⟨v, e1, e2⟩ := hr.get (k := m) (d := D.str ys[m]) (by simp [hm'])
    obtain ⟨t2, rfl⟩ := e2.str_
    exact ⟨_, _, e1, List.getElem?_eq_getElem hm'⟩
  have hjl : j < us.length := by
    rcases Nat.lt_or_ge j ys.length with h | h
    · walk_at "lx"
    · rw [List.getElem?_eq_none h] at hj; cases hj
  refine call_meets PySem.F.slot_list_index ⟨_, hf _ _ eo, rfl⟩ PySem.F.entry_list_index (PySem.F.args_list_index_2 _ _)
    (SeqAt.list_indexAt a us.toArray n dd sl (.str x _) (fun v => match v with | .str y _ => y == x | _ => false) j (by simpa using hjl) (by walk_at "lx") ?_ ?_) ⟨hf _ _ eo, ?_, ?_⟩
  · obtain ⟨y, t, e1, e2⟩ := hget j hjl
    rw [hj] at e2; cases e2
    have : us.toArray[j]'(by simpa using hjl) = .str x t := by
      rw [List.getElem?_eq_getElem hjl] at e1; simpa using e1
    rw [this]; simp
  · intro m hm hmj
    have hm' : m < us.length := by simpa using hm
    obtain ⟨y, t, e1, e2⟩ := hget m hm'
    have : us.toArray[m]'hm = .str y t := by
      rw [List.getElem?_eq_getElem hm'] at e1; simpa using e1
    rw [this]
    exact hno m y hmj e2
  · intro y hy
    obtain ⟨m, hm, e⟩ := List.getElem_of_mem (by simpa using hy : y ∈ us)
    obtain ⟨y', t, e1, e2⟩ := hget m hm
    rw [List.getElem?_eq_getElem hm, e] at e1
    cases e1
    exact SeqAt.EqAt.str_str y' t x _
  · exact k _ _ _ (Ext.toks hf) (.int _ _)
/-- a list's method -/
theorem ev_methL {o : PySem.Expr} {name : PySem.Str} {id : String} {apos pos : Pos} {es : List PySem.Expr} {xs : List D} {ds : List D} {d : D} {pl : Sem Bool} (h : EvF W A env σ o xs) (slot : PySem.Slot "list" name id) (ty : typeOf (.builtin id) = pure (.type "method_descriptor")) (ha : Evs W A env σ es ds)
    (hc : CallV W A (.builtin id) (.lst xs :: ds) d)
    (he : ∀ v : Value, ∀ Q E s, wpAny W.M A (spliced (backTo pos (starEach es env))) (fun vs s₁ => wpAny W.M A (call (.builtin id) (v :: vs)) Q E s₁) E s → wpAny W.M A (callWith pos (.builtin id) [v] (backTo pos (starEach es env)) []) Q E s)
    (hm : eval ((o.Attribute name apos).Call es [] pos) env = (do let ov ← eval o env; standAt apos.atName; let (f, first) ← holding [ov] (getMethod ov name pl); callWith pos f first (backTo pos (starEach es env)) []) := by rfl) :
    Ev W A env σ (.Call (.Attribute o name apos) es [] pos) d := by
  intro kp fz₀ fz ad m s Q E H k
  refine MethodCall_ (pl := pl) (h _ _ _ _ _ _ _ _ H fun a us n fz₁ s₁ x₁ ha0 hf0 ho hv => ?_) hm
  refine getMethod_builtin (T := "list") ⟨_, ho, rfl⟩ PySem.F.plainAttrs_list slot ty (fun b e => by cases e; exact ⟨_, ho, rfl⟩) ?_
  have x₁' := x₁.freeze ha0 hf0 ho
  refine he _ _ _ _ (ha pos _ _ _ _ _ _ _ _ (H.ext x₁') fun vs fz₂ s₂ x₂ hvs => ?_)
  exact hc _ _ _ _ _ ((H.ext x₁').ext x₂).heapWF x₂.inH (.cons (.lst (x₂.sub _ _ GMap.add_self) rfl rfl ((hv.mono fun b q e => GMap.add_of hf0 e).mono x₂.sub)) hvs) fun v' fz' s' x' hv' => k _ _ _ ((x₁'.trans x₂).trans x') hv'
/-- try: the body ends by itself -/
theorem x_try {body : List Stmt} {h₀ : ExceptHandler} {hs : List ExceptHandler} {pos : Pos} {o : Out} (h : X W A env σ body o) : X1 W A env σ (.Try body (h₀ :: hs) [] [] pos) o := by
  intro kp fz₀ fz ad m s Q E H p
  refine wpAny_Try_except ?_
  refine h _ _ _ _ _ _ (fun f s₁ => match f with | Flow.next => wpAny W.M A (execs [] env) Q E s₁ | f => Q f s₁) _ H ?_
  cases o with
  | next σ₁ => exact fun fz ad m h tk H' => wpAny_execs_nil (p _ _ _ _ _ H')
  | ret d => exact fun v fz h tk F hv => p _ _ _ _ F hv
end
end
section
section
variable {W : WP} {A : Around} {env : Env} {σ σ' : Sto}
/-- if c in t: t = t.replace(c, r) -/
noncomputable def inRep (t c r : PySem.Str) : PySem.Str := if (Builtin.Str.occurrences t c 0 t.length 1).isEmpty then t else Txt.replace t c r
theorem x_ifReplace {n : Nat} {x c r t : PySem.Str} {k1 k7 k8 : Nat} {p1 p2 p3 p4 p5 p6 p7 p8 p9 p10 p11 : Pos} {pl : Sem Bool} (F : FOK n A env) (hm : (x, Slot.val (.str t)) ∈ σ) (hx : env.kindOf x = some .local) (hd : (x == ("__debug__" : PySem.Str)) = false)
    (hcr : (c == r) = false) (hz : t.length + (t.length + 1) * r.length ≤ 16777216)
    (hsw : swapsWith (.Call (.Attribute (.Name x p5) "replace" p6) [.Constant (.str c) k7 p7, .Constant (.str r) k8 p8] [] p9) (some (.Name x p4)) p10.line env = pure false := by rfl)
    (he : eval ((PySem.Expr.Attribute (.Name x p5) "replace" p6).Call [.Constant (.str c) k7 p7, .Constant (.str r) k8 p8] [] p9) env = (do let ov ← eval (.Name x p5) env; standAt p6.atName; let (f, first) ← holding [ov] (getMethod ov "replace" pl); callWith p9 f first (backTo p9 (starEach [.Constant (.str c) k7 p7, .Constant (.str r) k8 p8] env)) []) := by rfl) :
    X1 W A env σ (.If (.Compare (.Constant (.str c) k1 p1) [.In] [.Name x p2] p3) [.Assign [.Name x p4] (.Call (.Attribute (.Name x p5) "replace" p6) [.Constant (.str c) k7 p7, .Constant (.str r) k8 p8] [] p9) p10] [] p11) (.next (upd σ x (.val (.str (inRep t c r))))) := by
  intro kp fz₀ fz ad m s Q E H p
  obtain ⟨v, l, hv⟩ := H.vars _ _ hm
  obtain ⟨tk, rfl⟩ := hv.str_
  · refine wpAny_If (wpAny_isTrue_Compare1 (wpAny_Constant_str ?_) rfl)
    have H₁ := H.ext (Ext.toks (t := s.toks + 1) H.fzIn)
    refine Look.ev F l H₁.ns hd (in_str (wpAny_truthy_bool ?_))
    unfold inRep at p
    by_cases hb : (Builtin.Str.occurrences t c 0 t.length 1).isEmpty = true
    · rw [if_pos hb] at p
      rw [hb, if_neg (by simp)]
      refine wpAny_execs_nil (p fz ad m s.heap (s.toks + 1) ?_)
      refine H₁.weaken fun q hq => ?_
      rcases mem_upd (show (q.1, q.2) ∈ _ from hq) with ⟨h1, h2⟩ | ⟨_, h2⟩
      · have : q = (x, Slot.val (.str t)) := Prod.ext h1 h2
        rw [this]; exact hm
      · exact h2
    · rw [if_neg hb] at p
      have hb' : (Builtin.Str.occurrences t c 0 t.length 1).isEmpty = false := by simpa using hb
      rw [hb', if_pos (by rfl)]
      refine wpAny_execs_cons (wpAny_Assign_Name (MethodCall_ (pl := pl) (Look.ev F l H₁.ns hd (getMethod_builtin (typeIs_str _ _ _) PySem.F.plainAttrs_str PySem.F.slot_str_replace PySem.F.type_str_replace (fun a e => nomatch e) ?_)) he) hsw)
      refine callWith_method1 (e := .Constant (.str c) k7 p7) (rest := [.Constant (.str r) k8 p8]) ?_ rfl rfl
      refine spliced_cons (wpAny_Constant_str (k := k7) (pos := p7) ?_)
      refine spliced_cons (wpAny_Constant_str (k := k8) (pos := p8) ?_)
      refine spliced_nil ?_
      have h1 : (s.toks + 1 : Nat) ≠ 0 := by walk_at "lx"
      have h2 : (s.toks + 1 + 1 : Nat) ≠ 0 := by walk_at "lx"
      have h3 : (s.toks + 1 : Nat) ≠ s.toks + 1 + 1 := by walk_at "lx"
      refine SC.replace (u := s.toks + 1) (v := s.toks + 1 + 1) h1 h2 h3 hcr hz fun t' k => ?_
      have H₂ := H.ext (Ext.toks (t := k) H.fzIn)
      refine wp_store F H₂ (.inl hx) (.str (Txt.replace t c r) t') fun m' h' tk H' => ?_
      exact wpAny_execs_nil (p _ _ _ _ _ H')
/-- a call of what an expression gives -/
theorem ev_callX {n k : Nat} {g : PySem.Expr} {pos : Pos} {e : PySem.Expr} {rest : List PySem.Expr} {f : Addr} {ds : List D} {d : D} {fc : Value} {od : Option Addr} {osl : Array (Option Value)} {fd : FuncData} (F : FOK n A env) (hg : Ev W A env σ g (.fn f))
    (hK : W.K.lookup f = some ⟨fc, od, .func fd, osl⟩) (ha : Evs W A env σ (e :: rest) ds) (hc : CallOk W k f ds d) (hk : k ≤ n) (hne : backTo pos (starEach (e :: rest) env) = (match backTo pos (starEach (e :: rest) env) with | (_, t) :: r => (false, t) :: r | [] => []) := by rfl)
    (hst : starEach (e :: rest) env = (false, eval e env) :: starEach rest env := by rfl)
    (he : eval (.Call g (e :: rest) [] pos) env = (do callWith pos (← eval g env) [] (backTo pos (starEach (e :: rest) env)) (backToKw pos (keywordEach [] env))) := by rfl) :
    Ev W A env σ (.Call g (e :: rest) [] pos) d := by
  intro kp fz₀ fz ad m s Q E H kont
  obtain ⟨⟨hw, Xk, T, hkk⟩, _⟩ := H.wf
  have kk : ∀ b o, hw.get? b = some o → s.heap.get? b = some o := fun b o e => H.kept _ _ (hkk _ _ e)
  refine Call_ (hg _ _ _ _ _ _ _ _ H fun v fz₁ s₁ x₁ hv => ?_) he
  have H₁ := H.ext x₁
  obtain rfl := hv.fn_
  · refine callWith_function (o := ⟨fc, od, .func fd, osl⟩) (fd := fd) ?_
    have ha' := ha pos
    rw [hst] at ha' ⊢
    refine evalArgs_plain (ha' _ _ _ _ _ _ _ _ H₁ fun vs fz' s' x' hvs => ⟨⟨?_, rfl⟩, ?_⟩)
    · exact kGet x'.keeps (kGet x₁.keeps ((Xk.keeps kk) _ _ hK))
    · rw [List.nil_append]
      have hh := F.hh; have hdp := F.dp; have hun := F.un
      exact hc A F.hh (by walk_at "lx") (by walk_at "lx") _ _ _ _ _ (H₁.ext x').heapWF x'.inH hvs fun v fz'' s'' x'' hv' => kont _ _ _ ((x₁.trans x').trans x'') hv'
end
end
section
/-- a table of the program's -/
noncomputable def tabLook (T : List (PySem.Str × Int)) (x : PySem.Str) : Option Int := match T with
  | [] => none
  | (a, n) :: r => if a = x then some n else tabLook r x
noncomputable abbrev tabD (T : List (PySem.Str × Int)) : List (PyData × PyData) := (T.map fun p => (p.1, PyData.int p.2)).map fun p => (PyData.str p.1, p.2)
theorem lookup_tab (x : PySem.Str) : ∀ T : List (PySem.Str × Int), Spec.lookup (PyData.str x) (tabD T) = (tabLook T x).map PyData.int
  | [] => rfl
  | (a, n) :: r => by
    have ih := lookup_tab x r
    show (if Spec.same (.str a) (.str x) then some (PyData.int n) else Spec.lookup (PyData.str x) (tabD r)) = (if a = x then some n else tabLook r x).map PyData.int
    rw [ih]
    by_cases h : a = x
    · rw [if_pos h, if_pos (by simp [Spec.same, h])]; rfl
    · rw [if_neg h, if_neg (by simp [Spec.same, h])]
section
variable {W : WP} {A : Around} {env : Env} {σ σ' : Sto}
noncomputable def HasTab (W : WP) (a : Addr) (T : List (PySem.Str × Int)) : Prop := ∀ h : Heap, W.K.In h → StrTab W.prog W.w h a (tabD T)
theorem HasTab.at {a : Addr} {T : List (PySem.Str × Int)} (hT : HasTab W a T) {kp fz₀ fz : GMap} {ad : PySem.Str → Addr} {m : PySem.Str → Option Value} {s : Shared} (H : Ok W env kp fz₀ σ fz ad m s) : StrTab W.prog W.w s.heap a (tabD T) := by
  obtain ⟨⟨hw, Xk, _, hkk⟩, _⟩ := H.wf
  exact hT _ (Xk.keeps fun b o e => H.kept _ _ (hkk _ _ e))
theorem tr_notInTab {n : Nat} {e : PySem.Expr} {y : PySem.Str} {p pos : Pos} {a : Addr} {T : List (PySem.Str × Int)} {x : PySem.Str} (F : FOK n A env) (hT : HasTab W a T) (hy : env.kindOf y = some .globalImplicit) (hv : nsIn W.K mainGlobals y = some (some (.ref a))) (hd : (y == ("__debug__" : PySem.Str)) = false) (h : Ev W A env σ e (.str x)) :
    Tr W A env σ (.Compare e [.NotIn] [.Name y p] pos) (!(tabLook T x).isSome) := by
  intro kp fz₀ fz ad m s Q E H k
  refine wpAny_isTrue_Compare1 (h _ _ _ _ _ _ _ _ H fun v₁ fz₁ s₁ x₁ hv₁ => ?_) rfl
  have hg : Ev W A env σ (.Name y p) (.fn a) := ev_glob F hy hv hd (fun fz => VH.fn a)
  refine hg _ _ _ _ _ _ _ _ (H.ext x₁) fun v₂ fz₂ s₂ x₂ hv₂ => ?_
  obtain ⟨t₁, rfl⟩ := hv₁.str_
  obtain rfl := hv₂.fn_
  refine notin_strTab (hT.at ((H.ext x₁).ext x₂)) (wpAny_truthy_bool ?_)
  rw [lookup_tab]
  have e : ((tabLook T x).map PyData.int).isSome = (tabLook T x).isSome := by cases tabLook T x <;> rfl
  rw [e]
  exact k _ _ ((x₁.trans x₂).trans (Ext.toks x₂.inH))
noncomputable def tabOr (T : List (PySem.Str × Int)) (x y : PySem.Str) : D := match tabLook T x with
  | some n => .int n
  | none => .str y
theorem ev_getTab {n : Nat} {e₁ e₂ : PySem.Expr} {y : PySem.Str} {p apos pos : Pos} {a : Addr} {T : List (PySem.Str × Int)} {x z : PySem.Str} {pl : Sem Bool} (F : FOK n A env) (hT : HasTab W a T) (hy : env.kindOf y = some .globalImplicit) (hv : nsIn W.K mainGlobals y = some (some (.ref a))) (hd : (y == ("__debug__" : PySem.Str)) = false) (h₁ : Ev W A env σ e₁ (.str x)) (h₂ : Ev W A env σ e₂ (.str z))
    (hs : starEach [e₁, e₂] env = (false, eval e₁ env) :: starEach [e₂] env := by rfl) (hs1 : starEach [e₂] env = (false, eval e₂ env) :: starEach [] env := by rfl) (hs2 : ((backTo pos (starEach [e₂] env)).any fun x => x.1) = false := by rfl)
    (hm : eval (((PySem.Expr.Name y p).Attribute "get" apos).Call [e₁, e₂] [] pos) env = (do let ov ← eval (.Name y p) env; standAt apos.atName; let (f, first) ← holding [ov] (getMethod ov "get" pl); callWith pos f first (backTo pos (starEach [e₁, e₂] env)) []) := by rfl) :
    Ev W A env σ (.Call (.Attribute (.Name y p) "get" apos) [e₁, e₂] [] pos) (tabOr T x z) := by
  intro kp fz₀ fz ad m s Q E H k
  have hg : Ev W A env σ (.Name y p) (.fn a) := ev_glob F hy hv hd (fun fz => VH.fn a)
  refine MethodCall_ (pl := pl) (hg _ _ _ _ _ _ _ _ H fun v fz₁ s₁ x₁ hv₁ => ?_) hm
  obtain rfl := hv₁.fn_
  have H₁ := H.ext x₁
  refine getMethod_tab_any (knd := PySem.strKind W.prog W.w) (enc := PyData.str) (by rfl) (hT.at H₁) ?_
  refine callWith_method1 (e := e₁) (rest := [e₂]) ?_ hs hs2
  refine evs_cons h₁ (evs_cons h₂ evs_nil hs1) hs pos _ _ _ _ _ _ _ _ H₁ fun vs fz₂ s₂ x₂ hvs => ?_
  obtain ⟨_, _, rfl, v1, v2⟩ := hvs.two
  obtain ⟨t1, rfl⟩ := v1.str_
  obtain ⟨t2, rfl⟩ := v2.str_
  refine call_get2_strTab (hT.at (H₁.ext x₂)) (PyProof.V.Flat.str _ _) fun v hfl => ?_
  rw [lookup_tab] at hfl
  refine k v _ _ ((x₁.trans x₂).trans (Ext.toks x₂.inH)) ?_
  unfold tabOr
  cases ht : tabLook T x with
  | none => rw [ht] at hfl; obtain ⟨t, rfl⟩ := PyProof.V.Flat.str_inv hfl; exact .str _ _
  | some n => rw [ht] at hfl; obtain ⟨t, rfl⟩ := PyProof.V.Flat.int_inv hfl; exact .int _ _
end
end
section
section
variable {W : WP} {A : Around} {env : Env} {σ σ' : Sto}
theorem Ok.put {kp fz₀ fz g : GMap} {ad : PySem.Str → Addr} {m : PySem.Str → Option Value} {s : Shared} (H : Ok W env kp fz₀ σ fz ad m s) (d1 : Dis g kp) (d0 : Dis g fz) (of : OffEnv g env) (ow : ∀ y es, (y, Slot.own es) ∈ σ → g (ad y) = none) (hg : ∀ b o, g b = some o → s.heap.get? b = some o) : Ok W env (kp.ov g) fz σ fz ad m s :=
  { H with wf := H.wf.mono fun b o e => (GMap.ov_none (d1 b o e)).trans e, kept := fun b o e => (GMap.ov_eq e).elim (hg b o) fun e => H.kept b o e.2, fz0 := fun _ _ e => e, fzNew := fun _ _ e => .inl e, nsK := (GMap.ov_none of.1).trans H.nsK, own := fun y es h => ⟨(GMap.ov_none (ow y es h)).trans (H.own y es h).1, (H.own y es h).2⟩, cfree := fun x c h hl => ⟨(GMap.ov_none (of.2 x c h)).trans (H.cfree x c h hl).1, (H.cfree x c h hl).2⟩ }
end
end
section
section
variable {W : WP} {A : Around} {env : Env} {σ σ' : Sto}
theorem pick_take {fz : GMap} {vs : List Value} {xs : List D} {j : Nat} (hv : VHs fz vs xs) : VHs fz (slicePick vs.toArray none (some (j : Int)) none).toList (xs.take j) := by
  have e : sliceBounds none (some (j : Int)) none vs.toArray.size = (((0 : Nat) : Int), ((min j vs.toArray.size : Nat) : Int), 1) := by
    unfold sliceBounds
    simp
    walk_at "lx"
  rw [kmk_pick_nat _ e]
  have h2 : xs.take j = xs.take (min j vs.toArray.size) := by
    rw [List.size_toArray, hv.length]
    rcases Nat.le_total j xs.length with h | h
    · rw [Nat.min_eq_left h]
    · rw [Nat.min_eq_right h, List.take_of_length_le h, List.take_of_length_le (Nat.le_refl _)]
  rw [h2]
  simpa using hv.take (min j vs.toArray.size)
theorem ev_slTL {value hi : PySem.Expr} {p pos : Pos} {xs : List D} {k : Nat} (h : Ev W A env σ value (.lst xs)) (hl : Ev W A env σ hi (.int (k : Int))) (hz : xs.length ≤ 1000) : Ev W A env σ (.Subscript value (.Slice none (some hi) none p) pos) (.lst (xs.take k)) :=
  ev_sliceL h evp_nil (evp_int hl) (by walk_at "lx") fun fz vs hv => pick_take hv
end
end
section
section
variable {W : WP} {A : Around} {env : Env} {σ : Sto}
theorem ev_lenS {n : Nat} {p pos : Pos} {e0 : PySem.Expr} {x : PySem.Str} (F : FOK n A env) (hx : env.kindOf (PySem.Str.ofString "len") = some .globalImplicit) (hv : nsIn W.K mainGlobals (PySem.Str.ofString "len") = some none) (h0 : Ev W A env σ e0 (.str x)) (q0 : x.length < 2 ^ 62)
    (s0 : starEach [e0] env = (false, eval e0 env) :: starEach [] env := by rfl) (hs2 : ((backTo pos (starEach [] env)).any fun x => x.1) = false := by rfl) :
    Ev W A env σ (.Call (.Name (PySem.Str.ofString "len") p) [e0] [] pos) (.int x.length) :=
  ev_callB F hx hv boot_len (by decide) (by decide) (evs_cons h0 (evs_nil) s0) (cv_lenS q0) s0 hs2
theorem ev_lenL {n : Nat} {p pos : Pos} {e0 : PySem.Expr} {x : List D} (F : FOK n A env) (hx : env.kindOf (PySem.Str.ofString "len") = some .globalImplicit) (hv : nsIn W.K mainGlobals (PySem.Str.ofString "len") = some none) (h0 : Ev W A env σ e0 (.lst x)) (q0 : x.length < 2 ^ 62)
    (s0 : starEach [e0] env = (false, eval e0 env) :: starEach [] env := by rfl) (hs2 : ((backTo pos (starEach [] env)).any fun x => x.1) = false := by rfl) :
    Ev W A env σ (.Call (.Name (PySem.Str.ofString "len") p) [e0] [] pos) (.int x.length) :=
  ev_callB F hx hv boot_len (by decide) (by decide) (evs_cons h0 (evs_nil) s0) (cv_lenL q0) s0 hs2
theorem ev_rng1 {n : Nat} {p pos : Pos} {e0 : PySem.Expr} {b : Int} (F : FOK n A env) (hx : env.kindOf (PySem.Str.ofString "range") = some .globalImplicit) (hv : nsIn W.K mainGlobals (PySem.Str.ofString "range") = some none) (h0 : Ev W A env σ e0 (.int b)) 
    (s0 : starEach [e0] env = (false, eval e0 env) :: starEach [] env := by rfl) (hs2 : ((backTo pos (starEach [] env)).any fun x => x.1) = false := by rfl) :
    Ev W A env σ (.Call (.Name (PySem.Str.ofString "range") p) [e0] [] pos) (.rng 0 b 1) :=
  ev_callT F hx hv boot_range (by decide) (by decide) (evs_cons h0 (evs_nil) s0) cv_rng1 s0 hs2
theorem ev_rng2 {n : Nat} {p pos : Pos} {e0 e1 : PySem.Expr} {a b : Int} (F : FOK n A env) (hx : env.kindOf (PySem.Str.ofString "range") = some .globalImplicit) (hv : nsIn W.K mainGlobals (PySem.Str.ofString "range") = some none) (h0 : Ev W A env σ e0 (.int a)) (h1 : Ev W A env σ e1 (.int b)) 
    (s0 : starEach [e0, e1] env = (false, eval e0 env) :: starEach [e1] env := by rfl) (s1 : starEach [e1] env = (false, eval e1 env) :: starEach [] env := by rfl) (hs2 : ((backTo pos (starEach [e1] env)).any fun x => x.1) = false := by rfl) :
    Ev W A env σ (.Call (.Name (PySem.Str.ofString "range") p) [e0, e1] [] pos) (.rng a b 1) :=
  ev_callT F hx hv boot_range (by decide) (by decide) (evs_cons h0 (evs_cons h1 (evs_nil) s1) s0) cv_rng2 s0 hs2
theorem ev_rng3 {n : Nat} {p pos : Pos} {e0 e1 e2 : PySem.Expr} {a b c : Int} (F : FOK n A env) (hx : env.kindOf (PySem.Str.ofString "range") = some .globalImplicit) (hv : nsIn W.K mainGlobals (PySem.Str.ofString "range") = some none) (h0 : Ev W A env σ e0 (.int a)) (h1 : Ev W A env σ e1 (.int b)) (h2 : Ev W A env σ e2 (.int c)) (q0 : c ≠ 0) (q1 : Builtin.divisionGoesByPylong (b - a) c = false)
    (s0 : starEach [e0, e1, e2] env = (false, eval e0 env) :: starEach [e1, e2] env := by rfl) (s1 : starEach [e1, e2] env = (false, eval e1 env) :: starEach [e2] env := by rfl) (s2 : starEach [e2] env = (false, eval e2 env) :: starEach [] env := by rfl) (hs2 : ((backTo pos (starEach [e1, e2] env)).any fun x => x.1) = false := by rfl) :
    Ev W A env σ (.Call (.Name (PySem.Str.ofString "range") p) [e0, e1, e2] [] pos) (.rng a b c) :=
  ev_callT F hx hv boot_range (by decide) (by decide) (evs_cons h0 (evs_cons h1 (evs_cons h2 (evs_nil) s2) s1) s0) (cv_rng3 q0 q1) s0 hs2
theorem ev_intc {n : Nat} {p pos : Pos} {e0 : PySem.Expr} {a : Int} (F : FOK n A env) (hx : env.kindOf (PySem.Str.ofString "int") = some .globalImplicit) (hv : nsIn W.K mainGlobals (PySem.Str.ofString "int") = some none) (h0 : Ev W A env σ e0 (.int a)) 
    (s0 : starEach [e0] env = (false, eval e0 env) :: starEach [] env := by rfl) (hs2 : ((backTo pos (starEach [] env)).any fun x => x.1) = false := by rfl) :
    Ev W A env σ (.Call (.Name (PySem.Str.ofString "int") p) [e0] [] pos) (.int a) :=
  ev_callT F hx hv boot_int (by decide) (by decide) (evs_cons h0 (evs_nil) s0) cv_int s0 hs2
theorem ev_abs {n : Nat} {p pos : Pos} {e0 : PySem.Expr} {a : Int} (F : FOK n A env) (hx : env.kindOf (PySem.Str.ofString "abs") = some .globalImplicit) (hv : nsIn W.K mainGlobals (PySem.Str.ofString "abs") = some none) (h0 : Ev W A env σ e0 (.int a)) 
    (s0 : starEach [e0] env = (false, eval e0 env) :: starEach [] env := by rfl) (hs2 : ((backTo pos (starEach [] env)).any fun x => x.1) = false := by rfl) :
    Ev W A env σ (.Call (.Name (PySem.Str.ofString "abs") p) [e0] [] pos) (.int (if a < 0 then -a else a)) :=
  ev_callB F hx hv boot_abs (by decide) (by decide) (evs_cons h0 (evs_nil) s0) cv_abs s0 hs2
theorem ev_sum {n : Nat} {p pos : Pos} {e0 : PySem.Expr} {ns : List Int} (F : FOK n A env) (hx : env.kindOf (PySem.Str.ofString "sum") = some .globalImplicit) (hv : nsIn W.K mainGlobals (PySem.Str.ofString "sum") = some none) (h0 : Ev W A env σ e0 (.lst (ns.map D.int))) 
    (s0 : starEach [e0] env = (false, eval e0 env) :: starEach [] env := by rfl) (hs2 : ((backTo pos (starEach [] env)).any fun x => x.1) = false := by rfl) :
    Ev W A env σ (.Call (.Name (PySem.Str.ofString "sum") p) [e0] [] pos) (.int ns.sum) :=
  ev_callB F hx hv boot_sum (by decide) (by decide) (evs_cons h0 (evs_nil) s0) (cv_sum (FOK.hh F)) s0 hs2
theorem ev_min {n : Nat} {p pos : Pos} {e0 e1 : PySem.Expr} {a b : Int} (F : FOK n A env) (hx : env.kindOf (PySem.Str.ofString "min") = some .globalImplicit) (hv : nsIn W.K mainGlobals (PySem.Str.ofString "min") = some none) (h0 : Ev W A env σ e0 (.int a)) (h1 : Ev W A env σ e1 (.int b)) 
    (s0 : starEach [e0, e1] env = (false, eval e0 env) :: starEach [e1] env := by rfl) (s1 : starEach [e1] env = (false, eval e1 env) :: starEach [] env := by rfl) (hs2 : ((backTo pos (starEach [e1] env)).any fun x => x.1) = false := by rfl) :
    Ev W A env σ (.Call (.Name (PySem.Str.ofString "min") p) [e0, e1] [] pos) (.int (if b < a then b else a)) :=
  ev_callB F hx hv boot_min (by decide) (by decide) (evs_cons h0 (evs_cons h1 (evs_nil) s1) s0) (cv_min (FOK.hh F)) s0 hs2
theorem ev_max {n : Nat} {p pos : Pos} {e0 e1 : PySem.Expr} {a b : Int} (F : FOK n A env) (hx : env.kindOf (PySem.Str.ofString "max") = some .globalImplicit) (hv : nsIn W.K mainGlobals (PySem.Str.ofString "max") = some none) (h0 : Ev W A env σ e0 (.int a)) (h1 : Ev W A env σ e1 (.int b)) 
    (s0 : starEach [e0, e1] env = (false, eval e0 env) :: starEach [e1] env := by rfl) (s1 : starEach [e1] env = (false, eval e1 env) :: starEach [] env := by rfl) (hs2 : ((backTo pos (starEach [e1] env)).any fun x => x.1) = false := by rfl) :
    Ev W A env σ (.Call (.Name (PySem.Str.ofString "max") p) [e0, e1] [] pos) (.int (if b > a then b else a)) :=
  ev_callB F hx hv boot_max (by decide) (by decide) (evs_cons h0 (evs_cons h1 (evs_nil) s1) s0) (cv_max (FOK.hh F)) s0 hs2
theorem ev_lower {o : PySem.Expr} {x : PySem.Str} {apos pos : Pos} {pl : Sem Bool} (h : Ev W A env σ o (.str x))
    (hm : eval ((o.Attribute (PySem.Str.ofString "lower") apos).Call [] [] pos) env = (do let ov ← eval o env; standAt apos.atName; let (f, first) ← holding [ov] (getMethod ov (PySem.Str.ofString "lower") pl); callWith pos f first (backTo pos (starEach [] env)) [])) (c : x.length ≤ 1000) :
    Ev W A env σ (.Call (.Attribute o (PySem.Str.ofString "lower") apos) [] [] pos) (.str (Txt.lower x)) :=
  ev_methS0 h PySem.F.slot_str_lower PySem.F.type_str_lower (cv_lower (lower_fits _ c)) hm
end
end
section
section
variable {W : WP} {A : Around} {env : Env} {σ σ' : Sto}
/-- lists of ints compared -/
theorem op_eqL {n : Nat} (F : FOK n A env) {a b : List Int} : Op2 W A (compareOp .Eq) (.lst (a.map D.int)) (.lst (b.map D.int)) (.bool (a == b)) := by
  intro fz s v₁ v₂ Q E hf h₁ h₂ k
  obtain ⟨l₁, us, rfl, i₁, r₁⟩ := h₁.isList hf
  obtain ⟨l₂, ws, rfl, i₂, r₂⟩ := h₂.isList hf
  obtain ⟨pa, e1, e2⟩ := intsToks r₁.ints
  obtain ⟨pb, e3, e4⟩ := intsToks r₂.ints
  subst e1 e3
  have hun := F.un
  by_cases hlen : pa.length = pb.length
  · have hq := SeqAt.RcAt.lists (A := A) (s := s) (e := fun j => (pa.map (·.1)).getD j 0 == (pb.map (·.1)).getD j 0) i₁ i₂ (by simpa using hlen) (by walk_at "lx") (fun j h1 h2 => by
      have h1' : j < pa.length := by simpa using h1
      have h2' : j < pb.length := by simpa using h2
      have := SeqAt.EqAt.int_int (A := A.in1) (s := s) (pa[j]).1 (pa[j]).2 (pb[j]).1 (pb[j]).2
      simpa [List.getD_eq_getElem?_getD, h1', h2'] using this)
    have e : ((List.range (pa.map fun p => Value.int p.1 p.2).toArray.size).all fun j => (pa.map (·.1)).getD j 0 == (pb.map (·.1)).getD j 0) = (a == b) := by
      have hl : (pa.map (·.1)).length = (pb.map (·.1)).length := by simpa using hlen
      rw [← e2, ← e4]
      rw [List.size_toArray, List.length_map, ← List.length_map (f := (·.1)) (as := pa)]
      generalize pa.map (·.1) = xs at hl ⊢
      generalize pb.map (·.1) = ys at hl ⊢
      rw [Bool.eq_iff_iff, List.all_eq_true, beq_iff_eq]
      constructor
      · intro h
        refine List.ext_getElem hl fun j h1 h2 => ?_
        have := h j (List.mem_range.mpr h1)
        simpa [List.getD_eq_getElem?_getD, h1, h2] using this
      · rintro rfl j _
        simp
    rw [e] at hq
    exact hq W.prog W.w E Q (k _ _ _ (Ext.refl hf) (.bool _))
  · have hq := SeqAt.RcAt.lists_lengths (A := A) (s := s) i₁ i₂ (by simpa using hlen) (by walk_at "lx")
    have e : false = (a == b) := by
      rw [← e2, ← e4]
      symm
      rw [beq_eq_false_iff_ne]
      intro h
      have := congrArg List.length h
      exact hlen (by simpa using this)
    rw [e] at hq
    exact hq W.prog W.w E Q (k _ _ _ (Ext.refl hf) (.bool _))
noncomputable def D.plain : D → Prop
  | .int _ => True
  | .str _ => True
  | _ => False
theorem eqAt_plain {fz : GMap} {s : Shared} {d : D} {v w : Value} (hd : d.plain) (hv : VH fz v d) (hw : VH fz w d) : SeqAt.EqAt A s v w true := by
  cases d with
  | int i =>
    obtain ⟨t, rfl⟩ := hv.int_
    obtain ⟨u, rfl⟩ := hw.int_
    have := SeqAt.EqAt.int_int (A := A) (s := s) i t i u
    rwa [beq_self_eq_true] at this
  | str x =>
    obtain ⟨t, rfl⟩ := hv.str_
    obtain ⟨u, rfl⟩ := hw.str_
    have := SeqAt.EqAt.str_str (A := A) (s := s) x t x u
    rwa [beq_self_eq_true] at this
  | _ => exact hd.elim
/-- a list of ints and strings against its like -/
theorem op_neSame {n : Nat} (F : FOK n A env) {ds : List D} (hp : ∀ d ∈ ds, d.plain) : Op2 W A (compareOp .NotEq) (.lst ds) (.lst ds) (.bool false) := by
  intro fz s v₁ v₂ Q E hf h₁ h₂ k
  obtain ⟨l₁, us, rfl, i₁, r₁⟩ := h₁.isList hf
  obtain ⟨l₂, ws, rfl, i₂, r₂⟩ := h₂.isList hf
  have hun := F.un
  have hlen : us.length = ws.length := by rw [r₁.length, r₂.length]
  have hq := SeqAt.RcNeAt.lists (A := A) (s := s) (e := fun _ => true) i₁ i₂ (by simpa using hlen) (by walk_at "lx") (fun j h1 h2 => by
    have h1' : j < us.length := by simpa using h1
    have hj : j < ds.length := by rw [← r₁.length]; exact h1'
    obtain ⟨v, g1, g2⟩ := r₁.get (List.getElem?_eq_getElem hj)
    obtain ⟨w, g3, g4⟩ := r₂.get (List.getElem?_eq_getElem hj)
    have h2' : j < ws.length := by simpa using h2
    rw [List.getElem?_eq_getElem h1'] at g1
    rw [List.getElem?_eq_getElem h2'] at g3
    have k1 := Option.some.inj g1
    have k2 := Option.some.inj g3
    rw [List.getElem_toArray, List.getElem_toArray, k1, k2]
    exact eqAt_plain (hp _ (List.getElem_mem hj)) g2 g4)
  have e : (!(List.range us.toArray.size).all fun _ => true) = false := by simp
  rw [e] at hq
  exact hq W.prog W.w E Q (k _ _ _ (Ext.refl hf) (.bool _))
theorem x1_weakO' {σ₁ : Sto} {st : Stmt} (h : X1 W A env σ st (.next σ₁)) (hs : ∀ p ∈ σ', p ∈ σ₁) : X1 W A env σ st (.next σ') := fun kp fz₀ fz ad m s Q E H p => h _ _ _ _ _ _ _ _ H fun fz ad m h tk H' => p _ _ _ _ _ (H'.weaken hs)
theorem x1_own {y : PySem.Str} {ds es : List D} {st : Stmt} (h : X1 W A env σ st (.next (upd σ y (.own ds)))) (e : ds = es) : X1 W A env σ st (.next (upd σ y (.own es))) := e ▸ h
theorem cstep_if {t elt : PySem.Expr} {ifs : List PySem.Expr} {d e : D} {c : Bool} {σ₁ : Sto} (ha : Asg W A env t d σ σ₁) (hk : ∀ p ∈ σ, p ∈ σ₁) (ht : Tst W A env σ₁ ifs c) (he : Ev W A env σ₁ elt e) : CStep W A env t σ ifs elt d (if c then some e else none) := by
  cases c with
  | true => exact ⟨_, ha, hk, ht, he⟩
  | false => exact ⟨_, ha, hk, ht⟩
/-- the captured cells, of whichever number -/
theorem capsN {scope : Scope} {cl : List (PySem.Str × Addr)} {cap : List (PySem.Str × D)} (h3 : ∀ C, (compEnvC scope cl C env).cells = cl) (hl : ∀ p ∈ cl, env.cells.lookup p.1 = some p.2)
    (hp : ∀ p ∈ cap, (p.1, Slot.val p.2) ∈ σ ∧ env.kindOf p.1 ≠ some .local ∧ (∀ C, (compEnvC scope cl C env).kindOf p.1 = some .cell) ∧ cl.lookup p.1 = env.cells.lookup p.1) (C : Addr) : Caps env σ (compEnvC scope cl C env) cap := by
  refine ⟨fun y c h => ?_, fun p h => ?_⟩
  · rw [h3] at h
    have hm : (y, c) ∈ cl := by
      clear hl hp h3
      induction cl with
      | nil => cases h
      | cons q r ih =>
        obtain ⟨a, b⟩ := q
        rw [List.lookup_cons] at h
        split at h
        · next hx => rw [beq_iff_eq] at hx; cases h; subst hx; exact .head _
        · exact .tail _ (ih h)
    exact hl _ hm
  · obtain ⟨a, b, c, d⟩ := hp p h
    exact ⟨a, b, c C, by rw [h3]; exact d⟩
variable {n : Nat} {elt iter t : PySem.Expr} {ifs : List PySem.Expr} {scope : Scope} {cl : List (PySem.Str × Addr)} {pos : Pos} {d : D} {ds : List D} {os : List (Option D)} {cap : List (PySem.Str × D)}
theorem x_comp {y : PySem.Str} {py spos : Pos} (F : FOK n A env) (he : Ev W A env σ iter d) (hi : Iter W A d ds) (hy : env.kindOf y = some .local) (hsw : swapsWith (.ListComp elt [⟨t, iter, ifs, 0⟩] scope pos) (some (.Name y py)) spos.line env = pure true)
    (hclos : closureFor scope env = pure cl) (hcell : ∀ y ∈ scope.names, y.2 ≠ .cell) (hkind : scope.kind = .function) (hnames : ∀ y ∈ scope.names, y.2 = .local → scope.names.lookup y.1 = some .local)
    (hcaps : ∀ C, Caps env σ (compEnvC scope cl C env) cap)
    (hstep : ∀ C, FOK n A (compEnvC scope cl C env) → All2 (fun d o => CStep W A (compEnvC scope cl C env) t (cap.map fun p => (p.1, Slot.val p.2)) ifs elt d o) ds os) (hz : (os.filterMap id).length ≤ 100000)
    (hs : ∀ x, foldedSetIterable iter env x = pure x := by intro _; rfl) (ht : ∀ it v, letOwnedTupleGo t it v = pure () := by intro _ _; rfl) :
    X1 W A env σ (.Assign [.Name y py] (.ListComp elt [⟨t, iter, ifs, 0⟩] scope pos) spos) (.next (upd σ y (.own (os.filterMap id)))) :=
  x_of_comp F (comp_ok1 F he hi hcell hkind hcaps hstep hz ht) hy hsw hclos hkind hnames hs
end
end
section
section
variable {W : WP} {A : Around} {env : Env} {σ σ' : Sto}
theorem cv_minL {ns : List Int} {M : Int} (hh : A.handled = none) (h1 : M ∈ ns) (h2 : ∀ a ∈ ns, M ≤ a) : CallV W A (.builtin "min") [.lst (ns.map D.int)] (.int M) := by
  intro fz s vs Q E hw hf hvs k
  obtain ⟨_, rfl, hv⟩ := hvs.one
  obtain ⟨a, us, rfl, l, r⟩ := hv.isList hf
  obtain ⟨xs, e1, e2⟩ := intsToks r.ints
  subst e1
  have hl : s.heap.IsList a (intItems xs.toArray) := by simpa [intItems] using l
  have hnl : ns.length = xs.length := by rw [← e2, List.length_map]
  have hp : 0 < xs.length := by rw [← hnl]; exact List.length_pos_of_mem h1
  have hnum : ∀ i, numAt xs.toArray i = ns.getD i 0 := by
    intro i
    rw [← e2]
    simp only [numAt]
    cases h : xs[i]? <;> simp [h]
  refine min_intList hh hl (by simpa using hp) fun v h' tk hv hk => ?_
  obtain ⟨t, rfl⟩ := intItems_at hv
  obtain ⟨g1, g2⟩ := argBest_lt (numAt xs.toArray) (xs.toArray.size - 1)
  have hM : numAt xs.toArray (argBest (fun i j => decide (numAt xs.toArray i < numAt xs.toArray j)) (xs.toArray.size - 1)) = M := by
    generalize argBest (fun i j => decide (numAt xs.toArray i < numAt xs.toArray j)) (xs.toArray.size - 1) = q at g1 g2
    rw [List.size_toArray] at g1 g2
    have hq : q < ns.length := by walk_at "lx"
    refine Int.le_antisymm ?_ ?_
    · obtain ⟨j, hj, rfl⟩ := List.mem_iff_getElem.mp h1
      have := g2 j (by walk_at "lx")
      rw [hnum j, List.getD_eq_getElem?_getD, List.getElem?_eq_getElem hj] at this
      exact this
    · rw [hnum q, List.getD_eq_getElem?_getD, List.getElem?_eq_getElem hq]
      exact h2 _ (List.getElem_mem hq)
  rw [hM]
  exact k _ _ _ (Ext.heap hf hk) (.int _ _)
theorem nat_ne0 (n : Nat) : ((n : Int) != 0) = (n != 0) := by
  rw [Bool.eq_iff_iff, bne_iff_ne, bne_iff_ne]; exact Int.natCast_ne_zero
/-- one bit of a number -/
theorem ev_bit {e₁ e₂ e₃ : PySem.Expr} {p1 p2 : Pos} {a b : Nat} (h₁ : Ev W A env σ e₁ (.int (a : Int))) (h₂ : Ev W A env σ e₂ (.int (b : Int))) (h₃ : Ev W A env σ e₃ (.int 1)) : Ev W A env σ (.BinOp (.BinOp e₁ .RShift e₂ p1) .BitAnd e₃ p2) (.int ((a / 2 ^ b % 2 : Nat) : Int)) := by
  have e : (((a / 2 ^ b % 2 : Nat) : Int)) = Builtin.bitAnd ((a : Int).fdiv (2 ^ (b : Int).toNat)) 1 := by
    have e1 : ((a : Int).fdiv (2 ^ (b : Int).toNat)) = ((a / 2 ^ b : Nat) : Int) := by
      rw [Int.toNat_natCast, Int.fdiv_eq_ediv_of_nonneg _ (Int.pow_nonneg (by decide))]
      push_cast
      rfl
    rw [e1]
    unfold Builtin.bitAnd
    rw [decide_eq_true (Int.natCast_nonneg _)]
    show _ = (((((a / 2 ^ b : Nat) : Int).toNat &&& (1 : Int).toNat : Nat)) : Int)
    rw [Int.toNat_natCast, show (1 : Int).toNat = 1 from rfl, Nat.and_one_is_mod]
  rw [e]
  exact ev_bin (ev_bin h₁ h₂ (op_shr (Int.natCast_nonneg _))) h₃ op_band
end
end
section
section
variable {W : WP} {A : Around} {env : Env} {σ σ' : Sto}
set_option maxHeartbeats 200000 in
/-- x, y, z = (a fresh list, what e₂ gives, what e₃ gives) -/
theorem x_tupOwn3 {n : Nat} {ts : List PySem.Expr} {k k2 : Nat} {tp tp2 pos : Pos} {e₁ e₂ e₃ : PySem.Expr} {ds : List D} {d d₃ : D} {x y z₀ : PySem.Str} (F : FOK n A env) (h₁ : EvF W A env σ e₁ ds) (h₂ : Ev W A env σ e₂ d) (h₃ : Ev W A env σ e₃ d₃) (hx : env.kindOf x = some .local) (hy : env.kindOf y = some .local) (hz₀ : env.kindOf z₀ = some .local)
    (hs : swapsWithSole [.Tuple ts k tp] (.Tuple [e₁, e₂, e₃] k2 tp2) pos.line env = pure false) (hw : swappedStores [.Tuple ts k tp] (.Tuple [e₁, e₂, e₃] k2 tp2) env = pure (some [x, y, z₀]))
    (he : starEach [e₁, e₂, e₃] env = (false, eval e₁ env) :: starEach [e₂, e₃] env := by rfl) (he2 : starEach [e₂, e₃] env = (false, eval e₂ env) :: starEach [e₃] env := by rfl) (he3 : starEach [e₃] env = (false, eval e₃ env) :: starEach [] env := by rfl) :
    X1 W A env σ (.Assign [.Tuple ts k tp] (.Tuple [e₁, e₂, e₃] k2 tp2) pos) (.next (upd (upd (upd σ z₀ (.val d₃)) y (.val d)) x (.own ds))) := by
  intro kp fz₀ fz ad m s Q E H p
  rw [exec_Assign_arm]
  refine wpAny_bind (wpAny_standAt ?_)
  rw [hs]
  refine wpAny_bind (wpAny_pure ?_)
  rw [if_neg (by decide)]
  refine wpAny_bind (wpAny_Tuple_spliced ?_)
  rw [he]
  refine spliced_cons (h₁ _ _ _ _ _ _ _ _ H fun a us nn fz₁ s₁ x₁ ha hfa hoa hd => ?_)
  rw [he2]
  have H₁ := H.ext x₁
  refine spliced_cons (h₂ _ _ _ _ _ _ _ _ H₁ fun v₂ fzm sm xm hv₂m => ?_)
  rw [he3]
  refine spliced_cons (h₃ _ _ _ _ _ _ _ _ (H₁.ext xm) fun v₃ fz₂ s₂ xn hv₃ => ?_)
  have x₂ := xm.trans xn
  have hv₂ := hv₂m.mono xn.sub
  refine spliced_nil ?_
  refine And.intro ?_ ?_
  · rw [PySem.sizeLine_eq]; simp
  rw [hw]
  refine wpAny_bind (wpAny_pure ?_)
  have H₂ := H₁.ext x₂
  have hoa₂ : s₂.heap.get? a = some { cls := .type "list", data := .seq us.toArray nn } := kGet x₂.keeps hoa
  have hfa₂ : fz₂ a = none := by
    cases q : fz₂ a with
    | none => rfl
    | some o =>
      rcases x₂.new _ _ q with h | h
      · rw [hfa] at h; cases h
      · rw [hoa] at h; cases h
  have N := H.newAddr x₁ ha
  have hla : env.locals ≠ a := fun e => by obtain ⟨o, _, _, ho, _⟩ := H.ns; rw [e, ha] at ho; cases ho
  have hca : ∀ x c, env.cells.lookup x = some c → c ≠ a := fun x c h e => by obtain ⟨_, o, g, _⟩ := H.cells x c h; rw [e, ha] at g; cases g
  have x₃ : Ext fz₂ s₂ fz₂ { s₂ with heap := s₂.heap.push { cls := .type "tuple", data := .seq (List.toArray [.ref a, v₂, v₃]) }, toks := s₂.toks } := Ext.push x₂.inH
  have hT : (s₂.heap.push { cls := .type "tuple", data := .seq (List.toArray [.ref a, v₂, v₃]) }).IsTuple s₂.heap.objs.size (List.toArray [.ref a, v₂, v₃]) := ⟨_, Heap.get?_push_size _ rfl, rfl, _, rfl⟩
  show wpAny _ A (do rule "assign.swapped-stores"; let items ← unpackItems (.ref s₂.heap.objs.size) [x, y, z₀].length none; assignInOrder ([x, y, z₀].reverse.map fun n => bindName env n) items.reverse; pure Flow.next) _ _ _
  refine wpAny_bind (wpAny_rule (wpAny_bind ?_))
  have hsz : [x, y, z₀].length = (List.toArray [Value.ref a, v₂, v₃]).size := rfl
  rw [hsz]
  refine wpAny_unpackItems_tuple F.hh hT fun h' hke => ?_
  have x₄ : Ext fz₂ s₂ fz₂ { s₂ with heap := h', toks := s₂.toks } := Ext.heap x₂.inH fun b o e => hke b o (Nat.ne_of_lt (Heap.lt_size (get_push e))) (get_push e)
  have hoa₄ : h'.get? a = some { cls := .type "list", data := .seq us.toArray nn } := kGet x₄.keeps hoa₂
  have dk : ∀ {o}, Dis (one a o) kp := fun b q e => one_off fun h => by rw [h, N.1] at e; cases e
  have df : ∀ {o}, Dis (one a o) fz₂ := fun b q e => one_off fun h => by rw [h, hfa₂] at e; cases e
  have of : ∀ {o}, OffEnv (one a o) env := ⟨one_off hla, fun x c h => one_off (hca x c h)⟩
  have H₄ := (H₂.ext x₄).put (g := one a _) dk df of (fun y es h => one_off (N.2 y es h)) fun b o e => by obtain ⟨rfl, rfl⟩ := one_eq e; exact hoa₄
  show wpAny _ A (assignInOrder [bindName env z₀, bindName env y, bindName env x] [v₃, v₂, .ref a] >>= _) _ _ _
  refine wpAny_bind ?_
  show wpAny _ A (do holding [v₂, .ref a] (bindName env z₀ v₃); assignInOrder [bindName env y, bindName env x] [v₂, .ref a]) _ _ _
  refine wpAny_bind (wpAny_holding (wpAny_bindName (wp_store F H₄ (.inl hz₀) hv₃ fun m₀ h₀ tk₀ H₀ => ?_)))
  show wpAny _ A (do holding [.ref a] (bindName env y v₂); assignInOrder [bindName env x] [.ref a]) _ _ _
  refine wpAny_bind (wpAny_holding (wpAny_bindName (wp_store F H₀ (.inl hy) hv₂ fun m' h₅ tk₅ H₅ => ?_)))
  have hoa₅ := H₅.kept _ _ (GMap.ov_some one_self)
  have H₆ := H₅.leave (tk := tk₅) H.wf dk df of (fun _ _ _ e => e) H₂.fz0 H₂.fzNew
  show wpAny _ A (do holding [] (bindName env x (.ref a)); assignInOrder [] []) _ _ _
  refine wpAny_bind (wpAny_holding (wpAny_bindName (wp_storeOwn F H₆ hx N.1 hfa₂ hoa₅ (hd.mono x₂.sub) (fun z es hz => ?_) fun ad' m'' h₇ tk₇ H₇ => ?_)))
  · rcases mem_upd hz with ⟨_, e⟩ | ⟨_, h⟩
    · cases e
    · rcases mem_upd h with ⟨_, e⟩ | ⟨_, h⟩
      · cases e
      · exact N.2 z es h
  · show wpAny _ A (pure ()) _ _ _
    refine wpAny_pure (wpAny_pure ?_)
    obtain ⟨h₈, tk₈, e₈, _⟩ := id x₁.keeps
    subst e₈
    obtain ⟨h₉, tk₉, e₉, _⟩ := id x₂.keeps
    subst e₉
    exact p _ _ _ _ _ H₇
end
end
section
/-- a dict of strings -/
noncomputable abbrev STab := List (PySem.Str × PySem.Str)
noncomputable def strD (T : STab) : List (PyData × PyData) := T.map fun p => (PyData.str p.1, PyData.str p.2)
noncomputable def lookS (T : STab) (x : PySem.Str) : Option PySem.Str := match T with
  | [] => none
  | (a, b) :: r => if a = x then some b else lookS r x
theorem lookup_S (x : PySem.Str) : ∀ T : STab, Spec.lookup (PyData.str x) (strD T) = (lookS T x).map PyData.str
  | [] => rfl
  | (a, b) :: r => by
    have ih := lookup_S x r
    show (if Spec.same (.str a) (.str x) then some (PyData.str b) else Spec.lookup (PyData.str x) (strD r)) = (if a = x then some b else lookS r x).map PyData.str
    rw [ih]
    by_cases h : a = x
    · rw [if_pos h, if_pos (by simp [Spec.same, h])]; rfl
    · rw [if_neg h, if_neg (by simp [Spec.same, h])]
theorem lookS_none {x : PySem.Str} : ∀ {T : STab}, lookS T x = none → ∀ p ∈ T, p.1 ≠ x
  | [], _, p, hp => nomatch hp
  | (a, b) :: r, h, p, hp => by
    rw [lookS] at h
    split at h
    · cases h
    · next hne =>
      rcases List.mem_cons.mp hp with rfl | hp
      · exact hne
      · exact lookS_none h p hp
theorem putD_S {T : STab} {x y : PySem.Str} (h : lookS T x = none) : PyProof.V.putD (.str x) (.str y) (strD T) = strD (T ++ [(x, y)]) := by
  unfold PyProof.V.putD
  rw [if_neg]
  · unfold strD; rw [List.map_append]; rfl
  · rw [List.any_eq_true]
    rintro ⟨p, hp, hs⟩
    unfold strD at hp
    obtain ⟨q, hq, rfl⟩ := List.mem_map.mp hp
    have := lookS_none h q hq
    simp [Spec.same, this] at hs
section
variable {W : WP} {A : Around} {env : Env} {σ σ' : Sto}
noncomputable def DicO (W : WP) (a : Addr) (T : STab) (o : Obj) : Prop := (a == sysModules) = false ∧ ∃ kvs, o.IsDictOf (PySem.strKind W.prog W.w) kvs ∧ PyProof.V.FlatPairs PyData.str kvs (strD T)
theorem DicO.tab {a : Addr} {T : STab} {o : Obj} {h : Heap} (d : DicO W a T o) (g : h.get? a = some o) : StrTab W.prog W.w h a (strD T) := by
  obtain ⟨lo, kvs, hd, hf⟩ := d
  exact TabAt.ofObj lo g hd hf
/-- statements beside a dict that changes -/
noncomputable def XD (W : WP) (A : Around) (env : Env) (a : Addr) (σ : Sto) (T : STab) (ss : List Stmt) (σ' : Sto) (T' : STab) : Prop :=
  ∀ (kp fz₀ fz : GMap) (ad : PySem.Str → Addr) (m : PySem.Str → Option Value) (s : Shared) (o : Obj) (Q : Flow → Shared → Prop) (E : Value → Shared → Prop), AccAt W env kp a fz₀ → DicO W a T o → Ok W env (kp.ov (one a o)) fz₀ σ fz ad m s →
    (∀ fz' ad' m' h' tk' o', DicO W a T' o' → Ok W env (kp.ov (one a o')) fz₀ σ' fz' ad' m' { s with heap := h', toks := tk' } → Q .next { s with heap := h', toks := tk' }) → wpAny W.M A (execs ss env) Q E s
variable {a : Addr} {T T' : STab}
theorem xd_nil (h : ∀ p ∈ σ', p ∈ σ) : XD W A env a σ T [] σ' T := fun kp fz₀ fz ad m s o Q E a d H k => wpAny_execs_nil (k _ _ _ s.heap s.toks _ d (H.weaken h))
theorem xd_cons {st : Stmt} {rest : List Stmt} {σ₁ : Sto} (h : X1 W A env σ st (.next σ₁)) (r : XD W A env a σ₁ T rest σ' T') : XD W A env a σ T (st :: rest) σ' T' := by
  intro kp fz₀ fz ad m s o Q E at_ d H k
  refine wpAny_execs_cons (h _ _ _ _ _ _ _ _ H fun fz₁ ad₁ m₁ h₁ tk₁ H₁ => ?_)
  exact r _ _ _ _ _ _ _ _ _ at_ d H₁ fun fz' ad' m' h' tk' o' d' H' => k _ _ _ _ _ _ d' H'
/-- d[k] = v, a new key -/
theorem xd_set {n : Nat} {x y z : PySem.Str} {px py pz sp pos : Pos} {u v : PySem.Str} {rest : List Stmt} (F : FOK n A env) (hx : (x, Slot.val (.fn a)) ∈ σ) (hy : (y, Slot.val (.str u)) ∈ σ) (hz : (z, Slot.val (.str v)) ∈ σ) (hn : lookS T u = none) (hl : T.length ≤ 1000)
    (dx : (x == ("__debug__" : PySem.Str)) = false) (dy : (y == ("__debug__" : PySem.Str)) = false) (dz : (z == ("__debug__" : PySem.Str)) = false) (r : XD W A env a σ (T ++ [(u, v)]) rest σ' T')
    (hsw : swapsWith (.Name z pz) (some (.Subscript (.Name x px) (.Name y py) sp)) pos.line env = pure false := by rfl) :
    XD W A env a σ T (.Assign [.Subscript (.Name x px) (.Name y py) sp] (.Name z pz) pos :: rest) σ' T' := by
  intro kp fz₀ fz ad m s o Q E at_ d H k
  refine wpAny_execs_cons ?_
  refine wpAny_Assign_Subscript (ev_name F hz dz _ _ _ _ _ _ _ _ H fun v₁ fz₁ s₁ x₁ h₁ => ?_) hsw
  refine ev_name F hx dx _ _ _ _ _ _ _ _ (H.ext x₁) fun v₂ fz₂ s₂ x₂ h₂ => ?_
  refine ev_name F hy dy _ _ _ _ _ _ _ _ ((H.ext x₁).ext x₂) fun v₃ fz₃ s₃ x₃ h₃ => ?_
  obtain rfl := h₂.fn_
  obtain ⟨t₁, rfl⟩ := h₁.str_
  obtain ⟨t₃, rfl⟩ := h₃.str_
  have H₃ := ((H.ext x₁).ext x₂).ext x₃
  have g := H₃.kept _ _ (GMap.ov_some one_self)
  obtain ⟨lo, kvs, hd, hf⟩ := d
  have hkl : kvs.length ≤ sizeLine := by
    rw [PySem.sizeLine_eq, ← hf.length]; unfold strD; rw [List.length_map]; walk_at "lx"
  refine wpAny_setItem_pairs (hsz := hkl) (PySem.strKind_is W.prog W.w u t₃) (Heap.dictOf_iff.mpr ⟨o, g, hd⟩) fun h' hm hs => ?_
  obtain ⟨o', ho', hd'⟩ := Heap.dictOf_iff.mp hm
  have d' : DicO W a (T ++ [(u, v)]) o' := ⟨lo, _, hd', by rw [← putD_S hn]; exact hf.stored PyProof.V.same_str u (.str _ _)⟩
  obtain ⟨h₄, tk₄, e₄, _⟩ := id ((kTr (kTr x₁.keeps x₂.keeps) x₃.keeps))
  subst e₄
  have H₄ := H₃.turn (g' := one a o') (h' := h') (tk := tk₄ + 1) at_.wf at_.dis at_.dis0 at_.off (fun b e => one_off (one_ne e)) (fun b q e c => (hs.2 b (one_ne e)).trans c) fun b q e => by obtain ⟨rfl, rfl⟩ := one_eq e; exact ho'
  exact r _ _ _ _ _ _ _ _ _ at_ d' H₄ fun fz' ad' m' h' tk' o' d' H' => k _ _ _ _ _ _ d' H'
/-- a run of a for beside the dict -/
noncomputable def DRun (step : D → Sto × STab → Sto × STab → Prop) : List D → Sto × STab → Sto × STab → Prop
  | [], p, q => q = p
  | d :: ds, p, q => ∃ r, step d p r ∧ DRun step ds r q
noncomputable abbrev DStep (W : WP) (A : Around) (env : Env) (a : Addr) (t : PySem.Expr) (body : List Stmt) (d : D) (p q : Sto × STab) : Prop := ∃ σ₁, Asg W A env t d p.1 σ₁ ∧ XD W A env a σ₁ p.2 body q.1 q.2
noncomputable def DInv (W : WP) (A : Around) (env : Env) (kp fz₁ g₀ : GMap) (I a : Addr) (s : Shared) (P : List D → Sto × STab → Prop) (k : Nat) (s' : Shared) : Prop :=
  ∃ es p g o fz ad m h tk, s' = { s with heap := h, toks := tk } ∧ k = es.length ∧ (∀ b, g₀ b = none → g b = none) ∧ Gen W A none I fz₁ es g ∧ DicO W a p.2 o ∧ Ok W env ((kp.ov g).ov (one a o)) fz₁ p.1 fz ad m s' ∧ P es p
theorem wp_turnD {t : PySem.Expr} {body : List Stmt} {kp fz₁ g₀ : GMap} {I : Addr} {s : Shared} {q : Sto × STab} {k : Nat} {s' : Shared} {Q : Flow → Shared → Prop} {QN : Shared → Prop} {E : Value → Shared → Prop}
    (h : DInv W A env kp fz₁ g₀ I a s (fun es p => DRun (DStep W A env a t body) es p q) k s') (at_ : AccAt W env kp a fz₁) (d1 : Dis g₀ kp) (d0 : Dis g₀ fz₁) (of : OffEnv g₀ env) (gD : g₀ a = none)
    (p : ∀ fz' ad' m' h' tk' o', DicO W a q.2 o' → Ok W env (kp.ov (one a o')) fz₁ q.1 fz' ad' m' { s with heap := h', toks := tk' } → Q .next { s with heap := h', toks := tk' })
    (hN : ∀ s₁, Q .next s₁ → QN s₁) {QS : Value → Shared → Prop} (hS : ∀ v s₁, wpAny W.M A (assign t env v) (fun _ s₂ => wpAny W.M A (execs body env) (fun f s₃ => match f with | .next => ∃ m, m < k ∧ DInv W A env kp fz₁ g₀ I a s (fun es p => DRun (DStep W A env a t body) es p q) m s₃ | .ret v => Q (.ret v) s₃ | _ => False) E s₂) E s₁ → QS v s₁) :
    Nxt W A none I QN QS E s' := by
  obtain ⟨es, pp, g, o, fz', ad', m', h', tk', rfl, rfl, hg0, G, dd, H', r⟩ := h
  have sub : ∀ {x : GMap}, Dis g₀ x → Dis g x := fun d b o e => hg0 b (d b o e)
  have com : ∀ {q : GMap} {o : Obj}, q a = none → (kp.ov q).ov (one a o) = (kp.ov (one a o)).ov q := fun hq => GMap.ov_comm fun b o' e => one_off fun h => by rw [h, hq] at e; cases e
  have gD' := hg0 _ gD
  rw [com gD'] at H'
  have wfA : WF W (kp.ov (one a o)) := at_.wf.mono fun b o e => (GMap.ov_none (at_.dis b o e)).trans e
  have dA : Dis g (kp.ov (one a o)) := fun b o e => (GMap.ov_eq e).elim (fun e => by rw [(one_eq e).1]; exact gD') fun e => sub d1 b o e.2
  have ofg : OffEnv g env := ⟨hg0 _ of.1, fun x c hc => hg0 _ (of.2 x c hc)⟩
  have gIn : FzIn g { s with heap := h', toks := tk' } := fun b o e => H'.kept b o (GMap.ov_some e)
  have dz : Dis g fz' := fun b o e => (H'.fzNew b o e).elim (sub d0 b o) fun h => (GMap.ov_off h).1
  cases es with
  | nil =>
    refine G fz' _ _ _ _ H'.fz0 H'.fzIn gIn dz fun h₅ tk₅ keep => hN _ ?_
    have e : q = pp := r
    subst e
    exact p _ _ _ h₅ tk₅ o dd (H'.turn (g' := fun _ => none) wfA dA (sub d0) ofg (fun _ _ => rfl) keep fun _ _ e => nomatch e)
  | cons d ds =>
    obtain ⟨rr, ⟨σ₁, ha, hb⟩, r⟩ := r
    refine G fz' _ _ _ _ H'.fz0 H'.fzIn gIn dz fun v fz₂ g₂ h₂ tk₂ hv hs hnew hin hd keep hg₂ G₂ => hS _ _ ?_
    have H₂ := H'.turn' (tk := tk₂) wfA dA (sub d0) ofg hd keep hg₂ hs hnew hin
    have gD₂ := hd _ gD'
    rw [← com gD₂] at H₂
    refine ha _ _ _ _ _ _ _ _ _ H₂ hv fun fz₄ ad₄ m₄ h₄ tk₄ H₄ => ?_
    have at₂ : AccAt W env (kp.ov g₂) a fz₁ := ⟨at_.wf.mono fun b o e => (GMap.ov_none (hd b (sub d1 b o e))).trans e, (GMap.ov_none gD₂).trans at_.kp, at_.fz, at_.loc, at_.cell⟩
    refine hb _ _ _ _ _ _ _ _ _ at₂ dd H₄ fun fz₅ ad₅ m₅ h₅ tk₅ o₅ dd₅ H₅ => ?_
    exact ⟨ds.length, Nat.lt_succ_self _, ds, rr, g₂, o₅, fz₅, ad₅, m₅, h₅, tk₅, rfl, rfl, fun b e => hd b (hg0 b e), G₂, dd₅, H₅, r⟩
/-- what xd_for shows -/
noncomputable def XF (W : WP) (A : Around) (env : Env) (a : Addr) (σ : Sto) (T : STab) (st : Stmt) (σ' : Sto) (T' : STab) : Prop :=
  ∀ (kp fz₀ fz : GMap) (ad : PySem.Str → Addr) (m : PySem.Str → Option Value) (s : Shared) (o : Obj) (Q : Flow → Shared → Prop) (E : Value → Shared → Prop), AccAt W env kp a fz₀ → DicO W a T o → Ok W env (kp.ov (one a o)) fz₀ σ fz ad m s →
    (∀ fz₁ fz' ad' m' h' tk' o', DicO W a T' o' → (∀ b o, fz₀ b = some o → fz₁ b = some o) → (∀ b o, fz₁ b = some o → fz₀ b = some o ∨ kp b = none) → fz₁ a = none → Ok W env (kp.ov (one a o')) fz₁ σ' fz' ad' m' { s with heap := h', toks := tk' } → Q .next { s with heap := h', toks := tk' }) → wpAny W.M A (exec st env) Q E s
theorem xf_weak {σ₁ : Sto} {st : Stmt} (h : ∀ p ∈ σ₁, p ∈ σ) (r : XF W A env a σ₁ T st σ' T') : XF W A env a σ T st σ' T' := fun _ _ _ _ _ _ _ _ _ at_ dd H p => r _ _ _ _ _ _ _ _ _ at_ dd (H.weaken h) p
/-- a for beside the dict, then nothing -/
theorem xd_for {t iter : PySem.Expr} {body : List Stmt} {pos : Pos} {d : D} {ds : List D} (he : Ev W A env σ iter d) (hi : Iter W A d ds)
    (h : DRun (DStep W A env a t body) ds (σ, T) (σ', T')) (hs : ∀ x, foldedSetIterable iter env x = pure x := by intro _; rfl) (ht : ∀ it v, letOwnedTupleGo t it v = pure () := by intro _ _; rfl) :
    XF W A env a σ T (.For t iter body [] pos) σ' T' := by
  intro kp fz₀ fz ad m s o Q E at_ dd H p
  refine wpAny_For (he _ _ _ _ _ _ _ _ H fun v fz₁ s₁ x₁ hv => hi _ _ _ _ _ x₁.inH hv fun I g h₂ tk₂ n hk₂ hg₂ _ G => ?_) hs
  have H₁ := H.ext x₁
  have H₂ := H₁.enter (tk := tk₂) hk₂ n hg₂
  obtain ⟨h₁, tk₁, e₁, _⟩ := id x₁.keeps
  subst e₁
  have gD : g a = none := n _ _ (H₁.kept _ _ (GMap.ov_some one_self))
  have hfa : fz₁ a = none := by
    cases q : fz₁ a with
    | none => rfl
    | some o' =>
      rcases H₁.fzNew a o' q with h | h
      · rw [at_.fz] at h; cases h
      · have := (GMap.ov_off h).1; rw [one_self] at this; cases this
  have com : (kp.ov g).ov (one a o) = (kp.ov (one a o)).ov g := GMap.ov_comm fun b o' e => one_off fun h => by rw [h, gD] at e; cases e
  rw [← com] at H₂
  have nd := n.dis H₁.kept
  have d1 : Dis g kp := fun b q e => nd b q ((GMap.ov_none (at_.dis b q e)).trans e)
  refine codeAny_forLoop (DInv W A env kp fz₁ g I a s fun es p => DRun (DStep W A env a t body) es p (σ', T')) (fun k s' hk => ?_) ds.length ⟨ds, (σ, T), g, o, fz₁, ad, m, h₂, tk₂, rfl, rfl, fun _ e => e, G, dd, H₂, h⟩ (fun v => ht _ v)
  exact wp_turnD (q := (σ', T')) hk ⟨at_.wf, at_.kp, hfa, at_.loc, at_.cell⟩ d1 (n.dis x₁.inH) (H₁.offNew n) gD (fun fz' ad' m' h' tk' o' d' H' => p fz₁ _ _ _ _ _ _ d' H₁.fz0 (fun b q e => (H₁.fzNew b q e).imp id fun h => (GMap.ov_off h).2) hfa H') (fun s₁ q => wpAny_execs_nil q) fun v s₁ q => wpAny_mono q (fun _ s₂ q => wpAny_mono q (fun f s₃ q => by cases f <;> first | exact q | exact q.elim) fun _ _ e => e) fun _ _ e => e
/-- the world with an object kept -/
noncomputable abbrev WP.plus (W : WP) (a : Addr) (o : Obj) : WP := { W with X := (a, o) :: W.X }
theorem Ok.plus {kp fz₀ fz : GMap} {ad : PySem.Str → Addr} {m : PySem.Str → Option Value} {s : Shared} {a : Addr} {o : Obj} (H : Ok W env kp fz₀ σ fz ad m s) (h : kp a = some o) : Ok (W.plus a o) env kp fz₀ σ fz ad m s :=
  { H with wf := ⟨H.wf.1, fun b q e => by
      have e' : List.lookup b ((a, o) :: W.X) = some q := e
      rw [List.lookup_cons] at e'
      split at e'
      · next hx => rw [beq_iff_eq] at hx; cases e'; subst hx; exact h
      · exact H.wf.2 b q e'⟩ }
/-- x = {}, then a loop that fills it, then what stands behind -/
theorem x_dict {n : Nat} {x : PySem.Str} {px pd pos : Pos} {st : Stmt} {rest : List Stmt} {σ₂ : Addr → Sto} {d : D} (F : FOK n A env) (hx : env.kindOf x = some .local)
    (hf : ∀ a, XF W A env a (upd σ x (.val (.fn a))) [] st (σ₂ a) T) (hr : ∀ a o, DicO W a T o → X (W.plus a o) A env (σ₂ a) rest (.ret d))
    (hsw : swapsWith (.Dict [] [] pd) (some (.Name x px)) pos.line env = pure false := by rfl) :
    X W A env σ (.Assign [.Name x px] (.Dict [] [] pd) pos :: st :: rest) (.ret d) := by
  intro kp fz₀ fz ad m s Q E H p
  refine wpAny_execs_cons ?_
  refine wpAny_Assign_Name (wpAny_Dict_empty ?_) hsw
  have hsz := get_fresh s.heap
  have x₁ : Ext fz s fz { s with heap := s.heap.push { cls := .type "dict", data := .dict #[] }, toks := s.toks } := Ext.push H.fzIn
  have H₁ := (H.ext x₁).rebase
  have hkp : kp s.heap.objs.size = none := by
    cases q : kp s.heap.objs.size with
    | none => rfl
    | some o => rw [H.kept _ _ q] at hsz; cases hsz
  have hfz : fz s.heap.objs.size = none := by
    cases q : fz s.heap.objs.size with
    | none => rfl
    | some o => rw [H.fzIn _ _ q] at hsz; cases hsz
  have hla : env.locals ≠ s.heap.objs.size := fun e => by obtain ⟨o, _, _, ho, _⟩ := H.ns; rw [e, hsz] at ho; cases ho
  have hca : ∀ x c, env.cells.lookup x = some c → c ≠ s.heap.objs.size := fun x c h e => by obtain ⟨_, o, g, _⟩ := H.cells x c h; rw [e, hsz] at g; cases g
  have low : (s.heap.objs.size == sysModules) = false := by
    obtain ⟨⟨hw, _, T, hk⟩, _⟩ := H.wf
    have := modules_low (T.nolimit.keeps fun b o e => H.kept _ _ (hk b o e))
    exact beq_eq_false_iff_ne.mpr (Nat.ne_of_gt this)
  obtain ⟨o, ho, hd⟩ := Heap.dictOf_iff.mp (Heap.DictOf.new (knd := PySem.strKind W.prog W.w) s.heap)
  rw [Heap.get?_push_size _ rfl] at ho
  cases ho
  have dd : DicO W s.heap.objs.size [] { cls := .type "dict", data := .dict #[] } := ⟨low, [], hd, .nil⟩
  have H₂ := H₁.put (g := one s.heap.objs.size { cls := .type "dict", data := .dict #[] }) (fun b q e => one_off fun h => by rw [h, hkp] at e; cases e) (fun b q e => one_off fun h => by rw [h, hfz] at e; cases e) ⟨one_off hla, fun x c h => one_off (hca x c h)⟩ (fun y es h => one_off fun e => by
    obtain ⟨us, nn, g, _⟩ := H.objOwn h
    rw [e, hsz] at g; cases g) fun b q e => by obtain ⟨rfl, rfl⟩ := one_eq e; exact Heap.get?_push_size _ rfl
  refine wp_store F H₂ (.inl hx) (VH.fn s.heap.objs.size) fun m' h' tk H₃ => ?_
  refine wpAny_execs_cons ?_
  refine hf s.heap.objs.size kp fz fz ad m' _ _ _ E ⟨H.wf, hkp, hfz, hla, hca⟩ dd H₃ fun fz₁ fz' ad' m'' h'' tk'' o' dd' h0 hn hfa H₄ => ?_
  refine hr _ o' dd' _ _ _ _ _ _ _ E (H₄.plus (GMap.ov_some one_self)) fun v fz₅ h₅ tk₅ F₅ hv₅ => ?_
  refine p v fz₅ h₅ tk₅ ?_ hv₅
  exact F₅.leave (fun b q e => one_off fun h => by rw [h, hkp] at e; cases e) (fun b q e => h0 b q (H.fz0 b q e)) fun b q e => (hn b q e).elim (H.fzNew b q) .inr
section
variable {n : Nat} {y : PySem.Str} {p pos : Pos} {a : Addr} {o : Obj} {e : PySem.Expr} {x v : PySem.Str}
theorem dicAt {kp fz₀ fz : GMap} {ad : PySem.Str → Addr} {m : PySem.Str → Option Value} {s : Shared} (dd : DicO W a T o) (H : Ok (W.plus a o) env kp fz₀ σ fz ad m s) : StrTab W.prog W.w s.heap a (strD T) :=
  dd.tab (H.kept _ _ (H.wf.2 a o (by show List.lookup a ((a, o) :: W.X) = some o; rw [List.lookup_cons, beq_self_eq_true])))
theorem tr_inD (F : FOK n A env) (dd : DicO W a T o) (hy : (y, Slot.val (.fn a)) ∈ σ) (hd : (y == ("__debug__" : PySem.Str)) = false) (h : Ev (W.plus a o) A env σ e (.str x)) : Tr (W.plus a o) A env σ (.Compare e [.In] [.Name y p] pos) (lookS T x).isSome := by
  intro kp fz₀ fz ad m s Q E H k
  refine wpAny_isTrue_Compare1 (h _ _ _ _ _ _ _ _ H fun v₁ fz₁ s₁ x₁ hv₁ => ?_) rfl
  refine ev_name F hy hd _ _ _ _ _ _ _ _ (H.ext x₁) fun v₂ fz₂ s₂ x₂ hv₂ => ?_
  obtain ⟨t₁, rfl⟩ := hv₁.str_
  obtain rfl := hv₂.fn_
  refine in_strTab (dicAt (W := W) dd ((H.ext x₁).ext x₂)) (wpAny_truthy_bool ?_)
  rw [lookup_S]
  have e : ((lookS T x).map PyData.str).isSome = (lookS T x).isSome := by cases lookS T x <;> rfl
  rw [e]
  exact k _ _ ((x₁.trans x₂).trans (Ext.toks x₂.inH))
theorem ev_itD (F : FOK n A env) (dd : DicO W a T o) (hy : (y, Slot.val (.fn a)) ∈ σ) (hd : (y == ("__debug__" : PySem.Str)) = false) (h : Ev (W.plus a o) A env σ e (.str x)) (hl : lookS T x = some v)
    (hs : ∀ o i, subscripted e false o i = operate [o, i] (getItem o i) := by intro _ _; rfl) (hg : ∀ w r, letTemporaryGo (.Name y p) w r = pure () := by intro _ _; rfl) : Ev (W.plus a o) A env σ (.Subscript (.Name y p) e pos) (.str v) := by
  intro kp fz₀ fz ad m s Q E H k
  refine Subscript_ (ev_name F hy hd _ _ _ _ _ _ _ _ H fun v₁ fz₁ s₁ x₁ hv₁ => h _ _ _ _ _ _ _ _ (H.ext x₁) fun v₂ fz₂ s₂ x₂ hv₂ => ?_)
  obtain rfl := hv₁.fn_
  obtain ⟨t₁, rfl⟩ := hv₂.str_
  refine item_strTab (dicAt (W := W) dd ((H.ext x₁).ext x₂)) (by rw [lookup_S, hl]; rfl) (fun w hf => ?_) (hs _ _) (hg _)
  obtain ⟨t, rfl⟩ := PyProof.V.Flat.str_inv hf
  exact k _ _ _ ((x₁.trans x₂).trans (Ext.toks x₂.inH)) (.str _ _)
end
end
end
section
section
theorem typeCall_enum2 (a b : Value) : checkTypeCall "enumerate" ⟨[a, b], []⟩ = pure () := by kernel_rfl
theorem newCall_enum2 (a b : Value) : checkBuiltinCall "enumerate.__new__" ⟨[.type "enumerate", a, b], []⟩ = pure () := by kernel_rfl
theorem meets_enum1 (l : Addr) (items : Array Value) (n : Nat) (dct : Option Addr) (sl : Array (Option Value)) (t : Tok) :
    Meets (Builtin.«enumerate.__new__» ⟨[.type "enumerate", .ref l, .int 1 t], []⟩) (fun _ R s => s.heap.get? l = some { cls := .type "list", dict := dct, data := .seq items n, slots := sl } ∧
      R (.ok (.ret (.ref (s.heap.push { cls := .type "list_iterator", data := .fields #[.ref l, .int 0 0] }).objs.size)))
        { s with heap := (s.heap.push { cls := .type "list_iterator", data := .fields #[.ref l, .int 0 0] }).push { cls := .type "enumerate", data := .fields #[.none, .bool false, .ref s.heap.objs.size, rawInt 1, .none, .none] } }) :=
  .of_wp fun prog w A R s h => by
    obtain ⟨hp, g, d, tk, os⟩ := s; obtain ⟨hl, h⟩ := h
    have hsub := PySem.sub_enumerate
    have hL : Heap.IsList (Shared.heap ⟨hp, g, d, tk, os⟩) l items := ⟨_, hl, rfl, n, rfl⟩
    wp_walk using PySem.AutoSeq1.wpAny_loadPart' hl
    refine wpAny_stack_any fun st => wpAny_pure ?_
    split
    · rename_i c _ _ _ _ _
      cases (c == Value.type "enumerate")
      · wp_walk using PySem.AutoSeq1.wpAny_loadPart' hl, wpAny_pyIter_list hL
        exact ⟨_, rfl, h⟩
      · wp_walk using PySem.AutoSeq1.wpAny_loadPart' hl, wpAny_pyIter_list hL
        exact ⟨_, rfl, h⟩
    · wp_walk using PySem.AutoSeq1.wpAny_loadPart' hl, wpAny_pyIter_list hL
      exact ⟨_, rfl, h⟩
end
end
section
section
variable {prog : Program} {w : World} {A : Around} {E : Value → Shared → Prop} {s : Shared}
/-- enumerate(a list, 1) made -/
theorem call_enum1 {l : Addr} {t : Tok} {items : Array Value} {Q : Value → Shared → Prop} (hL : s.heap.IsList l items)
    (h : ∀ h', IsEnum h' (s.heap.objs.size + 1) s.heap.objs.size 1 .none → h'.IsListIter s.heap.objs.size l 0 →
      (∀ b o, s.heap.get? b = some o → h'.get? b = some o) → Q (.ref (s.heap.objs.size + 1)) { s with heap := h' }) :
    wpAny (model prog w) A (call (.type "enumerate") [.ref l, .int 1 t]) Q E s := by
  obtain ⟨⟨c, dct, dt, sl⟩, hl, hc, n, hd⟩ := hL
  simp only at hc hd
  subst hc hd
  refine callType_new F.called_enumerate (by decide) (typeCall_enum2 _ _) (newCall_enum2 _ _) (fun obj => F.args_object_init_3 obj _ _) F.entry_enumerate_new (meets_enum1 l items n dct sl t) ⟨hl, ?_⟩
  have hz : (s.heap.push { cls := .type "list_iterator", data := .fields #[.ref l, .int 0 0] }).objs.size = s.heap.objs.size + 1 := Heap.size_push ..
  show _ ∧ _
  rw [hz]
  have he : IsEnum ((s.heap.push { cls := .type "list_iterator", data := .fields #[.ref l, .int 0 0] }).push { cls := .type "enumerate", data := .fields #[.none, .bool false, .ref s.heap.objs.size, rawInt 1, .none, .none] }) (s.heap.objs.size + 1) s.heap.objs.size 1 .none := by
    have := Heap.get?_push_size (s.heap.push { cls := .type "list_iterator", data := .fields #[.ref l, .int 0 0] }) (o := { cls := .type "enumerate", data := .fields #[.none, .bool false, .ref s.heap.objs.size, rawInt 1, .none, .none] }) rfl
    rw [hz] at this; exact this
  exact ⟨⟨_, he, rfl⟩, h _ he ⟨_, Heap.get?_push_of_some _ (Heap.get?_push_size _ rfl), rfl, rfl⟩ fun b o x => Heap.get?_push_of_some _ (Heap.get?_push_of_some _ x)⟩
/-- a walk counted from one -/
theorem draws_up {it : Addr} {fp : List Addr} {n : Nat} {P : Nat → Value → Prop} {St : Nat → Heap → Prop} (D : Draws prog w A it fp n P St) : Draws prog w A it fp (n + 1) (fun i v => ∃ j, i = j + 1 ∧ P j v) (fun i h => ∃ j, i = j + 1 ∧ St j h) where
  live := fun _ _ ⟨_, _, st⟩ => D.live _ _ st
  frame := fun _ _ _ ⟨j, e, st⟩ hk => ⟨j, e, D.frame _ _ _ st hk⟩
  item := fun i s Q E hi ⟨j, e, st⟩ hQ => D.item j s Q E (by walk_at "lx") st fun x h' tk p st' sb => hQ x h' tk ⟨j, e, p⟩ ⟨j + 1, by walk_at "lx", st'⟩ sb
  done := fun s Q E ⟨j, e, st⟩ hE => by
    have : n = j := by walk_at "lx"
    subst this
    exact D.done s Q E st hE
end
section
variable {W : WP} {A : Around} {env : Env} {σ σ' : Sto}
theorem gen_enum1 {elts : List PySem.Expr} {x1 : Nat} {pos : Pos} {fz₁ : GMap} {l e it : Addr} {ol : Obj} {us : List Value} {nl : Nat} {ds : List D} (hh : A.handled = none) (hl : fz₁ l = some ol) (hc : ol.cls = .type "list") (hd : ol.data = .seq us.toArray nl) (hr : VHs fz₁ us ds) (hei : e ≠ it) (hel : e ≠ l) (hli : l ≠ it) :
    ∀ (k j : Nat) (old : Value) (oi : Obj) (h : Heap), k + j = ds.length → h.get? it = some oi → h.IsListIter it l j → Gen W A (some (.Tuple elts x1 pos)) e fz₁ (enumL (j + 1) (ds.drop j)) (enumG e it ((j + 1 : Nat) : Int) old oi) := by
  have hul := hr.length
  have DD := draws_up (Draws.list (prog := W.prog) (w := W.w) (A := A.in1) hh it l hli us.toArray)
  intro k
  induction k with
  | zero =>
    intro j old oi h hk hoi hit
    rw [List.drop_eq_nil_of_le (by walk_at "lx")]
    intro fz s QN QS E hs hz hg dz kont
    have g1 : s.heap.get? it = some oi := hg _ _ ((GMap.ov_none (one_off (Ne.symm hei))).trans one_self)
    refine wpAny_pyNext_enum_endD DD (hg _ _ (GMap.ov_some one_self)) ⟨us.toArray.size, rfl, by obtain ⟨o, q, r⟩ := hit; rw [hoi] at q; cases q; exact ⟨_, g1, by rw [List.size_toArray, show us.length = j by walk_at "lx"]; exact r⟩, ⟨ol, hz _ _ (hs _ _ hl), hc, nl, hd⟩⟩ fun h' hx => kont h' _ fun b o q r => hx b o (one_ne (GMap.ov_off q).2) r
  | succ k ih =>
    intro j old oi h hk hoi hit
    have hlt : j < ds.length := by walk_at "lx"
    rw [List.drop_eq_getElem_cons hlt]
    intro fz s QN QS E hs hz hg dz kont
    have g1 : s.heap.get? it = some oi := hg _ _ ((GMap.ov_none (one_off (Ne.symm hei))).trans one_self)
    have gE : IsEnum s.heap e it ((j + 1 : Nat) : Int) old := hg _ _ (GMap.ov_some one_self)
    obtain ⟨v, hvi, hvv⟩ := hr.get (List.getElem?_eq_getElem hlt)
    have heH := Heap.lt_size gE
    refine wpAny_pyNext_enum_itemD DD gE ⟨j, rfl, by obtain ⟨o, q, r⟩ := hit; rw [hoi] at q; cases q; exact ⟨_, g1, r⟩, ⟨ol, hz _ _ (hs _ _ hl), hc, nl, hd⟩⟩ (by rw [List.size_toArray]; walk_at "lx") hei (by simp [hei, hel]) fun x h₃ tk₃ hP heo hst₃ ht₃ hz₃ hk₃ => ?_
    obtain ⟨j', ej, hP⟩ := hP
    have : j' = j := by walk_at "lx"
    subst this
    have hx : x = v := by
      have hvi' : us.toArray[j']? = some v := by simpa using hvi
      rw [hvi'] at hP; exact (Option.some.inj hP).symm
    subst hx
    obtain ⟨j₂, ej₂, hit₃, _⟩ := hst₃
    have : j₂ = j' + 1 := by walk_at "lx"
    subst this
    refine wpAny_letOwnedTupleGo_enum heo fun h₄ he₄ hs₄ => ?_
    replace hs₄ : Heap.SameBut e h₃ h₄ := hs₄
    have ht₄ : h₄.get? s.heap.objs.size = some { cls := .type "tuple", data := .seq (List.toArray [.int ((j' + 1 : Nat) : Int) tk₃, x]) } := (hs₄.2 _ (Nat.ne_of_gt heH)).trans ht₃
    have offs : ∀ {b : Addr} {i : Int} {old : Value} {oi : Obj}, enumG e it i old oi b = none → b ≠ e ∧ b ≠ it := fun q => ⟨one_ne (GMap.ov_off q).1, one_ne (GMap.ov_off q).2⟩
    have keep : ∀ b o, enumG e it ((j' + 1 : Nat) : Int) old oi b = none → s.heap.get? b = some o → h₄.get? b = some o := fun b o q r => (hs₄.2 b (offs q).1).trans (hk₃ b o (offs q).1 (offs q).2 r)
    have fT : fz s.heap.objs.size = none := by
      cases q : fz s.heap.objs.size with
      | none => rfl
      | some o => exact absurd (Heap.lt_size (hz _ _ q)) (Nat.lt_irrefl _)
    obtain ⟨o3, q3, r3⟩ := hit₃
    have q4 : h₄.get? it = some o3 := (hs₄.2 _ (Ne.symm hei)).trans q3
    refine kont _ (fz.add s.heap.objs.size { cls := .type "tuple", data := .seq (List.toArray [.int ((j' + 1 : Nat) : Int) tk₃, x]) }) (enumG e it ((j' + 1 + 1 : Nat) : Int) x o3) h₄ (tk₃ + 1) ?_ (fun b o q => GMap.add_of fT q) (fun b o q => ?_) (fun b o q => ?_) (fun b q => (GMap.ov_none (one_off (offs q).1)).trans (one_off (offs q).2)) keep (fun b o q => ?_) (ih (j' + 1) x o3 h₄ (by walk_at "lx") q4 ⟨o3, q4, r3⟩)
    · exact .tup GMap.add_self (.cons (.int _ _) (.cons (hvv.mono fun b o q => GMap.add_of fT (hs b o q)) .nil))
    · unfold GMap.add at q
      by_cases hb : b = s.heap.objs.size
      · right; rw [hb]; exact get_fresh _
      · rw [if_neg hb] at q; exact .inl q
    · unfold GMap.add at q
      by_cases hb : b = s.heap.objs.size
      · rw [if_pos hb] at q; cases q; rw [hb]; exact ht₄
      · rw [if_neg hb] at q; exact keep b o (dz b o q) (hz b o q)
    · rcases GMap.ov_eq q with q | ⟨_, q⟩
      · obtain ⟨rfl, rfl⟩ := one_eq q
        have : ((j' + 1 + 1 : Nat) : Int) = ((j' + 1 : Nat) : Int) + 1 := by push_cast; rfl
        rw [this]; exact he₄
      · obtain ⟨rfl, rfl⟩ := one_eq q; exact q4
noncomputable def codeE (W : WP) (A : Around) (t elt : PySem.Expr) : CCode := fun Dd cenv Eo v P s =>
  wpAny W.M A (assign t cenv v) (fun _ s₂ => wpAny W.M A (eval elt cenv) (fun x s₄ => wpAny W.M A (call (.builtin "list.append") [.ref Dd, x]) (fun _ s₅ => P s₅) (notedBy W.M A cenv Eo) s₄) (notedBy W.M A cenv Eo) s₂) (notedBy W.M A cenv Eo) s
theorem ruleE {elt iter : PySem.Expr} {elts : List PySem.Expr} {x1 : Nat} {tp : Pos} {scope : Scope} {pos : Pos} : CRuleG (some (.Tuple elts x1 tp)) W A (.ListComp elt [⟨.Tuple elts x1 tp, iter, [], 0⟩] scope pos) (codeE W A (.Tuple elts x1 tp) elt) :=
  fun I Dd cenv R Inv turn n s h => LCp.codeAny_compLoop_pair Inv (fun n s hI => wpAny_mono (turn n s hI) (fun r s₁ q => by cases r <;> exact q) fun _ _ e => e) n h
noncomputable def EStep (W : WP) (A : Around) (env : Env) (t : PySem.Expr) (cap : Sto) (elt : PySem.Expr) (d e : D) : Prop := ∃ σ₁, Asg W A env t d cap σ₁ ∧ (∀ p ∈ cap, p ∈ σ₁) ∧ Ev W A env σ₁ elt e
theorem turnE {elt t : PySem.Expr} {cenv : Env} {Dd : Addr} {Eo : Value → Shared → Prop} {d e : D} (h : EStep W A cenv t σ elt d e) : CTurn W cenv Dd σ (codeE W A t elt Dd cenv Eo) d [e] := by
  obtain ⟨σ₁, ha, hsub, hel⟩ := h
  intro kp fz₀ fz ad m s us c v P at_ H hv hz k
  refine ha _ _ _ _ _ _ _ _ _ (Ok.rebase H) hv fun fz₅ ad₅ m₅ h₅ tk₅ H₅ => ?_
  have nb : ∀ {us c} b q, fz b = some q → fz₀ b = some q ∨ (kp.ov (one Dd (lstO us c))) b = none := fun b q e => (H.fzNew b q e).imp id fun h => (GMap.ov_none (one_off (one_ne (GMap.ov_off h).1))).trans (GMap.ov_off h).2
  refine hel _ _ _ _ _ _ _ _ H₅ fun y fz₈ s₈ x₈ hy => ?_
  have H₈ := H₅.ext x₈
  obtain ⟨h₉, tk₉, e₉, _⟩ := id x₈.keeps
  subst e₉
  exact acc_append at_ ((Ok.unbase H₈ H.fz0 nb).weaken hsub) (by simp at hz; walk_at "lx") fun h' c' H' => k fz₈ ad₅ m₅ h' tk₉ [y] c' H' H₈.fz0 (.cons hy .nil)
theorem first_enum1 {n : Nat} {elts : List PySem.Expr} {x1 : Nat} {tp p1 p2 p3 : Pos} {k1 : Nat} {arg : PySem.Expr} {ds : List D} (F : FOK n A env) (hx : env.kindOf "enumerate" = some .globalImplicit) (hv : nsIn W.K mainGlobals "enumerate" = some none) (he : Ev W A env σ arg (.lst ds))
    (hs : starEach [arg, .Constant (.int 1) k1 p3] env = (false, eval arg env) :: starEach [.Constant (.int 1) k1 p3] env := by rfl) (hs1 : starEach [.Constant (.int 1) k1 p3] env = (false, eval (.Constant (.int 1) k1 p3) env) :: starEach [] env := by rfl) (hs2 : ((backTo p2 (starEach [.Constant (.int 1) k1 p3] env)).any fun x => x.1) = false := by rfl) :
    FirstOk W A env σ (.Call (.Name "enumerate" p1) [arg, .Constant (.int 1) k1 p3] [] p2) (some (.Tuple elts x1 tp)) (enumL 1 ds) := by
  intro kp fz₀ fz ad m s Q E H kont
  obtain ⟨⟨hw, Xk, T, hkk⟩, _⟩ := id H.wf
  have kk : ∀ b o, hw.get? b = some o → s.heap.get? b = some o := fun b o e => H.kept _ _ (hkk _ _ e)
  refine Call_Name rfl (Name_function_global F.hk hx (loadGlobal_builtin (env := env) (show s.heap.Ns env.globals W.mg from F.hg ▸ (T.keeps kk).g) (mg_none_of Xk T.g hv) (show s.heap.Ns env.builtins W.mb from F.hb ▸ (T.keeps kk).b) ((T.builtins "enumerate" (by decide)).trans boot_enumerate) ?_) (by decide))
  refine PyProof.Rows.callWith_type1 ?_ hs hs2
  refine (evs_cons he (evs_cons ev_int evs_nil hs1) hs) p2 _ _ _ _ _ _ _ _ H fun vs fz₁ s₁ x₁ hvs => ?_
  clear kk hkk T Xk
  obtain ⟨v, v2, rfl, hv1, hv2⟩ := hvs.two
  obtain ⟨t2, rfl⟩ := hv2.int_
  obtain ⟨l, ol, us, nl, rfl, hl, hc, hd, hr⟩ := hv1.lst_
  refine call_enum1 ⟨ol, x₁.inH _ _ hl, hc, nl, hd⟩ fun h₂ hE hI hk₂ => ?_
  have hE0 : s₁.heap.get? (s₁.heap.objs.size + 1) = none := by
    cases q : s₁.heap.get? (s₁.heap.objs.size + 1) with
    | none => rfl
    | some q' => exact absurd (Heap.lt_size q) (Nat.not_lt.mpr (Nat.le_succ _))
  have hI0 : s₁.heap.get? s₁.heap.objs.size = none := get_fresh _
  have hei : s₁.heap.objs.size + 1 ≠ s₁.heap.objs.size := Nat.succ_ne_self _
  have hlz := Heap.lt_size (x₁.inH _ _ hl)
  have hel : s₁.heap.objs.size + 1 ≠ l := Nat.ne_of_gt (Nat.lt_succ_of_lt hlz)
  have hli : l ≠ s₁.heap.objs.size := Nat.ne_of_lt hlz
  generalize s₁.heap.objs.size + 1 = e at hE hE0 hei hel ⊢
  generalize s₁.heap.objs.size = it at hE hI hI0 hei hli ⊢
  refine wpAny_pyIter_enum hE ?_
  obtain ⟨oi, hoi, _⟩ := id hI
  have n : New (enumG e it 1 .none oi) s₁.heap := fun b o q => by
    have h1 : b ≠ e := fun h => by rw [h, hE0] at q; cases q
    have h2 : b ≠ it := fun h => by rw [h, hI0] at q; cases q
    exact (GMap.ov_none (one_off h1)).trans (one_off h2)
  have hg : ∀ b o, enumG e it 1 .none oi b = some o → h₂.get? b = some o := fun b o q => by
    rcases GMap.ov_eq q with q | ⟨_, q⟩
    · obtain ⟨rfl, rfl⟩ := one_eq q; exact hE
    · obtain ⟨rfl, rfl⟩ := one_eq q; exact hoi
  have G := gen_enum1 (W := W) (elts := elts) (x1 := x1) (pos := tp) F.hh hl hc hd hr hei hel hli ds.length 0 .none oi h₂ rfl hoi hI
  exact kont e _ fz₁ s₁ h₂ s₁.toks x₁ n hk₂ hg (fun s' hg' _ QQ EE q => wpAny_pyIter_enum (hg' _ _ (GMap.ov_some one_self)) q) G
/-- [elt for i, v in enumerate(xs, 1)] -/
theorem evF_compE {n : Nat} {elt arg : PySem.Expr} {elts : List PySem.Expr} {x1 k1 : Nat} {tp p1 p2 p3 pos : Pos} {scope : Scope} {cl : List (PySem.Str × Addr)} {ds es : List D} {cap : List (PySem.Str × D)} (F : FOK n A env) (hx : env.kindOf "enumerate" = some .globalImplicit) (hv : nsIn W.K mainGlobals "enumerate" = some none) (he : Ev W A env σ arg (.lst ds))
    (hclos : closureFor scope env = pure cl) (hcell : ∀ y ∈ scope.names, y.2 ≠ .cell) (hkind : scope.kind = .function) (hnames : ∀ y ∈ scope.names, y.2 = .local → scope.names.lookup y.1 = some .local)
    (hcaps : ∀ C, Caps env σ (compEnvC scope cl C env) cap)
    (hstep : ∀ C, FOK n A (compEnvC scope cl C env) → All2 (fun d e => EStep W A (compEnvC scope cl C env) (.Tuple elts x1 tp) (cap.map fun p => (p.1, Slot.val p.2)) elt d e) (enumL 1 ds) es) (hz : es.length ≤ 100000)
    (hs : starEach [arg, .Constant (.int 1) k1 p3] env = (false, eval arg env) :: starEach [.Constant (.int 1) k1 p3] env := by rfl) (hs1 : starEach [.Constant (.int 1) k1 p3] env = (false, eval (.Constant (.int 1) k1 p3) env) :: starEach [] env := by rfl) (hs2 : ((backTo p2 (starEach [.Constant (.int 1) k1 p3] env)).any fun x => x.1) = false := by rfl)
    (hfs : ∀ x, foldedSetIterable (.Call (.Name "enumerate" p1) [arg, .Constant (.int 1) k1 p3] [] p2) env x = pure x := by intro _; rfl) :
    EvF W A env σ (.ListComp elt [⟨.Tuple elts x1 tp, .Call (.Name "enumerate" p1) [arg, .Constant (.int 1) k1 p3] [] p2, [], 0⟩] scope pos) es := by
  have e : es = (es.map fun e => [e]).flatten := by
    clear hstep hz
    induction es with
    | nil => rfl
    | cons a l ih => rw [List.map_cons, List.flatten_cons, ← ih]; rfl
  have h := comp_startG (pos := pos) (gs := []) F (first_enum1 (elts := elts) (x1 := x1) (tp := tp) (p1 := p1) F hx hv he hs hs1 hs2) ruleE hcell hkind hcaps (fun C Dd Eo FC => (hstep C FC).imp (fun e => [e]) fun d o h => turnE h) (by rw [← e]; exact hz)
  rw [← e] at h
  exact evF_of_comp h hclos hkind hnames hfs
end
end
section
section
variable {W : WP} {A : Around} {env : Env} {σ σ' : Sto}
/-- {literals}.get(x, z) -/
theorem ev_litGet {keys : List (Option PySem.Expr)} {values : List PySem.Expr} {dpos apos pos : Pos} {T : List (PySem.Str × Int)} {e₁ e₂ : PySem.Expr} {x z : PySem.Str} {pl : Sem Bool}
    (hD : litPairs keys values = some (tabD T)) (hk : strKeyed (tabD T) = true) (hn : (strKeysOf (tabD T)).Nodup) (hall : keys.all (·.isSome) = true) (hl : keys.length = values.length) (h0 : keys ≠ []) (hlen : keys.length ≤ 15)
    (h₁ : Ev W A env σ e₁ (.str x)) (h₂ : Ev W A env σ e₂ (.str z))
    (hs : starEach [e₁, e₂] env = (false, eval e₁ env) :: starEach [e₂] env := by rfl) (hs1 : starEach [e₂] env = (false, eval e₂ env) :: starEach [] env := by rfl) (hs2 : ((backTo pos (starEach [e₂] env)).any fun x => x.1) = false := by rfl)
    (hm : eval (((PySem.Expr.Dict keys values dpos).Attribute "get" apos).Call [e₁, e₂] [] pos) env = (do let ov ← eval (.Dict keys values dpos) env; standAt apos.atName; let (f, first) ← holding [ov] (getMethod ov "get" pl); callWith pos f first (backTo pos (starEach [e₁, e₂] env)) []) := by rfl) :
    Ev W A env σ (.Call (.Attribute (.Dict keys values dpos) "get" apos) [e₁, e₂] [] pos) (tabOr T x z) := by
  intro kp fz₀ fz ad m s Q E H k
  refine MethodCall_ (pl := pl) ?_ hm
  have low : sysModules < s.heap.objs.size := by
    obtain ⟨⟨hw, _, T, hk⟩, _⟩ := H.wf
    exact modules_low (T.nolimit.keeps fun b o e => H.kept _ _ (hk b o e))
  refine Dict_lits_str hD hk hn hall hl h0 hlen fun a o h₃ tk₃ ha ho hT hkeep => ?_
  obtain ⟨kvs, hd, hf⟩ := hT
  have x₁ : Ext fz s fz { s with heap := h₃, toks := tk₃ } := Ext.heap H.fzIn hkeep
  have hT : StrTab W.prog W.w h₃ a (tabD T) := TabAt.ofObj (beq_eq_false_iff_ne.mpr (Nat.ne_of_gt (Nat.lt_of_lt_of_le low ha))) ho hd hf
  have H₁ := H.ext x₁
  refine getMethod_tab_any (knd := PySem.strKind W.prog W.w) (enc := PyData.str) (by rfl) hT ?_
  refine callWith_method1 (e := e₁) (rest := [e₂]) ?_ hs hs2
  refine evs_cons h₁ (evs_cons h₂ evs_nil hs1) hs pos _ _ _ _ _ _ _ _ H₁ fun vs fz₂ s₂ x₂ hvs => ?_
  obtain ⟨_, _, rfl, v1, v2⟩ := hvs.two
  obtain ⟨t1, rfl⟩ := v1.str_
  obtain ⟨t2, rfl⟩ := v2.str_
  refine call_get2_strTab (hT.keep fun b o e => kGet x₂.keeps e) (PyProof.V.Flat.str _ _) fun v hfl => ?_
  rw [lookup_tab] at hfl
  refine k v _ _ ((x₁.trans x₂).trans (Ext.toks x₂.inH)) ?_
  unfold tabOr
  cases ht : tabLook T x with
  | none => rw [ht] at hfl; obtain ⟨t, rfl⟩ := PyProof.V.Flat.str_inv hfl; exact .str _ _
  | some n => rw [ht] at hfl; obtain ⟨t, rfl⟩ := PyProof.V.Flat.int_inv hfl; exact .int _ _
variable {n : Nat} {elt iter t t2 i2 : PySem.Expr} {scope : Scope} {cl : List (PySem.Str × Addr)} {pos : Pos} {d : D} {ds : List D} {os : List (List D)} {cap : List (PySem.Str × D)}
theorem evF_comp2 (F : FOK n A env) (he : Ev W A env σ iter d) (hi : Iter W A d ds)
    (hclos : closureFor scope env = pure cl) (hcell : ∀ y ∈ scope.names, y.2 ≠ .cell) (hkind : scope.kind = .function) (hnames : ∀ y ∈ scope.names, y.2 = .local → scope.names.lookup y.1 = some .local)
    (hcaps : ∀ C, Caps env σ (compEnvC scope cl C env) cap)
    (hstep : ∀ C, FOK n A (compEnvC scope cl C env) → All2 (fun d o => OStep W A (compEnvC scope cl C env) t (cap.map fun p => (p.1, Slot.val p.2)) t2 i2 elt d o) ds os) (hz : os.flatten.length ≤ 100000)
    (hs : ∀ x, foldedSetIterable iter env x = pure x := by intro _; rfl) (ht : ∀ it v, letOwnedTupleGo t it v = pure () := by intro _ _; rfl)
    (ht2 : ∀ it v, letOwnedTupleGo t2 it v = pure () := by intro _ _; rfl) (hs2 : ∀ cenv x, foldedSetIterable i2 cenv x = pure x := by intro _ _; rfl) :
    EvF W A env σ (comp2 elt t iter t2 i2 scope pos) os.flatten :=
  evF_of_comp (comp_ok2 F he hi hcell hkind hcaps hstep hz ht ht2 hs2) hclos hkind hnames hs
end
end
/-- a function's object, its text as the program writes it -/
noncomputable def refo (o : Obj) : List Stmt → Obj
  | .FunctionDef n a b _ _ _ sc _ _ _ :: _ => match o with
    | ⟨c, d, .func ⟨_, _, _, _, _, g, cl, dv, kv, doc, pm, an, cd, ct, bu⟩, sl⟩ => ⟨c, d, .func ⟨n, n, a, .stmts b, sc, g, cl, dv, kv, doc, pm, an, cd, ct, bu⟩, sl⟩
    | o => o
  | _ => o
noncomputable def fnAt (K : Frag) (p : Program) (q : Addr × Nat) : Addr × Obj := (q.1, refo ((K.lookup q.1).getD default) (p.main.body.drop q.2))
noncomputable def heap2 (p : Params) : Frag := List.map (fnAt (hd.heap_170 p) PySem.Challenge.rw_tp0050_02.prog) [(21, 4), (28, 5), (35, 7), (52, 59), (59, 60), (66, 61), (73, 62), (80, 63), (87, 65), (94, 66), (101, 67), (106, 68), (111, 69), (116, 70), (123, 71), (128, 72), (133, 73)] ++ hd.heap_170 p
theorem in_over {K K' : Frag} {h : Heap} (hK : K.In h) (hs : ∀ q ∈ K', K.lookup q.1 = some q.2) : (K' ++ K).In h := by
  intro a o e
  induction K' with
  | nil => exact hK a o e
  | cons q r ih =>
    obtain ⟨b, o'⟩ := q
    rw [List.cons_append, List.lookup_cons] at e
    split at e
    · next hx =>
      rw [beq_iff_eq] at hx
      cases e; subst hx
      exact hK _ _ (hs _ (.head _))
    · exact ih (fun q hq => hs q (.tail _ hq)) e
set_option maxRecDepth 100000 in
theorem heap2_in {p : Params} {h : Heap} (hK : (hd.heap_170 p).In h) : (heap2 p).In h := by
  refine in_over hK ?_
  unfold List.map
  repeat (refine List.forall_mem_cons.mpr ⟨rfl, ?_⟩)
  exact List.forall_mem_nil _
noncomputable abbrev W2 (w : World) (mean : ExcName → Option Value) (mg mb : PySem.Str → Option Value) : WP := ⟨pwS, w, heap2 w.params, hd.view_304, looseW hd.view_304 [PySem.Str.ofString "EXACT_TOKEN_TYPES"], mean, mg, mb, []⟩
local macro_rules | `(tactic| walk_at "mem") => `(tactic| with_reducible first | exact List.mem_cons_self | exact upd_self | (refine List.mem_cons_of_mem _ ?_; walk_at "mem") | (refine upd_of ?_ ?_; (· decide); (· walk_at "mem")))
local macro_rules | `(tactic| walk_at "side") => `(tactic| first | assumption | (exact IntMulOk.of_left (by decide)) | (exact IntMulOk.of_right (by decide)) | (exact PyProof.noPylong_small (by decide)) | decide | omega | (simp; done) | (simp; omega))
local macro_rules | `(tactic| walk_at "op") => `(tactic| first
  | (with_reducible first | exact op_add | exact op_sub | exact op_eqI | exact op_ltI | exact op_gtI | exact op_eqS | exact op_neg | exact op_iaddI | exact op_isubI)
  | ((with_reducible first | apply op_mod | apply op_div | apply op_mul | apply op_pow | apply op_addB | apply op_addL | apply op_imulI | apply op_iaddS); all_goals walk_at "side"))
local macro_rules | `(tactic| walk_at "ev") => `(tactic| first
  | (with_reducible first | exact ev_int | exact ev_str | exact ev_bool | exact ev_none | exact ev_byt)
  | ((with_reducible apply ev_name); (· assumption); (· walk_at "mem"); (· decide))
  | ((with_reducible apply ev_bin); (iterate 2 (· walk_at "ev")); (· walk_at "op"))
  | ((with_reducible apply ev_cmp); (iterate 2 (· walk_at "ev")); (· walk_at "op"); (· rfl))
  | ((with_reducible apply ev_un); (· walk_at "ev"); (· walk_at "op"))
  | walk_at "ev2")
local macro_rules | `(tactic| walk_at "tr") => `(tactic| first
  | ((with_reducible apply tr_cmp); (iterate 2 (· walk_at "ev")); (· walk_at "op"); (· rfl))
  | ((with_reducible apply tr_not); (· walk_at "tr"))
  | walk_at "tr2")
local macro_rules | `(tactic| walk_at "names") => `(tactic| (intro n; (repeat' (first | (refine List.forall_mem_cons.mpr ⟨?_, ?_⟩) | (exact List.forall_mem_nil _) | (left; rfl) | (right; exact ⟨rfl, rfl⟩)))))
local macro_rules | `(tactic| walk_at "evs") => `(tactic| first | (with_reducible exact evs_nil) | exact evs_cons (by walk_at "ev") (by walk_at "evs"))
local macro_rules | `(tactic| walk_at "tail") => `(tactic| ((· assumption); (· rfl); (· rfl); all_goals first | ((with_reducible show Ev _ _ _ _ _ _); walk_at "ev") | rfl | walk_at "side"))
local macro_rules | `(tactic| walk_at "ev2") => `(tactic| first
  | ((with_reducible first | apply ev_lenS | apply ev_min | apply ev_max | apply ev_rng1 | apply ev_rng2 | apply ev_rng3 | apply ev_intc | apply ev_abs | apply ev_sum); walk_at "tail")
  | ((with_reducible apply ev_lenL); walk_at "tail")
  | ((with_reducible apply ev_lower); (· walk_at "ev"); (· rfl); (· walk_at "side"))
  | ((with_reducible apply ev_glob); (· assumption); (· rfl); (· rfl); (· decide); intro fz; first | exact VH.int _ _ | exact VH.str _ _ | exact VH.fn _)
  | walk_at "ev3")
local macro_rules | `(tactic| walk_at "sub") => `(tactic| first | exact List.forall_mem_nil _ | ((refine List.forall_mem_cons.mpr ⟨?_, ?_⟩); (· walk_at "mem"); (· walk_at "sub")))
section
noncomputable def subC (x y : PySem.Str) : Int := if x == y then 0 else if Txt.lower x == Txt.lower y then 1 else 2

variable (w : World) (mean : ExcName → Option Value) (mg mb : PySem.Str → Option Value)
set_option maxHeartbeats 4000000
theorem subst_ok (x y : PySem.Str) (hx : x.length ≤ 100) (hy : y.length ≤ 100) : CallOk (W2 w mean mg mb) 1 21 [.str x, .str y] (.int (subC x y)) := by
  refine def_ok (names := [PySem.Str.ofString "ch_a", PySem.Str.ofString "ch_b"]) rfl rfl (all2 fun _ _ => rfl) (by decide) (by walk_at "names") rfl rfl rfl rfl ?_
  · intro A L F
    show X _ _ _ [(PySem.Str.ofString "ch_a", Slot.val (D.str x)), (PySem.Str.ofString "ch_b", Slot.val (D.str y))] _ _
    unfold subC
    by_cases h1 : (x == y) = true
    · rw [if_pos h1]
      exact x_stop (x_if (b := x == y) (by walk_at "tr") (fun _ => x_stop (x_ret (by walk_at "ev"))) fun h => absurd h1 (by rw [h]; decide))
    · rw [if_neg h1]
      refine x_cons (x_if (b := x == y) (by walk_at "tr") (fun h => absurd h h1) fun _ => x_nil) ?_
      by_cases h2 : (Txt.lower x == Txt.lower y) = true
      · rw [if_pos h2]
        exact x_stop (x_if (b := Txt.lower x == Txt.lower y) (by walk_at "tr") (fun _ => x_stop (x_ret (by walk_at "ev"))) fun h => absurd h2 (by rw [h]; decide))
      · rw [if_neg h2]
        exact x_cons (x_if (b := Txt.lower x == Txt.lower y) (by walk_at "tr") (fun h => absurd h h2) fun _ => x_nil) (x_stop (x_ret (by walk_at "ev")))
end
section
theorem cv_divmod {W : WP} {A : Around} {a b : Int} (hb : b ≠ 0) (hp : Builtin.divisionGoesByPylong a b = false) : CallV W A (.builtin "divmod") [.int a, .int b] (.tup [.int (a.fdiv b), .int (a.fmod b)]) := by
  intro fz s vs Q E hw hf hvs k
  obtain ⟨_, _, rfl, h1, h2⟩ := hvs.two
  obtain ⟨t, rfl⟩ := h1.int_
  obtain ⟨u, rfl⟩ := h2.int_
  refine divmod_int hb ?_ (.inl hp)
  have f := (Ext.refl hf).fresh (get_fresh s.heap)
  exact k _ _ _ ((Ext.push (t := s.toks + 1 + 1) hf).freeze f.1 f.2 (Heap.get?_push_size _ rfl)) (.tup (vs := [_, _]) GMap.add_self (.cons (.int _ _) (.cons (.int _ _) .nil)))

/-- the letters of a number -/
noncomputable def apGo : Nat → Nat → List UInt8 → List UInt8
  | 0, _, acc => acc
  | f + 1, n, acc => if n = 0 then acc else apGo f (n / 16) (UInt8.ofNat (65 + n % 16) :: acc)
noncomputable abbrev apB : Array UInt8 := [65, 66, 67, 68, 69, 70, 71, 72, 73, 74, 75, 76, 77, 78, 79, 80].toArray
theorem picked16 : ∀ m : Nat, m < 16 → KBy.picked apB (some (m : Int)) (some ((m : Int) + 1)) = [UInt8.ofNat (65 + m)].toArray ∧ KBy.whole apB (some (m : Int)) (some ((m : Int) + 1)) = false := by decide +kernel

variable (w : World) (mean : ExcName → Option Value) (mg mb : PySem.Str → Option Value)
set_option maxHeartbeats 4000000
theorem ap_ok (i : Int) (f : Nat) (hf : i.natAbs < 16 ^ f) (hi : i.natAbs < 2 ^ 60) (hf2 : f ≤ 100) : CallOk (W2 w mean mg mb) 1 35 [.int i] (.byt (apGo f i.natAbs []).toArray) := by
  refine def_ok (names := [PySem.Str.ofString "num"]) rfl rfl (all1 fun _ => rfl) (by decide) (by walk_at "names") rfl rfl rfl rfl ?_
  · intro A L F
    show X _ _ _ [(PySem.Str.ofString "num", Slot.val (D.int i))] _ _
    refine x_cons (x_assign F (by walk_at "ev") rfl) ?_
    refine x_cons (x_assign F (by walk_at "ev") rfl) ?_
    refine x_cons (x_assign (d := .int (i.natAbs : Int)) F ?_ rfl) ?_
    · have : (i.natAbs : Int) = if i < 0 then -i else i := by split <;> walk_at "lx"
      rw [this]
      walk_at "ev"
    refine x_cons (σ₁ := [(PySem.Str.ofString "num", Slot.val (D.int ((0 : Nat) : Int))), (PySem.Str.ofString "val", Slot.val (D.byt (apGo f i.natAbs []).toArray)), (PySem.Str.ofString "AP", Slot.val (D.byt apB))]) ?_ (x_stop (x_ret (by walk_at "ev")))
    refine x1_weak (σ' := [(PySem.Str.ofString "num", Slot.val (D.int (i.natAbs : Int))), (PySem.Str.ofString "val", Slot.val (D.byt ([] : List UInt8).toArray)), (PySem.Str.ofString "AP", Slot.val (D.byt apB))]) ?_ ?_
    · walk_at "sub"
    refine x_while (n := 2 * f) ?_
    have hz : ([] : List UInt8).length + f ≤ 100 := by simp; walk_at "lx"
    generalize i.natAbs = n at hf hi ⊢
    generalize ([] : List UInt8) = acc at hz ⊢
    clear hf2
    induction f generalizing n acc with
    | zero =>
      have : n = 0 := by simpa using hf
      subst this
      exact .stop (tr_val (by walk_at "ev") truth_int)
    | succ f ih =>
      by_cases h0 : n = 0
      · subst h0
        rw [apGo, if_pos rfl]
        exact .stop (tr_val (by walk_at "ev") truth_int)
      · rw [apGo, if_neg h0]
        have hne : ((n : Int) != 0) = true := by simp [h0]
        have hdiv : ((n : Int).fdiv 16) = ((n / 16 : Nat) : Int) := by rw [Int.fdiv_eq_ediv_of_nonneg _ (by decide)]; rfl
        have hmod : ((n : Int).fmod 16) = ((n % 16 : Nat) : Int) := by rw [Int.fmod_eq_emod_of_nonneg _ (by decide)]; rfl
        obtain ⟨p1, p2⟩ := picked16 (n % 16) (Nat.mod_lt _ (by decide))
        refine WhileRun.next (σ₁ := [(PySem.Str.ofString "num", Slot.val (D.int ((n / 16 : Nat) : Int))), (PySem.Str.ofString "val", Slot.val (D.byt (UInt8.ofNat (65 + n % 16) :: acc).toArray)), (PySem.Str.ofString "AP", Slot.val (D.byt apB))]) (n := 2 * f + 1) (by rw [← hne]; exact tr_val (by walk_at "ev") truth_int) ?_ (.weak (fun _ h => h) (ih (n / 16) (by rw [Nat.pow_succ] at hf; walk_at "lx") (by walk_at "lx") _ (by rw [List.length_cons]; walk_at "lx")))
        have e : (UInt8.ofNat (65 + n % 16) :: acc).toArray = KBy.picked apB (some ((n % 16 : Nat) : Int)) (some (((n % 16 : Nat) : Int) + 1)) ++ acc.toArray := by rw [p1]; simp
        have cv : ∀ A, CallV (W2 w mean mg mb) A (.builtin "divmod") [.int (n : Int), .int 16] (.tup [.int ((n / 16 : Nat) : Int), .int ((n % 16 : Nat) : Int)]) := fun A => by
          rw [← hdiv, ← hmod]; exact cv_divmod (by decide) (PyProof.noPylong_small (by decide))
        refine x_cons (x_tup F.hh (ev_callB F rfl rfl boot_divmod (by decide) (by decide) (by walk_at "evs") (cv A)) rfl (bndl_cons (asg_name F rfl) (bndl_cons (asg_name F rfl) bndl_nil)) rfl rfl rfl rfl) ?_
        refine x_weakO (x_cons (x_assign (d := .byt (UInt8.ofNat (65 + n % 16) :: acc).toArray) F ?_ rfl) x_nil) (by walk_at "sub")
        rw [e]
        refine ev_bin (ev_sliceB (by walk_at "ev") (evp_int (by walk_at "ev")) (evp_int (by walk_at "ev")) p2 ?_) (by walk_at "ev") (op_addB ?_)
        · rw [p1]; simp
        · rw [p1]; simp; walk_at "lx"
end
section
noncomputable abbrev S (l : List Nat) : PySem.Str := ⟨l.toArray⟩
theorem S_append (a b : List Nat) : S a ++ S b = S (a ++ b) := by
  show PySem.Str.mk (a.toArray ++ b.toArray) = _
  simp
theorem join_S : ∀ l : List (List Nat), Txt.join (PySem.Str.ofString "") (l.map S) = S l.flatten := by
  intro l
  show Builtin.Str.glued (PySem.Str.ofString "") (l.map S) = _
  rw [StrLaws.glued_eq_join]
  induction l with
  | nil => rfl
  | cons a r ih =>
    cases r with
    | nil => simp [PySem.Str.join]
    | cons b r =>
      rw [List.map_cons, List.map_cons, PySem.Str.join]
      rw [List.map_cons] at ih
      rw [ih]
      have e : PySem.Str.ofString "" = S [] := rfl
      rw [e, S_append, S_append]
      simp
      intro h; cases h
theorem flat_ones : ∀ l : List Nat, (l.map fun c => [c]).flatten = l
  | [] => rfl
  | c :: l => by rw [List.map_cons, List.flatten_cons, flat_ones l]; rfl
theorem join_chars (l : List Nat) : Txt.join (PySem.Str.ofString "") (l.map fun c => S [c]) = S l := by
  have := join_S (l.map fun c => [c])
  rw [List.map_map] at this
  rw [flat_ones] at this
  exact this

theorem sum_ones {α : Type} (l : List α) (g : α → PySem.Str) (h : ∀ a, (g a).length = 1) : ((l.map g).map (·.length)).sum = l.length := by
  induction l with
  | nil => rfl
  | cons a l ih => rw [List.map_cons, List.map_cons, List.sum_cons, ih, h]; simp; walk_at "lx"
end
section
theorem S_len (l : List Nat) : (S l).length = l.length := by simp [S, PySem.Str.length]
theorem sl_from (l : List Nat) (p : Nat) (h : p ≤ l.length) : Txt.slice (S l) (some (p : Int)) none = S (l.drop p) := by
  have := beq_iff_eq.mp (slice_closes_from (x := S l) (i := (p : Int)) ⟨by walk_at "lx", by simpa using h⟩)
  rw [this]
  have e : (((S l).cps.toList.length : Int) - (p : Int)).toNat = l.length - p := by simp [S]
  rw [e]
  show S ((l.drop (p : Int).toNat).take (l.length - p)) = _
  rw [Int.toNat_natCast, List.take_of_length_le (by rw [List.length_drop]; exact Nat.le_refl _)]
theorem sl_upto (l : List Nat) (p : Nat) (h : p ≤ l.length) : Txt.slice (S l) none (some (p : Int)) = S (l.take p) := by
  have := beq_iff_eq.mp (slice_closes_to (x := S l) (j := (p : Int)) ⟨by walk_at "lx", by simpa using h⟩)
  rw [this]; simp
theorem sl_neg (l : List Nat) (q : Nat) (h : q ≤ l.length) (h0 : 0 < q) : Txt.slice (S l) none (some (-(q : Int))) = S (l.take (l.length - q)) := by
  have := beq_iff_eq.mp (slice_closes_to_neg (x := S l) (j := -(q : Int)) (k := (l.length : Int) - q) (by walk_at "lx") (by rw [S_len]; walk_at "lx") (by rw [S_len]; walk_at "lx"))
  rw [this]
  have e : ((l.length : Int) - (q : Int) - 0).toNat = l.length - q := by walk_at "lx"
  rw [e]; simp
theorem idx_all (n : Nat) : Builtin.Str.strSliceIndices none none 1 n = Builtin.Str.strSliceIndices none (some (n : Int)) 1 n := by
  unfold Builtin.Str.strSliceIndices
  have : ¬ ((n : Int) < 0) := by walk_at "lx"
  simp [this]
theorem idx_over (n p : Nat) (h : n ≤ p) : Builtin.Str.strSliceIndices none (some (p : Int)) 1 n = Builtin.Str.strSliceIndices none (some (n : Int)) 1 n := by
  unfold Builtin.Str.strSliceIndices
  have h1 : ¬ ((n : Int) < 0) := by walk_at "lx"
  have h2 : ¬ ((p : Int) < 0) := by walk_at "lx"
  have h3 : min (p : Int) n = n := by walk_at "lx"
  simp [h1, h2, h3]
theorem sl_all (l : List Nat) : Txt.slice (S l) none none = S l := by
  have h := sl_upto l l.length (Nat.le_refl _)
  rw [List.take_length] at h
  unfold Txt.slice at h ⊢
  rw [S_len] at h ⊢
  rw [idx_all]; exact h
theorem sl_over (l : List Nat) (p : Nat) (h : l.length ≤ p) : Txt.slice (S l) none (some (p : Int)) = S l := by
  have h' := sl_upto l l.length (Nat.le_refl _)
  rw [List.take_length] at h'
  unfold Txt.slice at h' ⊢
  rw [S_len] at h' ⊢
  rw [idx_over _ _ h]; exact h'
theorem sl_fromOver (l : List Nat) (p : Nat) (h : l.length ≤ p) : Txt.slice (S l) (some (p : Int)) none = S [] := by
  have := slice_beyond (x := S l) (i := (p : Int)) (by rw [S_len]; walk_at "lx")
  rw [this]; rfl
theorem it_pos (l : List Nat) (p : Nat) (c : Nat) (h : l[p]? = some c) : Txt.charAt (S l) (p : Int) = some c := by
  have hp : p < l.length := by
    rcases Nat.lt_or_ge p l.length with h' | h'
    · exact h'
    · rw [List.getElem?_eq_none h'] at h; cases h
  unfold Txt.charAt seqIndex?
  rw [S_len]
  have e : ((if (p : Int) < 0 then (p : Int) + l.length else (p : Int))) = (p : Int) := by rw [if_neg (by walk_at "lx")]
  rw [e, if_pos (by simp; walk_at "lx")]
  simpa using h
theorem it_neg (l : List Nat) (q : Nat) (c : Nat) (h : l.reverse[q]? = some c) : Txt.charAt (S l) (-(q : Int) - 1) = some c := by
  have hq : q < l.length := by
    rcases Nat.lt_or_ge q l.length with h' | h'
    · exact h'
    · rw [List.getElem?_eq_none (by simpa using h')] at h; cases h
  unfold Txt.charAt seqIndex?
  rw [S_len]
  have e : ((if (-(q : Int) - 1) < 0 then (-(q : Int) - 1) + l.length else (-(q : Int) - 1))) = ((l.length - 1 - q : Nat) : Int) := by rw [if_pos (by walk_at "lx")]; walk_at "lx"
  rw [e, if_pos (by simp; walk_at "lx")]
  rw [List.getElem?_reverse hq] at h
  simpa using h
theorem it_item (l : List Nat) (i : Int) (c : Nat) (h : Txt.charAt (S l) i = some c) : Txt.item (S l) i = S [c] := by
  unfold Txt.item; rw [h]; rfl
end
section
noncomputable abbrev dN (k : Nat) : D := D.int (k : Int)
noncomputable abbrev N (s : String) : PySem.Str := PySem.Str.ofString s
noncomputable def cpre : List Nat → List Nat → Nat
  | a :: as, b :: bs => if a = b then cpre as bs + 1 else 0
  | _, _ => 0
theorem cpre_le : ∀ a b : List Nat, cpre a b ≤ a.length ∧ cpre a b ≤ b.length
  | [], _ => by simp [cpre]
  | _ :: _, [] => by simp [cpre]
  | a :: as, b :: bs => by
    have := cpre_le as bs
    unfold cpre; split <;> simp <;> walk_at "lx"
noncomputable def lowN (c : Nat) : Nat := if 65 ≤ c ∧ c ≤ 90 then c + 32 else c
noncomputable def subN (x y : Nat) : Nat := if x = y then 0 else if lowN x = lowN y then 1 else 2
noncomputable def bigN : Nat := 9223372036854775807
noncomputable def inP (bc : Nat) : List Nat → List Nat → Nat → Nat → Nat → List Nat × Nat × Nat
  | a :: as, r :: rs, d, res, mn =>
    let res' := min (min res r + 2) (d + subN bc a)
    let o := inP bc as rs r res' (if res' < mn then res' else mn)
    (res' :: o.1, o.2.1, o.2.2)
  | _, _, _, res, mn => ([], res, mn)
noncomputable def outP (a : List Nat) (m : Nat) : List Nat → Nat → List Nat → Nat → Nat
  | [], _, _, res => res
  | b :: bs, i, row, _ =>
    let o := inP b a row (2 * i) (2 * i) bigN
    if m < o.2.2 then m + 1 else outP a m bs (i + 1) o.1 o.2.1
noncomputable def rowN : Nat → Nat → List Nat
  | _, 0 => []
  | a, n + 1 => a :: rowN (a + 2) n
theorem rowN_len : ∀ n a, (rowN a n).length = n
  | 0, _ => rfl
  | n + 1, a => by simp [rowN, rowN_len n]
noncomputable def trimP (a b : List Nat) : List Nat × List Nat :=
  let p := cpre a b
  let a1 := a.drop p
  let b1 := b.drop p
  let q := cpre a1.reverse b1.reverse
  (a1.take (a1.length - q), b1.take (b1.length - q))
noncomputable def midP (a b : List Nat) (m : Nat) : Nat :=
  if m < (b.length - a.length) * 2 then m + 1 else outP a m b 0 (rowN 2 a.length) 0
noncomputable def levP (a b : List Nat) (m : Nat) : Nat :=
  if a = b then 0 else
  let t := trimP a b
  if t.1.isEmpty || t.2.isEmpty then 2 * (t.1.length + t.2.length) else
  if t.2.length < t.1.length then midP t.2 t.1 m else midP t.1 t.2 m
theorem lower1 : ∀ c : Nat, c < 128 → Txt.lower (S [c]) = S [lowN c] := by
  have : ∀ c : _root_.Fin 128, Txt.lower (S [c.val]) = S [lowN c.val] := by decide +kernel
  exact fun c h => this ⟨c, h⟩
theorem S_inj {a b : List Nat} : ((S a == S b) = true) ↔ a = b := by
  rw [beq_iff_eq]
  constructor
  · intro h; have := congrArg (fun x : PySem.Str => x.cps.toList) h; simpa [S] using this
  · intro h; rw [h]
theorem subC_eq {x y : Nat} (hx : x < 128) (hy : y < 128) : subC (S [x]) (S [y]) = (subN x y : Int) := by
  unfold subC subN
  rw [lower1 x hx, lower1 y hy]
  by_cases h : x = y
  · rw [if_pos (S_inj.mpr (by rw [h])), if_pos h]; rfl
  · rw [if_neg (fun e => h (by simpa using S_inj.mp e)), if_neg h]
    by_cases h2 : lowN x = lowN y
    · rw [if_pos (S_inj.mpr (by rw [h2])), if_pos h2]; rfl
    · rw [if_neg (fun e => h2 (by simpa using S_inj.mp e)), if_neg h2]; rfl
theorem S_ne {l : List Nat} : (((S l).length : Int) != 0) = !l.isEmpty := by
  rw [S_len]; cases l <;> simp <;> walk_at "lx"
theorem rangeSize1 (n : Nat) : Builtin.Range.rangeSize 0 (n : Int) 1 = (n : Int) := by
  unfold Builtin.Range.rangeSize
  by_cases h : 0 < n
  · rw [if_pos (by decide), if_pos (by walk_at "lx")]; walk_at "lx"
  · rw [if_pos (by decide), if_neg (by walk_at "lx")]; walk_at "lx"
theorem rangeSize2 (n : Nat) : Builtin.Range.rangeSize 2 (2 * ((n : Int) + 1)) 2 = (n : Int) := by
  unfold Builtin.Range.rangeSize
  by_cases h : 0 < n
  · rw [if_pos (by decide), if_pos (by walk_at "lx")]; walk_at "lx"
  · rw [if_pos (by decide), if_neg (by walk_at "lx")]; walk_at "lx"
theorem rngL_row : ∀ (n a : Nat), rngL (a : Int) 2 n = (rowN a n).map fun k : Nat => D.int (k : Int)
  | 0, _ => rfl
  | n + 1, a => by rw [rngL, rowN, List.map_cons, ← rngL_row n (a + 2)]; rfl
variable {W : WP} {A : Around} {env : Env} {σ : Sto}
theorem ev_slF {value lo : PySem.Expr} {p pos : Pos} {l : List Nat} {q : Nat} (h : Ev W A env σ value (.str (S l))) (hl : Ev W A env σ lo (.int (q : Int))) (hq : q ≤ l.length) (hz : l.length ≤ 1000) :
    Ev W A env σ (.Subscript value (.Slice (some lo) none none p) pos) (.str (S (l.drop q))) := by
  rw [← sl_from l q hq]; exact ev_sliceS h (evp_int hl) evp_nil (by rw [S_len]; walk_at "lx")
theorem ev_slP {value lo : PySem.Expr} {p pos pos2 pos3 : Pos} {k : Nat} {l : List Nat} {q : Nat} (h : Ev W A env σ value (.str (S l))) (hl : Ev W A env σ lo (.int (-(q : Int)))) (hq : q ≤ l.length) (hz : l.length ≤ 1000) :
    Ev W A env σ (.Subscript value (.Slice none (some (.BoolOp .Or [lo, .Constant .none k pos2] pos3)) none p) pos) (.str (S (l.take (l.length - q)))) := by
  by_cases h0 : q = 0
  · subst h0
    have e : S (l.take (l.length - 0)) = Txt.slice (S l) none none := by rw [sl_all]; simp
    rw [e]
    exact ev_sliceS h evp_nil (evp_none (ev_or (b := false) hl truth_int (fun h => absurd h (by decide)) fun _ => ev_none)) (by rw [S_len]; walk_at "lx")
  · rw [← sl_neg l q hq (by walk_at "lx")]
    exact ev_sliceS h evp_nil (evp_int (ev_or (b := (-(q : Int)) != 0) hl truth_int (fun _ => rfl) fun h => absurd h (by simp; walk_at "lx"))) (by rw [S_len]; walk_at "lx")
theorem ev_itF {value sl : PySem.Expr} {pos : Pos} {l : List Nat} {q c : Nat} (h : Ev W A env σ value (.str (S l))) (hl : Ev W A env σ sl (.int (q : Int))) (hc : l[q]? = some c) (hz : l.length ≤ 1000)
    (hs : ∀ o i, subscripted sl false o i = operate [o, i] (getItem o i) := by intro _ _; rfl) : Ev W A env σ (.Subscript value sl pos) (.str (S [c])) := by
  have e := it_pos l q c hc
  rw [← it_item l _ c e]
  have hq : q < l.length := by
    rcases Nat.lt_or_ge q l.length with h' | h'
    · exact h'
    · rw [List.getElem?_eq_none h'] at hc; cases hc
  exact ev_itemS h hl (by simp [fitsSsize]; walk_at "lx") (by rw [e]; rfl) hs
theorem ev_itN {value sl : PySem.Expr} {pos : Pos} {l : List Nat} {q c : Nat} (h : Ev W A env σ value (.str (S l))) (hl : Ev W A env σ sl (.int (-(q : Int) - 1))) (hc : l.reverse[q]? = some c) (hz : l.length ≤ 1000)
    (hs : ∀ o i, subscripted sl false o i = operate [o, i] (getItem o i) := by intro _ _; rfl) : Ev W A env σ (.Subscript value sl pos) (.str (S [c])) := by
  have e := it_neg l q c hc
  rw [← it_item l _ c e]
  have hq : q < l.length := by
    rcases Nat.lt_or_ge q l.length with h' | h'
    · exact h'
    · rw [List.getElem?_eq_none (by simpa using h')] at hc; cases hc
  exact ev_itemS h hl (by simp [fitsSsize]; walk_at "lx") (by rw [e]; rfl) hs
theorem tr_S {e : PySem.Expr} {l : List Nat} (h : Ev W A env σ e (.str (S l))) (hz : l.length ≤ 1000) (he : isTrue e env (eval e env) = (do let v ← eval e env; standAt e.pos; holding [v] (truthy v)) := by rfl) : Tr W A env σ e (!l.isEmpty) := by
  rw [← S_ne]; exact tr_val h (truth_str (by rw [S_len]; walk_at "lx")) he
theorem allT_stop {e : PySem.Expr} {es : List PySem.Expr} (h : Tr W A env σ e false) : AllT W A env σ .And (e :: es) false := allT_and (c := false) h (fun h => absurd h (by decide))
theorem allT_go {e : PySem.Expr} {es : List PySem.Expr} {c : Bool} (h : Tr W A env σ e true) (r : AllT W A env σ .And es c) : AllT W A env σ .And (e :: es) c := allT_and h (fun _ => r)
theorem allT_stopO {e : PySem.Expr} {es : List PySem.Expr} (h : Tr W A env σ e true) : AllT W A env σ .Or (e :: es) true := allT_or (c := true) h (fun h => absurd h (by decide))
theorem allT_goO {e : PySem.Expr} {es : List PySem.Expr} {c : Bool} (h : Tr W A env σ e false) (r : AllT W A env σ .Or es c) : AllT W A env σ .Or (e :: es) c := allT_or h (fun _ => r)
end
section
theorem run_count {test : Sto → Bool → Prop} {body : Sto → Out → Prop} (σ : Nat → Sto) (n : Nat) (hgo : ∀ i, i < n → test (σ i) true ∧ body (σ i) (.next (σ (i + 1)))) (hstop : test (σ n) false) : WhileRun test body n (σ 0) (.next (σ n)) := by
  have : ∀ k i, i + k = n → WhileRun test body k (σ i) (.next (σ n)) := by
    intro k
    induction k with
    | zero => intro i h; have : i = n := by walk_at "lx"
              subst this; exact .stop hstop
    | succ k ih => intro i h; exact .next (hgo i (by walk_at "lx")).1 (hgo i (by walk_at "lx")).2 (ih (i + 1) (by walk_at "lx"))
  exact this n 0 (by walk_at "lx")
theorem cpre_go : ∀ (a b : List Nat) (i : Nat), i < cpre a b → ∃ c, a[i]? = some c ∧ b[i]? = some c
  | [], _, i, h => by simp [cpre] at h
  | _ :: _, [], i, h => by simp [cpre] at h
  | a :: as, b :: bs, i, h => by
    unfold cpre at h
    split at h
    · next e =>
      subst e
      cases i with
      | zero => exact ⟨a, rfl, rfl⟩
      | succ i => exact cpre_go as bs i (by walk_at "lx")
    · walk_at "lx"
theorem cpre_stop : ∀ (a b : List Nat), a.length = cpre a b ∨ b.length = cpre a b ∨ ∃ x y, a[cpre a b]? = some x ∧ b[cpre a b]? = some y ∧ x ≠ y
  | [], _ => by simp [cpre]
  | _ :: _, [] => by simp [cpre]
  | a :: as, b :: bs => by
    unfold cpre
    split
    · next e =>
      rcases cpre_stop as bs with h | h | ⟨x, y, h1, h2, h3⟩
      · left; simp [h]
      · right; left; simp [h]
      · right; right; exact ⟨x, y, h1, h2, h3⟩
    · next e => right; right; exact ⟨a, b, rfl, rfl, e⟩
/-- the inner loop's shape -/
theorem for_inner {step : D → Sto → Out → Prop} {bc : Nat} {a : List Nat} (σ : List Nat → Nat → Nat → Nat → Sto)
    (h : ∀ (i : Nat) (row : List Nat) (d res mn c r : Nat), a[i]? = some c → row[i]? = some r → row.length = a.length → step (.int (i : Int)) (σ row d res mn) (.next (σ (row.set i (min (min res r + 2) (d + subN bc c))) r (min (min res r + 2) (d + subN bc c)) (if min (min res r + 2) (d + subN bc c) < mn then min (min res r + 2) (d + subN bc c) else mn)))) :
    ∀ (as rs dn : List Nat) (i : Nat) (d res mn : Nat), dn.length = i → a.drop i = as → rs.length = as.length → i ≤ a.length → ∃ d', ForRun step (rngL (i : Int) 1 as.length) (σ (dn ++ rs) d res mn) (.next (σ (dn ++ (inP bc as rs d res mn).1) d' (inP bc as rs d res mn).2.1 (inP bc as rs d res mn).2.2))
  | [], rs, dn, i, d, res, mn, h1, h2, h3, h4 => by
    cases rs with
    | nil => exact ⟨d, by simpa [rngL, inP] using ForRun.nil⟩
    | cons r rs => simp at h3
  | c :: as, rs, dn, i, d, res, mn, h1, h2, h3, h4 => by
    cases rs with
    | nil => simp at h3
    | cons r rs =>
      have g1 : a[i]? = some c := by
        have := congrArg (fun l => l[0]?) h2
        simpa using this
      have g2 : a.drop (i + 1) = as := by
        have := congrArg List.tail h2
        simpa using this
      have g3 : i < a.length := (List.getElem?_eq_some_iff.mp g1).1
      have g4 : (dn ++ r :: rs)[i]? = some r := by rw [List.getElem?_append_right (by walk_at "lx")]; simp [h1]
      have g5 : (dn ++ r :: rs).length = a.length := by
        have := congrArg List.length h2
        simp at this h3 ⊢; walk_at "lx"
      have st := h i _ d res mn c r g1 g4 g5
      have e0 : (dn ++ r :: rs).set i (min (min res r + 2) (d + subN bc c)) = (dn ++ [min (min res r + 2) (d + subN bc c)]) ++ rs := by
        rw [List.set_append_right _ _ (by walk_at "lx"), show i - dn.length = 0 by walk_at "lx", List.set_cons_zero]; simp
      rw [e0] at st
      obtain ⟨d', ih⟩ := for_inner σ h as rs (dn ++ [min (min res r + 2) (d + subN bc c)]) (i + 1) r (min (min res r + 2) (d + subN bc c)) (if min (min res r + 2) (d + subN bc c) < mn then min (min res r + 2) (d + subN bc c) else mn) (by simp [h1]) g2 (by simpa using h3) (by walk_at "lx")
      refine ⟨d', ?_⟩
      rw [inP]
      have e1 : ∀ t : List Nat, dn ++ (min (min res r + 2) (d + subN bc c) :: t) = (dn ++ [min (min res r + 2) (d + subN bc c)]) ++ t := fun t => by simp
      dsimp only
      rw [e1]
      exact .next st ih
/-- the outer loop: an early end, or the last row -/
noncomputable def outQ (a : List Nat) (m : Nat) : List Nat → Nat → List Nat → Nat → Option (List Nat × Nat)
  | [], _, row, res => some (row, res)
  | b :: bs, i, row, _ =>
    let o := inP b a row (2 * i) (2 * i) bigN
    if m < o.2.2 then none else outQ a m bs (i + 1) o.1 o.2.1
theorem outP_Q (a : List Nat) (m : Nat) : ∀ (bs : List Nat) (i : Nat) (row : List Nat) (res : Nat), outP a m bs i row res = (match outQ a m bs i row res with | none => m + 1 | some o => o.2)
  | [], _, _, _ => rfl
  | b :: bs, i, row, res => by
    rw [outP, outQ]
    split
    · rfl
    · exact outP_Q a m bs _ _ _
theorem inP_len (bc : Nat) : ∀ (a row : List Nat) (d res mn : Nat), row.length = a.length → (inP bc a row d res mn).1.length = a.length
  | [], row, d, res, mn, _ => by simp [inP]
  | c :: a, row, d, res, mn, h => by
    cases row with
    | nil => simp at h
    | cons r rs => rw [inP]; simp; exact inP_len bc a rs _ _ _ (by simpa using h)
theorem for_outer {step : D → Sto → Out → Prop} {a lb : List Nat} {m : Nat} (σ : List Nat → Nat → Sto)
    (h : ∀ (i : Nat) (row : List Nat) (res b : Nat), lb[i]? = some b → row.length = a.length → step (.int (i : Int)) (σ row res) (if m < (inP b a row (2 * i) (2 * i) bigN).2.2 then .ret (.int ((m + 1 : Nat) : Int)) else .next (σ (inP b a row (2 * i) (2 * i) bigN).1 (inP b a row (2 * i) (2 * i) bigN).2.1))) :
    ∀ (bs : List Nat) (i : Nat) (row : List Nat) (res : Nat), lb.drop i = bs → row.length = a.length → ForRun step (rngL (i : Int) 1 bs.length) (σ row res) (match outQ a m bs i row res with | none => .ret (.int ((m + 1 : Nat) : Int)) | some o => .next (σ o.1 o.2))
  | [], i, row, res, h1, h2 => .nil
  | b :: bs, i, row, res, h1, h2 => by
    have g1 : lb[i]? = some b := by
      have := congrArg (fun l => l[0]?) h1
      simpa using this
    have g2 : lb.drop (i + 1) = bs := by
      have := congrArg List.tail h1
      simpa using this
    have st := h i row res b g1 h2
    rw [outQ]
    split at st
    · next hc => rw [if_pos hc]; exact .ret st
    · next hc => rw [if_neg hc]; exact .next st (for_outer σ h bs (i + 1) _ _ g2 (inP_len b a row _ _ _ h2))

variable {W : WP} {A : Around} {env : Env} {σ : Sto}
theorem and3_stop {e1 e2 e3 : PySem.Expr} {b1 b2 : Bool} (h1 : Tr W A env σ e1 b1) (h2 : Tr W A env σ e2 b2) (h3 : b1 = true → b2 = true → Tr W A env σ e3 false) : AllT W A env σ .And [e1, e2, e3] false := by
  cases b1 with
  | false => exact allT_stop h1
  | true =>
    cases b2 with
    | false => exact allT_go h1 (allT_stop h2)
    | true => exact allT_go h1 (allT_go h2 (allT_stop (h3 rfl rfl)))
theorem trOr2 {e1 e2 : PySem.Expr} {pos : Pos} {b1 b2 : Bool} (h1 : Tr W A env σ e1 b1) (h2 : Tr W A env σ e2 b2) : Tr W A env σ (.BoolOp .Or [e1, e2] pos) (b1 || b2) := by
  cases b1 with
  | false => exact tr_bool (allT_goO h1 (by cases b2 with | true => exact allT_stopO h2 | false => exact allT_goO h2 allT_nil))
  | true => exact tr_bool (allT_stopO h1)
theorem trNotS {e : PySem.Expr} {pos : Pos} {l : List Nat} (h : Tr W A env σ e (!l.isEmpty)) : Tr W A env σ (.UnaryOp .Not e pos) l.isEmpty := by
  have := tr_not (pos := pos) h
  rwa [Bool.not_not] at this
end
section
theorem smallN1 {n : Nat} (h : n ≤ 1000) : Builtin.Range.small 0 (n : Int) 1 = true := by
  simp [Builtin.Range.small, rangeSize1, Builtin.Range.rangeFitsLong]; walk_at "lx"
theorem smallN2 {n : Nat} (h : n ≤ 1000) : Builtin.Range.small 2 (2 * ((n : Int) + 1)) 2 = true := by
  simp [Builtin.Range.small, rangeSize2, Builtin.Range.rangeFitsLong]; walk_at "lx"
variable (w : World) (mean : ExcName → Option Value) (mg mb : PySem.Str → Option Value)
set_option maxHeartbeats 4000000
theorem ev_subst {A : Around} {L : Addr} {env : Env} {σ : Sto} {n : Nat} (F : FOK (n + 1) A env) (he : env.kindOf (N "_substitution_cost") = some .globalImplicit) {p pos : Pos} {e₁ e₂ : PySem.Expr} {x y : Nat} (hx : x < 128) (hy : y < 128)
    (h₁ : Ev (W2 w mean mg mb) A env σ e₁ (.str (S [x]))) (h₂ : Ev (W2 w mean mg mb) A env σ e₂ (.str (S [y])))
    (hs : starEach [e₁, e₂] env = (false, eval e₁ env) :: starEach [e₂] env := by rfl) (hs2 : starEach [e₂] env = (false, eval e₂ env) :: starEach [] env := by rfl)
    (hne : backTo pos (starEach [e₁, e₂] env) = (match backTo pos (starEach [e₁, e₂] env) with | (_, t) :: r => (false, t) :: r | [] => []) := by rfl) : Ev (W2 w mean mg mb) A env σ (.Call (.Name (N "_substitution_cost") p) [e₁, e₂] [] pos) (.int (subN x y : Nat)) := by
  rw [← subC_eq hx hy]
  exact ev_call F he rfl (by decide) rfl (evs_cons h₁ (evs_cons h₂ evs_nil hs2) hs) (subst_ok w mean mg mb _ _ (by rw [S_len]; exact Nat.le_of_ble_eq_true rfl) (by rw [S_len]; exact Nat.le_of_ble_eq_true rfl)) (by walk_at "lx") hne (List.cons_ne_nil _ _) (fun e rest h => by cases h; exact hs)
theorem tr_eqB {W : WP} {A : Around} {env : Env} {σ : Sto} {e : PySem.Expr} {b c : Bool} (h : b = c) (t : Tr W A env σ e b) : Tr W A env σ e c := h ▸ t
theorem mem_get {l : List Nat} {P : Nat → Prop} (h : ∀ c ∈ l, P c) {i c : Nat} (e : l[i]? = some c) : P c := h c (List.mem_of_getElem? e)
theorem get_lt {l : List Nat} {i c : Nat} (e : l[i]? = some c) : i < l.length := (List.getElem?_eq_some_iff.mp e).1
theorem lev_ok (la lb : List Nat) (m : Nat) (ha : ∀ c ∈ la, c < 128) (hb : ∀ c ∈ lb, c < 128) (hla : la.length ≤ 40) (hlb : lb.length ≤ 40) (hm : m ≤ 10000) : CallOk (W2 w mean mg mb) 2 28 [.str (S la), .str (S lb), .int (m : Int)] (.int (levP la lb m : Nat)) := by
  refine def_ok (names := [N "a", N "b", N "max_cost"]) rfl rfl (all3 fun _ _ _ => rfl) (by decide) (by walk_at "names") rfl rfl rfl rfl ?_
  · intro A L F
    show X _ _ _ [(N "a", Slot.val (D.str (S la))), (N "b", Slot.val (D.str (S lb))), (N "max_cost", Slot.val (D.int m))] _ _
    unfold levP
    by_cases hab : la = lb
    · rw [if_pos hab]
      exact x_stop (x_if (b := S la == S lb) (by walk_at "tr") (fun _ => x_stop (x_ret (ev_int (i := 0)))) fun h => absurd (S_inj.mpr hab) (by rw [h]; decide))
    rw [if_neg hab]
    refine x_cons (x_if (b := S la == S lb) (by walk_at "tr") (fun h => absurd (S_inj.mp h) hab) fun _ => x_nil) ?_
    refine x_cons (x_assign F (by walk_at "ev") rfl) ?_
    refine x_cons (σ₁ := [(N "a", Slot.val (D.str (S la))), (N "b", Slot.val (D.str (S lb))), (N "max_cost", Slot.val (D.int m)), (N "pre", Slot.val (D.int (cpre la lb : Nat)))]) ?_ ?_
    · refine x1_weak (σ' := [(N "a", Slot.val (D.str (S la))), (N "b", Slot.val (D.str (S lb))), (N "max_cost", Slot.val (D.int m)), (PySem.Str.ofString "pre", Slot.val (D.int 0))]) (by walk_at "sub") ?_
      refine x_while (n := cpre la lb) (run_count (σ := fun p => [(N "a", Slot.val (D.str (S la))), (N "b", Slot.val (D.str (S lb))), (N "max_cost", Slot.val (D.int m)), (N "pre", Slot.val (D.int ((p : Nat) : Int)))]) (cpre la lb) ?_ ?_)
      · intro i hi
        obtain ⟨c, g1, g2⟩ := cpre_go la lb i hi
        have l1 := get_lt g1
        have l2 := get_lt g2
        refine ⟨tr_bool (allT_go ?_ (allT_go ?_ (allT_go ?_ allT_nil))), ?_⟩
        · have : (!(la.drop i).isEmpty) = true := by simp; walk_at "lx"
          exact tr_eqB this <| tr_S (ev_slF (by walk_at "ev") (by walk_at "ev") (by walk_at "lx") (by walk_at "lx")) (by simp; walk_at "lx")
        · have : (!(lb.drop i).isEmpty) = true := by simp; walk_at "lx"
          exact tr_eqB this <| tr_S (ev_slF (by walk_at "ev") (by walk_at "ev") (by walk_at "lx") (by walk_at "lx")) (by simp; walk_at "lx")
        · have : (S [c] == S [c]) = true := S_inj.mpr rfl
          exact tr_eqB this <| tr_cmp (ev_itF (by walk_at "ev") (by walk_at "ev") g1 (by walk_at "lx")) (ev_itF (by walk_at "ev") (by walk_at "ev") g2 (by walk_at "lx")) op_eqS rfl
        · exact x_weakO (x_cons (x_aug (d := .int ((i + 1 : Nat) : Int)) F (by walk_at "mem") rfl ev_int op_iaddI) x_nil) (by walk_at "sub")
      · skip
        have hle := cpre_le la lb
        refine tr_bool (and3_stop (tr_S (ev_slF (by walk_at "ev") (by walk_at "ev") (by walk_at "lx") (by walk_at "lx")) (by simp; walk_at "lx")) (tr_S (ev_slF (by walk_at "ev") (by walk_at "ev") (by walk_at "lx") (by walk_at "lx")) (by simp; walk_at "lx")) ?_)
        intro h1 h2
        simp at h1 h2
        rcases cpre_stop la lb with h | h | ⟨x, y, h1, h2, h3⟩
        · walk_at "lx"
        · walk_at "lx"
        · have : (S [x] == S [y]) = false := by
            rw [Bool.eq_false_iff]; intro e; exact h3 (by simpa using S_inj.mp e)
          exact tr_eqB this (tr_cmp (ev_itF (by walk_at "ev") (by walk_at "ev") h1 (by walk_at "lx")) (ev_itF (by walk_at "ev") (by walk_at "ev") h2 (by walk_at "lx")) op_eqS rfl)
    have hpl := cpre_le la lb
    refine x_cons (x_assign (d := .str (S (la.drop (cpre la lb)))) F (ev_slF (by walk_at "ev") (by walk_at "ev") (by walk_at "lx") (by walk_at "lx")) rfl) ?_
    refine x_cons (x_assign (d := .str (S (lb.drop (cpre la lb)))) F (ev_slF (by walk_at "ev") (by walk_at "ev") (by walk_at "lx") (by walk_at "lx")) rfl) ?_
    refine x_cons (x_assign F (by walk_at "ev") rfl) ?_
    unfold trimP
    dsimp only
    have ha1 : ∀ c ∈ la.drop (cpre la lb), c < 128 := fun c h => ha c (List.mem_of_mem_drop h)
    have hb1 : ∀ c ∈ lb.drop (cpre la lb), c < 128 := fun c h => hb c (List.mem_of_mem_drop h)
    have hla1 : (la.drop (cpre la lb)).length ≤ 40 := by rw [List.length_drop]; walk_at "lx"
    have hlb1 : (lb.drop (cpre la lb)).length ≤ 40 := by rw [List.length_drop]; walk_at "lx"
    generalize la.drop (cpre la lb) = la1 at ha1 hla1 ⊢
    generalize lb.drop (cpre la lb) = lb1 at hb1 hlb1 ⊢
    have hpl := cpre_le la1.reverse lb1.reverse
    rw [List.length_reverse, List.length_reverse] at hpl
    refine x_cons (σ₁ := [(N "a", Slot.val (D.str (S la1))), (N "b", Slot.val (D.str (S lb1))), (N "max_cost", Slot.val (D.int m)), (N "post", Slot.val (D.int (-(cpre la1.reverse lb1.reverse : Nat))))]) ?_ ?_
    · refine x1_weak (σ' := [(PySem.Str.ofString "a", Slot.val (D.str (S la1))), (PySem.Str.ofString "b", Slot.val (D.str (S lb1))), (PySem.Str.ofString "max_cost", Slot.val (D.int m)), (PySem.Str.ofString "post", Slot.val (D.int 0))]) (by walk_at "sub") ?_
      refine x_while (n := cpre la1.reverse lb1.reverse) (run_count (σ := fun p => [(N "a", Slot.val (D.str (S la1))), (N "b", Slot.val (D.str (S lb1))), (N "max_cost", Slot.val (D.int m)), (N "post", Slot.val (D.int (-((p : Nat) : Int))))]) (cpre la1.reverse lb1.reverse) ?_ ?_)
      · intro i hi
        obtain ⟨c, g1, g2⟩ := cpre_go la1.reverse lb1.reverse i hi
        have l1 := get_lt g1
        have l2 := get_lt g2
        rw [List.length_reverse] at l1 l2
        refine ⟨tr_bool (allT_go ?_ (allT_go ?_ (allT_go ?_ allT_nil))), ?_⟩
        · have : (!(la1.take (la1.length - i)).isEmpty) = true := by simp [List.isEmpty_iff_length_eq_zero, ← List.length_eq_zero_iff]; walk_at "lx"
          exact tr_eqB this <| tr_S (ev_slP (by walk_at "ev") (by walk_at "ev") (by walk_at "lx") (by walk_at "lx")) (by simp; walk_at "lx")
        · have : (!(lb1.take (lb1.length - i)).isEmpty) = true := by simp [List.isEmpty_iff_length_eq_zero, ← List.length_eq_zero_iff]; walk_at "lx"
          exact tr_eqB this <| tr_S (ev_slP (by walk_at "ev") (by walk_at "ev") (by walk_at "lx") (by walk_at "lx")) (by simp; walk_at "lx")
        · have : (S [c] == S [c]) = true := S_inj.mpr rfl
          exact tr_eqB this <| tr_cmp (ev_itN (by walk_at "ev") (by walk_at "ev") g1 (by walk_at "lx")) (ev_itN (by walk_at "ev") (by walk_at "ev") g2 (by walk_at "lx")) op_eqS rfl
        · refine x_weakO (x_cons (x_aug (d := .int (-((i + 1 : Nat) : Int))) F (by walk_at "mem") rfl ev_int ?_) x_nil) (by walk_at "sub")
          rw [show (-((i + 1 : Nat) : Int)) = -(i : Int) - 1 by walk_at "lx"]
          exact op_isubI
      · skip
        refine tr_bool (and3_stop (tr_S (ev_slP (by walk_at "ev") (by walk_at "ev") (by walk_at "lx") (by walk_at "lx")) (by simp; walk_at "lx")) (tr_S (ev_slP (by walk_at "ev") (by walk_at "ev") (by walk_at "lx") (by walk_at "lx")) (by simp; walk_at "lx")) ?_)
        intro h1 h2
        simp [← List.length_eq_zero_iff] at h1 h2
        rcases cpre_stop la1.reverse lb1.reverse with h | h | ⟨x, y, h1, h2, h3⟩
        · rw [List.length_reverse] at h; walk_at "lx"
        · rw [List.length_reverse] at h; walk_at "lx"
        · have : (S [x] == S [y]) = false := by
            rw [Bool.eq_false_iff]; intro e; exact h3 (by simpa using S_inj.mp e)
          exact tr_eqB this (tr_cmp (ev_itN (by walk_at "ev") (by walk_at "ev") h1 (by walk_at "lx")) (ev_itN (by walk_at "ev") (by walk_at "ev") h2 (by walk_at "lx")) op_eqS rfl)
    generalize cpre la1.reverse lb1.reverse = q at hpl ⊢
    refine x_cons (x_assign (d := .str (S (la1.take (la1.length - q)))) F (ev_slP (by walk_at "ev") (by walk_at "ev") (by walk_at "lx") (by walk_at "lx")) rfl) ?_
    refine x_cons (x_assign (d := .str (S (lb1.take (lb1.length - q)))) F (ev_slP (by walk_at "ev") (by walk_at "ev") (by walk_at "lx") (by walk_at "lx")) rfl) ?_
    have ha2 : ∀ c ∈ la1.take (la1.length - q), c < 128 := fun c h => ha1 c (List.mem_of_mem_take h)
    have hb2 : ∀ c ∈ lb1.take (lb1.length - q), c < 128 := fun c h => hb1 c (List.mem_of_mem_take h)
    have hla2 : (la1.take (la1.length - q)).length ≤ 40 := by rw [List.length_take]; walk_at "lx"
    have hlb2 : (lb1.take (lb1.length - q)).length ≤ 40 := by rw [List.length_take]; walk_at "lx"
    generalize la1.take (la1.length - q) = la2 at ha2 hla2 ⊢
    generalize lb1.take (lb1.length - q) = lb2 at hb2 hlb2 ⊢
    refine x_weak (σ' := [(PySem.Str.ofString "a", Slot.val (D.str (S la2))), (PySem.Str.ofString "b", Slot.val (D.str (S lb2))), (PySem.Str.ofString "max_cost", Slot.val (D.int m))]) (by walk_at "sub") ?_
    have sA : (S la2).length ≤ 40 := by rw [S_len]; exact hla2
    have sB : (S lb2).length ≤ 40 := by rw [S_len]; exact hlb2
    by_cases h0 : (la2.isEmpty || lb2.isEmpty) = true
    · rw [if_pos h0]
      refine x_stop (x_if (b := la2.isEmpty || lb2.isEmpty) (trOr2 (trNotS (tr_S (by walk_at "ev") (by walk_at "lx"))) (trNotS (tr_S (by walk_at "ev") (by walk_at "lx")))) (fun _ => x_stop (x_ret ?_)) fun h => absurd h0 (by rw [h]; decide))
      rw [show ((2 * (la2.length + lb2.length) : Nat) : Int) = 2 * (((S la2).length : Int) + ((S lb2).length : Int)) by rw [S_len, S_len]; walk_at "lx"]
      walk_at "ev"
    rw [if_neg h0]
    refine x_cons (x_if (b := la2.isEmpty || lb2.isEmpty) (trOr2 (trNotS (tr_S (by walk_at "ev") (by walk_at "lx"))) (trNotS (tr_S (by walk_at "ev") (by walk_at "lx")))) (fun h => absurd h h0) fun _ => x_nil) ?_
    refine x_cons (x_if (b := decide ((40 : Int) < ((S la2).length : Int)) || decide ((40 : Int) < ((S lb2).length : Int))) (trOr2 (by walk_at "tr") (by walk_at "tr")) (fun h => absurd h (by rw [S_len, S_len]; simp; walk_at "lx")) fun _ => x_nil) ?_
    have hxy : ∃ x y : List Nat, (if lb2.length < la2.length then midP lb2 la2 m else midP la2 lb2 m) = midP x y m ∧ ((lb2.length < la2.length ∧ x = lb2 ∧ y = la2) ∨ (¬ lb2.length < la2.length ∧ x = la2 ∧ y = lb2)) := by
      split
      · next h => exact ⟨_, _, rfl, .inl ⟨h, rfl, rfl⟩⟩
      · next h => exact ⟨_, _, rfl, .inr ⟨h, rfl, rfl⟩⟩
    obtain ⟨x, y, exy, hxy⟩ := hxy
    rw [exy]
    refine x_cons (σ₁ := [(PySem.Str.ofString "a", Slot.val (D.str (S x))), (PySem.Str.ofString "b", Slot.val (D.str (S y))), (PySem.Str.ofString "max_cost", Slot.val (D.int m))]) ?_ ?_
    · refine x_if (b := decide (((S lb2).length : Int) < ((S la2).length : Int))) (by walk_at "tr") (fun h => ?_) fun h => ?_
      · rw [S_len, S_len, decide_eq_true_eq] at h
        rcases hxy with ⟨g, rfl, rfl⟩ | ⟨g, _, _⟩
        · refine x_weakO (x_cons (x_tupS F.hh (ev_tuple (by walk_at "evs") (by simp)) (by rfl) (names := [PySem.Str.ofString "a", PySem.Str.ofString "b"]) (bndl_cons (bnd_name F rfl) (bndl_cons (bnd_name F rfl) bndl_nil)) rfl rfl) x_nil) (by walk_at "sub")
        · walk_at "lx"
      · rw [S_len, S_len, decide_eq_false_iff_not] at h
        rcases hxy with ⟨g, rfl, rfl⟩ | ⟨g, rfl, rfl⟩
        · walk_at "lx"
        · exact x_nil
    have hx : ∀ c ∈ x, c < 128 := by rcases hxy with ⟨g, rfl, rfl⟩ | ⟨g, rfl, rfl⟩ <;> assumption
    have hy : ∀ c ∈ y, c < 128 := by rcases hxy with ⟨g, rfl, rfl⟩ | ⟨g, rfl, rfl⟩ <;> assumption
    have hlx : x.length ≤ 40 := by rcases hxy with ⟨g, rfl, rfl⟩ | ⟨g, rfl, rfl⟩ <;> assumption
    have hly : y.length ≤ 40 := by rcases hxy with ⟨g, rfl, rfl⟩ | ⟨g, rfl, rfl⟩ <;> assumption
    have hxl : x.length ≤ y.length := by rcases hxy with ⟨g, rfl, rfl⟩ | ⟨g, rfl, rfl⟩ <;> walk_at "lx"
    clear hxy exy
    have sX : (S x).length ≤ 40 := by rw [S_len]; exact hlx
    have sY : (S y).length ≤ 40 := by rw [S_len]; exact hly
    unfold midP
    by_cases hq : m < (y.length - x.length) * 2
    · rw [if_pos hq]
      refine x_stop (x_if (b := decide ((m : Int) < (((S y).length : Int) - ((S x).length : Int)) * 2)) (by walk_at "tr") (fun _ => x_stop (x_ret (d := .int ((m : Int) + 1)) (by walk_at "ev"))) fun h => absurd h (by rw [S_len, S_len]; simp; walk_at "lx"))
    rw [if_neg hq]
    refine x_cons (x_if (b := decide ((m : Int) < (((S y).length : Int) - ((S x).length : Int)) * 2)) (by walk_at "tr") (fun h => absurd h (by rw [S_len, S_len]; simp; walk_at "lx")) fun _ => x_nil) ?_
    refine x_cons (x_assignF (ds := (rowN 2 x.length).map dN) F ?_ rfl) ?_
    · rw [← rngL_row]
      refine evF_listRng F rfl rfl (e := _) (b := 2 * (((S x).length : Int) + 1)) ?_ ?_ ?_ (by walk_at "lx")
      · walk_at "ev"
      · rw [S_len]; exact smallN2 (by walk_at "lx")
      · rw [S_len]; exact rangeSize2 _
    refine x_cons (x_assign F (by walk_at "ev") rfl) ?_
    refine x_weak (σ' := [(PySem.Str.ofString "a", Slot.val (D.str (S x))), (PySem.Str.ofString "b", Slot.val (D.str (S y))), (PySem.Str.ofString "max_cost", Slot.val (D.int m)), (PySem.Str.ofString "row", Slot.own ((rowN 2 x.length).map dN)), (PySem.Str.ofString "result", Slot.val (D.int 0))]) (by walk_at "sub") ?_
    suffices hst : ∃ o, X1 (W2 w mean mg mb) A (envOfC (PySem.Str.ofString "_levenshtein_distance") _ L 28 (.ref 27)) [(PySem.Str.ofString "a", Slot.val (D.str (S x))), (PySem.Str.ofString "b", Slot.val (D.str (S y))), (PySem.Str.ofString "max_cost", Slot.val (D.int m)), (PySem.Str.ofString "row", Slot.own ((rowN 2 x.length).map dN)), (PySem.Str.ofString "result", Slot.val (D.int 0))] _ o ∧ o = (match outQ x m y 0 (rowN 2 x.length) 0 with | none => Out.ret (.int ((m + 1 : Nat) : Int)) | some o => Out.next [(PySem.Str.ofString "a", Slot.val (D.str (S x))), (PySem.Str.ofString "b", Slot.val (D.str (S y))), (PySem.Str.ofString "max_cost", Slot.val (D.int m)), (PySem.Str.ofString "row", Slot.own (o.1.map dN)), (PySem.Str.ofString "result", Slot.val (dN o.2))]) by
      obtain ⟨o, h, e⟩ := hst
      rw [outP_Q]
      cases hq : outQ x m y 0 (rowN 2 x.length) 0 with
      | none => rw [hq] at e; dsimp only at e; subst e; exact x_stop h
      | some p =>
        rw [hq] at e; dsimp only at e; subst e
        exact x_cons h (x_stop (x_ret (by walk_at "ev")))
    refine ⟨_, x_for (ds := rngL 0 1 y.length) ?_ (iter_rng (b := ((S y).length : Int)) F.hh (by rw [S_len]; exact smallN1 (by walk_at "lx")) (by rw [S_len]; exact rangeSize1 _)) (for_outer (a := x) (lb := y) (m := m) (σ := fun row res => [(PySem.Str.ofString "a", Slot.val (D.str (S x))), (PySem.Str.ofString "b", Slot.val (D.str (S y))), (PySem.Str.ofString "max_cost", Slot.val (D.int m)), (PySem.Str.ofString "row", Slot.own (row.map dN)), (PySem.Str.ofString "result", Slot.val (dN res))]) ?_ y 0 _ 0 rfl (rowN_len _ _)), rfl⟩
    · walk_at "ev"
    intro i row res b hib hrl
    refine ⟨_, asg_name F rfl, ?_⟩
    have hil := get_lt hib
    refine x_cons (x_assign F (ev_itF (l := y) (q := i) (by walk_at "ev") (by walk_at "ev") hib (by walk_at "lx")) rfl) ?_
    refine x_cons (x_assign2 (d := dN (2 * i)) F ?_ rfl rfl) ?_
    · rw [show dN (2 * i) = D.int ((i : Int) * 2) by show D.int _ = D.int _; congr 1; walk_at "lx"]
      walk_at "ev"
    refine x_cons (x_assign (d := dN bigN) F (ev_int (i := 9223372036854775807)) rfl) ?_
    suffices hst : ∃ d', X1 (W2 w mean mg mb) A (envOfC (PySem.Str.ofString "_levenshtein_distance") _ L 28 (.ref 27)) [(PySem.Str.ofString "a", Slot.val (D.str (S x))), (PySem.Str.ofString "b", Slot.val (D.str (S y))), (PySem.Str.ofString "max_cost", Slot.val (D.int m)), (PySem.Str.ofString "row", Slot.own (row.map dN)), (PySem.Str.ofString "result", Slot.val (dN (2 * i))), (PySem.Str.ofString "bchar", Slot.val (D.str (S [b]))), (PySem.Str.ofString "distance", Slot.val (dN (2 * i))), (PySem.Str.ofString "minimum", Slot.val (dN bigN))] _ (.next [(PySem.Str.ofString "a", Slot.val (D.str (S x))), (PySem.Str.ofString "b", Slot.val (D.str (S y))), (PySem.Str.ofString "max_cost", Slot.val (D.int m)), (PySem.Str.ofString "row", Slot.own ((inP b x row (2 * i) (2 * i) bigN).1.map dN)), (PySem.Str.ofString "result", Slot.val (dN (inP b x row (2 * i) (2 * i) bigN).2.1)), (PySem.Str.ofString "bchar", Slot.val (D.str (S [b]))), (PySem.Str.ofString "distance", Slot.val (dN d')), (PySem.Str.ofString "minimum", Slot.val (dN (inP b x row (2 * i) (2 * i) bigN).2.2))]) by
      obtain ⟨d', h⟩ := hst
      refine x_cons (x1_weak (by walk_at "sub") h) ?_
      generalize inP b x row (2 * i) (2 * i) bigN = o
      by_cases hmo : m < o.2.2
      · rw [if_pos hmo]
        exact x_stop (x_if (b := decide ((m : Int) < (o.2.2 : Int))) (by walk_at "tr") (fun _ => x_stop (x_ret (d := .int ((m : Int) + 1)) (by walk_at "ev"))) fun h => absurd h (by simp; walk_at "lx"))
      · rw [if_neg hmo]
        exact x_weakO (x_cons (x_if (b := decide ((m : Int) < (o.2.2 : Int))) (by walk_at "tr") (fun h => absurd h (by simp; walk_at "lx")) (fun _ => x_nil)) x_nil) (by walk_at "sub")
    refine Exists.imp (fun d' h => x_for (ds := rngL 0 1 x.length) ?_ (iter_rng (b := ((S x).length : Int)) F.hh (by rw [S_len]; exact smallN1 (by walk_at "lx")) (by rw [S_len]; exact rangeSize1 _)) h) (for_inner (bc := b) (a := x) (σ := fun row d res mn => [(PySem.Str.ofString "a", Slot.val (D.str (S x))), (PySem.Str.ofString "b", Slot.val (D.str (S y))), (PySem.Str.ofString "max_cost", Slot.val (D.int m)), (PySem.Str.ofString "row", Slot.own (row.map dN)), (PySem.Str.ofString "result", Slot.val (dN res)), (PySem.Str.ofString "bchar", Slot.val (D.str (S [b]))), (PySem.Str.ofString "distance", Slot.val (dN d)), (PySem.Str.ofString "minimum", Slot.val (dN mn))]) ?_ x row [] 0 (2 * i) (2 * i) bigN rfl rfl hrl (Nat.zero_le _))
    · walk_at "ev"
    clear hrl
    intro j row d res mn c r hjc hjr hrl
    have hjl := get_lt hjc
    refine ⟨_, asg_name F rfl, ?_⟩
    have hb8 : b < 128 := mem_get hy hib
    have hc8 : c < 128 := mem_get hx hjc
    refine x_cons (x_assign (d := dN (d + subN b c)) F ?_ rfl) ?_
    · rw [show dN (d + subN b c) = D.int ((d : Int) + (subN b c : Nat)) by show D.int _ = D.int _; congr 1]
      exact ev_bin (by walk_at "ev") (ev_subst w mean mg mb (L := L) F rfl hb8 hc8 (by walk_at "ev") (ev_itF (l := x) (q := j) (by walk_at "ev") (by walk_at "ev") hjc (by walk_at "lx"))) op_add
    generalize d + subN b c = sub
    refine x_cons (x_assign (d := dN r) F (ev_itemO (i := (j : Int)) (xs := row.map dN) F (by walk_at "mem") (by walk_at "ev") (by walk_at "lx") (by rw [Int.toNat_natCast, List.getElem?_map, hjr]; rfl) (by rw [List.length_map]; walk_at "lx") (by decide)) rfl) ?_
    refine x_cons (x_assign (d := dN (min res r + 2)) F ?_ rfl) ?_
    · rw [show dN (min res r + 2) = D.int ((if (r : Int) < (res : Int) then (r : Int) else (res : Int)) + 2) by show D.int _ = D.int _; congr 1; rw [Nat.min_def]; split <;> split <;> walk_at "lx"]
      walk_at "ev"
    generalize min res r + 2 = u
    refine x_cons (x_assign (d := dN (min u sub)) F ?_ rfl) ?_
    · rw [show dN (min u sub) = D.int (if (sub : Int) < (u : Int) then (sub : Int) else (u : Int)) by show D.int _ = D.int _; congr 1; rw [Nat.min_def]; split <;> split <;> walk_at "lx"]
      walk_at "ev"
    generalize min u sub = res'
    refine x_cons (x_setItem (xs := row.map dN) (k := (j : Int)) (d := dN res') F (by walk_at "mem") (by walk_at "ev") (by walk_at "ev") (by walk_at "lx") (by rw [List.length_map]; walk_at "lx") (by rw [List.length_map]; walk_at "lx") (by decide)) ?_
    have es : (row.map dN).set (j : Int).toNat (dN res') = (row.set j res').map dN := by rw [Int.toNat_natCast, List.map_set]
    rw [es]
    by_cases hlt : res' < mn
    · rw [if_pos hlt]
      exact x_weakO (x_cons (x_if (b := decide ((res' : Int) < (mn : Int))) (by walk_at "tr") (fun _ => x_cons (x_assign F (by walk_at "ev") rfl) x_nil) fun h => absurd h (by simp; walk_at "lx")) x_nil) (by walk_at "sub")
    · rw [if_neg hlt]
      exact x_weakO (x_cons (x_if (b := decide ((res' : Int) < (mn : Int))) (by walk_at "tr") (fun h => absurd h (by simp; walk_at "lx")) (fun _ => x_nil)) x_nil) (by walk_at "sub")
end
section
section
noncomputable abbrev dL (l : List Nat) : D := D.lst (l.map dN)
theorem getD_some {o : List Nat} {k : Nat} (h : k < o.length) : (o.map dN)[k]? = some (dN (o.getD k 0)) := by
  rw [List.getElem?_map, List.getElem?_eq_getElem h, List.getD_eq_getElem?_getD, List.getElem?_eq_getElem h]; rfl
variable {W : WP} {A : Around} {env : Env} {σ : Sto}
theorem ev_itL {value sl : PySem.Expr} {pos : Pos} {o : List Nat} {k : Nat} (h : Ev W A env σ value (dL o)) (hl : Ev W A env σ sl (dN k)) (hk : k < o.length) (hz : o.length ≤ 1000)
    (hs : ∀ o i, subscripted sl false o i = operate [o, i] (getItem o i) := by intro _ _; rfl) : Ev W A env σ (.Subscript value sl pos) (dN (o.getD k 0)) :=
  ev_itemL h hl (by walk_at "lx") (by rw [Int.toNat_natCast]; exact getD_some hk) (by rw [List.length_map]; walk_at "lx") hs
theorem ev_slFL {value lo : PySem.Expr} {p pos : Pos} {xs : List Nat} {k : Nat} (h : Ev W A env σ value (dL xs)) (hl : Ev W A env σ lo (dN k)) (hk : k ≤ xs.length) (hz : xs.length ≤ 1000) : Ev W A env σ (.Subscript value (.Slice (some lo) none none p) pos) (dL (xs.drop k)) := by
  refine ev_sliceL h (evp_int hl) evp_nil (by rw [List.length_map]; walk_at "lx") fun fz vs hv => ?_
  have := pick_from (i := (k : Int)) hv (by walk_at "lx") (by rw [List.length_map]; walk_at "lx")
  rwa [Int.toNat_natCast, ← List.map_drop] at this
end
section
end
section
section
variable {W : WP} {A : Around} {env : Env} {σ : Sto}
theorem ev_mulN {e₁ e₂ : PySem.Expr} {pos : Pos} {a b : Nat} (h₁ : Ev W A env σ e₁ (dN a)) (h₂ : Ev W A env σ e₂ (dN b)) (hm : IntMulOk a b) : Ev W A env σ (.BinOp e₁ .Mult e₂ pos) (dN (a * b)) := by
  rw [show dN (a * b) = D.int ((a : Int) * (b : Int)) by show D.int _ = D.int _; simp]
  exact ev_bin h₁ h₂ (op_mul hm)
theorem ev_addN {e₁ e₂ : PySem.Expr} {pos : Pos} {a b : Nat} (h₁ : Ev W A env σ e₁ (dN a)) (h₂ : Ev W A env σ e₂ (dN b)) : Ev W A env σ (.BinOp e₁ .Add e₂ pos) (dN (a + b)) := by
  rw [show dN (a + b) = D.int ((a : Int) + (b : Int)) by show D.int _ = D.int _; simp]
  exact ev_bin h₁ h₂ op_add
end
end
section
theorem sumCast : ∀ l : List Nat, (l.map fun k : Nat => (k : Int)).sum = (l.sum : Nat)
  | [] => rfl
  | a :: l => by rw [List.map_cons, List.sum_cons, sumCast l, List.sum_cons]; simp
theorem cv_sumN {W : WP} {A : Around} {l : List Nat} (hh : A.handled = none) : CallV W A (.builtin "sum") [dL l] (dN l.sum) := by
  have := cv_sum (W := W) (A := A) (ns := l.map fun k : Nat => (k : Int)) hh
  rw [sumCast, List.map_map] at this
  exact this
end
end
section
noncomputable def repP (c : Nat) (r l : List Nat) : List Nat := l.flatMap fun k => if k = c then r else [k]
theorem repP_free (c : Nat) (r : List Nat) : ∀ l : List Nat, c ∉ l → repP c r l = l
  | [], _ => rfl
  | k :: l, h => by
    have h1 : ¬ k = c := fun e => h (e ▸ List.mem_cons_self ..)
    have h2 : c ∉ l := fun m => h (List.mem_cons_of_mem _ m)
    show (if k = c then r else [k]) ++ repP c r l = _
    rw [if_neg h1, repP_free c r l h2]; rfl
theorem repP_append (c : Nat) (r a b : List Nat) : repP c r (a ++ b) = repP c r a ++ repP c r b := List.flatMap_append
theorem repP_join (c : Nat) (r : List Nat) : ∀ parts : List PySem.Str, (∀ p ∈ parts, c ∉ p.cps.toList) → (PySem.Str.join (S r) parts).cps.toList = repP c r (PySem.Str.join ⟨#[c]⟩ parts).cps.toList
  | [], _ => rfl
  | [p], h => (repP_free c r _ (h p (List.mem_singleton.mpr rfl))).symm
  | p :: q :: ps, h => by
    have ih := repP_join c r (q :: ps) fun a ha => h a (List.mem_cons_of_mem _ ha)
    show (p ++ S r ++ PySem.Str.join (S r) (q :: ps)).cps.toList = repP c r (p ++ ⟨#[c]⟩ ++ PySem.Str.join ⟨#[c]⟩ (q :: ps)).cps.toList
    simp only [PySem.Str.cps_append, Array.toList_append]
    rw [repP_append, repP_append, ← ih, repP_free c r _ (h p (List.mem_cons_self ..))]
    show p.cps.toList ++ r ++ _ = p.cps.toList ++ repP c r [c] ++ _
    have : repP c r [c] = r := by simp [repP]
    rw [this]
theorem S_toList (x : PySem.Str) (l : List Nat) (h : x.cps.toList = l) : x = S l := by
  obtain ⟨⟨a⟩⟩ := x
  simp at h; subst h; rfl
theorem inRep_S (l : List Nat) (c : Nat) (r : List Nat) : inRep (S l) (S [c]) (S r) = S (repP c r l) := by
  unfold inRep
  have h := StrLaws.found_one (S l) c
  split
  · next he =>
    have he' : (Builtin.Str.occurrences (S l) ⟨#[c]⟩ 0 (S l).length 1).isEmpty = true := he
    rw [he'] at h
    have : c ∉ l := by simpa using h
    rw [repP_free c r l this]
  · refine S_toList _ _ ?_
    have e : Txt.replace (S l) (S [c]) (S r) = PySem.Str.join (S r) (Txt.split (S l) ⟨#[c]⟩) := StrLaws.replace_one (S l) (S r) c
    rw [e, repP_join c r _ (StrLaws.split_free (S l) c), StrLaws.join_split]
theorem repP_len (c : Nat) (r : List Nat) (hr : 1 ≤ r.length) : ∀ l : List Nat, (repP c r l).length ≤ l.length * r.length
  | [] => by simp [repP]
  | k :: l => by
    have ih := repP_len c r hr l
    have e : repP c r (k :: l) = (if k = c then r else [k]) ++ repP c r l := rfl
    rw [e, List.length_append, List.length_cons, Nat.add_mul]
    split
    · walk_at "lx"
    · simp; walk_at "lx"
noncomputable def escP (rows : List (Nat × List Nat)) (l : List Nat) : List Nat := rows.foldl (fun l p => repP p.1 p.2 l) l
noncomputable abbrev rAmp : Nat × List Nat := (38, [38, 97, 109, 112, 59])
noncomputable abbrev rLt : Nat × List Nat := (60, [38, 108, 116, 59])
noncomputable abbrev rGt : Nat × List Nat := (62, [38, 103, 116, 59])
noncomputable abbrev rQuot : Nat × List Nat := (34, [38, 113, 117, 111, 116, 59])
noncomputable abbrev rR13 : Nat × List Nat := (13, [38, 35, 49, 51, 59])
noncomputable abbrev rN10 : Nat × List Nat := (10, [38, 35, 49, 48, 59])
noncomputable abbrev rT09 : Nat × List Nat := (9, [38, 35, 48, 57, 59])
noncomputable abbrev rXD : Nat × List Nat := (13, [38, 35, 120, 68, 59])
noncomputable abbrev rXA : Nat × List Nat := (10, [38, 35, 120, 65, 59])
noncomputable abbrev rX9 : Nat × List Nat := (9, [38, 35, 120, 57, 59])
noncomputable def escRows : Nat → List (Nat × List Nat)
  | 0 => [rAmp, rLt, rGt]
  | 1 => [rAmp, rLt, rGt, rQuot, rR13, rN10, rT09]
  | 2 => [rAmp, rGt, rQuot]
  | 3 => [rAmp, rLt, rGt, rXD]
  | _ => [rAmp, rLt, rQuot, rX9, rXA, rXD]
section
variable {W : WP} {A : Around} {env : Env}
theorem x_rep {n B : Nat} {x cS rS : PySem.Str} {l : List Nat} {p : Nat × List Nat} {k1 k7 k8 : Nat} {p1 p2 p3 p4 p5 p6 p7 p8 p9 p10 p11 : Pos} {rest : List Stmt} {rows : List (Nat × List Nat)} {pl : Sem Bool} (F : FOK n A env) (hx : env.kindOf x = some .local) (hd : (x == ("__debug__" : PySem.Str)) = false)
    (hc : cS = S [p.1]) (hr : rS = S p.2) (hcr : (cS == rS) = false) (hl : l.length ≤ B) (hz : B + (B + 1) * p.2.length ≤ 16777216) (h1 : 1 ≤ p.2.length)
    (next : (repP p.1 p.2 l).length ≤ B * p.2.length → X W A env [(x, Slot.val (.str (S (repP p.1 p.2 l))))] rest (.ret (.str (S (escP rows (repP p.1 p.2 l))))))
    (hsw : swapsWith (.Call (.Attribute (.Name x p5) "replace" p6) [.Constant (.str cS) k7 p7, .Constant (.str rS) k8 p8] [] p9) (some (.Name x p4)) p10.line env = pure false := by rfl)
    (he : eval ((PySem.Expr.Attribute (.Name x p5) "replace" p6).Call [.Constant (.str cS) k7 p7, .Constant (.str rS) k8 p8] [] p9) env = (do let ov ← eval (.Name x p5) env; standAt p6.atName; let (f, first) ← holding [ov] (getMethod ov "replace" pl); callWith p9 f first (backTo p9 (starEach [.Constant (.str cS) k7 p7, .Constant (.str rS) k8 p8] env)) []) := by rfl) :
    X W A env [(x, Slot.val (.str (S l)))] (.If (.Compare (.Constant (.str cS) k1 p1) [.In] [.Name x p2] p3) [.Assign [.Name x p4] (.Call (.Attribute (.Name x p5) "replace" p6) [.Constant (.str cS) k7 p7, .Constant (.str rS) k8 p8] [] p9) p10] [] p11 :: rest) (.ret (.str (S (escP (p :: rows) l)))) := by
  have e := inRep_S l p.1 p.2
  rw [← hc, ← hr] at e
  have hlen : (repP p.1 p.2 l).length ≤ B * p.2.length := Nat.le_trans (repP_len p.1 p.2 h1 l) (Nat.mul_le_mul_right _ hl)
  have hrl : rS.length = p.2.length := by rw [hr, S_len]
  have := x_ifReplace (W := W) (k1 := k1) (p1 := p1) (p2 := p2) (p3 := p3) (p11 := p11) (pl := pl) F (.head _) hx hd hcr (by
    rw [S_len, hrl]
    have : (l.length + 1) * p.2.length ≤ (B + 1) * p.2.length := Nat.mul_le_mul_right _ (by walk_at "lx")
    walk_at "lx") hsw he (σ := [(x, Slot.val (.str (S l)))])
  rw [e] at this
  have e2 : upd [(x, Slot.val (.str (S l)))] x (.val (.str (S (repP p.1 p.2 l)))) = [(x, Slot.val (.str (S (repP p.1 p.2 l))))] := by simp [upd]
  rw [e2] at this
  exact x_cons this (next hlen)
end
variable (w : World) (mean : ExcName → Option Value) (mg mb : PySem.Str → Option Value)
set_option maxHeartbeats 400000
theorem esc0_ok (l : List Nat) (hl : l.length ≤ 20) : CallOk (W2 w mean mg mb) 1 52 [.str (S l)] (.str (S (escP (escRows 0) l))) := by
  refine def_ok (names := [PySem.Str.ofString "text"]) rfl rfl (all1 fun _ => rfl) (by decide) (by walk_at "names") rfl rfl rfl rfl ?_
  · intro A L F
    show X _ _ _ [(PySem.Str.ofString "text", Slot.val (D.str (S l)))] _ _
    refine x_stop (x_try ?_)
    refine x_rep (B := 20) (p := rAmp) F rfl rfl rfl rfl rfl hl (Nat.le_of_ble_eq_true rfl) (Nat.le_of_ble_eq_true rfl) fun hl => ?_
    refine x_rep (B := 100) (p := rLt) F rfl rfl rfl rfl rfl hl (Nat.le_of_ble_eq_true rfl) (Nat.le_of_ble_eq_true rfl) fun hl => ?_
    refine x_rep (B := 400) (p := rGt) F rfl rfl rfl rfl rfl hl (Nat.le_of_ble_eq_true rfl) (Nat.le_of_ble_eq_true rfl) fun hl => ?_
    exact x_stop (x_ret (ev_name F (.head _) (by decide)))
theorem esc1_ok (l : List Nat) (hl : l.length ≤ 20) : CallOk (W2 w mean mg mb) 1 59 [.str (S l)] (.str (S (escP (escRows 1) l))) := by
  refine def_ok (names := [PySem.Str.ofString "text"]) rfl rfl (all1 fun _ => rfl) (by decide) (by walk_at "names") rfl rfl rfl rfl ?_
  · intro A L F
    show X _ _ _ [(PySem.Str.ofString "text", Slot.val (D.str (S l)))] _ _
    refine x_stop (x_try ?_)
    refine x_rep (B := 20) (p := rAmp) F rfl rfl rfl rfl rfl hl (Nat.le_of_ble_eq_true rfl) (Nat.le_of_ble_eq_true rfl) fun hl => ?_
    refine x_rep (B := 100) (p := rLt) F rfl rfl rfl rfl rfl hl (Nat.le_of_ble_eq_true rfl) (Nat.le_of_ble_eq_true rfl) fun hl => ?_
    refine x_rep (B := 400) (p := rGt) F rfl rfl rfl rfl rfl hl (Nat.le_of_ble_eq_true rfl) (Nat.le_of_ble_eq_true rfl) fun hl => ?_
    refine x_rep (B := 1600) (p := rQuot) F rfl rfl rfl rfl rfl hl (Nat.le_of_ble_eq_true rfl) (Nat.le_of_ble_eq_true rfl) fun hl => ?_
    refine x_rep (B := 9600) (p := rR13) F rfl rfl rfl rfl rfl hl (Nat.le_of_ble_eq_true rfl) (Nat.le_of_ble_eq_true rfl) fun hl => ?_
    refine x_rep (B := 48000) (p := rN10) F rfl rfl rfl rfl rfl hl (Nat.le_of_ble_eq_true rfl) (Nat.le_of_ble_eq_true rfl) fun hl => ?_
    refine x_rep (B := 240000) (p := rT09) F rfl rfl rfl rfl rfl hl (Nat.le_of_ble_eq_true rfl) (Nat.le_of_ble_eq_true rfl) fun hl => ?_
    exact x_stop (x_ret (ev_name F (.head _) (by decide)))
theorem esc2_ok (l : List Nat) (hl : l.length ≤ 20) : CallOk (W2 w mean mg mb) 1 66 [.str (S l)] (.str (S (escP (escRows 2) l))) := by
  refine def_ok (names := [PySem.Str.ofString "text"]) rfl rfl (all1 fun _ => rfl) (by decide) (by walk_at "names") rfl rfl rfl rfl ?_
  · intro A L F
    show X _ _ _ [(PySem.Str.ofString "text", Slot.val (D.str (S l)))] _ _
    refine x_stop (x_try ?_)
    refine x_rep (B := 20) (p := rAmp) F rfl rfl rfl rfl rfl hl (Nat.le_of_ble_eq_true rfl) (Nat.le_of_ble_eq_true rfl) fun hl => ?_
    refine x_rep (B := 100) (p := rGt) F rfl rfl rfl rfl rfl hl (Nat.le_of_ble_eq_true rfl) (Nat.le_of_ble_eq_true rfl) fun hl => ?_
    refine x_rep (B := 400) (p := rQuot) F rfl rfl rfl rfl rfl hl (Nat.le_of_ble_eq_true rfl) (Nat.le_of_ble_eq_true rfl) fun hl => ?_
    exact x_stop (x_ret (ev_name F (.head _) (by decide)))
theorem esc3_ok (l : List Nat) (hl : l.length ≤ 20) : CallOk (W2 w mean mg mb) 1 73 [.str (S l)] (.str (S (escP (escRows 3) l))) := by
  refine def_ok (names := [PySem.Str.ofString "text"]) rfl rfl (all1 fun _ => rfl) (by decide) (by walk_at "names") rfl rfl rfl rfl ?_
  · intro A L F
    show X _ _ _ [(PySem.Str.ofString "text", Slot.val (D.str (S l)))] _ _
    refine x_stop (x_try ?_)
    refine x_rep (B := 20) (p := rAmp) F rfl rfl rfl rfl rfl hl (Nat.le_of_ble_eq_true rfl) (Nat.le_of_ble_eq_true rfl) fun hl => ?_
    refine x_rep (B := 100) (p := rLt) F rfl rfl rfl rfl rfl hl (Nat.le_of_ble_eq_true rfl) (Nat.le_of_ble_eq_true rfl) fun hl => ?_
    refine x_rep (B := 400) (p := rGt) F rfl rfl rfl rfl rfl hl (Nat.le_of_ble_eq_true rfl) (Nat.le_of_ble_eq_true rfl) fun hl => ?_
    refine x_rep (B := 1600) (p := rXD) F rfl rfl rfl rfl rfl hl (Nat.le_of_ble_eq_true rfl) (Nat.le_of_ble_eq_true rfl) fun hl => ?_
    exact x_stop (x_ret (ev_name F (.head _) (by decide)))
theorem esc4_ok (l : List Nat) (hl : l.length ≤ 20) : CallOk (W2 w mean mg mb) 1 80 [.str (S l)] (.str (S (escP (escRows 4) l))) := by
  refine def_ok (names := [PySem.Str.ofString "text"]) rfl rfl (all1 fun _ => rfl) (by decide) (by walk_at "names") rfl rfl rfl rfl ?_
  · intro A L F
    show X _ _ _ [(PySem.Str.ofString "text", Slot.val (D.str (S l)))] _ _
    refine x_stop (x_try ?_)
    refine x_rep (B := 20) (p := rAmp) F rfl rfl rfl rfl rfl hl (Nat.le_of_ble_eq_true rfl) (Nat.le_of_ble_eq_true rfl) fun hl => ?_
    refine x_rep (B := 100) (p := rLt) F rfl rfl rfl rfl rfl hl (Nat.le_of_ble_eq_true rfl) (Nat.le_of_ble_eq_true rfl) fun hl => ?_
    refine x_rep (B := 400) (p := rQuot) F rfl rfl rfl rfl rfl hl (Nat.le_of_ble_eq_true rfl) (Nat.le_of_ble_eq_true rfl) fun hl => ?_
    refine x_rep (B := 2400) (p := rX9) F rfl rfl rfl rfl rfl hl (Nat.le_of_ble_eq_true rfl) (Nat.le_of_ble_eq_true rfl) fun hl => ?_
    refine x_rep (B := 12000) (p := rXA) F rfl rfl rfl rfl rfl hl (Nat.le_of_ble_eq_true rfl) (Nat.le_of_ble_eq_true rfl) fun hl => ?_
    refine x_rep (B := 60000) (p := rXD) F rfl rfl rfl rfl rfl hl (Nat.le_of_ble_eq_true rfl) (Nat.le_of_ble_eq_true rfl) fun hl => ?_
    exact x_stop (x_ret (ev_name F (.head _) (by decide)))
end
section
noncomputable def tokT : List (List Nat × Nat) := [([33], 54), ([33, 61], 28), ([37], 24), ([37, 61], 40), ([38], 19), ([38, 61], 41), ([40], 7), ([41], 8), ([42], 16), ([42, 42], 35), ([42, 42, 61], 46), ([42, 61], 38), ([43], 14), ([43, 61], 36), ([44], 12), ([45], 15), ([45, 61], 37), ([45, 62], 51), ([46], 23), ([46, 46, 46], 52), ([47], 17), ([47, 47], 47), ([47, 47, 61], 48), ([47, 61], 39), ([58], 11), ([58, 61], 53), ([59], 13), ([60], 20), ([60, 60], 33), ([60, 60, 61], 44), ([60, 61], 29), ([61], 22), ([61, 61], 27), ([62], 21), ([62, 61], 30), ([62, 62], 34), ([62, 62, 61], 45), ([64], 49), ([64, 61], 50), ([91], 9), ([93], 10), ([94], 32), ([94, 61], 43), ([123], 25), ([124], 18), ([124, 61], 42), ([125], 26), ([126], 31)]
noncomputable def tokLook (x : List Nat) : List (List Nat × Nat) → Option Nat
  | [] => none
  | (a, n) :: r => if a = x then some n else tokLook x r
noncomputable abbrev tokS (T : List (List Nat × Nat)) : List (PySem.Str × Int) := T.map fun p => (S p.1, (p.2 : Int))
theorem S_eq {a b : List Nat} : S a = S b ↔ a = b := by
  constructor
  · intro h; have := congrArg (fun x : PySem.Str => x.cps.toList) h; simpa [S] using this
  · intro h; rw [h]
theorem tab_tok (x : List Nat) : ∀ T : List (List Nat × Nat), tabLook (tokS T) (S x) = (tokLook x T).map fun n : Nat => (n : Int)
  | [] => rfl
  | (a, n) :: r => by
    have ih := tab_tok x r
    show (if S a = S x then some (n : Int) else tabLook (tokS r) (S x)) = (if a = x then some n else tokLook x r).map _
    rw [ih]
    by_cases h : a = x
    · rw [if_pos h, if_pos (by rw [h])]; rfl
    · rw [if_neg h, if_neg fun e => h (S_eq.mp e)]
noncomputable def sizeP (page : List Nat) : Nat := if (tokLook (page.take 3) tokT).isSome then 3 else if (tokLook (page.take 2) tokT).isSome then 2 else 1
/-- a symbol: a token's number or the sign itself -/
inductive Sym where
  | num (n : Nat)
  | txt (l : List Nat)
noncomputable def symOf (x : List Nat) : Sym := match tokLook x tokT with
  | some n => .num n
  | none => .txt x
noncomputable def Sym.d : Sym → D
  | .num n => dN n
  | .txt l => .str (S l)
noncomputable def symGo : Nat → List Nat → List Sym
  | 0, _ => []
  | f + 1, page => if page.isEmpty then [] else symOf (page.take (sizeP page)) :: symGo f (page.drop (sizeP page))
theorem tabOr_sym (x : List Nat) : tabOr (tokS tokT) (S x) (S x) = (symOf x).d := by
  unfold tabOr symOf
  rw [tab_tok]
  cases tokLook x tokT <;> rfl
variable (w : World) (mean : ExcName → Option Value) (mg mb : PySem.Str → Option Value)
theorem hasTok : HasTab (W2 w mean mg mb) 36 (tokS tokT) := by
  intro h hx
  exact kt_tab_in (a := 36) (D := (tokS tokT).map fun p => (p.1, PyData.int p.2)) _ w hx (by kernel_rfl) (by decide +kernel) (by kernel_rfl)
theorem sl_take (l : List Nat) (q : Nat) : Txt.slice (S l) none (some (q : Int)) = S (l.take q) := by
  rcases Nat.le_total q l.length with h | h
  · exact sl_upto l q h
  · rw [sl_over l q h, List.take_of_length_le h]
theorem sl_dropA (l : List Nat) (q : Nat) : Txt.slice (S l) (some (q : Int)) none = S (l.drop q) := by
  rcases Nat.le_total q l.length with h | h
  · exact sl_from l q h
  · rw [sl_fromOver l q h, List.drop_eq_nil_of_le h]
section
variable {W : WP} {A : Around} {env : Env} {σ : Sto}
theorem ev_slT {value hi : PySem.Expr} {p pos : Pos} {l : List Nat} {q : Nat} (h : Ev W A env σ value (.str (S l))) (hu : Ev W A env σ hi (.int (q : Int))) (hz : l.length ≤ 1000) :
    Ev W A env σ (.Subscript value (.Slice none (some hi) none p) pos) (.str (S (l.take q))) := by
  rw [← sl_take l q]; exact ev_sliceS h evp_nil (evp_int hu) (by rw [S_len]; walk_at "lx")
theorem ev_slD {value lo : PySem.Expr} {p pos : Pos} {l : List Nat} {q : Nat} (h : Ev W A env σ value (.str (S l))) (hl : Ev W A env σ lo (.int (q : Int))) (hz : l.length ≤ 1000) :
    Ev W A env σ (.Subscript value (.Slice (some lo) none none p) pos) (.str (S (l.drop q))) := by
  rw [← sl_dropA l q]; exact ev_sliceS h (evp_int hl) evp_nil (by rw [S_len]; walk_at "lx")
theorem tr_and2 {e₁ e₂ : PySem.Expr} {pos : Pos} {b c : Bool} (h₁ : Tr W A env σ e₁ b) (h₂ : b = true → Tr W A env σ e₂ c) : Tr W A env σ (.BoolOp .And [e₁, e₂] pos) (b && c) := by
  have := allT_and (c := c && true) h₁ fun hb => allT_and (h₂ hb) fun _ => allT_nil
  rw [Bool.and_true] at this
  exact tr_bool this
end
theorem size_run {test : Sto → Bool → Prop} {body : Sto → Out → Prop} (l : List Nat) (σ : Nat → Sto) (ht : ∀ q, q ≤ 3 → test (σ q) (decide (1 < q) && !(tokLook (l.take q) tokT).isSome)) (hb : ∀ q, 2 ≤ q → q ≤ 3 → body (σ q) (.next (σ (q - 1)))) :
    WhileRun test body 2 (σ 3) (.next (σ (sizeP l))) := by
  unfold sizeP
  have h3 := ht 3 (by walk_at "lx")
  have h2 := ht 2 (by walk_at "lx")
  have h1 := ht 1 (by walk_at "lx")
  cases e3 : (tokLook (l.take 3) tokT).isSome with
  | true => rw [e3] at h3; rw [if_pos rfl]; exact .stop h3
  | false =>
    rw [e3] at h3
    rw [if_neg (by decide)]
    refine .next h3 (hb 3 (by walk_at "lx") (by walk_at "lx")) ?_
    cases e2 : (tokLook (l.take 2) tokT).isSome with
    | true => rw [e2] at h2; rw [if_pos rfl]; exact .stop h2
    | false =>
      rw [e2] at h2
      rw [if_neg (by decide)]
      exact .next h2 (hb 2 (by walk_at "lx") (by walk_at "lx")) (.stop h1)
set_option maxHeartbeats 400000
theorem symbols_ok (f : Nat) (l : List Nat) (hl : l.length ≤ f) (hf : f ≤ 100) : CallOk (W2 w mean mg mb) 1 87 [.str (S l)] (.lst ((symGo f l).map Sym.d)) := by
  refine def_ok (names := [PySem.Str.ofString "page"]) rfl rfl (all1 fun _ => rfl) (by decide) (by walk_at "names") rfl rfl rfl rfl ?_
  · intro A L F
    show X _ _ _ [(PySem.Str.ofString "page", Slot.val (D.str (S l)))] _ _
    refine x_cons (x_assignF (ds := []) F (evF_list evs_nil (by decide)) rfl) ?_
    refine x_cons (σ₁ := [(PySem.Str.ofString "page", Slot.val (D.str (S []))), (PySem.Str.ofString "symbols", Slot.own ((symGo f l).map Sym.d))]) ?_ (x_freeze (x := PySem.Str.ofString "symbols") (by walk_at "mem") (x_stop (x_ret (by walk_at "ev"))))
    refine x1_weak (σ' := [(PySem.Str.ofString "page", Slot.val (D.str (S l))), (PySem.Str.ofString "symbols", Slot.own [])]) (by walk_at "sub") ?_
    refine x_while (n := f) ?_
    change WhileRun _ _ _ [_, (_, Slot.own (([] : List Sym).map Sym.d))] _
    have e0 : (symGo f l).map Sym.d = ([] ++ symGo f l).map Sym.d := rfl
    rw [e0]
    have ha : ([] : List Sym).length + f ≤ 100 := by simpa using hf
    generalize ([] : List Sym) = acc at ha ⊢
    clear hf e0
    induction f generalizing l acc with
    | zero =>
      have : l = [] := List.eq_nil_of_length_eq_zero (by walk_at "lx")
      subst this
      rw [symGo, List.append_nil]
      exact .stop (tr_S (l := []) (by walk_at "ev") (by decide))
    | succ f ih =>
      cases hem : l.isEmpty with
      | true =>
        have : l = [] := by simpa using hem
        subst this
        rw [show symGo (f + 1) [] = [] from rfl, List.append_nil]
        exact .stop (tr_S (l := []) (by walk_at "ev") (by decide))
      | false =>
        have hne : l ≠ [] := by intro h; subst h; cases hem
        have hpos : 0 < l.length := List.length_pos_iff.mpr hne
        have e1 : symGo (f + 1) l = symOf (l.take (sizeP l)) :: symGo f (l.drop (sizeP l)) := by
          rw [symGo, if_neg (by rw [hem]; decide)]
        rw [e1]
        have hsz : 1 ≤ sizeP l ∧ sizeP l ≤ 3 := by unfold sizeP; split <;> (try split) <;> walk_at "lx"
        have ih' := ih (l.drop (sizeP l)) (by rw [List.length_drop]; walk_at "lx") (acc ++ [symOf (l.take (sizeP l))]) (by simp; walk_at "lx")
        rw [List.append_assoc, List.singleton_append] at ih'
        refine WhileRun.next (tr_eqB (by rw [hem]; rfl) (tr_S (l := l) (by walk_at "ev") (by walk_at "lx"))) ?_ ih'
        have hl1 : l.length ≤ 1000 := by walk_at "lx"
        have hal : acc.length ≤ 1000 := by walk_at "lx"
        clear ih ih'
        refine x_weakO (x_cons (x_assign F (by walk_at "ev") rfl) (x_cons (σ₁ := [(PySem.Str.ofString "page", Slot.val (D.str (S l))), (PySem.Str.ofString "symbols", Slot.own (acc.map Sym.d)), (PySem.Str.ofString "size", Slot.val (D.int (sizeP l : Int)))]) ?_ (x_cons (x_append F (by walk_at "mem") (ev_getTab F (hasTok w mean mg mb) rfl rfl (by decide) (ev_slT (by walk_at "ev") (by walk_at "ev") hl1) (ev_slT (by walk_at "ev") (by walk_at "ev") hl1)) (by rw [List.length_map]; walk_at "lx") (by decide) rfl) (x_cons (x_assign F (ev_slD (by walk_at "ev") (by walk_at "ev") hl1) rfl) x_nil)))) ?_
        · refine x1_weak (σ' := [(PySem.Str.ofString "page", Slot.val (D.str (S l))), (PySem.Str.ofString "symbols", Slot.own (acc.map Sym.d)), (PySem.Str.ofString "size", Slot.val (D.int 3))]) (by walk_at "sub") (x_while (n := 2) ?_)
          refine size_run l (fun q => [(PySem.Str.ofString "page", Slot.val (D.str (S l))), (PySem.Str.ofString "symbols", Slot.own (acc.map Sym.d)), (PySem.Str.ofString "size", Slot.val (D.int (q : Int)))]) ?_ ?_
          · intro q hq
            have e : ((tokLook (l.take q) tokT).map fun n : Nat => (n : Int)).isSome = (tokLook (l.take q) tokT).isSome := by cases tokLook (l.take q) tokT <;> rfl
            have e2 : decide (1 < q) = decide (1 < (q : Int)) := by rw [Bool.eq_iff_iff]; simp; walk_at "lx"
            rw [← e, ← tab_tok, e2]
            exact tr_and2 (by walk_at "tr") fun _ => tr_notInTab F (hasTok w mean mg mb) rfl rfl (by decide) (ev_slT (by walk_at "ev") (by walk_at "ev") hl1)
          · intro q h2 h3
            have e : ((q - 1 : Nat) : Int) = (q : Int) - 1 := by walk_at "lx"
            simp only [e]
            exact x_weakO (x_cons (x_aug F (by walk_at "mem") rfl (ev_int (i := 1)) op_isubI) x_nil) (by walk_at "sub")
        · rw [tabOr_sym, List.map_append, List.map_cons, List.map_nil]
          walk_at "sub"
end
section
noncomputable def idxP (nm : List Nat) : Option Nat := if nm = [97, 109, 112] then some 0 else if nm = [108, 116] then some 1 else if nm = [103, 116] then some 2 else none
section
variable {W : WP} {A : Around} {env : Env} {σ : Sto}
theorem tr_to {e : PySem.Expr} {b c : Bool} (t : Tr W A env σ e b) (h : b = c) : Tr W A env σ e c := h ▸ t
theorem ev_index3 {o : PySem.Expr} {apos pos : Pos} {e : PySem.Expr} {nm : List Nat} {j : Nat} {pl : Sem Bool} (ho : EvF W A env σ o [.str (S [97, 109, 112]), .str (S [108, 116]), .str (S [103, 116])]) (h : Ev W A env σ e (.str (S nm))) (hj : idxP nm = some j)
    (hs : starEach [e] env = (false, eval e env) :: starEach [] env := by rfl)
    (hm : eval ((o.Attribute "index" apos).Call [e] [] pos) env = (do let ov ← eval o env; standAt apos.atName; let (f, first) ← holding [ov] (getMethod ov "index" pl); callWith pos f first (backTo pos (starEach [e] env)) []) := by rfl) :
    Ev W A env σ (.Call (.Attribute o "index" apos) [e] [] pos) (dN j) := by
  refine ev_methL (pl := pl) ho PySem.F.slot_list_index PySem.F.type_list_index (evs_cons h evs_nil hs) ?_ (fun v Q E s hq => callWith_method1 (e := e) (rest := []) hq hs rfl) hm
  have key : ∀ (j : Nat), [S [97, 109, 112], S [108, 116], S [103, 116]][j]? = some (S nm) → (∀ m y, m < j → [S [97, 109, 112], S [108, 116], S [103, 116]][m]? = some y → (y == S nm) = false) → CallV W A (.builtin "list.index") [.lst [.str (S [97, 109, 112]), .str (S [108, 116]), .str (S [103, 116])], .str (S nm)] (dN j) :=
    fun j h1 h2 => cv_index (ys := [S [97, 109, 112], S [108, 116], S [103, 116]]) h1 h2 (by decide)
  unfold idxP at hj
  split at hj
  · next hn => subst hn; cases hj; exact key 0 rfl (fun m y hm => absurd hm (by walk_at "lx"))
  · split at hj
    · next hn =>
      subst hn; cases hj
      refine key 1 rfl (fun m y hm e => ?_)
      have : m = 0 := by walk_at "lx"
      subst this; cases e; decide +kernel
    · split at hj
      · next hn =>
        subst hn; cases hj
        refine key 2 rfl (fun m y hm e => ?_)
        have : m = 0 ∨ m = 1 := by walk_at "lx"
        rcases this with rfl | rfl <;> (cases e; decide +kernel)
      · cases hj
end
end
section
noncomputable def drawP (i : Int) : Nat := (i.fmod 1000000).toNat
noncomputable def drawsP (ns : List Int) : List Nat := (ns.take 5).map drawP ++ [3, 5, 5, 8, 29].drop (ns.take 5).length
theorem drawsP_len (ns : List Int) : (drawsP ns).length = 5 := by
  unfold drawsP; simp; walk_at "lx"
theorem drawP_eq (i : Int) : dN (drawP i) = D.int (i.fmod (10 ^ (6 : Int).toNat)) := by
  show D.int _ = D.int _
  have h : (10 : Int) ^ (6 : Int).toNat = 1000000 := by decide
  rw [h]
  have : 0 ≤ i.fmod 1000000 := Int.fmod_nonneg_of_pos i (by decide)
  unfold drawP
  congr 1
  walk_at "lx"
section
variable {W : WP} {A : Around} {env : Env} {σ : Sto}
theorem ev_modN {e₁ e₂ : PySem.Expr} {pos : Pos} {a b : Nat} (h₁ : Ev W A env σ e₁ (dN a)) (h₂ : Ev W A env σ e₂ (dN b)) (hb : b ≠ 0) : Ev W A env σ (.BinOp e₁ .Mod e₂ pos) (dN (a % b)) := by
  rw [show dN (a % b) = D.int ((a : Int).fmod (b : Int)) by
    show D.int _ = D.int _
    rw [Int.fmod_eq_emod_of_nonneg _ (by walk_at "lx")]; rfl]
  exact ev_bin h₁ h₂ (op_mod (by walk_at "lx"))
theorem ev_divN {e₁ e₂ : PySem.Expr} {pos : Pos} {a b : Nat} (h₁ : Ev W A env σ e₁ (dN a)) (h₂ : Ev W A env σ e₂ (dN b)) (hb : b ≠ 0) (hz : b < 1073741824) : Ev W A env σ (.BinOp e₁ .FloorDiv e₂ pos) (dN (a / b)) := by
  rw [show dN (a / b) = D.int ((a : Int).fdiv (b : Int)) by
    show D.int _ = D.int _
    rw [Int.fdiv_eq_ediv_of_nonneg _ (by walk_at "lx")]; rfl]
  exact ev_bin h₁ h₂ (op_div (by walk_at "lx") (PyProof.noPylong_small (by walk_at "lx")))
theorem ev_subN {e₁ e₂ : PySem.Expr} {pos : Pos} {a b : Nat} (h₁ : Ev W A env σ e₁ (dN a)) (h₂ : Ev W A env σ e₂ (dN b)) (hb : b ≤ a) : Ev W A env σ (.BinOp e₁ .Sub e₂ pos) (dN (a - b)) := by
  rw [show dN (a - b) = D.int ((a : Int) - (b : Int)) by show D.int _ = D.int _; congr 1; walk_at "lx"]
  exact ev_bin h₁ h₂ op_sub
end
theorem some_map {α : Type} (g : α → D) (l : List α) : (l.map fun a => some (g a)).filterMap id = l.map g := by
  induction l with
  | nil => rfl
  | cons a l ih => rw [List.map_cons, List.map_cons, ← ih]; rfl
end
section
/-- steps between two words of the tree, as the text counts them -/
noncomputable def stepsD (hs : List Nat) : Nat → Nat → Nat → Nat
  | 0, _, _ => 0
  | f + 1, a, b => if a = b then 0 else 1 + stepsD hs f (min a b) (hs.getD (max a b) 0)
section
variable {W : WP} {A : Around} {env : Env} {σ : Sto} {n : Nat} {p pos : Pos} {e0 e1 : PySem.Expr} {a b : Nat}
theorem ev_minN (F : FOK n A env) (hx : env.kindOf (PySem.Str.ofString "min") = some .globalImplicit) (hv : nsIn W.K mainGlobals (PySem.Str.ofString "min") = some none) (h0 : Ev W A env σ e0 (dN a)) (h1 : Ev W A env σ e1 (dN b))
    (s0 : starEach [e0, e1] env = (false, eval e0 env) :: starEach [e1] env := by rfl) (s1 : starEach [e1] env = (false, eval e1 env) :: starEach [] env := by rfl) (hs2 : ((backTo pos (starEach [e1] env)).any fun x => x.1) = false := by rfl) :
    Ev W A env σ (.Call (.Name (PySem.Str.ofString "min") p) [e0, e1] [] pos) (dN (min a b)) := by
  have e : dN (min a b) = D.int (if (b : Int) < (a : Int) then (b : Int) else (a : Int)) := by
    show D.int _ = D.int _
    congr 1; split <;> walk_at "lx"
  rw [e]; exact ev_min F hx hv h0 h1 s0 s1 hs2
theorem ev_maxN (F : FOK n A env) (hx : env.kindOf (PySem.Str.ofString "max") = some .globalImplicit) (hv : nsIn W.K mainGlobals (PySem.Str.ofString "max") = some none) (h0 : Ev W A env σ e0 (dN a)) (h1 : Ev W A env σ e1 (dN b))
    (s0 : starEach [e0, e1] env = (false, eval e0 env) :: starEach [e1] env := by rfl) (s1 : starEach [e1] env = (false, eval e1 env) :: starEach [] env := by rfl) (hs2 : ((backTo pos (starEach [e1] env)).any fun x => x.1) = false := by rfl) :
    Ev W A env σ (.Call (.Name (PySem.Str.ofString "max") p) [e0, e1] [] pos) (dN (max a b)) := by
  have e : dN (max a b) = D.int (if (b : Int) > (a : Int) then (b : Int) else (a : Int)) := by
    show D.int _ = D.int _
    congr 1; split <;> walk_at "lx"
  rw [e]; exact ev_max F hx hv h0 h1 s0 s1 hs2
end
variable (w : World) (mean : ExcName → Option Value) (mg mb : PySem.Str → Option Value)
set_option maxHeartbeats 400000
theorem hsteps_ok (hs : List Nat) (hl : hs.length = 6) (ht : ∀ i, 1 ≤ i → i < 6 → hs.getD i 0 < i) (a b : Nat) (ha : a < 6) (hb : b < 6) : CallOk (W2 w mean mg mb) 1 123 [dL hs, dN a, dN b] (dN (stepsD hs 10 a b)) := by
  refine def_ok (names := [PySem.Str.ofString "hosts", PySem.Str.ofString "one", PySem.Str.ofString "two"]) rfl rfl (all3 fun _ _ _ => rfl) (by decide) (by walk_at "names") rfl rfl rfl rfl ?_
  · intro A L F
    show X _ _ _ [(PySem.Str.ofString "hosts", Slot.val (dL hs)), (PySem.Str.ofString "one", Slot.val (dN a)), (PySem.Str.ofString "two", Slot.val (dN b))] _ _
    refine x_cons (x_assign (d := dN 0) F ev_int rfl) ?_
    suffices hst : ∃ x y, X1 (W2 w mean mg mb) A (envOfC (PySem.Str.ofString "_law_steps") _ L 123 (.ref 122)) [(PySem.Str.ofString "hosts", Slot.val (dL hs)), (PySem.Str.ofString "one", Slot.val (dN a)), (PySem.Str.ofString "two", Slot.val (dN b)), (PySem.Str.ofString "steps", Slot.val (dN 0))] _ (.next [(PySem.Str.ofString "hosts", Slot.val (dL hs)), (PySem.Str.ofString "one", Slot.val (dN x)), (PySem.Str.ofString "two", Slot.val (dN y)), (PySem.Str.ofString "steps", Slot.val (dN (stepsD hs 10 a b)))]) by
      obtain ⟨x, y, h⟩ := hst
      exact x_cons (x1_weak (by walk_at "sub") h) (x_stop (x_ret (by walk_at "ev")))
    suffices hw : ∀ (f a b k : Nat), a < 6 → b < 6 → a + b ≤ f → ∃ x y, WhileRun (fun σ b => Tr (W2 w mean mg mb) A (envOfC (PySem.Str.ofString "_law_steps") _ L 123 (.ref 122)) σ _ b) (fun σ o => X (W2 w mean mg mb) A (envOfC (PySem.Str.ofString "_law_steps") _ L 123 (.ref 122)) σ _ o) (2 * f) [(PySem.Str.ofString "hosts", Slot.val (dL hs)), (PySem.Str.ofString "one", Slot.val (dN a)), (PySem.Str.ofString "two", Slot.val (dN b)), (PySem.Str.ofString "steps", Slot.val (dN k))] (.next [(PySem.Str.ofString "hosts", Slot.val (dL hs)), (PySem.Str.ofString "one", Slot.val (dN x)), (PySem.Str.ofString "two", Slot.val (dN y)), (PySem.Str.ofString "steps", Slot.val (dN (k + stepsD hs f a b)))]) by
      obtain ⟨x, y, h⟩ := hw 10 a b 0 ha hb (by walk_at "lx")
      rw [Nat.zero_add] at h
      exact ⟨x, y, x_while h⟩
    clear ha hb
    intro f
    induction f with
    | zero =>
      intro a b k ha hb hf
      have e : a = b := by walk_at "lx"
      subst e
      exact ⟨a, a, .stop (tr_to (tr_cmp (by walk_at "ev") (by walk_at "ev") op_neI rfl) (by simp))⟩
    | succ f ih =>
      intro a b k ha hb hf
      rw [stepsD]
      by_cases e : a = b
      · subst e
        rw [if_pos rfl]
        exact ⟨a, a, .stop (tr_to (tr_cmp (by walk_at "ev") (by walk_at "ev") op_neI rfl) (by simp))⟩
      · rw [if_neg e]
        have hm : max a b < 6 := by walk_at "lx"
        have hn : min a b < 6 := by walk_at "lx"
        have h1 := ht (max a b) (by walk_at "lx") hm
        obtain ⟨x, y, h⟩ := ih (min a b) (hs.getD (max a b) 0) (k + 1) hn (by walk_at "lx") (by walk_at "lx")
        rw [Nat.add_assoc] at h
        refine ⟨x, y, WhileRun.next (n := 2 * f + 1) (tr_to (tr_cmp (by walk_at "ev") (by walk_at "ev") op_neI rfl) (by simp; walk_at "lx")) ?_ (.weak (fun _ h => h) h)⟩
        refine x_weakO (x_cons (x_tupS (ds := [dN (min a b), dN (hs.getD (max a b) 0)]) F.hh (ev_tuple (evs_cons (ev_minN F rfl rfl (by walk_at "ev") (by walk_at "ev")) (evs_cons (ev_itL (by walk_at "ev") (ev_maxN F rfl rfl (by walk_at "ev") (by walk_at "ev")) (by walk_at "lx") (by walk_at "lx")) evs_nil)) (Nat.le_of_ble_eq_true rfl)) (by rfl) (names := [PySem.Str.ofString "one", PySem.Str.ofString "two"]) (bndl_cons (bnd_name F rfl) (bndl_cons (bnd_name F rfl) bndl_nil)) rfl rfl) (x_cons (x_aug (d := dN (k + 1)) F (by walk_at "mem") rfl (by walk_at "ev") op_iaddI) x_nil)) (by walk_at "sub")
end
section
noncomputable def freeP (hs ws : List Nat) (x : Nat) (r : List Nat) : List Nat := r.filter fun o => decide (ws.getD x 0 + ws.getD o 0 < stepsD hs 10 x o)
noncomputable def mostP (hs ws : List Nat) : Nat → List Nat → Nat
  | 0, _ => 0
  | f + 1, l => match l with
    | [] => 0
    | x :: r => if freeP hs ws x r = r then 1 + mostP hs ws f r else max (mostP hs ws f r) (1 + mostP hs ws f (freeP hs ws x r))
theorem filt_opt {α : Type} (p : α → Bool) (g : α → D) (l : List α) : (l.map fun a => if p a then some (g a) else none).filterMap id = (l.filter p).map g := by
  induction l with
  | nil => rfl
  | cons a l ih =>
    rw [List.map_cons, List.filterMap_cons, List.filter_cons]
    cases p a with
    | true => simp [ih]
    | false => simp [ih]
theorem notLoc {env : Env} {x : PySem.Str} (h : env.kindOf x = some .cell) : env.kindOf x ≠ some .local := fun e => by rw [h] at e; cases e
theorem op_eqN {W : WP} {A : Around} {env : Env} {n : Nat} (F : FOK n A env) {a b : List Nat} {c : Bool} (h : c = decide (a = b)) : Op2 W A (compareOp .Eq) (dL a) (dL b) (.bool c) := by
  have h' := op_eqL (W := W) F (a := a.map fun k : Nat => (k : Int)) (b := b.map fun k : Nat => (k : Int))
  rw [List.map_map, List.map_map] at h'
  have e : c = ((a.map fun k : Nat => (k : Int)) == (b.map fun k : Nat => (k : Int))) := by
    rw [h, Bool.eq_iff_iff, decide_eq_true_iff, beq_iff_eq]
    constructor
    · rintro rfl; rfl
    · intro e
      have inj : Function.Injective (fun k : Nat => (k : Int)) := fun x y h => Int.ofNat.inj h
      exact (List.map_inj_right inj).mp e
  rw [e]; exact h'
variable (w : World) (mean : ExcName → Option Value) (mg mb : PySem.Str → Option Value)
set_option maxHeartbeats 400000
theorem most_ok (hs ws : List Nat) (hl : hs.length = 6) (hwl : ws.length = 6) (ht : ∀ i, 1 ≤ i → i < 6 → hs.getD i 0 < i) : ∀ (f : Nat) (l : List Nat), l.length < f → f ≤ 7 → (∀ x ∈ l, x < 6) → CallOk (W2 w mean mg mb) (f + 1) 128 [dL hs, dL ws, dL l] (dN (mostP hs ws f l))
  | 0, l, hf, _, _ => absurd hf (Nat.not_lt_zero _)
  | f + 1, l, hf, h7, h6 => by
    have ih := most_ok hs ws hl hwl ht f
    refine def_ok (names := [PySem.Str.ofString "hosts", PySem.Str.ofString "wishes", PySem.Str.ofString "left"]) rfl rfl (all3 fun _ _ _ => rfl) (by decide) (by walk_at "names") rfl rfl rfl rfl ?_
    intro A L F
    show X _ _ _ [(PySem.Str.ofString "hosts", Slot.val (dL hs)), (PySem.Str.ofString "wishes", Slot.val (dL ws)), (PySem.Str.ofString "left", Slot.val (dL l))] _ _
    cases l with
    | nil => exact x_stop (x_if (b := true) (tr_to (tr_not (tr_val (by walk_at "ev") (truth_lst (by decide)))) rfl) (fun _ => x_stop (x_ret ev_int)) (fun h => nomatch h))
    | cons x r =>
      have hx : x < 6 := h6 x (.head _)
      have hr : ∀ y ∈ r, y < 6 := fun y hy => h6 y (.tail _ hy)
      rw [List.length_cons] at hf
      have hz : (x :: r).length ≤ 1000 := by rw [List.length_cons]; walk_at "lx"
      have hz2 : ((x :: r).map dN).length < 2 ^ 62 := by rw [List.length_map, List.length_cons]; walk_at "lx"
      refine x_cons (x_if (b := false) (tr_to (tr_not (tr_val (by walk_at "ev") (truth_lst hz2))) rfl) (fun h => nomatch h) (fun _ => x_nil)) ?_
      refine x_cons (σ₁ := [(PySem.Str.ofString "hosts", Slot.val (dL hs)), (PySem.Str.ofString "wishes", Slot.val (dL ws)), (PySem.Str.ofString "first", Slot.val (dN x)), (PySem.Str.ofString "rest", Slot.val (dL r))]) (x1_weakO' (x_tup (ds := [dN x, dL r]) F.hh (ev_tuple (evs_cons (ev_itL (k := 0) (by walk_at "ev") ev_int (by simp) hz) (evs_cons (ev_slFL (k := 1) (by walk_at "ev") ev_int (by simp) hz) evs_nil)) (Nat.le_of_ble_eq_true rfl)) (by rfl) (bndl_cons (asg_cell F rfl (c := L + 3) rfl (Nat.lt_add_of_pos_right (by decide))) (bndl_cons (asg_name F rfl) bndl_nil)) rfl rfl rfl rfl) (by walk_at "sub")) ?_
      have ef : (freeP hs ws x r).map dN = (r.map fun o => if decide (ws.getD x 0 + ws.getD o 0 < stepsD hs 10 x o) then some (dN o) else none).filterMap id := (filt_opt _ _ _).symm
      refine x_cons (σ₁ := [(PySem.Str.ofString "hosts", Slot.val (dL hs)), (PySem.Str.ofString "wishes", Slot.val (dL ws)), (PySem.Str.ofString "rest", Slot.val (dL r)), (PySem.Str.ofString "free", Slot.own ((freeP hs ws x r).map dN))]) (x1_weakO' (x1_own (es := (freeP hs ws x r).map dN) (x_comp F (cl := [(PySem.Str.ofString "wishes", L + 2), (PySem.Str.ofString "hosts", L + 1), (PySem.Str.ofString "first", L + 3)]) (cap := [(PySem.Str.ofString "first", dN x), (PySem.Str.ofString "hosts", dL hs), (PySem.Str.ofString "wishes", dL ws)]) (ds := r.map dN) (os := r.map fun o => if decide (ws.getD x 0 + ws.getD o 0 < stepsD hs 10 x o) then some (dN o) else none) (by walk_at "ev") (iter_list F.hh) rfl rfl rfl (by decide) rfl (by decide) ?_ ?_ ?_) (filt_opt _ _ _)) (by walk_at "sub")) ?_
      · exact capsN (fun _ => rfl) (List.forall_mem_cons.mpr ⟨rfl, List.forall_mem_cons.mpr ⟨rfl, List.forall_mem_cons.mpr ⟨rfl, List.forall_mem_nil _⟩⟩⟩) (List.forall_mem_cons.mpr ⟨⟨by walk_at "mem", notLoc rfl, fun _ => rfl, rfl⟩, List.forall_mem_cons.mpr ⟨⟨by walk_at "mem", notLoc rfl, fun _ => rfl, rfl⟩, List.forall_mem_cons.mpr ⟨⟨by walk_at "mem", notLoc rfl, fun _ => rfl, rfl⟩, List.forall_mem_nil _⟩⟩⟩)
      · intro C FC
        refine All2.map _ _ fun o ho => ?_
        have ho6 := hr o ho
        show CStep _ _ _ _ [(PySem.Str.ofString "first", Slot.val (dN x)), (PySem.Str.ofString "hosts", Slot.val (dL hs)), (PySem.Str.ofString "wishes", Slot.val (dL ws))] _ _ _ _
        refine cstep_if (asg_name FC rfl) (by walk_at "sub") (tst_one (tr_to (tr_cmp (ev_call FC rfl rfl (by decide) rfl (by walk_at "evs") (hsteps_ok w mean mg mb hs hl ht x o hx ho6) (by walk_at "lx")) (ev_addN (ev_itL (by walk_at "ev") (by walk_at "ev") (by walk_at "lx") (by walk_at "lx")) (ev_itL (by walk_at "ev") (by walk_at "ev") (by walk_at "lx") (by walk_at "lx"))) op_gtI rfl) ?_)) (by walk_at "ev")
        rw [Bool.eq_iff_iff, decide_eq_true_iff, decide_eq_true_iff]; exact Int.ofNat_lt
      · rw [filt_opt, List.length_map]; exact Nat.le_trans (List.length_filter_le _ _) (by walk_at "lx")
      refine x_freeze (x := PySem.Str.ofString "free") (by walk_at "mem") ?_
      refine x_weak (σ' := [(PySem.Str.ofString "hosts", Slot.val (dL hs)), (PySem.Str.ofString "wishes", Slot.val (dL ws)), (PySem.Str.ofString "rest", Slot.val (dL r)), (PySem.Str.ofString "free", Slot.val (dL (freeP hs ws x r)))]) (by walk_at "sub") ?_
      have hfr : ∀ y ∈ freeP hs ws x r, y < 6 := fun y hy => hr y ((List.mem_filter.mp hy).1)
      have hfl : (freeP hs ws x r).length < f := Nat.lt_of_le_of_lt (List.length_filter_le _ _) (by walk_at "lx")
      have c1 := ih r (by walk_at "lx") (by walk_at "lx") hr
      have c2 := ih _ hfl (by walk_at "lx") hfr
      rw [mostP]
      by_cases e : freeP hs ws x r = r
      · rw [if_pos e]
        exact x_stop (x_if (b := true) (tr_cmp (by walk_at "ev") (by walk_at "ev") (op_eqN F (by rw [decide_eq_true e])) rfl) (fun _ => x_stop (x_ret (ev_addN (a := 1) ev_int (ev_call F rfl rfl (by decide) rfl (by walk_at "evs") c1 (by walk_at "lx"))))) (fun h => nomatch h))
      · rw [if_neg e]
        refine x_cons (x_if (b := false) (tr_cmp (by walk_at "ev") (by walk_at "ev") (op_eqN F (by rw [decide_eq_false e])) rfl) (fun h => nomatch h) (fun _ => x_nil)) ?_
        exact x_stop (x_ret (ev_maxN F rfl rfl (ev_call F rfl rfl (by decide) rfl (by walk_at "evs") c1 (by walk_at "lx")) (ev_addN (a := 1) ev_int (ev_call F rfl rfl (by decide) rfl (by walk_at "evs") c2 (by walk_at "lx")))))
end
section
noncomputable def bitP (x p : Nat) : Bool := x / 2 ^ p % 2 != 0
noncomputable def leftP (l : List Nat) (p : Nat) : List Nat := l.filter fun y => !bitP y p
noncomputable def fewP : Nat → List Nat → Nat
  | 0, _ => 0
  | f + 1, l => match l with
    | [] => 0
    | x :: r => 1 + (((List.range 6).filterMap fun p => if bitP x p then some (fewP f (leftP (x :: r) p)) else none).min?.getD 0)
theorem bit_any (x : Nat) (h : x < 64) (h0 : x ≠ 0) : ∃ p, p < 6 ∧ bitP x p = true := by
  have key : ∀ x, x < 64 → x ≠ 0 → ((List.range 6).any fun p => bitP x p) = true := by decide +kernel
  obtain ⟨p, hp, h⟩ := List.any_eq_true.mp (key x h h0)
  exact ⟨p, List.mem_range.mp hp, h⟩
theorem leftP_len {x : Nat} {r : List Nat} {p : Nat} (h : bitP x p = true) : (leftP (x :: r) p).length < (x :: r).length := by
  unfold leftP
  rw [List.filter_cons, h, List.length_cons]
  exact Nat.lt_succ_of_le (List.length_filter_le _ _)
/-- a loop over places with a list growing -/
theorem for_grow {step : D → Sto → Out → Prop} {α : Type} (σ : List α → Sto) (g : Nat → Option α) (h : ∀ (j : Nat) (acc : List α), j < 6 → acc.length ≤ j → step (dN j) (σ acc) (.next (σ (acc ++ (g j).toList)))) :
    ∀ (n j : Nat) (acc : List α), j + n ≤ 6 → acc.length ≤ j → ForRun step ((List.range' j n).map dN) (σ acc) (.next (σ (acc ++ (List.range' j n).filterMap g)))
  | 0, j, acc, _, _ => by rw [List.range'_zero, List.filterMap_nil, List.append_nil]; exact .nil
  | n + 1, j, acc, hn, ha => by
    have hs := h j acc (by walk_at "lx") ha
    have hl : (acc ++ (g j).toList).length ≤ j + 1 := by
      rw [List.length_append]; cases g j <;> simp <;> walk_at "lx"
    have hk := for_grow σ g h n (j + 1) (acc ++ (g j).toList) (by walk_at "lx") hl
    rw [List.range'_succ, List.map_cons]
    refine .next hs ?_
    have e : (j :: List.range' (j + 1) n).filterMap g = (g j).toList ++ (List.range' (j + 1) n).filterMap g := by
      rw [List.filterMap_cons]; cases g j <;> rfl
    rw [e, ← List.append_assoc]
    exact hk
theorem rngN : ∀ (n a : Nat), rngL ((a : Nat) : Int) 1 n = (List.range' a n).map dN
  | 0, _ => rfl
  | n + 1, a => by
    rw [rngL, List.range'_succ, List.map_cons, ← rngN n (a + 1)]; rfl
theorem iter_to {W : WP} {A : Around} (hh : A.handled = none) (k : Nat) (hs : Builtin.Range.small 0 (k : Int) 1 = true) (hn : Builtin.Range.rangeSize 0 (k : Int) 1 = ((k : Nat) : Int)) : Iter W A (.rng 0 (k : Int) 1) ((List.range' 0 k).map dN) := by
  rw [← rngN]; exact iter_rng hh hs hn
theorem small6 : Builtin.Range.small 0 6 1 = true ∧ Builtin.Range.rangeSize 0 6 1 = ((6 : Nat) : Int) := by decide +kernel
theorem bits_opt (l : List Nat) (p : Nat) : (l.map fun y => if !bitP y p then some (dN y) else none).filterMap id = (leftP l p).map dN := filt_opt _ _ _
variable (w : World) (mean : ExcName → Option Value) (mg mb : PySem.Str → Option Value)
set_option maxHeartbeats 400000
theorem few_ok : ∀ (f : Nat) (l : List Nat), l.length < f → f ≤ 7 → (∀ y ∈ l, y < 64 ∧ y ≠ 0) → CallOk (W2 w mean mg mb) (f + 1) 116 [dL l] (dN (fewP f l))
  | 0, l, hf, _, _ => absurd hf (Nat.not_lt_zero _)
  | f + 1, l, hf, h7, h6 => by
    have ih := few_ok f
    refine def_ok (names := [PySem.Str.ofString "served"]) rfl rfl (all1 fun _ => rfl) (by decide) (by walk_at "names") rfl rfl rfl rfl ?_
    intro A L F
    show X _ _ _ [(PySem.Str.ofString "served", Slot.val (dL l))] _ _
    cases l with
    | nil => exact x_stop (x_if (b := true) (tr_to (tr_not (tr_val (by walk_at "ev") (truth_lst (by decide)))) rfl) (fun _ => x_stop (x_ret ev_int)) (fun h => nomatch h))
    | cons x r =>
      have hx := h6 x (.head _)
      have hz : (x :: r).length ≤ 1000 := by walk_at "lx"
      have hz2 : ((x :: r).map dN).length < 2 ^ 62 := by rw [List.length_map]; walk_at "lx"
      refine x_cons (x_if (b := false) (tr_to (tr_not (tr_val (by walk_at "ev") (truth_lst hz2))) rfl) (fun h => nomatch h) (fun _ => x_nil)) ?_
      refine x_cons (σ₁ := [(PySem.Str.ofString "served", Slot.val (dL (x :: r))), (PySem.Str.ofString "tries", Slot.own (([] : List Nat).map dN))]) (x1_weakO' (x1_own (es := ([] : List Nat).map dN) (x_assignF F (evF_list evs_nil (by decide)) rfl) rfl) (by walk_at "sub")) ?_
      refine x_cons (x_for (ev_rng1 F rfl rfl ev_int) (iter_to F.hh 6 small6.1 small6.2) (for_grow (fun acc => [(PySem.Str.ofString "served", Slot.val (dL (x :: r))), (PySem.Str.ofString "tries", Slot.own (acc.map dN))]) (fun p => if bitP x p then some (fewP f (leftP (x :: r) p)) else none) ?_ 6 0 [] (by decide) (by decide))) ?_
      rotate_left
      · refine x_freeze (x := PySem.Str.ofString "tries") (by walk_at "mem") ?_
        rw [List.nil_append, ← List.range_eq_range']
        generalize ht : (List.range 6).filterMap (fun p => if bitP x p then some (fewP f (leftP (x :: r) p)) else none) = ts
        have hne : ∃ t, t ∈ ts := by
          obtain ⟨p, hp, hb⟩ := bit_any x hx.1 hx.2
          exact ⟨_, ht ▸ List.mem_filterMap.mpr ⟨p, List.mem_range.mpr hp, by rw [if_pos hb]⟩⟩
        obtain ⟨t0, ht0⟩ := hne
        have hmin : ∃ M, ts.min? = some M := by
          cases h : ts.min? with
          | none => rw [List.min?_eq_none_iff] at h; rw [h] at ht0; cases ht0
          | some M => exact ⟨M, rfl⟩
        obtain ⟨M, hM⟩ := hmin
        have e : fewP (f + 1) (x :: r) = 1 + M := by
          rw [fewP, ht, hM]; rfl
        rw [e]
        rw [List.min?_eq_some_iff] at hM
        refine x_stop (x_ret (ev_addN (a := 1) ev_int (ev_callB F rfl rfl boot_min (by decide) (by decide) (evs_cons (d := dL ts) (by walk_at "ev") evs_nil) ?_)))
        have h := cv_minL (W := W2 w mean mg mb) (ns := ts.map fun k : Nat => (k : Int)) (M := (M : Int)) F.hh (List.mem_map.mpr ⟨M, hM.1, rfl⟩) (fun a ha => by
          obtain ⟨b, hb, rfl⟩ := List.mem_map.mp ha
          exact Int.ofNat_le.mpr (hM.2 b hb))
        rw [List.map_map] at h
        exact h
      · intro j acc hj ha
        refine ⟨_, asg_cell F rfl (c := L + 1) rfl (Nat.lt_succ_self _), ?_⟩
        by_cases hb : bitP x j = true
        · rw [if_pos hb]
          show X _ _ _ _ _ (.next [(PySem.Str.ofString "served", Slot.val (dL (x :: r))), (PySem.Str.ofString "tries", Slot.own ((acc ++ [fewP f (leftP (x :: r) j)]).map dN))])
          rw [List.map_append, List.map_cons, List.map_nil]
          have hf' : (leftP (x :: r) j).length < f := Nat.lt_of_lt_of_le (leftP_len hb) (by walk_at "lx")
          have c1 := ih (leftP (x :: r) j) hf' (by walk_at "lx") (fun y hy => h6 y (List.mem_filter.mp hy).1)
          refine x_weakO (x_cons (x_if (b := true) (tr_to (tr_val (ev_bit (a := x) (b := j) (ev_itL (k := 0) (by walk_at "ev") ev_int (by simp) hz) (by walk_at "ev") ev_int) truth_int) ((nat_ne0 _).trans hb)) (fun _ => x_cons (x_append (d := dN (fewP f (leftP (x :: r) j))) F (by walk_at "mem") (ev_call F rfl rfl (by decide) rfl (evs_cons (d := dL (leftP (x :: r) j)) ?_ evs_nil) c1 (by walk_at "lx")) (by rw [List.length_map]; walk_at "lx") (by decide) rfl) x_nil) (fun h => nomatch h)) x_nil) (by walk_at "sub")
          have e := bits_opt (x :: r) j
          rw [show dL (leftP (x :: r) j) = .lst ((leftP (x :: r) j).map dN) from rfl, ← e]
          refine (evF_comp F (cl := [(PySem.Str.ofString "place", L + 1)]) (cap := [(PySem.Str.ofString "place", dN j)]) (ds := (x :: r).map dN) (by walk_at "ev") (iter_list F.hh) rfl (by decide) rfl (by decide) ?_ ?_ ?_).ev
          · exact capsN (fun _ => rfl) (List.forall_mem_cons.mpr ⟨rfl, List.forall_mem_nil _⟩) (List.forall_mem_cons.mpr ⟨⟨by walk_at "mem", notLoc rfl, fun _ => rfl, rfl⟩, List.forall_mem_nil _⟩)
          · intro C FC
            refine All2.map _ _ fun y hy => ?_
            show CStep _ _ _ _ [(PySem.Str.ofString "place", Slot.val (dN j))] _ _ _ _
            exact cstep_if (asg_name FC rfl) (by walk_at "sub") (tst_one (tr_not (tr_to (tr_val (ev_bit (a := y) (b := j) (by walk_at "ev") (by walk_at "ev") ev_int) truth_int) (nat_ne0 _)))) (by walk_at "ev")
          · rw [List.length_map]; walk_at "lx"
        · rw [if_neg hb]
          show X _ _ _ _ _ (.next [(PySem.Str.ofString "served", Slot.val (dL (x :: r))), (PySem.Str.ofString "tries", Slot.own ((acc ++ []).map dN))])
          rw [List.append_nil]
          have hb' : bitP x j = false := by simpa using hb
          exact x_weakO (x_cons (x_if (b := false) (tr_to (tr_val (ev_bit (a := x) (b := j) (ev_itL (k := 0) (by walk_at "ev") ev_int (by simp) hz) (by walk_at "ev") ev_int) truth_int) ((nat_ne0 _).trans hb')) (fun h => nomatch h) (fun _ => x_nil)) x_nil) (by walk_at "sub")
end
section
noncomputable abbrev dS (l : List Nat) : D := .str (S l)
noncomputable abbrev dW (ws : List (List Nat)) : D := .lst (ws.map dS)
noncomputable def apartP (ws : List (List Nat)) (wi : List Nat) (l s : Nat) : Nat := levP (ws.getD l []) (ws.getD s []) (max (wi.getD l 0) (wi.getD s 0))
noncomputable def putIf (c : Bool) (acc : List Nat) (l s : Nat) : List Nat := if c then acc.set l (acc.getD l 0 + 2 ^ s) else acc
noncomputable def servStep (ws : List (List Nat)) (wi : List Nat) (l : Nat) (acc : List Nat) (s : Nat) : List Nat :=
  putIf (decide (apartP ws wi l s ≤ wi.getD s 0)) (putIf (decide (apartP ws wi l s ≤ wi.getD l 0)) acc l s) s l
noncomputable def servP (ws : List (List Nat)) (wi : List Nat) : List Nat := (List.range' 0 6).foldl (fun acc l => (List.range' 0 l).foldl (servStep ws wi l) acc) ((List.range' 0 6).map (2 ^ ·))
theorem putIf_len {c : Bool} {acc : List Nat} {l s : Nat} : (putIf c acc l s).length = acc.length := by
  unfold putIf; split <;> simp
theorem servStep_len {ws : List (List Nat)} {wi : List Nat} {l s : Nat} {acc : List Nat} : (servStep ws wi l acc s).length = acc.length := by
  unfold servStep; rw [putIf_len, putIf_len]
theorem foldl_len {f : List Nat → Nat → List Nat} (hf : ∀ acc j, (f acc j).length = acc.length) : ∀ (l acc : List Nat), (l.foldl f acc).length = acc.length
  | [], _ => rfl
  | j :: l, acc => by rw [List.foldl_cons, foldl_len hf l, hf]
/-- a loop over places with a list of one length -/
theorem for_fold {step : D → Sto → Out → Prop} (σ : List Nat → Sto) (f : List Nat → Nat → List Nat) (k : Nat) (hf : ∀ acc j, (f acc j).length = acc.length) (h : ∀ (j : Nat) (acc : List Nat), j < k → acc.length = 6 → step (dN j) (σ acc) (.next (σ (f acc j)))) :
    ∀ (n j : Nat) (acc : List Nat), j + n ≤ k → acc.length = 6 → ForRun step ((List.range' j n).map dN) (σ acc) (.next (σ ((List.range' j n).foldl f acc)))
  | 0, j, acc, _, _ => by rw [List.range'_zero]; exact .nil
  | n + 1, j, acc, hn, ha => by
    rw [List.range'_succ, List.map_cons, List.foldl_cons]
    exact .next (h j acc (by walk_at "lx") ha) (for_fold σ f k hf h n (j + 1) _ (by walk_at "lx") ((hf acc j).trans ha))
theorem smallK : ∀ k : Nat, k < 6 → Builtin.Range.small 0 (k : Int) 1 = true ∧ Builtin.Range.rangeSize 0 (k : Int) 1 = ((k : Nat) : Int) := by decide +kernel
section
variable {W : WP} {A : Around} {env : Env} {σ : Sto}
theorem ev_shl1 {e₁ e₂ : PySem.Expr} {pos : Pos} {k : Nat} (h₁ : Ev W A env σ e₁ (.int 1)) (h₂ : Ev W A env σ e₂ (dN k)) (hk : k ≤ 1000) : Ev W A env σ (.BinOp e₁ .LShift e₂ pos) (dN (2 ^ k)) := by
  have e : dN (2 ^ k) = D.int (1 * 2 ^ (k : Int).toNat) := by
    show D.int _ = D.int _
    rw [Int.toNat_natCast, Int.one_mul]; push_cast; rfl
  rw [e]
  exact ev_bin h₁ h₂ (op_shl (Int.natCast_nonneg _) (by walk_at "lx") (by decide))
theorem ev_itW {value sl : PySem.Expr} {pos : Pos} {ws : List (List Nat)} {k : Nat} (h : Ev W A env σ value (dW ws)) (hl : Ev W A env σ sl (dN k)) (hk : k < ws.length) (hz : ws.length ≤ 1000)
    (hs : ∀ o i, subscripted sl false o i = operate [o, i] (getItem o i) := by intro _ _; rfl) : Ev W A env σ (.Subscript value sl pos) (dS (ws.getD k [])) :=
  ev_itemL h hl (by walk_at "lx") (by rw [Int.toNat_natCast, List.getElem?_map, List.getElem?_eq_getElem hk, List.getD_eq_getElem?_getD, List.getElem?_eq_getElem hk]; rfl) (by rw [List.length_map]; walk_at "lx") hs
theorem tr_leN {e₁ e₂ : PySem.Expr} {pos : Pos} {a b : Nat} (h₁ : Ev W A env σ e₁ (dN a)) (h₂ : Ev W A env σ e₂ (dN b)) (hm : behindInMarks .LtE e₂ = false := by rfl) : Tr W A env σ (.Compare e₁ [.LtE] [e₂] pos) (decide (a ≤ b)) :=
  tr_to (tr_cmp h₁ h₂ op_leI hm) (by rw [Bool.eq_iff_iff, decide_eq_true_iff, decide_eq_true_iff]; exact Int.ofNat_le)
/-- xs[y] += 1 << z -/
theorem x_putIf {n : Nat} {x y z : PySem.Str} {px py pz sp p1 pos ip fp : Pos} {k1 : Nat} {acc : List Nat} {l s : Nat} {c : Bool} {t : PySem.Expr} (F : FOK n A env) (ht : Tr W A env σ t c) (hm : (x, Slot.own (acc.map dN)) ∈ σ) (hy : (y, Slot.val (dN l)) ∈ σ) (hz : (z, Slot.val (dN s)) ∈ σ) (hl : l < acc.length) (h6 : acc.length ≤ 6) (hs : s ≤ 1000)
    (hd : (x == ("__debug__" : PySem.Str)) = false) (hd' : (y == ("__debug__" : PySem.Str)) = false) (hd'' : (z == ("__debug__" : PySem.Str)) = false) :
    X1 W A env σ (.If t [.AugAssign (.Subscript (.Name x px) (.Name y py) sp) .Add (.BinOp (.Constant (.int 1) k1 p1) .LShift (.Name z pz) pos) ip] [] fp) (.next (upd σ x (.own ((putIf c acc l s).map dN)))) := by
  unfold putIf
  refine x_if ht (fun hc => ?_) (fun hc => ?_)
  · rw [if_pos hc]
    have hxs : (acc.map dN)[((l : Nat) : Int).toNat]? = some (dN (acc.getD l 0)) := by rw [Int.toNat_natCast]; exact getD_some hl
    have e : (acc.set l (acc.getD l 0 + 2 ^ s)).map dN = (acc.map dN).set ((l : Nat) : Int).toNat (dN (acc.getD l 0 + 2 ^ s)) := by rw [Int.toNat_natCast, List.map_set]
    rw [e]
    refine x_cons (x_augItem F hm hy (Int.natCast_nonneg _) hxs (ev_shl1 ev_int (ev_name F hz hd'') hs) op_iaddI (by rw [List.length_map]; walk_at "lx") hd hd') x_nil
  · rw [hc, if_neg (by decide)]
    refine x_weakO x_nil fun p hp => ?_
    obtain ⟨a, b⟩ := p
    rcases mem_upd hp with ⟨h1, h2⟩ | ⟨_, h⟩
    · rw [h1, h2]; exact hm
    · exact h
end
variable (w : World) (mean : ExcName → Option Value) (mg mb : PySem.Str → Option Value)
set_option maxHeartbeats 400000
theorem served_ok (ws : List (List Nat)) (wi : List Nat) (hw : ws.length = 6) (hwi : wi.length = 6) (hws : ∀ l ∈ ws, l.length ≤ 40 ∧ ∀ c ∈ l, c < 128) (hm : ∀ k, wi.getD k 0 ≤ 10) : CallOk (W2 w mean mg mb) 3 111 [dW ws, dL wi] (dL (servP ws wi)) := by
  refine def_ok (names := [PySem.Str.ofString "words", PySem.Str.ofString "wishes"]) rfl rfl (all2 fun _ _ => rfl) (by decide) (by walk_at "names") rfl rfl rfl rfl ?_
  intro A L F
  show X _ _ _ [(PySem.Str.ofString "words", Slot.val (dW ws)), (PySem.Str.ofString "wishes", Slot.val (dL wi))] _ _
  have hget : ∀ k, k < 6 → (ws.getD k []).length ≤ 40 ∧ ∀ c ∈ ws.getD k [], c < 128 := fun k hk => by
    rw [List.getD_eq_getElem?_getD, List.getElem?_eq_getElem (by walk_at "lx")]; exact hws _ (List.getElem_mem _)
  refine x_cons (σ₁ := [(PySem.Str.ofString "words", Slot.val (dW ws)), (PySem.Str.ofString "wishes", Slot.val (dL wi)), (PySem.Str.ofString "served", Slot.own (((List.range' 0 6).map (2 ^ ·)).map dN))]) (x1_weakO' (x1_own (es := ((List.range' 0 6).map (2 ^ ·)).map dN) (x_comp F (cl := []) (cap := []) (ds := (List.range' 0 6).map dN) (os := (List.range' 0 6).map fun j => some (dN (2 ^ j))) (ev_rng1 F rfl rfl ev_int) (iter_to F.hh 6 small6.1 small6.2) rfl rfl rfl (by decide) rfl (by decide) ?_ ?_ ?_) (by rw [some_map, List.map_map]; rfl)) (by walk_at "sub")) ?_
  · exact capsN (fun _ => rfl) (List.forall_mem_nil _) (List.forall_mem_nil _)
  · intro C FC
    refine All2.map _ _ fun j hj => ⟨_, asg_name FC rfl, (fun p hp => nomatch hp), tst_nil, ?_⟩
    have : j < 6 := by simpa using List.mem_range'.mp hj
    exact ev_shl1 ev_int (ev_name FC upd_self (by decide)) (by walk_at "lx")
  · rw [some_map]; decide
  refine x_cons (x_for (ev_rng1 F rfl rfl ev_int) (iter_to F.hh 6 small6.1 small6.2) (for_fold (fun acc => [(PySem.Str.ofString "words", Slot.val (dW ws)), (PySem.Str.ofString "wishes", Slot.val (dL wi)), (PySem.Str.ofString "served", Slot.own (acc.map dN))]) (fun acc l => (List.range' 0 l).foldl (servStep ws wi l) acc) 6 (fun acc j => foldl_len (fun _ _ => servStep_len) _ _) ?_ 6 0 _ (by decide) (by decide))) ?_
  rotate_left
  · refine x_freeze (x := PySem.Str.ofString "served") (by walk_at "mem") ?_
    unfold servP
    exact x_stop (x_ret (ev_name F upd_self (by decide)))
  · intro l acc hl ha
    refine ⟨_, asg_name F rfl, ?_⟩
    refine x_weak (σ' := [(PySem.Str.ofString "words", Slot.val (dW ws)), (PySem.Str.ofString "wishes", Slot.val (dL wi)), (PySem.Str.ofString "late", Slot.val (dN l)), (PySem.Str.ofString "served", Slot.own (acc.map dN))]) (by walk_at "sub") ?_
    refine x_weakO (σ₁ := [(PySem.Str.ofString "words", Slot.val (dW ws)), (PySem.Str.ofString "wishes", Slot.val (dL wi)), (PySem.Str.ofString "late", Slot.val (dN l)), (PySem.Str.ofString "served", Slot.own (((List.range' 0 l).foldl (servStep ws wi l) acc).map dN))]) (x_cons (x_for (ev_rng1 F rfl rfl (by walk_at "ev")) (iter_to F.hh l (smallK l hl).1 (smallK l hl).2) (for_fold (fun acc => [(PySem.Str.ofString "words", Slot.val (dW ws)), (PySem.Str.ofString "wishes", Slot.val (dL wi)), (PySem.Str.ofString "late", Slot.val (dN l)), (PySem.Str.ofString "served", Slot.own (acc.map dN))]) (servStep ws wi l) l (fun _ _ => servStep_len) ?_ l 0 acc (by walk_at "lx") ha)) x_nil) (by walk_at "sub")
    intro s acc hs ha
    refine ⟨_, asg_name F rfl, ?_⟩
    have g1 := hget l hl
    have g2 := hget s (by walk_at "lx")
    have m1 := hm l
    have m2 := hm s
    refine x_cons (σ₁ := [(PySem.Str.ofString "words", Slot.val (dW ws)), (PySem.Str.ofString "wishes", Slot.val (dL wi)), (PySem.Str.ofString "late", Slot.val (dN l)), (PySem.Str.ofString "soon", Slot.val (dN s)), (PySem.Str.ofString "apart", Slot.val (dN (apartP ws wi l s))), (PySem.Str.ofString "served", Slot.own (acc.map dN))]) (x1_weakO' (x_assign (d := dN (apartP ws wi l s)) F (ev_call F rfl rfl (by decide) rfl (evs_cons (ev_itW (by walk_at "ev") (by walk_at "ev") (by walk_at "lx") (by walk_at "lx")) (evs_cons (ev_itW (by walk_at "ev") (by walk_at "ev") (by walk_at "lx") (by walk_at "lx")) (evs_cons (ev_maxN F rfl rfl (ev_itL (by walk_at "ev") (by walk_at "ev") (by walk_at "lx") (by walk_at "lx")) (ev_itL (by walk_at "ev") (by walk_at "ev") (by walk_at "lx") (by walk_at "lx"))) evs_nil))) (lev_ok w mean mg mb _ _ _ g1.2 g2.2 g1.1 g2.1 (by walk_at "lx")) (by walk_at "lx")) rfl) (by walk_at "sub")) ?_
    refine x_cons (σ₁ := [(PySem.Str.ofString "words", Slot.val (dW ws)), (PySem.Str.ofString "wishes", Slot.val (dL wi)), (PySem.Str.ofString "late", Slot.val (dN l)), (PySem.Str.ofString "soon", Slot.val (dN s)), (PySem.Str.ofString "apart", Slot.val (dN (apartP ws wi l s))), (PySem.Str.ofString "served", Slot.own ((putIf (decide (apartP ws wi l s ≤ wi.getD l 0)) acc l s).map dN))]) (x1_weakO' (x_putIf F (tr_leN (by walk_at "ev") (ev_itL (by walk_at "ev") (by walk_at "ev") (by walk_at "lx") (by walk_at "lx"))) (by walk_at "mem") (by walk_at "mem") (by walk_at "mem") (by walk_at "lx") (by walk_at "lx") (by walk_at "lx") (by decide) (by decide) (by decide)) (by walk_at "sub")) ?_
    show X _ _ _ _ _ (.next [(PySem.Str.ofString "words", Slot.val (dW ws)), (PySem.Str.ofString "wishes", Slot.val (dL wi)), (PySem.Str.ofString "late", Slot.val (dN l)), (PySem.Str.ofString "served", Slot.own ((putIf (decide (apartP ws wi l s ≤ wi.getD s 0)) (putIf (decide (apartP ws wi l s ≤ wi.getD l 0)) acc l s) s l).map dN))])
    exact x_weakO (x_cons (x_putIf F (tr_leN (by walk_at "ev") (ev_itL (by walk_at "ev") (by walk_at "ev") (by walk_at "lx") (by walk_at "lx"))) (by walk_at "mem") (by walk_at "mem") (by walk_at "mem") (by rw [putIf_len]; walk_at "lx") (by rw [putIf_len]; walk_at "lx") (by walk_at "lx") (by decide) (by decide) (by decide)) x_nil) (by walk_at "sub")
end
section
noncomputable def joinP (sep : List Nat) : List (List Nat) → List Nat
  | [] => []
  | x :: r => match r with
    | [] => x
    | _ => x ++ sep ++ joinP sep r
theorem join_P (sep : List Nat) (ls : List (List Nat)) : Txt.join (S sep) (ls.map S) = S (joinP sep ls) := by
  show Builtin.Str.glued (S sep) (ls.map S) = _
  rw [StrLaws.glued_eq_join]
  induction ls with
  | nil => rfl
  | cons a r ih =>
    cases r with
    | nil => rfl
    | cons b r =>
      rw [List.map_cons, List.map_cons, PySem.Str.join]
      · rw [List.map_cons] at ih
        rw [ih, S_append, S_append]
        rfl
      · intro h; cases h
noncomputable def highP (lt ds : List Nat) (p : Nat) : Nat := lt.getD (ds.getD (p - 1) 0 % p) 0
noncomputable def lowP (lt : List Nat) (p : Nat) : Nat := lt.getD p 0
noncomputable def turnP (ds : List Nat) (p : Nat) : Bool := ds.getD (p - 1) 0 / p % 2 != 0
noncomputable def pieceP (lt ds : List Nat) (p : Nat) : List Nat := if turnP ds p then [lowP lt p, 60, highP lt ds p] else [highP lt ds p, 62, lowP lt p]
theorem pieceP_len {lt ds : List Nat} {p : Nat} : (pieceP lt ds p).length = 3 := by unfold pieceP; split <;> rfl
noncomputable def lineP (lt ds : List Nat) : List Nat := joinP [38] ([5, 4, 3, 2, 1].map (pieceP lt ds))
/-- a loop over numbers, something put behind at each -/
theorem for_app {step : D → Sto → Out → Prop} {α : Type} (σ : List α → Sto) (g : Nat → α) (all : List Nat) (h : ∀ (j : Nat) (acc : List α), j ∈ all → acc.length ≤ 100 → step (dN j) (σ acc) (.next (σ (acc ++ [g j])))) :
    ∀ (ks : List Nat) (acc : List α), (∀ k ∈ ks, k ∈ all) → acc.length + ks.length ≤ 100 → ForRun step (ks.map dN) (σ acc) (.next (σ (acc ++ ks.map g)))
  | [], acc, _, _ => by rw [List.map_nil, List.map_nil, List.append_nil]; exact .nil
  | k :: ks, acc, hk, hl => by
    rw [List.length_cons] at hl
    rw [List.map_cons, List.map_cons]
    have h2 := for_app σ g all h ks (acc ++ [g k]) (fun j hj => hk j (.tail _ hj)) (by rw [List.length_append, List.length_singleton]; walk_at "lx")
    rw [List.append_assoc] at h2
    exact .next (h k acc (hk k (.head _)) (by walk_at "lx")) h2
theorem small51 : Builtin.Range.small 5 0 (-1) = true ∧ Builtin.Range.rangeSize 5 0 (-1) = ((5 : Nat) : Int) := by decide +kernel
section
variable {W : WP} {A : Around} {env : Env} {σ : Sto}
theorem ev_chN {value sl : PySem.Expr} {pos : Pos} {l : List Nat} {q : Nat} (h : Ev W A env σ value (dS l)) (hl : Ev W A env σ sl (dN q)) (hq : q < l.length) (hz : l.length ≤ 1000)
    (hs : ∀ o i, subscripted sl false o i = operate [o, i] (getItem o i) := by intro _ _; rfl) : Ev W A env σ (.Subscript value sl pos) (dS [l.getD q 0]) :=
  ev_itF h hl (by rw [List.getD_eq_getElem?_getD, List.getElem?_eq_getElem hq]; rfl) hz hs
theorem ev_addS {e₁ e₂ : PySem.Expr} {pos : Pos} {a b : List Nat} (h₁ : Ev W A env σ e₁ (dS a)) (h₂ : Ev W A env σ e₂ (dS b)) (hz : a.length + b.length ≤ 10000) : Ev W A env σ (.BinOp e₁ .Add e₂ pos) (dS (a ++ b)) := by
  rw [dS, ← S_append]
  exact ev_bin h₁ h₂ (op_addS (by rw [S_len, S_len]; walk_at "lx"))
end
variable (w : World) (mean : ExcName → Option Value) (mg mb : PySem.Str → Option Value)
set_option maxHeartbeats 400000
theorem line_ok (lt ds : List Nat) (h6 : lt.length = 6) (h5 : ds.length = 5) : CallOk (W2 w mean mg mb) 2 101 [dS lt, dL ds] (dS (lineP lt ds)) := by
  refine def_ok (names := [PySem.Str.ofString "letters", PySem.Str.ofString "draws"]) rfl rfl (all2 fun _ _ => rfl) (by decide) (by walk_at "names") rfl rfl rfl rfl ?_
  intro A L F
  show X _ _ _ [(PySem.Str.ofString "letters", Slot.val (dS lt)), (PySem.Str.ofString "draws", Slot.val (dL ds))] _ _
  refine x_cons (σ₁ := [(PySem.Str.ofString "letters", Slot.val (dS lt)), (PySem.Str.ofString "draws", Slot.val (dL ds)), (PySem.Str.ofString "pieces", Slot.own (([] : List (List Nat)).map dS))]) (x1_weakO' (x1_own (es := ([] : List (List Nat)).map dS) (x_assignF F (evF_list evs_nil (by decide)) rfl) rfl) (by walk_at "sub")) ?_
  refine x_cons (x_for (d := .rng 5 0 (-1)) (ds := [5, 4, 3, 2, 1].map dN) (by walk_at "ev") (iter_rng F.hh small51.1 small51.2) (for_app (fun acc => [(PySem.Str.ofString "letters", Slot.val (dS lt)), (PySem.Str.ofString "draws", Slot.val (dL ds)), (PySem.Str.ofString "pieces", Slot.own (acc.map dS))]) (pieceP lt ds) [5, 4, 3, 2, 1] ?_ [5, 4, 3, 2, 1] [] (fun _ h => h) (by decide))) ?_
  rotate_left
  · refine x_freeze (x := PySem.Str.ofString "pieces") (by walk_at "mem") ?_
    rw [List.nil_append]
    generalize hps : [5, 4, 3, 2, 1].map (pieceP lt ds) = ps
    have e : dS (lineP lt ds) = .str (Txt.join (S [38]) (ps.map S)) := by rw [join_P, lineP, hps]
    rw [e]
    have hm : ps.map dS = (ps.map S).map D.str := by rw [List.map_map]; rfl
    refine x_stop (x_ret (ev_methS1 (x := S [38]) ev_str PySem.F.slot_str_join PySem.F.type_str_join (evs_cons (d := .lst ((ps.map S).map D.str)) (by rw [← hm]; exact ev_name F upd_self (by decide)) evs_nil) (cv_join ?_)))
    rw [← hps]
    simp [S_len, pieceP_len]
  · intro p acc hp ha
    have hp5 : 1 ≤ p ∧ p ≤ 5 := by
      simp only [List.mem_cons, List.not_mem_nil, or_false] at hp
      walk_at "lx"
    refine ⟨_, asg_name F rfl, ?_⟩
    have hq : ds.getD (p - 1) 0 % p < 6 := Nat.lt_of_lt_of_le (Nat.mod_lt _ hp5.1) (by walk_at "lx")
    have hl1 : p - 1 < ds.length := by walk_at "lx"
    have hz5 : ds.length ≤ 1000 := by walk_at "lx"
    have hz6 : lt.length ≤ 1000 := by walk_at "lx"
    have hql : ds.getD (p - 1) 0 % p < lt.length := by walk_at "lx"
    have hpl : p < lt.length := by walk_at "lx"
    have hp0 : p ≠ 0 := by walk_at "lx"
    refine x_cons (σ₁ := [(PySem.Str.ofString "letters", Slot.val (dS lt)), (PySem.Str.ofString "draws", Slot.val (dL ds)), (PySem.Str.ofString "place", Slot.val (dN p)), (PySem.Str.ofString "high", Slot.val (dS [highP lt ds p])), (PySem.Str.ofString "low", Slot.val (dS [lowP lt p])), (PySem.Str.ofString "pieces", Slot.own (acc.map dS))]) (x1_weakO' (x_tupS (ds := [dS [highP lt ds p], dS [lowP lt p]]) F.hh (ev_tuple (evs_cons (ev_chN (by walk_at "ev") (ev_modN (ev_itL (by walk_at "ev") (ev_subN (b := 1) (by walk_at "ev") ev_int hp5.1) hl1 hz5) (by walk_at "ev") hp0) hql hz6) (evs_cons (ev_chN (by walk_at "ev") (by walk_at "ev") hpl hz6) evs_nil)) (Nat.le_of_ble_eq_true rfl)) (by rfl) (names := [PySem.Str.ofString "high", PySem.Str.ofString "low"]) (bndl_cons (bnd_name F rfl) (bndl_cons (bnd_name F rfl) bndl_nil)) rfl rfl) (by walk_at "sub")) ?_
    show X _ _ _ _ _ (.next [(PySem.Str.ofString "letters", Slot.val (dS lt)), (PySem.Str.ofString "draws", Slot.val (dL ds)), (PySem.Str.ofString "pieces", Slot.own ((acc ++ [pieceP lt ds p]).map dS))])
    rw [List.map_append, List.map_cons, List.map_nil]
    refine x_weakO (x_cons (x_append (d := dS (pieceP lt ds p)) F (by walk_at "mem") (ev_if (b := turnP ds p) (tr_to (tr_val (ev_modN (b := 2) (ev_divN (ev_itL (by walk_at "ev") (ev_subN (b := 1) (by walk_at "ev") ev_int hp5.1) hl1 hz5) (by walk_at "ev") hp0 (by walk_at "lx")) ev_int (by decide)) truth_int) (nat_ne0 _)) (fun hb => ?_) (fun hb => ?_)) (by rw [List.length_map]; walk_at "lx") (by decide) rfl) x_nil) (by walk_at "sub")
    · unfold pieceP; rw [if_pos hb]
      exact ev_addS (a := [lowP lt p, 60]) (ev_addS (a := [lowP lt p]) (b := [60]) (by walk_at "ev") ev_str (Nat.le_of_ble_eq_true rfl)) (by walk_at "ev") (Nat.le_of_ble_eq_true rfl)
    · unfold pieceP; rw [hb, if_neg (by decide)]
      exact ev_addS (a := [highP lt ds p, 62]) (ev_addS (a := [highP lt ds p]) (b := [62]) (by walk_at "ev") ev_str (Nat.le_of_ble_eq_true rfl)) (by walk_at "ev") (Nat.le_of_ble_eq_true rfl)
end
section
structure SgSt where
  st : List Sym
  nm : List Nat
  ins : Bool
noncomputable def stepG (y : Sym) (s : SgSt) : Option SgSt := match y with
  | .num n =>
    if n = 19 then some ⟨s.st, [], true⟩ else
    if n = 13 then (idxP s.nm).map fun j => ⟨s.st ++ [.num (19 + j)], s.nm, false⟩ else
    if s.ins then none else some ⟨s.st ++ [.num n], s.nm, false⟩
  | .txt x => if s.ins then (if s.nm.length + x.length ≤ 1000 then some ⟨s.st, s.nm ++ x, true⟩ else none) else some ⟨s.st ++ [.txt x], s.nm, false⟩
noncomputable def signsGo : List Sym → SgSt → Option SgSt
  | [], s => some s
  | y :: ys, s => match stepG y s with
    | some s' => signsGo ys s'
    | none => none
theorem stepG_len {y : Sym} {s s' : SgSt} (h : stepG y s = some s') : s'.st.length ≤ s.st.length + 1 := by
  unfold stepG at h
  split at h
  · split at h
    · cases h; exact Nat.le_succ _
    · split at h
      · cases hi : idxP s.nm with
        | none => rw [hi] at h; cases h
        | some j => rw [hi] at h; cases h; simp
      · split at h
        · cases h
        · cases h; simp
  · split at h
    · split at h
      · cases h; exact Nat.le_succ _
      · cases h
    · cases h; simp
theorem eq_no {k c : Nat} (h : k ≠ c) : ((k : Int) == (c : Int)) = false := by
  rw [beq_eq_false_iff_ne]; intro e; exact h (Int.ofNat.inj e)
variable (w : World) (mean : ExcName → Option Value) (mg mb : PySem.Str → Option Value)
set_option maxHeartbeats 400000
noncomputable abbrev sgS (l : List Nat) (s : SgSt) : Sto := [(PySem.Str.ofString "page", Slot.val (dS l)), (PySem.Str.ofString "signs", Slot.own (s.st.map Sym.d)), (PySem.Str.ofString "name", Slot.val (dS s.nm)), (PySem.Str.ofString "inside", Slot.val (D.bool s.ins))]
theorem signs_ok (f : Nat) (l : List Nat) (r : SgSt) (hl : l.length ≤ f) (hf : f ≤ 100) (hst : signsGo (symGo f l) ⟨[], [], false⟩ = some r) (hn : (symGo f l).length ≤ 100) : CallOk (W2 w mean mg mb) 2 94 [dS l] (.lst (r.st.map Sym.d)) := by
  refine def_ok (names := [PySem.Str.ofString "page"]) rfl rfl (all1 fun _ => rfl) (by decide) (by walk_at "names") rfl rfl rfl rfl ?_
  intro A L F
  show X _ _ _ [(PySem.Str.ofString "page", Slot.val (dS l))] _ _
  refine x_cons (σ₁ := sgS l ⟨[], [], false⟩) (x1_weakO' (x_tupOwn3 (x := PySem.Str.ofString "signs") (y := PySem.Str.ofString "name") (z₀ := PySem.Str.ofString "inside") (ds := []) (d := dS []) (d₃ := .bool false) F (evF_list evs_nil (by decide)) ev_str ev_bool rfl rfl rfl rfl rfl) (List.forall_mem_cons.mpr ⟨by walk_at "mem", List.forall_mem_cons.mpr ⟨upd_self, List.forall_mem_cons.mpr ⟨by walk_at "mem", List.forall_mem_cons.mpr ⟨by walk_at "mem", List.forall_mem_nil _⟩⟩⟩⟩)) ?_
  suffices hs : ∀ (ys : List Sym) (s : SgSt), signsGo ys s = some r → s.st.length + ys.length ≤ 100 → ForRun (FStep (W2 w mean mg mb) A (envOfC (PySem.Str.ofString "_law_signs") _ L 94 (.ref 93)) (.Name (PySem.Str.ofString "symbol") _) _) (ys.map Sym.d) (sgS l s) (.next (sgS l r)) by
    refine x_cons (x_for (ev_call F rfl rfl (by decide) rfl (by walk_at "evs") (symbols_ok w mean mg mb f l hl hf) (by walk_at "lx")) (iter_list F.hh) (hs _ _ hst (by simpa using hn))) ?_
    exact x_freeze (x := PySem.Str.ofString "signs") (by walk_at "mem") (x_stop (x_ret (by walk_at "ev")))
  intro ys
  induction ys with
  | nil => intro s h _; cases h; exact .nil
  | cons y ys ih =>
    intro s h hlen
    rw [List.length_cons] at hlen
    unfold signsGo at h
    split at h
    · next s' hy =>
      have hl' := stepG_len hy
      refine .next ⟨_, asg_name F rfl, ?_⟩ (ih s' h (by walk_at "lx"))
      have hs0 : (s.st.map Sym.d).length ≤ 1000 := by rw [List.length_map]; walk_at "lx"
      clear ih h hst hn
      obtain ⟨st, nm, ins⟩ := s
      unfold stepG at hy
      cases y with
      | num k =>
        show X _ _ _ (upd (sgS l _) _ (.val (dN k))) _ _
        dsimp only at hy
        by_cases h19 : k = 19
        · rw [if_pos h19] at hy
          cases hy; subst h19
          refine x_weakO (x_cons (x_if (b := true) (tr_to (tr_cmp (by walk_at "ev") ev_int op_eqI rfl) (by decide)) (fun _ => x_cons (x_tup (ds := [dS [], .bool true]) F.hh (ev_tuple (evs_cons ev_str (evs_cons ev_bool evs_nil)) (by decide)) (by rfl) (bndl_cons (asg_name F rfl) (bndl_cons (asg_name F rfl) bndl_nil)) rfl rfl rfl rfl) x_nil) (fun h => nomatch h)) x_nil) (by walk_at "sub")
        · rw [if_neg h19] at hy
          have t1 : ((k : Int) == 19) = false := eq_no (c := 19) h19
          by_cases h13 : k = 13
          · rw [if_pos h13] at hy
            subst h13
            cases hj : idxP nm with
            | none => rw [hj] at hy; cases hy
            | some j =>
              rw [hj] at hy; cases hy
              show X _ _ _ _ _ (.next [(PySem.Str.ofString "page", Slot.val (dS l)), (PySem.Str.ofString "signs", Slot.own ((st ++ [Sym.num (19 + j)]).map Sym.d)), (PySem.Str.ofString "name", Slot.val (dS nm)), (PySem.Str.ofString "inside", Slot.val (D.bool false))])
              rw [show (st ++ [Sym.num (19 + j)]).map Sym.d = st.map Sym.d ++ [dN (19 + j)] by rw [List.map_append]; rfl]
              exact x_weakO (x_cons (x_if (b := false) (tr_to (tr_cmp (by walk_at "ev") ev_int op_eqI rfl) (by decide)) (fun h => nomatch h) (fun _ => x_cons (x_if (b := true) (tr_to (tr_cmp (by walk_at "ev") ev_int op_eqI rfl) (by decide)) (fun _ => x_cons (x_append (d := dN (19 + j)) F (by walk_at "mem") (show Ev _ _ _ _ _ (D.int ((19 : Int) + (j : Int))) from ev_bin ev_int (ev_index3 (evF_list (evs_cons ev_str (evs_cons ev_str (evs_cons ev_str evs_nil))) (by decide)) (by walk_at "ev") hj) op_add) (by walk_at "lx") (by decide) rfl) (x_cons (x_assign F ev_bool rfl) x_nil)) (fun h => nomatch h)) x_nil)) x_nil) (by walk_at "sub")
          · rw [if_neg h13] at hy
            have t2 : ((k : Int) == 13) = false := eq_no (c := 13) h13
            cases ins with
            | true => cases hy
            | false =>
              cases hy
              show X _ _ _ _ _ (.next [(PySem.Str.ofString "page", Slot.val (dS l)), (PySem.Str.ofString "signs", Slot.own ((st ++ [Sym.num k]).map Sym.d)), (PySem.Str.ofString "name", Slot.val (dS nm)), (PySem.Str.ofString "inside", Slot.val (D.bool false))])
              rw [show (st ++ [Sym.num k]).map Sym.d = st.map Sym.d ++ [dN k] by rw [List.map_append]; rfl]
              exact x_weakO (x_cons (x_if (b := false) (tr_to (tr_cmp (by walk_at "ev") ev_int op_eqI rfl) t1) (fun h => nomatch h) (fun _ => x_cons (x_if (b := false) (tr_to (tr_cmp (by walk_at "ev") ev_int op_eqI rfl) t2) (fun h => nomatch h) (fun _ => x_cons (x_if (b := false) (tr_val (by walk_at "ev") truth_bool) (fun h => nomatch h) (fun _ => x_cons (x_append (d := dN k) F (by walk_at "mem") (by walk_at "ev") (by walk_at "lx") (by decide) rfl) x_nil)) x_nil)) x_nil)) x_nil) (by walk_at "sub")
      | txt x =>
        show X _ _ _ (upd (sgS l _) _ (.val (dS x))) _ _
        dsimp only at hy
        cases ins with
        | true =>
          rw [if_pos rfl] at hy
          split at hy
          · next hxl =>
            cases hy
            show X _ _ _ _ _ (.next [(PySem.Str.ofString "page", Slot.val (dS l)), (PySem.Str.ofString "signs", Slot.own (st.map Sym.d)), (PySem.Str.ofString "name", Slot.val (.str (S (nm ++ x)))), (PySem.Str.ofString "inside", Slot.val (D.bool true))])
            rw [← S_append]
            exact x_weakO (x_cons (x_if (b := false) (tr_cmp (by walk_at "ev") (by walk_at "ev") op_eqSI rfl) (fun h => nomatch h) fun _ => x_cons (x_if (b := false) (tr_cmp (by walk_at "ev") (by walk_at "ev") op_eqSI rfl) (fun h => nomatch h) fun _ => x_cons (x_if (b := true) (tr_val (by walk_at "ev") truth_bool) (fun _ => x_cons (x_aug F (by walk_at "mem") rfl (by walk_at "ev") (op_iaddS (by rw [S_len, S_len]; walk_at "lx"))) x_nil) (fun h => nomatch h)) x_nil) x_nil) x_nil) (by walk_at "sub")
          · cases hy
        | false =>
          rw [if_neg (by decide)] at hy
          cases hy
          show X _ _ _ _ _ (.next [(PySem.Str.ofString "page", Slot.val (dS l)), (PySem.Str.ofString "signs", Slot.own ((st ++ [Sym.txt x]).map Sym.d)), (PySem.Str.ofString "name", Slot.val (dS nm)), (PySem.Str.ofString "inside", Slot.val (D.bool false))])
          rw [show (st ++ [Sym.txt x]).map Sym.d = st.map Sym.d ++ [dS x] by rw [List.map_append]; rfl]
          exact x_weakO (x_cons (x_if (b := false) (tr_cmp (by walk_at "ev") (by walk_at "ev") op_eqSI rfl) (fun h => nomatch h) fun _ => x_cons (x_if (b := false) (tr_cmp (by walk_at "ev") (by walk_at "ev") op_eqSI rfl) (fun h => nomatch h) fun _ => x_cons (x_if (b := false) (tr_val (by walk_at "ev") truth_bool) (fun h => nomatch h) (fun _ => x_cons (x_append (d := dS x) F (by walk_at "mem") (by walk_at "ev") (by walk_at "lx") (by decide) rfl) x_nil)) x_nil) x_nil) x_nil) (by walk_at "sub")
    · cases h
end
section
section
variable {W : WP} {A : Around} {env : Env} {σ : Sto}
theorem x_augC {n : Nat} {x : PySem.Str} {px pos : Pos} {op : Operator} {e : PySem.Expr} {d₁ d₂ d : D} {c : Addr} (F : FOK n A env) (hm : (x, Slot.val d₁) ∈ σ) (hx : env.kindOf x = some .cell) (hc : env.cells.lookup x = some c) (hlc : env.locals < c) (h : Ev W A env σ e d₂) (ho : Op2 W A (inplaceOp op) d₁ d₂ d) :
    X1 W A env σ (.AugAssign (.Name x px) op e pos) (.next (upd σ x (.val d))) := by
  intro kp fz₀ fz ad m s Q E H p
  obtain ⟨v, l, hv⟩ := H.vars _ _ hm
  have hml : s.heap.IsCell c (some v) := by
    rcases l with ⟨a, _⟩ | ⟨_, c', b, g⟩
    · rw [hx] at a; cases a
    · rw [hc] at b; cases b; exact g
  refine wpAny_AugAssign_Name (wpAny_loadName_cell F.hk hx hc hml (h _ _ _ _ _ _ _ _ H fun v₂ fz₂ s₂ x₂ hv₂ => ?_))
  refine ho _ _ _ _ _ _ x₂.inH (hv.mono x₂.sub) hv₂ fun v₃ fz₃ s₃ x₃ hv₃ => ?_
  have H₃ := (H.ext x₂).ext x₃
  refine wp_store F H₃ (.inr ⟨hx, c, hc, H₃.cfree _ _ hc hlc⟩) hv₃ fun m' h' tk H' => ?_
  obtain ⟨h'', tk'', e', _⟩ := id (kTr x₂.keeps x₃.keeps)
  subst e'
  exact p _ _ _ _ _ H'
theorem x_assignC {n : Nat} {x : PySem.Str} {e : PySem.Expr} {px pos : Pos} {d : D} {c : Addr} (F : FOK n A env) (h : Ev W A env σ e d) (hx : env.kindOf x = some .cell) (hc : env.cells.lookup x = some c) (hlc : env.locals < c) (hsw : swapsWith e (some (.Name x px)) pos.line env = pure false := by rfl) :
    X1 W A env σ (.Assign [.Name x px] e pos) (.next (upd σ x (.val d))) := by
  intro kp fz₀ fz ad m s Q E H p
  refine wpAny_Assign_Name (h _ _ _ _ _ _ _ _ H fun v fz' s' x' hv => ?_) hsw
  have H₁ := H.ext x'
  refine wp_store F H₁ (.inr ⟨hx, c, hc, H₁.cfree _ _ hc hlc⟩) hv fun m' h' tk H' => ?_
  obtain ⟨h'', tk'', e', _⟩ := id x'.keeps
  subst e'
  exact p _ _ _ _ _ H'
theorem tr_inCh {e₁ e₂ : PySem.Expr} {pos : Pos} {c : Nat} {l : List Nat} (h₁ : Ev W A env σ e₁ (dS [c])) (h₂ : Ev W A env σ e₂ (dS l)) (hm : behindInMarks .In e₂ = false := by rfl) : Tr W A env σ (.Compare e₁ [.In] [e₂] pos) (decide (c ∈ l)) :=
  tr_to (tr_cmp h₁ h₂ op_inS hm) (StrLaws.found_one (S l) c)
end
/-- the tree, B at its root -/
noncomputable def hostP (ds : List Nat) (p : Nat) : Nat := if p = 0 then 0 else ds.getD (p - 1) 0 % p
noncomputable def letN (p : Nat) : Nat := 66 + p
/-- the first and the last of a piece -/
noncomputable def fstP (ds : List Nat) (p : Nat) : Sym := .txt [letN (if turnP ds p then p else hostP ds p)]
noncomputable def midP' (ds : List Nat) (p : Nat) : Sym := .num (if turnP ds p then 20 else 21)
noncomputable def lstP (ds : List Nat) (p : Nat) : Sym := .txt [letN (if turnP ds p then hostP ds p else p)]
noncomputable def sgP (ds : List Nat) : List Sym := [fstP ds 5, midP' ds 5, lstP ds 5, .num 19, fstP ds 4, midP' ds 4, lstP ds 4, .num 19, fstP ds 3, midP' ds 3, lstP ds 3, .num 19, fstP ds 2, midP' ds 2, lstP ds 2, .num 19, fstP ds 1, midP' ds 1, lstP ds 1]
noncomputable def rowT (ds : List Nat) (p : Nat) : PySem.Str × PySem.Str := (S [letN p], S [letN (hostP ds p)])
noncomputable def hostT (ds : List Nat) : STab := [rowT ds 5, rowT ds 4, rowT ds 3, rowT ds 2, rowT ds 1]
noncomputable def roadN (ds : List Nat) : Nat → Nat → List Nat
  | 0, j => [j]
  | f + 1, j => if j = 0 then [0] else j :: roadN ds f (hostP ds j)
noncomputable def wordN (ds : List Nat) (j : Nat) : List Nat := (List.range 6).map fun i => if i ∈ roadN ds 5 j then 98 + i else 66 + i
noncomputable def wordsP (ds : List Nat) : List (List Nat) := (List.range 6).map (wordN ds)
theorem hostP_lt {ds : List Nat} {p : Nat} (h : 1 ≤ p) : hostP ds p < p := by
  unfold hostP; rw [if_neg (by walk_at "lx")]; exact Nat.mod_lt _ h
theorem S1_inj {a b : Nat} (h : S [a] = S [b]) : a = b := by
  have := congrArg (fun x : PySem.Str => x.cps.toList) h
  simpa [S] using this
theorem lookS_rows (ds : List Nat) (q : Nat) : ∀ ps : List Nat, q ∉ ps → lookS (ps.map (rowT ds)) (S [letN q]) = none
  | [], _ => rfl
  | p :: ps, h => by
    rw [List.map_cons, rowT, lookS, if_neg, lookS_rows ds q ps fun m => h (.tail _ m)]
    intro e
    have := S1_inj e
    unfold letN at this
    exact h ((by walk_at "lx" : p = q) ▸ .head _)
theorem lookS_host (ds : List Nat) (q : Nat) (h1 : 1 ≤ q) (h5 : q ≤ 5) : lookS (hostT ds) (S [letN q]) = some (S [letN (hostP ds q)]) := by
  have key : ∀ ps : List Nat, q ∈ ps → lookS (ps.map (rowT ds)) (S [letN q]) = some (S [letN (hostP ds q)]) := by
    intro ps
    induction ps with
    | nil => intro h; cases h
    | cons p ps ih =>
      intro h
      rw [List.map_cons, rowT, lookS]
      by_cases e : p = q
      · subst e; rw [if_pos rfl]
      · rw [if_neg, ih ((List.mem_cons.mp h).resolve_left fun x => e x.symm)]
        intro e'
        have := S1_inj e'
        unfold letN at this
        exact e (by walk_at "lx")
  refine key [5, 4, 3, 2, 1] ?_
  simp only [List.mem_cons, List.not_mem_nil, or_false]
  walk_at "lx"
theorem lookS_root (ds : List Nat) : lookS (hostT ds) (S [letN 0]) = none := lookS_rows ds 0 [5, 4, 3, 2, 1] (by decide)
theorem sgP_at (ds : List Nat) (k p : Nat) (h : k + p = 5) (h1 : 1 ≤ p) : (sgP ds)[4 * k]? = some (fstP ds p) ∧ (sgP ds)[4 * k + 1]? = some (midP' ds p) ∧ (sgP ds)[4 * k + 2]? = some (lstP ds p) := by
  have hk : k = 0 ∨ k = 1 ∨ k = 2 ∨ k = 3 ∨ k = 4 := by walk_at "lx"
  rcases hk with rfl | rfl | rfl | rfl | rfl
  · have : p = 5 := by walk_at "lx"
    subst this; exact ⟨rfl, rfl, rfl⟩
  · have : p = 4 := by walk_at "lx"
    subst this; exact ⟨rfl, rfl, rfl⟩
  · have : p = 3 := by walk_at "lx"
    subst this; exact ⟨rfl, rfl, rfl⟩
  · have : p = 2 := by walk_at "lx"
    subst this; exact ⟨rfl, rfl, rfl⟩
  · have : p = 1 := by walk_at "lx"
    subst this; exact ⟨rfl, rfl, rfl⟩
theorem sgD (ds : List Nat) (q : Nat) (y : Sym) (h : (sgP ds)[q]? = some y) : ((sgP ds).map Sym.d)[q]? = some y.d := by rw [List.getElem?_map, h]; rfl
theorem sg_len (ds : List Nat) : ((sgP ds).map Sym.d).length = 19 := rfl
theorem small117 : Builtin.Range.small 1 18 4 = true ∧ Builtin.Range.rangeSize 1 18 4 = ((5 : Nat) : Int) := by decide +kernel
/-- a loop over things, something put behind at each -/
theorem for_appG {step : D → Sto → Out → Prop} {α : Type} (it : Nat → D) (σ : List α → Sto) (g : Nat → α) (all : List Nat) (h : ∀ (j : Nat) (acc : List α), j ∈ all → acc.length ≤ 100 → step (it j) (σ acc) (.next (σ (acc ++ [g j])))) :
    ∀ (ks : List Nat) (acc : List α), (∀ k ∈ ks, k ∈ all) → acc.length + ks.length ≤ 100 → ForRun step (ks.map it) (σ acc) (.next (σ (acc ++ ks.map g)))
  | [], acc, _, _ => by rw [List.map_nil, List.map_nil, List.append_nil]; exact .nil
  | k :: ks, acc, hk, hl => by
    rw [List.length_cons] at hl
    rw [List.map_cons, List.map_cons]
    have h2 := for_appG it σ g all h ks (acc ++ [g k]) (fun j hj => hk j (.tail _ hj)) (by rw [List.length_append, List.length_singleton]; walk_at "lx")
    rw [List.append_assoc] at h2
    exact .next (h k acc (hk k (.head _)) (by walk_at "lx")) h2
theorem drun_rows {step : D → Sto × STab → Sto × STab → Prop} (σ : Sto) (ds : List Nat) (h : ∀ (k p : Nat) (ps : List Nat), k + p = 5 → 1 ≤ p → p ∉ ps → ps.length ≤ 5 → step (dN (4 * k + 1)) (σ, ps.map (rowT ds)) (σ, (ps ++ [p]).map (rowT ds))) : DRun step ([1, 5, 9, 13, 17].map dN) (σ, []) (σ, hostT ds) :=
  ⟨_, h 0 5 [] rfl (by decide) (by decide) (by decide), _, h 1 4 [5] rfl (by decide) (by decide) (by decide), _, h 2 3 [5, 4] rfl (by decide) (by decide) (by decide), _, h 3 2 [5, 4, 3] rfl (by decide) (by decide) (by decide), _, h 4 1 [5, 4, 3, 2] rfl (by decide) (by decide) (by decide), rfl⟩
/-- up the tree, letter by letter -/
theorem roads {W : WP} {A : Around} {env : Env} {n : Nat} {a : Addr} {o : Obj} (ds : List Nat) (F : FOK n A env) (dd : DicO W a (hostT ds) o) {words : List D} {c : Addr} (hx : env.kindOf (PySem.Str.ofString "road") = some .cell) (hc : env.cells.lookup (PySem.Str.ofString "road") = some c) {p1 p2 p3 p4 p5 p6 p7 p8 p9 p10 p11 p12 p13 p14 : Pos} {k1 k2 : Nat} (hlc : env.locals < c) : ∀ (f j : Nat) (pre : List Nat), j ≤ f → f ≤ 5 → pre.length + f ≤ 10 →
    WhileRun (fun σ b => Tr (W.plus a o) A env σ (.Compare (.Subscript (.Name (PySem.Str.ofString "road") p1) (.UnaryOp .USub (.Constant (.int 1) k1 p2) p3) p4) [.In] [.Name (PySem.Str.ofString "hosts") p5] p6) b)
      (fun σ q => X (W.plus a o) A env σ [.AugAssign (.Name (PySem.Str.ofString "road") p7) .Add (.Subscript (.Name (PySem.Str.ofString "hosts") p8) (.Subscript (.Name (PySem.Str.ofString "road") p9) (.UnaryOp .USub (.Constant (.int 1) k2 p10) p11) p12) p13) p14] q) (2 * f)
      [(PySem.Str.ofString "hosts", Slot.val (.fn a)), (PySem.Str.ofString "words", Slot.own words), (PySem.Str.ofString "road", Slot.val (dS (pre ++ [letN j])))] (.next [(PySem.Str.ofString "hosts", Slot.val (.fn a)), (PySem.Str.ofString "words", Slot.own words), (PySem.Str.ofString "road", Slot.val (dS (pre ++ (roadN ds f j).map letN)))]) := by
  have test : ∀ (j : Nat) (pre : List Nat), pre.length ≤ 10 → Tr (W.plus a o) A env [(PySem.Str.ofString "hosts", Slot.val (.fn a)), (PySem.Str.ofString "words", Slot.own words), (PySem.Str.ofString "road", Slot.val (dS (pre ++ [letN j])))] (.Compare (.Subscript (.Name (PySem.Str.ofString "road") p1) (.UnaryOp .USub (.Constant (.int 1) k1 p2) p3) p4) [.In] [.Name (PySem.Str.ofString "hosts") p5] p6) (lookS (hostT ds) (S [letN j])).isSome := fun j pre hp =>
    tr_inD F dd (by walk_at "mem") (by decide) (ev_itN (q := 0) (by walk_at "ev") (show Ev _ _ _ _ _ (.int (-1)) from ev_un ev_int op_neg) (by simp) (by simp; walk_at "lx"))
  intro f
  induction f with
  | zero =>
    intro j pre hj _ hp
    have : j = 0 := by walk_at "lx"
    subst this
    exact .stop (tr_to (test 0 pre (by walk_at "lx")) (by rw [lookS_root]; rfl))
  | succ f ih =>
    intro j pre hj hf hp
    rw [roadN]
    by_cases h0 : j = 0
    · subst h0
      rw [if_pos rfl]
      exact .stop (tr_to (test 0 pre (by walk_at "lx")) (by rw [lookS_root]; rfl))
    · rw [if_neg h0, List.map_cons]
      have hl := lookS_host ds j (by walk_at "lx") (by walk_at "lx")
      have hlt := hostP_lt (ds := ds) (p := j) (by walk_at "lx")
      have h := ih (hostP ds j) (pre ++ [letN j]) (by walk_at "lx") (by walk_at "lx") (by rw [List.length_append, List.length_singleton]; walk_at "lx")
      rw [show pre ++ letN j :: (roadN ds f (hostP ds j)).map letN = pre ++ [letN j] ++ (roadN ds f (hostP ds j)).map letN by simp]
      refine WhileRun.next (n := 2 * f + 1) (σ₁ := [(PySem.Str.ofString "hosts", Slot.val (.fn a)), (PySem.Str.ofString "words", Slot.own words), (PySem.Str.ofString "road", Slot.val (.str (S (pre ++ [letN j]) ++ S [letN (hostP ds j)])))]) (tr_to (test j pre (by walk_at "lx")) (by rw [hl]; rfl)) ?_ (.weak ?_ h)
      · exact x_weakO (x_cons (x_augC F (by walk_at "mem") hx hc hlc (ev_itD F dd (by walk_at "mem") (by decide) (ev_itN (q := 0) (by walk_at "ev") (show Ev _ _ _ _ _ (.int (-1)) from ev_un ev_int op_neg) (by simp) (by simp; walk_at "lx")) hl) (op_iaddS (by rw [S_len, S_len]; simp; walk_at "lx"))) x_nil) (by walk_at "sub")
      · rw [S_append]; exact fun _ h => h
variable (w : World) (mean : ExcName → Option Value) (mg mb : PySem.Str → Option Value)
set_option maxHeartbeats 400000
theorem words_ok (ds : List Nat) : CallOk (W2 w mean mg mb) 2 106 [.lst ((sgP ds).map Sym.d)] (dW (wordsP ds)) := by
  refine def_ok (names := [PySem.Str.ofString "signs"]) rfl rfl (all1 fun _ => rfl) (by decide) (by walk_at "names") rfl rfl rfl rfl ?_
  intro A L F
  show X _ _ _ [(PySem.Str.ofString "signs", Slot.val (.lst ((sgP ds).map Sym.d)))] _ _
  refine x_dict (T := hostT ds) (σ₂ := fun a => [(PySem.Str.ofString "signs", Slot.val (.lst ((sgP ds).map Sym.d))), (PySem.Str.ofString "hosts", Slot.val (.fn a))]) F rfl (fun a => ?_) (fun a o dd => ?_)
  · refine xf_weak (σ₁ := [(PySem.Str.ofString "signs", Slot.val (.lst ((sgP ds).map Sym.d))), (PySem.Str.ofString "hosts", Slot.val (.fn a))]) (by walk_at "sub") ?_
    refine xd_for (d := .rng 1 18 4) (ds := [1, 5, 9, 13, 17].map dN) (by walk_at "ev") (iter_rng F.hh small117.1 small117.2) (drun_rows _ ds ?_)
    intro k p ps h5 h1 hn hl
    obtain ⟨g0, g1, g2⟩ := sgP_at ds k p h5 h1
    have hz : ((sgP ds).map Sym.d).length < 2 ^ 62 := by rw [sg_len]; decide
    refine ⟨_, asg_name F rfl, ?_⟩
    show XD _ _ _ _ (upd _ _ (.val (dN (4 * k + 1)))) _ _ _ _
    have b0 : (0 : Int) ≤ ((4 * k + 1 : Nat) : Int) - 1 := by walk_at "lx"
    have c0 : (((4 * k + 1 : Nat) : Int) - 1).toNat = 4 * k := by walk_at "lx"
    have c1 : (((4 * k + 1 : Nat) : Int)).toNat = 4 * k + 1 := by walk_at "lx"
    have c2 : (((4 * k + 1 : Nat) : Int) + 1).toNat = 4 * k + 2 := by walk_at "lx"
    have q0 : ((sgP ds).map Sym.d)[(((4 * k + 1 : Nat) : Int) - 1).toNat]? = some (fstP ds p).d := by rw [c0]; exact sgD ds _ _ g0
    have q1 : ((sgP ds).map Sym.d)[(((4 * k + 1 : Nat) : Int)).toNat]? = some (midP' ds p).d := by rw [c1]; exact sgD ds _ _ g1
    have q2 : ((sgP ds).map Sym.d)[(((4 * k + 1 : Nat) : Int) + 1).toNat]? = some (lstP ds p).d := by rw [c2]; exact sgD ds _ _ g2
    refine xd_cons (x_tupS (ds := [(fstP ds p).d, (lstP ds p).d]) F.hh (ev_tuple (evs_cons (ev_itemL (by walk_at "ev") (by walk_at "ev") b0 q0 hz) (evs_cons (ev_itemL (by walk_at "ev") (by walk_at "ev") (by walk_at "lx") q2 hz) evs_nil)) (Nat.le_of_ble_eq_true rfl)) (by rfl) (names := [PySem.Str.ofString "low", PySem.Str.ofString "high"]) (bndl_cons (bnd_name F rfl) (bndl_cons (bnd_name F rfl) bndl_nil)) rfl rfl) ?_
    refine xd_cons (σ₁ := [(PySem.Str.ofString "signs", Slot.val (.lst ((sgP ds).map Sym.d))), (PySem.Str.ofString "hosts", Slot.val (.fn a)), (PySem.Str.ofString "low", Slot.val (dS [letN p])), (PySem.Str.ofString "high", Slot.val (dS [letN (hostP ds p)]))]) ?_ ?_
    · cases ht : turnP ds p with
      | true =>
        have e1 : (fstP ds p).d = dS [letN p] := by unfold fstP; rw [ht]; rfl
        have e2 : (lstP ds p).d = dS [letN (hostP ds p)] := by unfold lstP; rw [ht]; rfl
        have e3 : (midP' ds p).d = dN 20 := by unfold midP'; rw [ht]; rfl
        rw [e3] at q1
        rw [e1, e2]
        exact x1_weakO' (x_if (b := false) (tr_to (tr_cmp (ev_itemL (by walk_at "ev") (by walk_at "ev") (by walk_at "lx") q1 hz) ev_int op_eqI rfl) (by decide)) (fun h => nomatch h) (fun _ => x_nil)) (by walk_at "sub")
      | false =>
        have e1 : (fstP ds p).d = dS [letN (hostP ds p)] := by unfold fstP; rw [ht]; rfl
        have e2 : (lstP ds p).d = dS [letN p] := by unfold lstP; rw [ht]; rfl
        have e3 : (midP' ds p).d = dN 21 := by unfold midP'; rw [ht]; rfl
        rw [e3] at q1
        rw [e1, e2]
        exact x1_weakO' (x_if (b := true) (tr_to (tr_cmp (ev_itemL (by walk_at "ev") (by walk_at "ev") (by walk_at "lx") q1 hz) ev_int op_eqI rfl) (by decide)) (fun _ => x_cons (x_tupS (ds := [dS [letN p], dS [letN (hostP ds p)]]) F.hh (ev_tuple (by walk_at "evs") (Nat.le_of_ble_eq_true rfl)) (by rfl) (names := [PySem.Str.ofString "low", PySem.Str.ofString "high"]) (bndl_cons (bnd_name F rfl) (bndl_cons (bnd_name F rfl) bndl_nil)) rfl rfl) x_nil) (fun h => nomatch h)) (by walk_at "sub")
    · refine xd_set F (by walk_at "mem") (by walk_at "mem") (by walk_at "mem") (lookS_rows ds p ps hn) (by rw [List.length_map]; walk_at "lx") (by decide) (by decide) (by decide) ?_
      rw [List.map_append]
      exact xd_nil (by walk_at "sub")
  · refine x_cons (σ₁ := [(PySem.Str.ofString "hosts", Slot.val (.fn a)), (PySem.Str.ofString "words", Slot.own (([] : List (List Nat)).map dS))]) (x1_weakO' (x1_own (es := ([] : List (List Nat)).map dS) (x_assignF F (evF_list evs_nil (by decide)) rfl) rfl) (by walk_at "sub")) ?_
    refine x_cons (x_for (d := dS [66, 67, 68, 69, 70, 71]) (ds := (List.range 6).map fun j => dS [letN j]) ev_str (iter_str (x := S [66, 67, 68, 69, 70, 71]) F.hh (by decide +kernel)) (for_appG (fun j => dS [letN j]) (fun acc => [(PySem.Str.ofString "hosts", Slot.val (.fn a)), (PySem.Str.ofString "words", Slot.own (acc.map dS))]) (wordN ds) (List.range 6) ?_ (List.range 6) [] (fun _ h => h) (by decide))) ?_
    rotate_left
    · refine x_freeze (x := PySem.Str.ofString "words") (by walk_at "mem") ?_
      exact x_stop (x_ret (ev_name F upd_self (by decide)))
    · intro j acc hj ha
      have hj6 := List.mem_range.mp hj
      refine ⟨_, asg_name F rfl, ?_⟩
      refine x_cons (σ₁ := [(PySem.Str.ofString "hosts", Slot.val (.fn a)), (PySem.Str.ofString "words", Slot.own (acc.map dS)), (PySem.Str.ofString "road", Slot.val (dS [letN j]))]) (x1_weakO' (x_assignC (d := dS [letN j]) F (by walk_at "ev") rfl (c := L + 1) rfl (Nat.lt_succ_self _)) (by walk_at "sub")) ?_
      refine x_cons (σ₁ := [(PySem.Str.ofString "hosts", Slot.val (.fn a)), (PySem.Str.ofString "words", Slot.own (acc.map dS)), (PySem.Str.ofString "road", Slot.val (dS ((roadN ds 5 j).map letN)))]) (x_while (n := 10) ?_) ?_
      · exact roads ds F dd rfl rfl (Nat.lt_succ_self _) 5 j [] (by walk_at "lx") (by decide) (by decide)
      · show X _ _ _ _ _ (.next [(PySem.Str.ofString "hosts", Slot.val (.fn a)), (PySem.Str.ofString "words", Slot.own ((acc ++ [wordN ds j]).map dS))])
        rw [List.map_append, List.map_cons, List.map_nil]
        have e : dS (wordN ds j) = .str (Txt.join (PySem.Str.ofString "") ((wordN ds j).map fun c => S [c])) := by rw [join_chars]
        have eo : (((wordN ds j).map fun c => S [c]).map D.str) = ((List.range 6).map fun i => some (dS [if i ∈ roadN ds 5 j then 98 + i else 66 + i])).filterMap id := by
          rw [some_map, wordN, List.map_map, List.map_map]; rfl
        refine x_weakO (x_cons (x_append (d := dS (wordN ds j)) F (by walk_at "mem") ?_ (by rw [List.length_map]; walk_at "lx") (by decide) rfl) x_nil) (by walk_at "sub")
        rw [e]
        refine ev_methS1 ev_str PySem.F.slot_str_join PySem.F.type_str_join (evs_cons (d := .lst (((wordN ds j).map fun c => S [c]).map D.str)) ?_ evs_nil) (cv_join ?_)
        · rw [eo]
          refine (evF_comp F (cl := [(PySem.Str.ofString "road", L + 1)]) (cap := [(PySem.Str.ofString "road", dS ((roadN ds 5 j).map letN))]) (d := dS [66, 67, 68, 69, 70, 71]) (ds := (List.range 6).map fun i => dS [letN i]) ev_str (iter_str (x := S [66, 67, 68, 69, 70, 71]) F.hh (by decide +kernel)) rfl (by decide) rfl (by decide) ?_ ?_ ?_).ev
          · exact capsN (fun _ => rfl) (List.forall_mem_cons.mpr ⟨rfl, List.forall_mem_nil _⟩) (List.forall_mem_cons.mpr ⟨⟨by walk_at "mem", notLoc rfl, fun _ => rfl, rfl⟩, List.forall_mem_nil _⟩)
          · intro C FC
            refine All2.map _ _ fun i hi => ⟨_, asg_name FC rfl, fun p hp => ?_, tst_nil, ?_⟩
            · rw [List.mem_singleton.mp hp]; exact upd_of (x := PySem.Str.ofString "sign") (y := PySem.Str.ofString "road") (by decide) (.head _)
            · have hm : decide (letN i ∈ (roadN ds 5 j).map letN) = decide (i ∈ roadN ds 5 j) := by
                rw [Bool.eq_iff_iff, decide_eq_true_iff, decide_eq_true_iff, List.mem_map]
                constructor
                · rintro ⟨q, hq, e⟩
                  unfold letN at e
                  exact (by walk_at "lx" : q = i) ▸ hq
                · exact fun h => ⟨i, h, rfl⟩
              have hi6 := List.mem_range.mp hi
              refine ev_if (tr_to (tr_inCh (c := letN i) (l := (roadN ds 5 j).map letN) (ev_name FC upd_self (by decide)) (ev_name FC (upd_of (by decide) (.head _)) (by decide))) hm) (fun hb => ?_) (fun hb => ?_)
              · have hb' := of_decide_eq_true hb
                have el : S [98 + i] = Txt.lower (S [letN i]) := by
                  rw [lower1 (letN i) (by unfold letN; walk_at "lx")]
                  have : ∀ i : Nat, i < 6 → lowN (66 + i) = 98 + i := by decide
                  unfold letN; rw [this i hi6]
                rw [show dS [if i ∈ roadN ds 5 j then 98 + i else 66 + i] = .str (Txt.lower (S [letN i])) by rw [if_pos hb', ← el]]
                exact ev_lower (ev_name FC upd_self (by decide)) rfl (by rw [S_len]; exact Nat.le_of_ble_eq_true rfl)
              · have hb' := of_decide_eq_false hb
                rw [if_neg hb']
                exact ev_name FC upd_self (by decide)
          · decide
        · rw [sum_ones _ _ (fun a => rfl), List.length_map]
          have h0 : (PySem.Str.ofString "").length = 0 := rfl
          rw [h0]; simp [wordN]
end
section
noncomputable def L6 : List Nat := [66, 67, 68, 69, 70, 71]
noncomputable def signI (t k : Nat) : Int := if (((k : Int) - (t : Int)).fmod 2 == 0) = true then -(k : Int) else (k : Int)
theorem signI_abs (t k : Nat) : (signI t k).natAbs = k := by
  unfold signI; split <;> simp
theorem ap_one : ∀ k : Nat, k < 7 → 1 ≤ k → (apGo 1 k []).map (fun c => (c.toNat : Nat)) = [65 + k] := by decide +kernel
noncomputable def symc (c : Nat) : Sym := if c = 38 then .num 19 else if c = 60 then .num 20 else if c = 62 then .num 21 else .txt [c]
noncomputable def signT : List (PySem.Str × Int) := [(PySem.Str.ofString "&", 19), (PySem.Str.ofString "<", 20), (PySem.Str.ofString ">", 21)]
theorem signT_eq : signT = [(S [38], 19), (S [60], 20), (S [62], 21)] := rfl
theorem symc_d (c : Nat) : tabOr signT (S [c]) (S [c]) = (symc c).d := by
  rw [signT_eq]
  unfold symc tabOr
  have key : ∀ a, S [a] = S [c] ↔ c = a := fun a => ⟨fun h => (S1_inj h).symm, fun h => by rw [h]⟩
  simp only [tabLook, key]
  split
  · next n h =>
    split at h
    · next e => rw [if_pos e]; cases h; rfl
    · next e =>
      rw [if_neg e]
      split at h
      · next e2 => rw [if_pos e2]; cases h; rfl
      · next e2 =>
        rw [if_neg e2]
        split at h
        · next e3 => rw [if_pos e3]; cases h; rfl
        · cases h
  · next h =>
    split at h
    · cases h
    · next e =>
      rw [if_neg e]
      split at h
      · cases h
      · next e2 =>
        rw [if_neg e2]
        split at h
        · cases h
        · next e3 => rw [if_neg e3]; rfl
theorem ev_sign {W : WP} {A : Around} {env : Env} {σ : Sto} {p1 p2 p3 p4 p5 p6 dpos apos pos : Pos} {k1 k2 k3 k4 k5 k6 : Nat} {e₁ e₂ : PySem.Expr} {x : PySem.Str} {pl : Sem Bool} (h₁ : Ev W A env σ e₁ (.str x)) (h₂ : Ev W A env σ e₂ (.str x))
    (hs : starEach [e₁, e₂] env = (false, eval e₁ env) :: starEach [e₂] env := by rfl) (hs1 : starEach [e₂] env = (false, eval e₂ env) :: starEach [] env := by rfl) (hs2 : ((backTo pos (starEach [e₂] env)).any fun x => x.1) = false := by rfl)
    (hm : eval (((PySem.Expr.Dict [some (.Constant (.str (PySem.Str.ofString "&")) k1 p1), some (.Constant (.str (PySem.Str.ofString "<")) k2 p2), some (.Constant (.str (PySem.Str.ofString ">")) k3 p3)] [.Constant (.int 19) k4 p4, .Constant (.int 20) k5 p5, .Constant (.int 21) k6 p6] dpos).Attribute (PySem.Str.ofString "get") apos).Call [e₁, e₂] [] pos) env = (do let ov ← eval (.Dict [some (.Constant (.str (PySem.Str.ofString "&")) k1 p1), some (.Constant (.str (PySem.Str.ofString "<")) k2 p2), some (.Constant (.str (PySem.Str.ofString ">")) k3 p3)] [.Constant (.int 19) k4 p4, .Constant (.int 20) k5 p5, .Constant (.int 21) k6 p6] dpos) env; standAt apos.atName; let (f, first) ← holding [ov] (getMethod ov (PySem.Str.ofString "get") pl); callWith pos f first (backTo pos (starEach [e₁, e₂] env)) []) := by rfl) :
    Ev W A env σ (.Call (.Attribute (.Dict [some (.Constant (.str (PySem.Str.ofString "&")) k1 p1), some (.Constant (.str (PySem.Str.ofString "<")) k2 p2), some (.Constant (.str (PySem.Str.ofString ">")) k3 p3)] [.Constant (.int 19) k4 p4, .Constant (.int 20) k5 p5, .Constant (.int 21) k6 p6] dpos) (PySem.Str.ofString "get") apos) [e₁, e₂] [] pos) (tabOr signT x x) :=
  ev_litGet (T := signT) (pl := pl) rfl rfl (by decide) rfl rfl (List.cons_ne_nil _ _) (Nat.le_of_ble_eq_true rfl) h₁ h₂ hs hs1 hs2 hm
noncomputable def hostsL (ds : List Nat) : List Nat := (List.range 6).map (hostP ds)
noncomputable def wishP (ds : List Nat) (t p : Nat) : Nat := if p = 0 then t / 5 % 4 else ds.getD (p - 1) 0 / (2 * p) % 4
noncomputable def wishesL (ds : List Nat) (t : Nat) : List Nat := (List.range 6).map (wishP ds t)
noncomputable def handP (t : Nat) : Nat := t % 5
theorem five (l : List Nat) (h : l.length = 5) : ∃ a b c d e, l = [a, b, c, d, e] := by
  match l, h with
  | [a, b, c, d, e], _ => exact ⟨a, b, c, d, e, rfl⟩
theorem all2_enum5 {R : D → D → Prop} {a b c d e : Nat} (g : Nat → Nat → D) (h : ∀ p v : Nat, 1 ≤ p → p ≤ 5 → R (.tup [.int (p : Int), dN v]) (g p v)) : All2 R (enumL 1 ([a, b, c, d, e].map dN)) [g 1 a, g 2 b, g 3 c, g 4 d, g 5 e] :=
  .cons (h 1 a (by decide) (by decide)) (.cons (h 2 b (by decide) (by decide)) (.cons (h 3 c (by decide) (by decide)) (.cons (h 4 d (by decide) (by decide)) (.cons (h 5 e (by decide) (by decide)) .nil))))
theorem small17 : Builtin.Range.small 1 7 1 = true ∧ Builtin.Range.rangeSize 1 7 1 = ((6 : Nat) : Int) := by decide +kernel
variable (w : World) (mean : ExcName → Option Value) (mg mb : PySem.Str → Option Value)
set_option maxHeartbeats 8000000
/-- the law's own body, in a frame of whichever function object -/
noncomputable def LawRun (W : WP) (k : Nat) (f : Addr) (σ : Sto) (d : D) : Prop :=
  ∃ (fc : Value) (od : Option Addr) (osl : Array (Option Value)) (name qual : PySem.Str) (params : Arguments) (body : List Stmt) (scope : Scope) (dV kV doc pm cdv ct : Value) (an : Option Addr),
    W.K.lookup f = some ⟨fc, od, .func (fnOf name qual params body scope dV kV doc pm an cdv ct), osl⟩ ∧ ∀ A L f' cd', FOK k A (envOfC qual scope L f' cd') → X W A (envOfC qual scope L f' cd') σ body (.ret d)
theorem hands_ok (h : Nat) (hh : h < 5) : ∃ fc od fd osl, (W2 w mean mg mb).K.lookup (52 + 7 * h) = some ⟨fc, od, .func fd, osl⟩ ∧ ∀ l : List Nat, l.length ≤ 20 → CallOk (W2 w mean mg mb) 1 (52 + 7 * h) [.str (S l)] (.str (S (escP (escRows h) l))) := by
  match h, hh with
  | 0, _ => exact ⟨_, _, _, _, rfl, esc0_ok w mean mg mb⟩
  | 1, _ => exact ⟨_, _, _, _, rfl, esc1_ok w mean mg mb⟩
  | 2, _ => exact ⟨_, _, _, _, rfl, esc2_ok w mean mg mb⟩
  | 3, _ => exact ⟨_, _, _, _, rfl, esc3_ok w mean mg mb⟩
  | 4, _ => exact ⟨_, _, _, _, rfl, esc4_ok w mean mg mb⟩
theorem hands_get (h : Nat) (hh : h < 5) : [D.fn 52, D.fn 59, D.fn 66, D.fn 73, D.fn 80][h]? = some (D.fn (52 + 7 * h)) := by
  match h, hh with
  | 0, _ => rfl
  | 1, _ => rfl
  | 2, _ => rfl
  | 3, _ => rfl
  | 4, _ => rfl
noncomputable def pageP (ds : List Nat) (h : Nat) : List Nat := escP (escRows h) (lineP L6 ds)
theorem law_run (ns : List Int) (hn : ns.length ≤ 63) (nm : List Nat) (hll : (lineP L6 (drawsP ns)).length = 19) (hlc : ∀ c ∈ lineP L6 (drawsP ns), c < 128) (hpl : (pageP (drawsP ns) (handP (drawsP ns).sum)).length ≤ 100)
    (hsg : signsGo (symGo 100 (pageP (drawsP ns) (handP (drawsP ns).sum))) ⟨[], [], false⟩ = some ⟨sgP (drawsP ns), nm, false⟩) (hsl : (symGo 100 (pageP (drawsP ns) (handP (drawsP ns).sum))).length ≤ 100)
    (hsc : (lineP L6 (drawsP ns)).map symc = sgP (drawsP ns)) (hwo : ∀ l ∈ wordsP (drawsP ns), l.length ≤ 40 ∧ ∀ c ∈ l, c < 128)
    (hsv : (servP (wordsP (drawsP ns)) (wishesL (drawsP ns) (drawsP ns).sum)).length = 6) (hsb : ∀ y ∈ servP (wordsP (drawsP ns)) (wishesL (drawsP ns) (drawsP ns).sum), y < 64 ∧ y ≠ 0)
    (hfin : fewP 7 (servP (wordsP (drawsP ns)) (wishesL (drawsP ns) (drawsP ns).sum)) = mostP (hostsL (drawsP ns)) (wishesL (drawsP ns) (drawsP ns).sum) 7 [0, 1, 2, 3, 4, 5]) :
    LawRun (W2 w mean mg mb) 9 133 [(PySem.Str.ofString "script", Slot.val (.lst (ns.map D.int)))] (.bool true) := by
  refine ⟨_, _, _, _, _, _, _, _, _, _, _, _, _, _, _, rfl, ?_⟩
  intro A L f' cd' F
  have hnl : (ns.map D.int).length ≤ 1000 := by rw [List.length_map]; walk_at "lx"
  have ht5 : (ns.take 5).length ≤ 5 := by rw [List.length_take]; walk_at "lx"
  refine x_cons (σ₁ := [(PySem.Str.ofString "draws", Slot.val (dL (drawsP ns)))]) (x1_weakO' (x_assign (d := dL (drawsP ns)) F ?_ rfl) (by walk_at "sub")) ?_
  · have ed : dL (drawsP ns) = .lst (((ns.take 5).map fun i => some (dN (drawP i))).filterMap id ++ ([3, 5, 5, 8, 29].drop (ns.take 5).length).map dN) := by
      rw [some_map]
      show D.lst _ = D.lst _
      unfold drawsP
      rw [List.map_append, List.map_map]; rfl
    rw [ed]
    refine ev_bin (evF_comp F (cl := []) (cap := []) (ds := (ns.take 5).map D.int) (by rw [List.map_take]; exact ev_slTL (k := 5) (by walk_at "ev") ev_int hnl) (iter_list F.hh) rfl (by decide) rfl (by decide) ?_ ?_ ?_).ev (ev_slFL (xs := [3, 5, 5, 8, 29]) (k := (ns.take 5).length) (evF_list (show Evs _ _ _ _ _ [.int 3, .int 5, .int 5, .int 8, .int 29] by walk_at "evs") (by decide)).ev ?_ (by simpa using ht5) (by decide)) (op_addL ?_)
    · exact capsN (fun _ => rfl) (List.forall_mem_nil _) (List.forall_mem_nil _)
    · intro C FC
      refine All2.map _ _ fun i _ => ⟨_, asg_name FC rfl, (fun p hp => nomatch hp), tst_nil, ?_⟩
      rw [drawP_eq]
      exact ev_bin (ev_callT FC rfl rfl boot_int (by decide) (by decide) (by walk_at "evs") cv_int) (ev_bin ev_int ev_int (op_pow (by decide) (by decide))) (op_mod (by decide))
    · rw [List.length_map]; walk_at "lx"
    · have e : dN (ns.take 5).length = .int (((ns.map D.int).take 5).length : Int) := by rw [← List.map_take, List.length_map]
      rw [e]
      exact ev_callB F rfl rfl boot_len (by decide) (by decide) (evs_cons (ev_slTL (k := 5) (by walk_at "ev") ev_int hnl) evs_nil) (cv_lenL (by rw [← List.map_take, List.length_map]; walk_at "lx"))
    · rw [some_map, List.length_map, List.length_map, List.length_drop]; simp; walk_at "lx"
  have hd5 := drawsP_len ns
  generalize drawsP ns = ds at hd5 hll hlc hpl hsg hsl hsc hwo hsv hsb hfin ⊢
  refine x_cons (σ₁ := [(PySem.Str.ofString "draws", Slot.val (dL ds)), (PySem.Str.ofString "total", Slot.val (dN ds.sum))]) (x1_weakO' (x_assignC (d := dN ds.sum) F (ev_callB F rfl rfl boot_sum (by decide) (by decide) (by walk_at "evs") (cv_sumN F.hh)) rfl (c := L + 1) rfl (Nat.lt_succ_self _)) (by walk_at "sub")) ?_
  generalize ds.sum = t at hpl hsg hsl hsv hsb hfin ⊢
  refine x_cons (σ₁ := [(PySem.Str.ofString "draws", Slot.val (dL ds)), (PySem.Str.ofString "total", Slot.val (dN t)), (PySem.Str.ofString "signed", Slot.own ((List.range' 1 6).map fun k => D.int (signI t k)))]) (x1_weakO' (x1_own (es := (List.range' 1 6).map fun k => D.int (signI t k)) (x_comp F (cl := [(PySem.Str.ofString "total", L + 1)]) (cap := [(PySem.Str.ofString "total", dN t)]) (d := .rng 1 7 1) (ds := (List.range' 1 6).map dN) (os := (List.range' 1 6).map fun k => some (D.int (signI t k))) (by walk_at "ev") (by rw [← rngN]; exact iter_rng F.hh small17.1 small17.2) rfl rfl rfl (by decide) rfl (by decide) ?_ ?_ ?_) (some_map _ _)) (by walk_at "sub")) ?_
  · exact capsN (fun _ => rfl) (List.forall_mem_cons.mpr ⟨rfl, List.forall_mem_nil _⟩) (List.forall_mem_cons.mpr ⟨⟨by walk_at "mem", notLoc rfl, fun _ => rfl, rfl⟩, List.forall_mem_nil _⟩)
  · intro C FC
    refine All2.map _ _ fun k hk => ⟨_, asg_name FC rfl, fun p hp => ?_, tst_nil, ?_⟩
    · rw [List.mem_singleton.mp hp]; exact upd_of (x := PySem.Str.ofString "number") (y := PySem.Str.ofString "total") (by decide) (.head _)
    · refine ev_if (b := (((k : Int) - (t : Int)).fmod 2 == 0)) (tr_cmp (ev_bin (ev_bin (ev_name FC upd_self (by decide)) (ev_name FC (upd_of (x := PySem.Str.ofString "number") (y := PySem.Str.ofString "total") (by decide) (.head _)) (by decide)) op_sub) ev_int (op_mod (by decide))) ev_int op_eqI rfl) (fun hb => ?_) (fun hb => ?_)
      · unfold signI; rw [if_pos hb]
        exact ev_un (ev_name FC upd_self (by decide)) op_neg
      · unfold signI; rw [hb, if_neg (by decide)]
        exact ev_name FC upd_self (by decide)
  · rw [some_map, List.length_map]; decide
  refine x_freeze (x := PySem.Str.ofString "signed") (by walk_at "mem") ?_
  refine x_weak (σ' := [(PySem.Str.ofString "draws", Slot.val (dL ds)), (PySem.Str.ofString "total", Slot.val (dN t)), (PySem.Str.ofString "signed", Slot.val (.lst ((List.range' 1 6).map fun k => D.int (signI t k))))]) (by walk_at "sub") ?_
  refine x_cons (σ₁ := [(PySem.Str.ofString "draws", Slot.val (dL ds)), (PySem.Str.ofString "total", Slot.val (dN t)), (PySem.Str.ofString "letters", Slot.val (dS L6))]) (x1_weakO' (x_assign (d := dS L6) F ?_ rfl) (by walk_at "sub")) ?_
  · rw [show dS L6 = .str (Txt.join (PySem.Str.ofString "") (L6.map fun c => S [c])) by rw [join_chars]]
    refine ev_methS1 ev_str PySem.F.slot_str_join PySem.F.type_str_join (evs_cons (d := .lst ((L6.map fun c => S [c]).map D.str)) ?_ evs_nil) (cv_join (by decide))
    have eo : (L6.map fun c => S [c]).map D.str = ((List.range' 1 6).map fun k => [dS [65 + k]]).flatten := rfl
    rw [eo]
    refine (evF_comp2 F (cl := []) (cap := []) (d := .lst ((List.range' 1 6).map fun k => D.int (signI t k))) (ds := (List.range' 1 6).map fun k => D.int (signI t k)) (by walk_at "ev") (iter_list F.hh) rfl (by decide) rfl (by decide) ?_ ?_ ?_).ev
    · exact capsN (fun _ => rfl) (List.forall_mem_nil _) (List.forall_mem_nil _)
    · intro C FC
      refine All2.map _ _ fun k hk => ?_
      have hk' := List.mem_range'_1.mp hk
      have ha := signI_abs t k
      have h1 := ap_one k (by walk_at "lx") hk'.1
      refine ⟨_, .byt (apGo 1 (signI t k).natAbs []).toArray, [dN (65 + k)], asg_name FC rfl, (fun p hp => nomatch hp), ?_, ?_, ?_⟩
      · exact ev_call FC rfl rfl (by decide) rfl (evs_cons (ev_name FC upd_self (by decide)) evs_nil) (ap_ok w mean mg mb (signI t k) 1 (by rw [ha]; walk_at "lx") (by rw [ha]; walk_at "lx") (by decide)) (by walk_at "lx")
      · rw [ha]
        have e : [dN (65 + k)] = (apGo 1 k []).toArray.toList.map fun c => .int (c.toNat : Int) := by
          rw [show [dN (65 + k)] = [65 + k].map dN from rfl, ← h1, List.map_map]; rfl
        rw [e]
        exact iter_byt FC.hh
      · refine All2.cons ⟨_, asg_name FC rfl, fun p hp => ?_, ?_⟩ All2.nil
        · have hp' : p = (PySem.Str.ofString "number", Slot.val (D.int (signI t k))) := List.mem_singleton.mp hp
          rw [hp']; exact upd_of (x := PySem.Str.ofString "octet") (y := PySem.Str.ofString "number") (by decide) (.head _)
        · rw [show dS [65 + k] = D.str ⟨#[(((65 + k : Nat) : Int)).toNat]⟩ by rw [Int.toNat_natCast]]
          exact ev_callB FC rfl rfl boot_chr (by decide) (by decide) (evs_cons (d := .int ((65 + k : Nat) : Int)) (ev_name FC upd_self (by decide)) evs_nil) (cv_chr (a := ((65 + k : Nat) : Int)) (by walk_at "lx") (by walk_at "lx"))
    · decide
  refine x_cons (x_assign (d := .lst [D.fn 52, D.fn 59, D.fn 66, D.fn 73, D.fn 80]) F (evF_list (show Evs _ _ _ _ _ [D.fn 52, D.fn 59, D.fn 66, D.fn 73, D.fn 80] by walk_at "evs") (by decide)).ev rfl) ?_
  refine x_weak (σ' := [(PySem.Str.ofString "draws", Slot.val (dL ds)), (PySem.Str.ofString "total", Slot.val (dN t)), (PySem.Str.ofString "letters", Slot.val (dS L6)), (PySem.Str.ofString "hands", Slot.val (.lst [D.fn 52, D.fn 59, D.fn 66, D.fn 73, D.fn 80]))]) (by walk_at "sub") ?_
  have hh5 : handP t < 5 := Nat.mod_lt _ (by decide)
  obtain ⟨fc, od, fd, osl, hK, hC⟩ := hands_ok w mean mg mb (handP t) hh5
  refine x_cons (σ₁ := [(PySem.Str.ofString "draws", Slot.val (dL ds)), (PySem.Str.ofString "total", Slot.val (dN t)), (PySem.Str.ofString "signs", Slot.val (.lst ((sgP ds).map Sym.d)))]) (x1_weakO' (x_assign (d := .lst ((sgP ds).map Sym.d)) F (ev_call F rfl rfl (by decide) rfl (evs_cons (d := dS (pageP ds (handP t))) (ev_callX F (ev_itemL (i := ((handP t : Nat) : Int)) (by walk_at "ev") (ev_modN (b := 5) (by walk_at "ev") ev_int (by decide)) (by walk_at "lx") (by rw [Int.toNat_natCast]; exact hands_get _ hh5) (Nat.le_of_ble_eq_true rfl)) hK (evs_cons (d := dS (lineP L6 ds)) (ev_call F rfl rfl (by decide) rfl (by walk_at "evs") (line_ok w mean mg mb L6 ds rfl hd5) (by walk_at "lx")) evs_nil) (hC _ (by walk_at "lx")) (by walk_at "lx")) evs_nil) (signs_ok w mean mg mb 100 _ ⟨sgP ds, nm, false⟩ hpl (by decide) hsg hsl) (by walk_at "lx")) rfl) (by walk_at "sub")) ?_
  refine x_cons (x_if (b := false) (tr_cmp (by walk_at "ev") (d₂ := .lst ((sgP ds).map Sym.d)) ?_ (op_neSame F ?_) rfl) (fun h => nomatch h) (fun _ => x_nil)) ?_
  · have eo : (sgP ds).map Sym.d = ((lineP L6 ds).map fun c => some (tabOr signT (S [c]) (S [c]))).filterMap id := by
      rw [some_map, ← hsc, List.map_map]
      exact List.map_congr_left fun c _ => (symc_d c).symm
    rw [eo]
    refine (evF_comp F (cl := []) (cap := []) (d := dS (lineP L6 ds)) (ds := (lineP L6 ds).map fun c => dS [c]) (ev_call F rfl rfl (by decide) rfl (evs_cons (d := dS L6) ev_str (evs_cons (by walk_at "ev") evs_nil)) (line_ok w mean mg mb L6 ds rfl hd5) (by walk_at "lx")) (iter_str (x := S (lineP L6 ds)) F.hh ?_) rfl (by decide) rfl (by decide) ?_ ?_ ?_).ev
    · show ((lineP L6 ds).toArray.all fun c => decide (c < 128)) = true
      rw [List.all_toArray, List.all_eq_true]
      exact fun c hc => decide_eq_true (hlc c hc)
    · exact capsN (fun _ => rfl) (List.forall_mem_nil _) (List.forall_mem_nil _)
    · intro C FC
      refine All2.map _ _ fun c _ => ⟨_, asg_name FC rfl, (fun p hp => nomatch hp), tst_nil, ?_⟩
      exact ev_sign (ev_name FC upd_self (by decide)) (ev_name FC upd_self (by decide))
    · rw [List.length_map]; walk_at "lx"
  · intro d hd
    obtain ⟨y, _, rfl⟩ := List.mem_map.mp hd
    cases y <;> trivial
  obtain ⟨a, b, c, d, e, rfl⟩ := five ds hd5
  refine x_cons (σ₁ := [(PySem.Str.ofString "draws", Slot.val (dL [a, b, c, d, e])), (PySem.Str.ofString "total", Slot.val (dN t)), (PySem.Str.ofString "signs", Slot.val (.lst ((sgP [a, b, c, d, e]).map Sym.d))), (PySem.Str.ofString "hosts", Slot.val (dL (hostsL [a, b, c, d, e])))]) (x1_weakO' (x_assign (d := dL (hostsL [a, b, c, d, e])) F ?_ rfl) (by walk_at "sub")) ?_
  · show Ev _ _ _ _ _ (.lst ([D.int 0] ++ [dN (a % 1), dN (b % 2), dN (c % 3), dN (d % 4), dN (e % 5)]))
    refine ev_bin (evF_list (show Evs _ _ _ _ _ [D.int 0] by walk_at "evs") (by decide)).ev (evF_compE F (cl := []) (cap := []) rfl rfl (ds := [a, b, c, d, e].map dN) (by walk_at "ev") rfl (by decide) rfl (by decide) (capsN (fun _ => rfl) (List.forall_mem_nil _) (List.forall_mem_nil _)) (fun C FC => ?_) (Nat.le_of_ble_eq_true rfl)).ev (op_addL (Nat.le_of_ble_eq_true rfl))
    refine all2_enum5 (fun p v => dN (v % p)) fun p v h1 h5 => ⟨_, asg_tup FC.hh (bndl_cons (bnd_asg (asg_name FC rfl)) (bndl_cons (bnd_asg (asg_name FC rfl)) bndl_nil)) rfl rfl, (fun p hp => nomatch hp), ?_⟩
    exact ev_modN (ev_name FC upd_self (by decide)) (ev_name FC (upd_of (by decide) upd_self) (by decide)) (Nat.ne_of_gt h1)
  refine x_cons (σ₁ := [(PySem.Str.ofString "draws", Slot.val (dL [a, b, c, d, e])), (PySem.Str.ofString "total", Slot.val (dN t)), (PySem.Str.ofString "signs", Slot.val (.lst ((sgP [a, b, c, d, e]).map Sym.d))), (PySem.Str.ofString "hosts", Slot.val (dL (hostsL [a, b, c, d, e]))), (PySem.Str.ofString "wishes", Slot.val (dL (wishesL [a, b, c, d, e] t)))]) (x1_weakO' (x_assign (d := dL (wishesL [a, b, c, d, e] t)) F ?_ rfl) (by walk_at "sub")) ?_
  · show Ev _ _ _ _ _ (.lst ([dN (t / 5 % 4)] ++ [dN (a / (2 * 1) % 4), dN (b / (2 * 2) % 4), dN (c / (2 * 3) % 4), dN (d / (2 * 4) % 4), dN (e / (2 * 5) % 4)]))
    refine ev_bin (evF_list (evs_cons (ev_modN (b := 4) (ev_divN (b := 5) (by walk_at "ev") ev_int (by decide) (by decide)) ev_int (by decide)) evs_nil) (Nat.le_of_ble_eq_true rfl)).ev (evF_compE F (cl := []) (cap := []) rfl rfl (ds := [a, b, c, d, e].map dN) (by walk_at "ev") rfl (by decide) rfl (by decide) (capsN (fun _ => rfl) (List.forall_mem_nil _) (List.forall_mem_nil _)) (fun C FC => ?_) (Nat.le_of_ble_eq_true rfl)).ev (op_addL (Nat.le_of_ble_eq_true rfl))
    refine all2_enum5 (fun p v => dN (v / (2 * p) % 4)) fun p v h1 h5 => ⟨_, asg_tup FC.hh (bndl_cons (bnd_asg (asg_name FC rfl)) (bndl_cons (bnd_asg (asg_name FC rfl)) bndl_nil)) rfl rfl, (fun p hp => nomatch hp), ?_⟩
    exact ev_modN (b := 4) (ev_divN (ev_name FC upd_self (by decide)) (ev_mulN (a := 2) ev_int (ev_name FC (upd_of (by decide) upd_self) (by decide)) (IntMulOk.of_left (by decide))) (by walk_at "lx") (by walk_at "lx")) ev_int (by decide)
  have hhl : (hostsL [a, b, c, d, e]).length = 6 := rfl
  have hwl : (wishesL [a, b, c, d, e] t).length = 6 := rfl
  have hht : ∀ i, 1 ≤ i → i < 6 → (hostsL [a, b, c, d, e]).getD i 0 < i := fun i h1 h6 => by
    have e0 : (hostsL [a, b, c, d, e]).getD i 0 = hostP [a, b, c, d, e] i := by
      unfold hostsL
      rw [List.getD_eq_getElem?_getD, List.getElem?_map, List.getElem?_range h6]; rfl
    rw [e0]; exact hostP_lt h1
  have hwb : ∀ k, (wishesL [a, b, c, d, e] t).getD k 0 ≤ 10 := fun k => by
    rcases Nat.lt_or_ge k 6 with h6 | h6
    · have e0 : (wishesL [a, b, c, d, e] t).getD k 0 = wishP [a, b, c, d, e] t k := by
        unfold wishesL
        rw [List.getD_eq_getElem?_getD, List.getElem?_map, List.getElem?_range h6]; rfl
      rw [e0]; unfold wishP
      split
      · have := Nat.mod_lt (t / 5) (show 4 > 0 by decide); walk_at "lx"
      · have := Nat.mod_lt ([a, b, c, d, e].getD (k - 1) 0 / (2 * k)) (show 4 > 0 by decide); walk_at "lx"
    · rw [List.getD_eq_getElem?_getD, List.getElem?_eq_none (by rw [hwl]; exact h6)]; exact Nat.zero_le _
  refine x_stop (x_ret ?_)
  have et : D.bool true = D.bool (((fewP 7 (servP (wordsP [a, b, c, d, e]) (wishesL [a, b, c, d, e] t)) : Nat) : Int) == ((mostP (hostsL [a, b, c, d, e]) (wishesL [a, b, c, d, e] t) 7 [0, 1, 2, 3, 4, 5] : Nat) : Int)) := by rw [hfin, beq_self_eq_true]
  rw [et]
  refine ev_cmp (ev_call F rfl rfl (by decide) rfl (evs_cons (d := dL (servP (wordsP [a, b, c, d, e]) (wishesL [a, b, c, d, e] t))) (ev_call F rfl rfl (by decide) rfl (evs_cons (d := dW (wordsP [a, b, c, d, e])) (ev_call F rfl rfl (by decide) rfl (by walk_at "evs") (words_ok w mean mg mb [a, b, c, d, e]) (by walk_at "lx")) (by walk_at "evs")) (served_ok w mean mg mb _ _ rfl hwl hwo hwb) (by walk_at "lx")) evs_nil) (few_ok w mean mg mb 7 _ (by rw [hsv]; decide) (by decide) hsb) (by walk_at "lx")) (ev_call F rfl rfl (by decide) rfl (evs_cons (d := dL (hostsL [a, b, c, d, e])) (by walk_at "ev") (evs_cons (d := dL (wishesL [a, b, c, d, e] t)) (by walk_at "ev") (evs_cons (d := dL [0, 1, 2, 3, 4, 5]) ?_ evs_nil))) (most_ok w mean mg mb (hostsL [a, b, c, d, e]) (wishesL [a, b, c, d, e] t) hhl hwl hht 7 [0, 1, 2, 3, 4, 5] (by decide) (by decide) (by decide)) (by walk_at "lx")) op_eqI rfl
  exact (evF_listRng F rfl rfl (ev_rng1 F rfl rfl ev_int) small6.1 small6.2 (by decide)).ev
end
section
set_option maxHeartbeats 4000000
noncomputable abbrev alphaQ : List Nat := [66, 67, 68, 69, 70, 71, 38, 60, 62, 97, 109, 112, 59, 108, 116, 103]
theorem escP_append : ∀ (rows : List (Nat × List Nat)) (a b : List Nat), escP rows (a ++ b) = escP rows a ++ escP rows b
  | [], _, _ => rfl
  | p :: rows, a, b => by
    show escP rows (repP p.1 p.2 (a ++ b)) = escP rows (repP p.1 p.2 a) ++ escP rows (repP p.1 p.2 b)
    rw [repP_append, escP_append rows]
theorem escP_nil : ∀ rows : List (Nat × List Nat), escP rows [] = []
  | [] => rfl
  | p :: rows => escP_nil rows
theorem tok_mem {x : List Nat} {n : Nat} : ∀ {T : List (List Nat × Nat)}, tokLook x T = some n → (x, n) ∈ T
  | [], h => by cases h
  | (a, k) :: T, h => by
    rw [tokLook] at h
    split at h
    · next e => cases h; subst e; exact .head _
    · exact .tail _ (tok_mem h)
/-- the longer tokens that these letters can make -/
theorem tok_long : (tokT.all fun r => r.1.length == 1 || !(r.1.all fun c => alphaQ.contains c) || (r.1 == [60, 60]) || (r.1 == [62, 62])) = true := by decide +kernel
theorem tok_two {a b : Nat} (ha : a ∈ alphaQ) (hb : b ∈ alphaQ) (hn : (a ≠ 60 ∧ a ≠ 62) ∨ b ≠ a) : tokLook [a, b] tokT = none := by
  cases h : tokLook [a, b] tokT with
  | none => rfl
  | some n =>
    have := List.all_eq_true.mp tok_long _ (tok_mem h)
    simp only [List.length_cons, List.length_nil, List.all_cons, List.all_nil, List.contains_iff_mem.mpr ha, List.contains_iff_mem.mpr hb, Bool.and_true, Bool.not_true, Bool.or_false] at this
    simp only [Bool.or_eq_true, beq_iff_eq, List.cons.injEq, and_true] at this
    walk_at "lx"
theorem tok_three {a b c : Nat} (ha : a ∈ alphaQ) (hb : b ∈ alphaQ) (hc : c ∈ alphaQ) : tokLook [a, b, c] tokT = none := by
  cases h : tokLook [a, b, c] tokT with
  | none => rfl
  | some n =>
    have := List.all_eq_true.mp tok_long _ (tok_mem h)
    simp only [List.length_cons, List.length_nil, List.all_cons, List.all_nil, List.contains_iff_mem.mpr ha, List.contains_iff_mem.mpr hb, List.contains_iff_mem.mpr hc, Bool.and_true, Bool.not_true, Bool.or_false] at this
    simp only [Bool.or_eq_true, beq_iff_eq, List.cons.injEq, and_false, reduceCtorEq, or_false] at this
    walk_at "lx"
theorem symGo_len : ∀ (f : Nat) (l : List Nat), (symGo f l).length ≤ f
  | 0, _ => by simp [symGo]
  | f + 1, l => by
    unfold symGo
    split
    · simp
    · have := symGo_len f (l.drop (sizeP l))
      rw [List.length_cons]; walk_at "lx"
theorem sym_one {f a : Nat} {r : List Nat} (hA : a ∈ alphaQ) (hr : ∀ c ∈ r, c ∈ alphaQ) (hn : (a ≠ 60 ∧ a ≠ 62) ∨ r.head? ≠ some a) : symGo (f + 1) (a :: r) = symOf [a] :: symGo f r := by
  rw [symGo, if_neg (by simp)]
  have two : ∀ b, r.head? = some b → b ∈ alphaQ → tokLook [a, b] tokT = none := fun b hb hB => tok_two hA hB (hn.imp id fun h e => h (by rw [hb, e]))
  match r, hr, two with
  | [], _, _ =>
    have hz : sizeP [a] = 3 ∨ sizeP [a] = 2 ∨ sizeP [a] = 1 := by unfold sizeP; split <;> (try split) <;> simp
    rcases hz with h | h | h <;> rw [h] <;> rfl
  | [b], hr, two =>
    have e := two b rfl (hr b (.head _))
    have : sizeP [a, b] = 1 := by
      unfold sizeP
      rw [show [a, b].take 3 = [a, b] from rfl, show [a, b].take 2 = [a, b] from rfl, e]; rfl
    rw [this]; rfl
  | b :: c :: r, hr, two =>
    have e := two b rfl (hr b (.head _))
    have : sizeP (a :: b :: c :: r) = 1 := by
      unfold sizeP
      rw [show (a :: b :: c :: r).take 3 = [a, b, c] from rfl, show (a :: b :: c :: r).take 2 = [a, b] from rfl, tok_three hA (hr b (.head _)) (hr c (.tail _ (.head _))), e]; rfl
    rw [this]; rfl
noncomputable def entQ (c : Nat) : List Nat := if c = 38 then [38, 97, 109, 112, 59] else if c = 60 then [38, 108, 116, 59] else [38, 103, 116, 59]
noncomputable def baseQ : List Nat := [66, 67, 68, 69, 70, 71, 38, 60, 62]
noncomputable def rawQ (h c : Nat) : Bool := c != 38 && !(c == 60 && h != 2) && !(c == 62 && h != 4)
theorem piece_tab : ∀ h : _root_.Fin 5, (baseQ.all fun c => escP (escRows h.val) [c] == if rawQ h.val c then [c] else entQ c) = true := by decide +kernel
theorem raw_sym : (baseQ.all fun c => c == 38 || (match symOf [c], symc c with | .num a, .num b => a == b && a != 19 && a != 13 | .txt a, .txt b => a == b | _, _ => false)) = true := by decide +kernel
theorem raw_step {h c : Nat} (hc : c ∈ baseQ) (hr : rawQ h c = true) (st : List Sym) (nm : List Nat) : stepG (symOf [c]) ⟨st, nm, false⟩ = some ⟨st ++ [symc c], nm, false⟩ := by
  have := List.all_eq_true.mp raw_sym c hc
  have h38 : (c == 38) = false := by
    unfold rawQ at hr
    cases h : c == 38 with
    | false => rfl
    | true => rw [beq_iff_eq] at h; subst h; simp at hr
  rw [h38, Bool.false_or] at this
  cases e1 : symOf [c] with
  | num a =>
    cases e2 : symc c with
    | num b =>
      rw [e1, e2] at this
      simp only [Bool.and_eq_true, beq_iff_eq, bne_iff_ne] at this
      obtain ⟨⟨rfl, h19⟩, h13⟩ := this
      unfold stepG
      dsimp only
      rw [if_neg h19, if_neg h13]; rfl
    | txt b => rw [e1, e2] at this; cases this
  | txt a =>
    cases e2 : symc c with
    | txt b =>
      rw [e1, e2] at this
      rw [eq_of_beq this]; rfl
    | num b => rw [e1, e2] at this; cases this
theorem go_num {y : Sym} {ys : List Sym} {s s' : SgSt} (h : stepG y s = some s') : signsGo (y :: ys) s = signsGo ys s' := by
  rw [signsGo, h]
theorem tokens1 : symOf [38] = .num 19 ∧ symOf [59] = .num 13 ∧ symOf [97] = .txt [97] ∧ symOf [109] = .txt [109] ∧ symOf [112] = .txt [112] ∧ symOf [108] = .txt [108] ∧ symOf [116] = .txt [116] ∧ symOf [103] = .txt [103] := by
  refine ⟨rfl, rfl, rfl, rfl, rfl, rfl, rfl, rfl⟩
theorem ent_run {c : Nat} (hc : c = 38 ∨ c = 60 ∨ c = 62) (f : Nat) (r : List Nat) (st : List Sym) (nm : List Nat) (hr : ∀ c ∈ r, c ∈ alphaQ) (hf : (entQ c ++ r).length ≤ f) : ∃ f' nm', r.length ≤ f' ∧ signsGo (symGo f (entQ c ++ r)) ⟨st, nm, false⟩ = signsGo (symGo f' r) ⟨st ++ [symc c], nm', false⟩ := by
  obtain ⟨t1, t2, t3, t4, t5, t6, t7, t8⟩ := tokens1
  have al : ∀ (l : List Nat), (∀ c ∈ l, c ∈ alphaQ) → ∀ c ∈ l ++ r, c ∈ alphaQ := fun l hl c hc => (List.mem_append.mp hc).elim (hl c) (hr c)
  rcases hc with rfl | rfl | rfl
  · obtain ⟨f', rfl⟩ : ∃ f', f = f' + 5 := ⟨f - 5, by rw [List.length_append] at hf; simp [entQ] at hf; walk_at "lx"⟩
    refine ⟨f', [97, 109, 112], by rw [List.length_append] at hf; simp [entQ] at hf; walk_at "lx", ?_⟩
    show signsGo (symGo (f' + 5) (38 :: 97 :: 109 :: 112 :: 59 :: r)) _ = _
    rw [sym_one (f := f' + 4) (a := 38) (r := 97 :: 109 :: 112 :: 59 :: r) (by decide) (al [97, 109, 112, 59] (by decide)) (.inl (by decide)), sym_one (f := f' + 3) (a := 97) (r := 109 :: 112 :: 59 :: r) (by decide) (al [109, 112, 59] (by decide)) (.inl (by decide)), sym_one (f := f' + 2) (a := 109) (r := 112 :: 59 :: r) (by decide) (al [112, 59] (by decide)) (.inl (by decide)), sym_one (f := f' + 1) (a := 112) (r := 59 :: r) (by decide) (al [59] (by decide)) (.inl (by decide)), sym_one (f := f') (a := 59) (r := r) (by decide) hr (.inl (by decide)), t1, t2, t3, t4, t5]
    rfl
  · obtain ⟨f', rfl⟩ : ∃ f', f = f' + 4 := ⟨f - 4, by rw [List.length_append] at hf; simp [entQ] at hf; walk_at "lx"⟩
    refine ⟨f', [108, 116], by rw [List.length_append] at hf; simp [entQ] at hf; walk_at "lx", ?_⟩
    show signsGo (symGo (f' + 4) (38 :: 108 :: 116 :: 59 :: r)) _ = _
    rw [sym_one (f := f' + 3) (a := 38) (r := 108 :: 116 :: 59 :: r) (by decide) (al [108, 116, 59] (by decide)) (.inl (by decide)), sym_one (f := f' + 2) (a := 108) (r := 116 :: 59 :: r) (by decide) (al [116, 59] (by decide)) (.inl (by decide)), sym_one (f := f' + 1) (a := 116) (r := 59 :: r) (by decide) (al [59] (by decide)) (.inl (by decide)), sym_one (f := f') (a := 59) (r := r) (by decide) hr (.inl (by decide)), t1, t2, t6, t7]
    rfl
  · obtain ⟨f', rfl⟩ : ∃ f', f = f' + 4 := ⟨f - 4, by rw [List.length_append] at hf; simp [entQ] at hf; walk_at "lx"⟩
    refine ⟨f', [103, 116], by rw [List.length_append] at hf; simp [entQ] at hf; walk_at "lx", ?_⟩
    show signsGo (symGo (f' + 4) (38 :: 103 :: 116 :: 59 :: r)) _ = _
    rw [sym_one (f := f' + 3) (a := 38) (r := 103 :: 116 :: 59 :: r) (by decide) (al [103, 116, 59] (by decide)) (.inl (by decide)), sym_one (f := f' + 2) (a := 103) (r := 116 :: 59 :: r) (by decide) (al [116, 59] (by decide)) (.inl (by decide)), sym_one (f := f' + 1) (a := 116) (r := 59 :: r) (by decide) (al [59] (by decide)) (.inl (by decide)), sym_one (f := f') (a := 59) (r := r) (by decide) hr (.inl (by decide)), t1, t2, t7, t8]
    rfl
noncomputable def nextOk (c : Nat) (r : List Nat) : Bool := (c != 60 && c != 62) || (match r with | [] => true | d :: _ => Nat.ble 66 d)
noncomputable def okL : List Nat → Bool
  | [] => true
  | c :: r => baseQ.contains c && nextOk c r && okL r
theorem okL_cons {c : Nat} {r : List Nat} (h : okL (c :: r) = true) : c ∈ baseQ ∧ ((c ≠ 60 ∧ c ≠ 62) ∨ ∀ d s, r = d :: s → 66 ≤ d) ∧ okL r = true := by
  rw [okL, Bool.and_eq_true, Bool.and_eq_true] at h
  unfold nextOk at h
  rw [Bool.or_eq_true] at h
  obtain ⟨⟨h1, h2⟩, h3⟩ := h
  refine ⟨List.contains_iff_mem.mp h1, ?_, h3⟩
  rcases h2 with h2 | h2
  · left; simpa using h2
  · right
    rintro d s rfl
    exact Nat.le_of_ble_eq_true h2
theorem piece_eq {h c : Nat} (hh : h < 5) (hc : c ∈ baseQ) : escP (escRows h) [c] = if rawQ h c then [c] else entQ c := eq_of_beq (List.all_eq_true.mp (piece_tab ⟨h, hh⟩) c hc)
theorem base_alpha {c : Nat} (hc : c ∈ baseQ) : c ∈ alphaQ := (by decide : ∀ c ∈ baseQ, c ∈ alphaQ) c hc
theorem ent_alpha (c : Nat) : ∀ x ∈ entQ c, x ∈ alphaQ := by
  unfold entQ; split
  · decide
  · split <;> decide
theorem esc_cons (h c : Nat) (r : List Nat) : escP (escRows h) (c :: r) = escP (escRows h) [c] ++ escP (escRows h) r := by rw [← escP_append]; rfl
theorem esc_alpha {h : Nat} (hh : h < 5) : ∀ cs : List Nat, okL cs = true → (∀ x ∈ escP (escRows h) cs, x ∈ alphaQ) ∧ (escP (escRows h) cs).length ≤ 5 * cs.length
  | [], _ => by rw [escP_nil]; exact ⟨(fun _ h => nomatch h), Nat.le_refl _⟩
  | c :: r, ho => by
    obtain ⟨h1, _, h3⟩ := okL_cons ho
    obtain ⟨i1, i2⟩ := esc_alpha hh r h3
    rw [esc_cons, piece_eq hh h1]
    refine ⟨fun x hx => (List.mem_append.mp hx).elim (fun hx => ?_) (i1 x), ?_⟩
    · split at hx
      · rw [List.mem_singleton.mp hx]; exact base_alpha h1
      · exact ent_alpha c x hx
    · rw [List.length_append, List.length_cons]
      have : (if rawQ h c = true then [c] else entQ c).length ≤ 5 := by
        split
        · simp
        · unfold entQ; split
          · simp
          · split <;> simp
      walk_at "lx"
theorem raw_letter {h d : Nat} (hd : 66 ≤ d) : rawQ h d = true := by
  unfold rawQ
  have h1 : (d != 38) = true := by rw [bne_iff_ne]; walk_at "lx"
  have h2 : (d == 60) = false := by rw [beq_eq_false_iff_ne]; walk_at "lx"
  have h3 : (d == 62) = false := by rw [beq_eq_false_iff_ne]; walk_at "lx"
  rw [h1, h2, h3]; rfl
theorem line_run {h : Nat} (hh : h < 5) : ∀ (cs : List Nat), okL cs = true → ∀ (f : Nat) (st : List Sym) (nm : List Nat), (escP (escRows h) cs).length ≤ f → ∃ nm', signsGo (symGo f (escP (escRows h) cs)) ⟨st, nm, false⟩ = some ⟨st ++ cs.map symc, nm', false⟩
  | [], _, f, st, nm, _ => by
    have e : symGo f [] = [] := by cases f <;> rfl
    rw [escP_nil, e, List.map_nil, List.append_nil]; exact ⟨nm, rfl⟩
  | c :: r, ho, f, st, nm, hf => by
    obtain ⟨h1, h2, h3⟩ := okL_cons ho
    have ar := (esc_alpha hh r h3).1
    rw [esc_cons, piece_eq hh h1] at hf ⊢
    rw [List.map_cons]
    cases hr : rawQ h c with
    | true =>
      rw [hr, if_pos rfl] at hf
      rw [if_pos rfl]
      obtain ⟨f, rfl⟩ : ∃ f', f = f' + 1 := ⟨f - 1, by simp at hf; walk_at "lx"⟩
      have hf1 : (escP (escRows h) r).length ≤ f := by simp at hf; walk_at "lx"
      have hn : (c ≠ 60 ∧ c ≠ 62) ∨ (escP (escRows h) r).head? ≠ some c := by
        rcases h2 with h2 | h2
        · exact .inl h2
        · by_cases hc : c ≠ 60 ∧ c ≠ 62
          · exact .inl hc
          · right
            cases r with
            | nil => rw [escP_nil]; exact fun h => nomatch h
            | cons d s =>
              have hd := h2 d s rfl
              rw [esc_cons, piece_eq hh (okL_cons h3).1, raw_letter hd, if_pos rfl]
              intro e
              have e' : d = c := Option.some.inj e
              walk_at "lx"
      show ∃ nm', signsGo (symGo (f + 1) (c :: escP (escRows h) r)) _ = _
      rw [sym_one (base_alpha h1) ar hn, go_num (raw_step h1 hr st nm)]
      obtain ⟨nm', e⟩ := line_run hh r h3 f (st ++ [symc c]) nm hf1
      exact ⟨nm', by rw [e, List.append_assoc]; rfl⟩
    | false =>
      rw [hr, if_neg (by decide)] at hf
      rw [if_neg (by decide)]
      have hc : c = 38 ∨ c = 60 ∨ c = 62 := by
        unfold rawQ at hr
        simp at hr
        walk_at "lx"
      obtain ⟨f', nm', hf', e⟩ := ent_run hc f (escP (escRows h) r) st nm ar hf
      obtain ⟨nm2, e2⟩ := line_run hh r h3 f' (st ++ [symc c]) nm' hf'
      exact ⟨nm2, by rw [e, e2, List.append_assoc]; rfl⟩
/-- the line's own letters -/
noncomputable def fcP (ds : List Nat) (p : Nat) : Nat := letN (if turnP ds p then p else hostP ds p)
noncomputable def mcP (ds : List Nat) (p : Nat) : Nat := if turnP ds p then 60 else 62
noncomputable def lcP (ds : List Nat) (p : Nat) : Nat := letN (if turnP ds p then hostP ds p else p)
noncomputable def lineN (ds : List Nat) : List Nat := [fcP ds 5, mcP ds 5, lcP ds 5, 38, fcP ds 4, mcP ds 4, lcP ds 4, 38, fcP ds 3, mcP ds 3, lcP ds 3, 38, fcP ds 2, mcP ds 2, lcP ds 2, 38, fcP ds 1, mcP ds 1, lcP ds 1]
theorem L6_get : ∀ q : Nat, q < 6 → L6.getD q 0 = letN q := by decide
theorem pieceP_L6 {ds : List Nat} {p : Nat} (h1 : 1 ≤ p) (h5 : p ≤ 5) : pieceP L6 ds p = [fcP ds p, mcP ds p, lcP ds p] := by
  have e1 : lowP L6 p = letN p := L6_get p (by walk_at "lx")
  have e2 : highP L6 ds p = letN (hostP ds p) := by
    have hl := hostP_lt (ds := ds) h1
    unfold highP
    have e : ds.getD (p - 1) 0 % p = hostP ds p := by unfold hostP; rw [if_neg (by walk_at "lx")]
    rw [e]
    exact L6_get _ (by walk_at "lx")
  unfold pieceP fcP mcP lcP
  rw [e1, e2]
  cases turnP ds p <;> rfl
theorem lineP_eq (ds : List Nat) : lineP L6 ds = lineN ds := by
  unfold lineP
  rw [List.map_cons, List.map_cons, List.map_cons, List.map_cons, List.map_cons, List.map_nil, pieceP_L6 (by decide) (by decide), pieceP_L6 (by decide) (by decide), pieceP_L6 (by decide) (by decide), pieceP_L6 (by decide) (by decide), pieceP_L6 (by decide) (by decide)]
  rfl
theorem let_base : ∀ q : Nat, q < 6 → baseQ.contains (letN q) = true ∧ Nat.ble 66 (letN q) = true ∧ (letN q != 60 && letN q != 62) = true := by decide
theorem mc_base (ds : List Nat) (p : Nat) : baseQ.contains (mcP ds p) = true := by unfold mcP; split <;> rfl
theorem fc_lt {ds : List Nat} {p : Nat} (h1 : 1 ≤ p) (h5 : p ≤ 5) : (if turnP ds p then p else hostP ds p) < 6 ∧ (if turnP ds p then hostP ds p else p) < 6 := by
  have := hostP_lt (ds := ds) h1
  constructor <;> split <;> walk_at "lx"
theorem ok_piece {ds : List Nat} {p : Nat} {r : List Nat} (h1 : 1 ≤ p) (h5 : p ≤ 5) (hr : okL r = true) : okL (fcP ds p :: mcP ds p :: lcP ds p :: r) = true := by
  obtain ⟨a, b⟩ := fc_lt (ds := ds) h1 h5
  obtain ⟨a1, a2, a3⟩ := let_base _ a
  obtain ⟨b1, b2, b3⟩ := let_base _ b
  rw [okL, okL, okL, hr]
  unfold nextOk fcP lcP
  dsimp only
  rw [a1, a3, b1, b3, mc_base, b2]
  simp
theorem ok_amp {r : List Nat} (hr : okL r = true) : okL (38 :: r) = true := by
  rw [okL, hr]; rfl
theorem ok_line (ds : List Nat) : okL (lineN ds) = true :=
  ok_piece (by decide) (by decide) (ok_amp (ok_piece (by decide) (by decide) (ok_amp (ok_piece (by decide) (by decide) (ok_amp (ok_piece (by decide) (by decide) (ok_amp (ok_piece (by decide) (by decide) rfl))))))))
theorem symc_let (q : Nat) : symc (letN q) = .txt [letN q] := by
  unfold symc letN
  rw [if_neg (by walk_at "lx"), if_neg (by walk_at "lx"), if_neg (by walk_at "lx")]
theorem symc_mc (ds : List Nat) (p : Nat) : symc (mcP ds p) = midP' ds p := by
  unfold mcP midP'; cases turnP ds p <;> rfl
theorem line_syms (ds : List Nat) : (lineN ds).map symc = sgP ds := by
  unfold lineN
  simp only [List.map_cons, List.map_nil, symc_mc]
  unfold fcP lcP
  simp only [symc_let]
  rfl
theorem page_facts (ds : List Nat) (h : Nat) (hh : h < 5) : (lineP L6 ds).length = 19 ∧ (∀ c ∈ lineP L6 ds, c < 128) ∧ (pageP ds h).length ≤ 100 ∧ (∃ nm, signsGo (symGo 100 (pageP ds h)) ⟨[], [], false⟩ = some ⟨sgP ds, nm, false⟩) ∧ (symGo 100 (pageP ds h)).length ≤ 100 ∧ (lineP L6 ds).map symc = sgP ds := by
  unfold pageP
  rw [lineP_eq]
  have hl := (esc_alpha hh (lineN ds) (ok_line ds)).2
  have h19 : (lineN ds).length = 19 := rfl
  rw [h19] at hl
  obtain ⟨nm, e⟩ := line_run hh (lineN ds) (ok_line ds) 100 [] [] (by walk_at "lx")
  refine ⟨rfl, fun c hc => ?_, by walk_at "lx", ⟨nm, by rw [e, line_syms]; rfl⟩, symGo_len _ _, line_syms ds⟩
  have hb : ∀ (cs : List Nat), okL cs = true → ∀ c ∈ cs, c ∈ baseQ := by
    intro cs
    induction cs with
    | nil => intro _ c hc; cases hc
    | cons a r ih =>
      intro ho c hc
      obtain ⟨q1, _, q3⟩ := okL_cons ho
      rcases List.mem_cons.mp hc with rfl | hc
      · exact q1
      · exact ih q3 c hc
  exact (by decide : ∀ c ∈ baseQ, c < 128) c (hb _ (ok_line ds) c hc)
end
section
set_option maxHeartbeats 4000000
noncomputable def roadT (T : List Nat) : Nat → Nat → List Nat
  | 0, j => [j]
  | f + 1, j => if j = 0 then [0] else j :: roadT T f (T.getD j 0)
noncomputable def wordT (T : List Nat) (j : Nat) : List Nat := (List.range 6).map fun i => if (roadT T 5 j).contains i then 98 + i else 66 + i
noncomputable def levOk (T : List Nat) (l s m : Nat) : Bool := min (levP (wordT T l) (wordT T s) m) (m + 1) == min (stepsD T 10 l s) (m + 1)
noncomputable def levRow (T : List Nat) (l : Nat) : Bool := (List.range l).all fun s => (List.range 4).all fun m => levOk T l s m
noncomputable def triAll (T : List Nat) : Bool := (List.range 6).all fun a => (List.range a).all fun c => (List.range 6).all fun b => Nat.ble (stepsD T 10 a c) (stepsD T 10 a b + stepsD T 10 b c)
noncomputable def ancAll (T : List Nat) : Bool := (List.range 6).all fun p => (List.range (stepsD T 10 p 0 + 1)).all fun k => (roadT T 5 p).any fun t => stepsD T 10 p t == k && Nat.ble t 5 && (stepsD T 10 p 0 == k + stepsD T 10 t 0) && (List.range 6).all fun q => (stepsD T 10 q 0 == stepsD T 10 q t + stepsD T 10 t 0) || (stepsD T 10 p q == k + stepsD T 10 t q)
/-- the tree below n is all that a road from below n sees -/
noncomputable def Below (T T' : List Nat) (n : Nat) : Prop := (∀ i, i ≤ n → T.getD i 0 = T'.getD i 0) ∧ ∀ i, 1 ≤ i → i ≤ n → T.getD i 0 < i
theorem road_ext {T T' : List Nat} {n : Nat} (h : Below T T' n) : ∀ (f j : Nat), j ≤ n → roadT T f j = roadT T' f j
  | 0, _, _ => rfl
  | f + 1, j, hj => by
    rw [roadT, roadT, ← h.1 j hj]
    by_cases h0 : j = 0
    · rw [if_pos h0, if_pos h0]
    · have := h.2 j (by walk_at "lx") hj
      rw [if_neg h0, if_neg h0, road_ext h f _ (by walk_at "lx")]
theorem steps_ext {T T' : List Nat} {n : Nat} (h : Below T T' n) : ∀ (f a b : Nat), a ≤ n → b ≤ n → stepsD T f a b = stepsD T' f a b
  | 0, _, _, _, _ => rfl
  | f + 1, a, b, ha, hb => by
    rw [stepsD, stepsD]
    by_cases e : a = b
    · rw [if_pos e, if_pos e]
    · have hm : max a b ≤ n := by walk_at "lx"
      have := h.2 (max a b) (by walk_at "lx") hm
      rw [if_neg e, if_neg e, ← h.1 _ hm, steps_ext h f _ _ (by walk_at "lx") (by walk_at "lx")]
theorem lev_ext {T T' : List Nat} {n l s m : Nat} (h : Below T T' n) (hl : l ≤ n) (hs : s ≤ n) : levOk T l s m = levOk T' l s m := by
  unfold levOk wordT
  rw [road_ext h 5 l hl, road_ext h 5 s hs, steps_ext h 10 l s hl hs]
theorem tri5 : ∀ h2 : _root_.Fin 2, ∀ h3 : _root_.Fin 3, ∀ h4 : _root_.Fin 4, ∀ h5 : _root_.Fin 5, (triAll [0, 0, h2.val, h3.val, h4.val, h5.val] && ancAll [0, 0, h2.val, h3.val, h4.val, h5.val]) = true := by decide +kernel
theorem lev5 : ∀ h2 : _root_.Fin 2, ∀ h3 : _root_.Fin 3, ∀ h4 : _root_.Fin 4, ∀ h5 : _root_.Fin 5, levRow [0, 0, h2.val, h3.val, h4.val, h5.val] 5 = true := by decide +kernel
theorem lev4 : ∀ h2 : _root_.Fin 2, ∀ h3 : _root_.Fin 3, ∀ h4 : _root_.Fin 4, levRow [0, 0, h2.val, h3.val, h4.val] 4 = true := by decide +kernel
theorem lev3 : ∀ h2 : _root_.Fin 2, ∀ h3 : _root_.Fin 3, (levRow [0, 0, h2.val, h3.val] 3 && levRow [0, 0, h2.val] 2 && levRow [0, 0] 1) = true := by decide +kernel
theorem below_cut (a b c d : Nat) (hb : a < 2) (hc : b < 3) (hd : c < 4) (he : d < 5) : Below [0, 0, a, b, c, d] [0, 0, a, b, c] 4 ∧ Below [0, 0, a, b, c, d] [0, 0, a, b] 3 ∧ Below [0, 0, a, b, c, d] [0, 0, a] 2 ∧ Below [0, 0, a, b, c, d] [0, 0] 1 := by
  have lt : ∀ n, n ≤ 4 → ∀ i, 1 ≤ i → i ≤ n → [0, 0, a, b, c, d].getD i 0 < i := by
    intro n hn i h1 hi
    have : i = 1 ∨ i = 2 ∨ i = 3 ∨ i = 4 := by walk_at "lx"
    rcases this with rfl | rfl | rfl | rfl
    · exact Nat.zero_lt_one
    · exact hb
    · exact hc
    · exact hd
  refine ⟨⟨fun i hi => ?_, lt 4 (by decide)⟩, ⟨fun i hi => ?_, lt 3 (by decide)⟩, ⟨fun i hi => ?_, lt 2 (by decide)⟩, ⟨fun i hi => ?_, lt 1 (by decide)⟩⟩
  · have : i = 0 ∨ i = 1 ∨ i = 2 ∨ i = 3 ∨ i = 4 := by walk_at "lx"
    rcases this with rfl | rfl | rfl | rfl | rfl <;> rfl
  · have : i = 0 ∨ i = 1 ∨ i = 2 ∨ i = 3 := by walk_at "lx"
    rcases this with rfl | rfl | rfl | rfl <;> rfl
  · have : i = 0 ∨ i = 1 ∨ i = 2 := by walk_at "lx"
    rcases this with rfl | rfl | rfl <;> rfl
  · have : i = 0 ∨ i = 1 := by walk_at "lx"
    rcases this with rfl | rfl <;> rfl
theorem row_ext {T T' : List Nat} {n : Nat} (h : Below T T' n) : levRow T n = levRow T' n := by
  unfold levRow
  rw [Bool.eq_iff_iff, List.all_eq_true, List.all_eq_true]
  have key : ∀ s ∈ List.range n, ((List.range 4).all fun m => levOk T n s m) = (List.range 4).all fun m => levOk T' n s m := fun s hs => by
    have := List.mem_range.mp hs
    congr 1
    funext m
    exact lev_ext h (Nat.le_refl _) (by walk_at "lx")
  exact ⟨fun h s hs => by rw [← key s hs]; exact h s hs, fun h s hs => by rw [key s hs]; exact h s hs⟩
theorem lev_rows (h2 : _root_.Fin 2) (h3 : _root_.Fin 3) (h4 : _root_.Fin 4) (h5 : _root_.Fin 5) : ∀ l, l < 6 → levRow [0, 0, h2.val, h3.val, h4.val, h5.val] l = true := by
  obtain ⟨b4, b3, b2, b1⟩ := below_cut h2.val h3.val h4.val h5.val h2.isLt h3.isLt h4.isLt h5.isLt
  have c3 := lev3 h2 h3
  rw [Bool.and_eq_true, Bool.and_eq_true] at c3
  intro l hl
  have : l = 0 ∨ l = 1 ∨ l = 2 ∨ l = 3 ∨ l = 4 ∨ l = 5 := by walk_at "lx"
  rcases this with rfl | rfl | rfl | rfl | rfl | rfl
  · rfl
  · rw [row_ext b1]; exact c3.2
  · rw [row_ext b2]; exact c3.1.2
  · rw [row_ext b3]; exact c3.1.1
  · rw [row_ext b4]; exact lev4 h2 h3 h4
  · exact lev5 h2 h3 h4 h5
end
section
set_option maxHeartbeats 4000000
/-- few ≤ any hitting set -/
theorem few_le : ∀ (f : Nat) (l L : List Nat), l.length < f → (∀ m ∈ l, ∃ x ∈ L, x < 6 ∧ bitP m x = true) → fewP f l ≤ L.length
  | 0, l, _, h, _ => absurd h (Nat.not_lt_zero _)
  | f + 1, [], L, _, _ => Nat.zero_le _
  | f + 1, m :: r, L, hf, hL => by
    obtain ⟨x, hx, h6, hb⟩ := hL m (.head _)
    have hl : (leftP (m :: r) x).length < f := Nat.lt_of_lt_of_le (leftP_len hb) (by walk_at "lx")
    have ih := few_le f (leftP (m :: r) x) (L.erase x) hl (fun m' hm' => by
      obtain ⟨hm1, hm2⟩ := List.mem_filter.mp hm'
      obtain ⟨x', hx', h6', hb'⟩ := hL m' hm1
      have hne : x' ≠ x := fun e => by subst e; rw [hb'] at hm2; cases hm2
      exact ⟨x', (List.mem_erase_of_ne hne).mpr hx', h6', hb'⟩)
    rw [List.length_erase_of_mem hx] at ih
    have hp := List.length_pos_of_mem hx
    rw [fewP]
    generalize hc : ((List.range 6).filterMap fun p => if bitP m p then some (fewP f (leftP (m :: r) p)) else none) = cs
    have hmem : fewP f (leftP (m :: r) x) ∈ cs := hc ▸ List.mem_filterMap.mpr ⟨x, List.mem_range.mpr h6, by rw [if_pos hb]⟩
    cases hm : cs.min? with
    | none => rw [List.min?_eq_none_iff] at hm; rw [hm] at hmem; cases hmem
    | some M =>
      rw [List.min?_eq_some_iff] at hm
      have := hm.2 _ hmem
      show 1 + M ≤ _
      walk_at "lx"
theorem filter_split (p : Nat → Bool) : ∀ l : List Nat, (l.filter p).length + (l.filter fun a => !p a).length = l.length
  | [] => rfl
  | a :: l => by
    have ih := filter_split p l
    rw [List.filter_cons, List.filter_cons, List.length_cons]
    cases p a <;> simp <;> walk_at "lx"
/-- one of a disjoint family at most holds a place -/
theorem one_at_most {P : List Nat} {p : Nat → Bool} (hn : P.Nodup) (hd : ∀ a ∈ P, ∀ b ∈ P, a ≠ b → ¬(p a = true ∧ p b = true)) : (P.filter p).length ≤ 1 := by
  match h : P.filter p with
  | [] => simp
  | [a] => simp
  | a :: b :: r =>
    have hn' : (P.filter p).Nodup := hn.filter p
    rw [h] at hn'
    have ha : a ∈ P.filter p := by rw [h]; exact .head _
    have hb : b ∈ P.filter p := by rw [h]; exact .tail _ (.head _)
    have hab : a ≠ b := fun e => by
      rw [List.nodup_cons] at hn'
      exact hn'.1 (e ▸ .head _)
    obtain ⟨a1, a2⟩ := List.mem_filter.mp ha
    obtain ⟨b1, b2⟩ := List.mem_filter.mp hb
    exact absurd ⟨a2, b2⟩ (hd a a1 b b1 hab)
/-- few ≥ any disjoint family -/
theorem few_ge : ∀ (f : Nat) (l P : List Nat), l.length < f → P.Nodup → (∀ m ∈ P, m ∈ l) → (∀ a ∈ P, ∀ b ∈ P, a ≠ b → ∀ x, x < 6 → ¬(bitP a x = true ∧ bitP b x = true)) → (∀ m ∈ l, ∃ x, x < 6 ∧ bitP m x = true) → P.length ≤ fewP f l
  | 0, l, _, h, _, _, _, _ => absurd h (Nat.not_lt_zero _)
  | f + 1, [], P, _, _, hs, _, _ => by
    cases P with
    | nil => exact Nat.zero_le _
    | cons a r => exact absurd (hs a (.head _)) (by simp)
  | f + 1, m :: r, P, hf, hn, hs, hd, hb => by
    rw [fewP]
    generalize hc : ((List.range 6).filterMap fun p => if bitP m p then some (fewP f (leftP (m :: r) p)) else none) = cs
    obtain ⟨x0, h06, hb0⟩ := hb m (.head _)
    have hmem0 : fewP f (leftP (m :: r) x0) ∈ cs := hc ▸ List.mem_filterMap.mpr ⟨x0, List.mem_range.mpr h06, by rw [if_pos hb0]⟩
    cases hm : cs.min? with
    | none => rw [List.min?_eq_none_iff] at hm; rw [hm] at hmem0; cases hmem0
    | some M =>
      rw [List.min?_eq_some_iff] at hm
      have hM := hm.1
      rw [← hc] at hM
      obtain ⟨x, hx, hxe⟩ := List.mem_filterMap.mp hM
      have h6 := List.mem_range.mp hx
      cases hbx : bitP m x with
      | false => rw [hbx] at hxe; cases hxe
      | true =>
        rw [hbx, if_pos rfl] at hxe
        have hMe : fewP f (leftP (m :: r) x) = M := Option.some.inj hxe
        have hl : (leftP (m :: r) x).length < f := Nat.lt_of_lt_of_le (leftP_len hbx) (by walk_at "lx")
        have ih := few_ge f (leftP (m :: r) x) (P.filter fun a => !bitP a x) hl (hn.filter _) (fun a ha => by
          obtain ⟨a1, a2⟩ := List.mem_filter.mp ha
          exact List.mem_filter.mpr ⟨hs a a1, a2⟩) (fun a ha b hb' => hd a (List.mem_filter.mp ha).1 b (List.mem_filter.mp hb').1) (fun a ha => hb a (List.mem_filter.mp ha).1)
        have h1 := one_at_most (p := fun a => bitP a x) hn (fun a ha b hb' hab => hd a ha b hb' hab x h6)
        have h2 := filter_split (fun a => bitP a x) P
        show P.length ≤ 1 + M
        walk_at "lx"
theorem freeP_len (hs ws : List Nat) (x : Nat) (r : List Nat) : (freeP hs ws x r).length ≤ r.length := List.length_filter_le _ _
/-- most ≤ any hitting set -/
theorem most_le (hs ws : List Nat) (tri : ∀ a b c, a < 6 → b < 6 → c < 6 → stepsD hs 10 a c ≤ stepsD hs 10 a b + stepsD hs 10 b c) (sym : ∀ a b, stepsD hs 10 a b = stepsD hs 10 b a) :
    ∀ (f : Nat) (F L : List Nat), F.length < f → (∀ p ∈ F, p < 6) → (∀ p ∈ F, ∃ x ∈ L, x < 6 ∧ stepsD hs 10 p x ≤ ws.getD p 0) → mostP hs ws f F ≤ L.length
  | 0, F, _, h, _, _ => absurd h (Nat.not_lt_zero _)
  | f + 1, [], L, _, _, _ => Nat.zero_le _
  | f + 1, p :: r, L, hf, h6, hL => by
    rw [List.length_cons] at hf
    obtain ⟨x, hx, hx6, hd⟩ := hL p (.head _)
    have hr := most_le hs ws tri sym f r L (by walk_at "lx") (fun q hq => h6 q (.tail _ hq)) (fun q hq => hL q (.tail _ hq))
    have hfree := most_le hs ws tri sym f (freeP hs ws p r) (L.erase x) (Nat.lt_of_le_of_lt (freeP_len hs ws p r) (by walk_at "lx")) (fun q hq => h6 q (.tail _ (List.mem_filter.mp hq).1)) (fun q hq => by
      obtain ⟨q1, q2⟩ := List.mem_filter.mp hq
      have q3 := of_decide_eq_true q2
      obtain ⟨x', hx', h6', hd'⟩ := hL q (.tail _ q1)
      have hne : x' ≠ x := fun e => by
        subst e
        have := tri p x' q (h6 p (.head _)) hx6 (h6 q (.tail _ q1))
        rw [sym x' q] at this
        walk_at "lx"
      exact ⟨x', (List.mem_erase_of_ne hne).mpr hx', h6', hd'⟩)
    rw [List.length_erase_of_mem hx] at hfree
    have hp := List.length_pos_of_mem hx
    rw [mostP]
    split
    · next e => rw [e] at hfree; walk_at "lx"
    · walk_at "lx"
/-- most ≥ any family far apart -/
theorem most_ge (hs ws : List Nat) (sym : ∀ a b, stepsD hs 10 a b = stepsD hs 10 b a) :
    ∀ (f : Nat) (F P : List Nat), F.length < f → P.Nodup → (∀ p ∈ P, p ∈ F) → (∀ a ∈ P, ∀ b ∈ P, a ≠ b → ws.getD a 0 + ws.getD b 0 < stepsD hs 10 a b) → P.length ≤ mostP hs ws f F
  | 0, F, _, h, _, _, _ => absurd h (Nat.not_lt_zero _)
  | f + 1, [], P, _, _, hs', _ => by
    cases P with
    | nil => exact Nat.zero_le _
    | cons a r => exact absurd (hs' a (.head _)) (by simp)
  | f + 1, p :: r, P, hf, hn, hsub, hfar => by
    rw [List.length_cons] at hf
    rw [mostP]
    by_cases hp : p ∈ P
    · have hfree := most_ge hs ws sym f (freeP hs ws p r) (P.erase p) (Nat.lt_of_le_of_lt (freeP_len hs ws p r) (by walk_at "lx")) (hn.erase p) (fun q hq => by
        obtain ⟨q1, q2⟩ := (List.Nodup.mem_erase_iff hn).mp hq
        refine List.mem_filter.mpr ⟨(List.mem_cons.mp (hsub q q2)).resolve_left q1, decide_eq_true ?_⟩
        exact hfar p hp q q2 (Ne.symm q1)) (fun a ha b hb => hfar a (List.mem_of_mem_erase ha) b (List.mem_of_mem_erase hb))
      rw [List.length_erase_of_mem hp] at hfree
      have hpos := List.length_pos_of_mem hp
      split
      · next e => rw [e] at hfree; walk_at "lx"
      · walk_at "lx"
    · have hr := most_ge hs ws sym f r P (by walk_at "lx") hn (fun q hq => (List.mem_cons.mp (hsub q hq)).resolve_left fun e => hp (e ▸ hq)) hfar
      split <;> walk_at "lx"
/-- lamps and places far apart, as many of the ones as of the others -/
theorem both (hs ws : List Nat) (sym : ∀ a b, stepsD hs 10 a b = stepsD hs 10 b a)
    (anc : ∀ p k, p < 6 → k ≤ stepsD hs 10 p 0 → ∃ t, t < 6 ∧ stepsD hs 10 p t = k ∧ stepsD hs 10 p 0 = k + stepsD hs 10 t 0 ∧ ∀ q, q < 6 → stepsD hs 10 q 0 = stepsD hs 10 q t + stepsD hs 10 t 0 ∨ stepsD hs 10 p q = k + stepsD hs 10 t q) :
    ∀ (n : Nat) (F : List Nat), F.length ≤ n → (∀ p ∈ F, p < 6) → ∃ L P : List Nat, L.length = P.length ∧ P.Nodup ∧ (∀ p ∈ P, p ∈ F) ∧ (∀ a ∈ P, ∀ b ∈ P, a ≠ b → ws.getD a 0 + ws.getD b 0 < stepsD hs 10 a b) ∧ ∀ p ∈ F, ∃ x ∈ L, x < 6 ∧ stepsD hs 10 p x ≤ ws.getD p 0
  | _, [], _, _ => ⟨[], [], rfl, .nil, (fun _ h => nomatch h), (fun _ h => nomatch h), fun _ h => nomatch h⟩
  | 0, p :: r, h, _ => by rw [List.length_cons] at h; walk_at "lx"
  | n + 1, p0 :: r0, hl, h6 => by
    -- the place whose top is deepest
    have deep : ∀ (F : List Nat) (q : Nat), ∃ p ∈ q :: F, ∀ q' ∈ q :: F, stepsD hs 10 q' 0 - ws.getD q' 0 ≤ stepsD hs 10 p 0 - ws.getD p 0 := by
      intro F
      induction F with
      | nil => intro q; exact ⟨q, .head _, fun q' hq' => by rw [List.mem_singleton.mp hq']; exact Nat.le_refl _⟩
      | cons a F ih =>
        intro q
        obtain ⟨p, hp, hmax⟩ := ih a
        by_cases hc : stepsD hs 10 q 0 - ws.getD q 0 ≤ stepsD hs 10 p 0 - ws.getD p 0
        · refine ⟨p, .tail _ hp, fun q' hq' => ?_⟩
          rcases List.mem_cons.mp hq' with rfl | hq'
          · exact hc
          · exact hmax q' hq'
        · refine ⟨q, .head _, fun q' hq' => ?_⟩
          rcases List.mem_cons.mp hq' with rfl | hq'
          · exact Nat.le_refl _
          · have := hmax q' hq'
            walk_at "lx"
    obtain ⟨p, hp, hmax⟩ := deep r0 p0
    generalize hF : p0 :: r0 = F at hl h6 hp hmax ⊢
    have hp6 := h6 p hp
    have hself : ∀ a, stepsD hs 10 a a = 0 := fun a => by rw [stepsD, if_pos rfl]
    obtain ⟨t, ht6, ht1, ht2, ht3⟩ := anc p (min (ws.getD p 0) (stepsD hs 10 p 0)) hp6 (Nat.min_le_right _ _)
    have hlen : (F.filter fun q => decide (ws.getD p 0 + ws.getD q 0 < stepsD hs 10 p q)).length < F.length := by
      rcases Nat.lt_or_ge (F.filter fun q => decide (ws.getD p 0 + ws.getD q 0 < stepsD hs 10 p q)).length F.length with h | h
      · exact h
      · have := List.length_filter_eq_length_iff.mp (Nat.le_antisymm (List.length_filter_le _ _) h) p hp
        have := of_decide_eq_true this
        rw [hself] at this
        walk_at "lx"
    obtain ⟨L, P, hLP, hn, hsub, hfar, hhit⟩ := both hs ws sym anc n (F.filter fun q => decide (ws.getD p 0 + ws.getD q 0 < stepsD hs 10 p q)) (by walk_at "lx") (fun q hq => h6 q (List.mem_filter.mp hq).1)
    have hfp : ∀ q ∈ P, ws.getD p 0 + ws.getD q 0 < stepsD hs 10 p q := fun q hq => of_decide_eq_true (List.mem_filter.mp (hsub q hq)).2
    refine ⟨t :: L, p :: P, by rw [List.length_cons, List.length_cons, hLP], ?_, ?_, ?_, ?_⟩
    · refine List.nodup_cons.mpr ⟨fun hpP => ?_, hn⟩
      have := hfp p hpP
      rw [hself] at this
      walk_at "lx"
    · intro q hq
      rcases List.mem_cons.mp hq with rfl | hq
      · exact hp
      · exact (List.mem_filter.mp (hsub q hq)).1
    · intro a ha b hb hab
      rcases List.mem_cons.mp ha with ea | ha'
      · rcases List.mem_cons.mp hb with eb | hb'
        · exact absurd (ea.trans eb.symm) hab
        · rw [ea]; exact hfp b hb'
      · rcases List.mem_cons.mp hb with eb | hb'
        · have := hfp a ha'
          rw [eb, sym a p]
          walk_at "lx"
        · exact hfar a ha' b hb' hab
    · intro q hq
      by_cases hc : ws.getD p 0 + ws.getD q 0 < stepsD hs 10 p q
      · obtain ⟨x, hx, h⟩ := hhit q (List.mem_filter.mpr ⟨hq, decide_eq_true hc⟩)
        exact ⟨x, .tail _ hx, h⟩
      · refine ⟨t, .head _, ht6, ?_⟩
        have hq6 := h6 q hq
        have hm := hmax q hq
        have h3 := ht3 q hq6
        rw [sym t q] at h3
        have ht0 : stepsD hs 10 t 0 = 0 → t = 0 := fun h => by
          rw [stepsD] at h
          split at h
          · assumption
          · walk_at "lx"
        by_cases hz : stepsD hs 10 t 0 = 0
        · rw [ht0 hz] at h3 ht2 ⊢
          walk_at "lx"
        · rcases h3 with h3 | h3 <;> walk_at "lx"
end
section
set_option maxHeartbeats 400000
noncomputable def vB (c : Bool) (q : Nat) : Nat := if c then 2 ^ q else 0
noncomputable def rowE (p : Nat) (m : Nat → Bool) : Nat := ([0, 1, 2, 3, 4, 5].filter (· != p)).foldl (fun a q => a + vB (m q) q) (2 ^ p)
noncomputable def stepA (M : Nat → Nat → Bool) (l : Nat) (acc : List Nat) (s : Nat) : List Nat :=
  (acc.set l (acc.getD l 0 + vB (M l s) s)).set s ((acc.set l (acc.getD l 0 + vB (M l s) s)).getD s 0 + vB (M s l) l)
theorem set_same {acc : List Nat} {l : Nat} (h : l < acc.length) : acc.set l (acc.getD l 0 + 0) = acc := by
  rw [Nat.add_zero, List.getD_eq_getElem?_getD, List.getElem?_eq_getElem h]
  exact List.set_getElem_self h
theorem putIf_add {c : Bool} {acc : List Nat} {l s : Nat} (h : l < acc.length) : putIf c acc l s = acc.set l (acc.getD l 0 + vB c s) := by
  unfold putIf vB
  cases c with
  | true => rfl
  | false => exact (set_same h).symm
theorem foldl_same {f g : List Nat → Nat → List Nat} : ∀ (l acc : List Nat), acc.length = 6 → (∀ acc j, acc.length = 6 → j ∈ l → f acc j = g acc j ∧ (f acc j).length = 6) → l.foldl f acc = l.foldl g acc ∧ (l.foldl f acc).length = 6
  | [], acc, h, _ => ⟨rfl, h⟩
  | j :: l, acc, h, hs => by
    obtain ⟨e, hl⟩ := hs acc j h (.head _)
    rw [List.foldl_cons, List.foldl_cons, ← e]
    exact foldl_same l _ hl fun acc j h hj => hs acc j h (.tail _ hj)
noncomputable def servA (M : Nat → Nat → Bool) : List Nat := (List.range' 0 6).foldl (fun acc l => (List.range' 0 l).foldl (stepA M l) acc) ((List.range' 0 6).map (2 ^ ·))
section
variable {M : Nat → Nat → Bool} {a0 a1 a2 a3 a4 a5 : Nat}
theorem st10 : stepA M 1 [a0, a1, a2, a3, a4, a5] 0 = [a0 + vB (M 0 1) 1, a1 + vB (M 1 0) 0, a2, a3, a4, a5] := rfl
theorem st20 : stepA M 2 [a0, a1, a2, a3, a4, a5] 0 = [a0 + vB (M 0 2) 2, a1, a2 + vB (M 2 0) 0, a3, a4, a5] := rfl
theorem st21 : stepA M 2 [a0, a1, a2, a3, a4, a5] 1 = [a0, a1 + vB (M 1 2) 2, a2 + vB (M 2 1) 1, a3, a4, a5] := rfl
theorem st30 : stepA M 3 [a0, a1, a2, a3, a4, a5] 0 = [a0 + vB (M 0 3) 3, a1, a2, a3 + vB (M 3 0) 0, a4, a5] := rfl
theorem st31 : stepA M 3 [a0, a1, a2, a3, a4, a5] 1 = [a0, a1 + vB (M 1 3) 3, a2, a3 + vB (M 3 1) 1, a4, a5] := rfl
theorem st32 : stepA M 3 [a0, a1, a2, a3, a4, a5] 2 = [a0, a1, a2 + vB (M 2 3) 3, a3 + vB (M 3 2) 2, a4, a5] := rfl
theorem st40 : stepA M 4 [a0, a1, a2, a3, a4, a5] 0 = [a0 + vB (M 0 4) 4, a1, a2, a3, a4 + vB (M 4 0) 0, a5] := rfl
theorem st41 : stepA M 4 [a0, a1, a2, a3, a4, a5] 1 = [a0, a1 + vB (M 1 4) 4, a2, a3, a4 + vB (M 4 1) 1, a5] := rfl
theorem st42 : stepA M 4 [a0, a1, a2, a3, a4, a5] 2 = [a0, a1, a2 + vB (M 2 4) 4, a3, a4 + vB (M 4 2) 2, a5] := rfl
theorem st43 : stepA M 4 [a0, a1, a2, a3, a4, a5] 3 = [a0, a1, a2, a3 + vB (M 3 4) 4, a4 + vB (M 4 3) 3, a5] := rfl
theorem st50 : stepA M 5 [a0, a1, a2, a3, a4, a5] 0 = [a0 + vB (M 0 5) 5, a1, a2, a3, a4, a5 + vB (M 5 0) 0] := rfl
theorem st51 : stepA M 5 [a0, a1, a2, a3, a4, a5] 1 = [a0, a1 + vB (M 1 5) 5, a2, a3, a4, a5 + vB (M 5 1) 1] := rfl
theorem st52 : stepA M 5 [a0, a1, a2, a3, a4, a5] 2 = [a0, a1, a2 + vB (M 2 5) 5, a3, a4, a5 + vB (M 5 2) 2] := rfl
theorem st53 : stepA M 5 [a0, a1, a2, a3, a4, a5] 3 = [a0, a1, a2, a3 + vB (M 3 5) 5, a4, a5 + vB (M 5 3) 3] := rfl
theorem st54 : stepA M 5 [a0, a1, a2, a3, a4, a5] 4 = [a0, a1, a2, a3, a4 + vB (M 4 5) 5, a5 + vB (M 5 4) 4] := rfl
theorem row0 {m : Nat → Bool} : rowE 0 m = 2 ^ 0 + vB (m 1) 1 + vB (m 2) 2 + vB (m 3) 3 + vB (m 4) 4 + vB (m 5) 5 := rfl
theorem row1 {m : Nat → Bool} : rowE 1 m = 2 ^ 1 + vB (m 0) 0 + vB (m 2) 2 + vB (m 3) 3 + vB (m 4) 4 + vB (m 5) 5 := rfl
theorem row2 {m : Nat → Bool} : rowE 2 m = 2 ^ 2 + vB (m 0) 0 + vB (m 1) 1 + vB (m 3) 3 + vB (m 4) 4 + vB (m 5) 5 := rfl
theorem row3 {m : Nat → Bool} : rowE 3 m = 2 ^ 3 + vB (m 0) 0 + vB (m 1) 1 + vB (m 2) 2 + vB (m 4) 4 + vB (m 5) 5 := rfl
theorem row4 {m : Nat → Bool} : rowE 4 m = 2 ^ 4 + vB (m 0) 0 + vB (m 1) 1 + vB (m 2) 2 + vB (m 3) 3 + vB (m 5) 5 := rfl
theorem row5 {m : Nat → Bool} : rowE 5 m = 2 ^ 5 + vB (m 0) 0 + vB (m 1) 1 + vB (m 2) 2 + vB (m 3) 3 + vB (m 4) 4 := rfl
end
theorem fold_nest (f : Nat → List Nat → Nat → List Nat) (a : List Nat) : (List.range' 0 6).foldl (fun acc l => (List.range' 0 l).foldl (f l) acc) a = (f 5 (f 5 (f 5 (f 5 (f 5 (f 4 (f 4 (f 4 (f 4 (f 3 (f 3 (f 3 (f 2 (f 2 (f 1 a 0) 0) 1) 0) 1) 2) 0) 1) 2) 3) 0) 1) 2) 3) 4) := rfl
theorem servA_rows (M : Nat → Nat → Bool) : servA M = [rowE 0 (M 0), rowE 1 (M 1), rowE 2 (M 2), rowE 3 (M 3), rowE 4 (M 4), rowE 5 (M 5)] := by
  unfold servA
  rw [fold_nest, show (List.range' 0 6).map (2 ^ ·) = [2 ^ 0, 2 ^ 1, 2 ^ 2, 2 ^ 3, 2 ^ 4, 2 ^ 5] from rfl, st10, st20, st21, st30, st31, st32, st40, st41, st42, st43, st50, st51, st52, st53, st54, row0, row1, row2, row3, row4, row5]
theorem serv_eq (ws : List (List Nat)) (wi : List Nat) (M : Nat → Nat → Bool) (h : ∀ l s, l < 6 → s < l → decide (apartP ws wi l s ≤ wi.getD l 0) = M l s ∧ decide (apartP ws wi l s ≤ wi.getD s 0) = M s l) : servP ws wi = servA M := by
  unfold servP servA
  refine (foldl_same _ _ rfl fun acc l ha hl => ?_).1
  have hl6 : l < 6 := by simpa using List.mem_range'.mp hl
  refine foldl_same _ _ ha fun acc s ha hs => ?_
  have hsl : s < l := by simpa using List.mem_range'.mp hs
  obtain ⟨h1, h2⟩ := h l s hl6 hsl
  refine ⟨?_, servStep_len.trans ha⟩
  unfold servStep stepA
  rw [h1, h2, putIf_add (by rw [putIf_len]; walk_at "lx"), putIf_add (by walk_at "lx")]
theorem row_bits : ∀ p : _root_.Fin 6, ∀ c0 c1 c2 c3 c4 c5 : Bool, (rowE p.val (fun q => [c0, c1, c2, c3, c4, c5].getD q false) < 64 ∧ rowE p.val (fun q => [c0, c1, c2, c3, c4, c5].getD q false) ≠ 0) ∧ ∀ x : _root_.Fin 6, bitP (rowE p.val (fun q => [c0, c1, c2, c3, c4, c5].getD q false)) x.val = (x.val == p.val || [c0, c1, c2, c3, c4, c5].getD x.val false) := by decide +kernel
theorem rowE_six (p : Nat) (m : Nat → Bool) (hp : p < 6) : rowE p m = rowE p (fun q => [m 0, m 1, m 2, m 3, m 4, m 5].getD q false) := by
  have : p = 0 ∨ p = 1 ∨ p = 2 ∨ p = 3 ∨ p = 4 ∨ p = 5 := by walk_at "lx"
  rcases this with rfl | rfl | rfl | rfl | rfl | rfl <;> rfl
theorem rowE_bit (p x : Nat) (m : Nat → Bool) (hp : p < 6) (hx : x < 6) : bitP (rowE p m) x = (x == p || m x) := by
  rw [rowE_six p m hp]
  have h := (row_bits ⟨p, hp⟩ (m 0) (m 1) (m 2) (m 3) (m 4) (m 5)).2 ⟨x, hx⟩
  rw [h]
  have : x = 0 ∨ x = 1 ∨ x = 2 ∨ x = 3 ∨ x = 4 ∨ x = 5 := by walk_at "lx"
  rcases this with rfl | rfl | rfl | rfl | rfl | rfl <;> rfl
theorem rowE_lt (p : Nat) (m : Nat → Bool) (hp : p < 6) : rowE p m < 64 ∧ rowE p m ≠ 0 := by
  rw [rowE_six p m hp]
  exact (row_bits ⟨p, hp⟩ (m 0) (m 1) (m 2) (m 3) (m 4) (m 5)).1
end
section
set_option maxHeartbeats 1000000
theorem steps_sym (T : List Nat) : ∀ (f a b : Nat), stepsD T f a b = stepsD T f b a
  | 0, _, _ => rfl
  | f + 1, a, b => by
    rw [stepsD, stepsD, Nat.min_comm, Nat.max_comm]
    by_cases e : a = b
    · rw [if_pos e, if_pos e.symm]
    · rw [if_neg e, if_neg (Ne.symm e)]
theorem hosts_shape (ds : List Nat) : hostsL ds = [0, 0, hostP ds 2, hostP ds 3, hostP ds 4, hostP ds 5] := by
  have h1 : hostP ds 1 = 0 := by unfold hostP; rw [if_neg (by decide)]; exact Nat.mod_one _
  show [hostP ds 0, hostP ds 1, hostP ds 2, hostP ds 3, hostP ds 4, hostP ds 5] = _
  rw [h1]; rfl
theorem hosts_get (ds : List Nat) {j : Nat} (h : j < 6) : (hostsL ds).getD j 0 = hostP ds j := by
  unfold hostsL
  rw [List.getD_eq_getElem?_getD, List.getElem?_map, List.getElem?_range h]; rfl
theorem road_T (ds : List Nat) : ∀ (f j : Nat), j < 6 → roadN ds f j = roadT (hostsL ds) f j
  | 0, _, _ => rfl
  | f + 1, j, h => by
    rw [roadN, roadT, hosts_get ds h]
    by_cases h0 : j = 0
    · rw [if_pos h0, if_pos h0]
    · have := hostP_lt (ds := ds) (p := j) (by walk_at "lx")
      rw [if_neg h0, if_neg h0, road_T ds f (hostP ds j) (by walk_at "lx")]
theorem word_T (ds : List Nat) (j : Nat) (h : j < 6) : wordN ds j = wordT (hostsL ds) j := by
  unfold wordN wordT
  rw [road_T ds 5 j h]
  refine List.map_congr_left fun i _ => ?_
  by_cases hc : i ∈ roadT (hostsL ds) 5 j
  · rw [if_pos hc, if_pos (List.contains_iff_mem.mpr hc)]
  · rw [if_neg hc, if_neg (fun e => hc (List.contains_iff_mem.mp e))]
theorem words_get (ds : List Nat) {j : Nat} (h : j < 6) : (wordsP ds).getD j [] = wordT (hostsL ds) j := by
  rw [← word_T ds j h]
  unfold wordsP
  rw [List.getD_eq_getElem?_getD, List.getElem?_map, List.getElem?_range h]; rfl
theorem wish_le (ds : List Nat) (t k : Nat) : (wishesL ds t).getD k 0 ≤ 3 := by
  rcases Nat.lt_or_ge k 6 with h6 | h6
  · have e0 : (wishesL ds t).getD k 0 = wishP ds t k := by
      unfold wishesL
      rw [List.getD_eq_getElem?_getD, List.getElem?_map, List.getElem?_range h6]; rfl
    rw [e0]; unfold wishP
    split
    · have := Nat.mod_lt (t / 5) (show 4 > 0 by decide); walk_at "lx"
    · have := Nat.mod_lt (ds.getD (k - 1) 0 / (2 * k)) (show 4 > 0 by decide); walk_at "lx"
  · rw [List.getD_eq_getElem?_getD, List.getElem?_eq_none (by unfold wishesL; rw [List.length_map, List.length_range]; exact h6)]; exact Nat.zero_le _
theorem hosts_ok (ds : List Nat) : (∀ l, l < 6 → levRow (hostsL ds) l = true) ∧ triAll (hostsL ds) = true ∧ ancAll (hostsL ds) = true := by
  have h2 := hostP_lt (ds := ds) (p := 2) (by decide)
  have h3 := hostP_lt (ds := ds) (p := 3) (by decide)
  have h4 := hostP_lt (ds := ds) (p := 4) (by decide)
  have h5 := hostP_lt (ds := ds) (p := 5) (by decide)
  rw [hosts_shape]
  have a := lev_rows ⟨_, h2⟩ ⟨_, h3⟩ ⟨_, h4⟩ ⟨_, h5⟩
  have b := tri5 ⟨_, h2⟩ ⟨_, h3⟩ ⟨_, h4⟩ ⟨_, h5⟩
  rw [Bool.and_eq_true] at b
  exact ⟨a, b.1, b.2⟩
theorem lev_le {T : List Nat} (h : ∀ l, l < 6 → levRow T l = true) {l s m k : Nat} (hl : l < 6) (hs : s < l) (hm : m < 4) (hk : k ≤ m) : levP (wordT T l) (wordT T s) m ≤ k ↔ stepsD T 10 l s ≤ k := by
  have h2 := List.all_eq_true.mp (h l hl) s (List.mem_range.mpr hs)
  have h3 := eq_of_beq (List.all_eq_true.mp h2 m (List.mem_range.mpr hm))
  walk_at "lx"
theorem tri_le {T : List Nat} (h : triAll T = true) (a b c : Nat) (ha : a < 6) (hb : b < 6) (hc : c < 6) : stepsD T 10 a c ≤ stepsD T 10 a b + stepsD T 10 b c := by
  have key : ∀ a c, a < 6 → c < a → stepsD T 10 a c ≤ stepsD T 10 a b + stepsD T 10 b c := fun a c ha hc => by
    have h1 := List.all_eq_true.mp h a (List.mem_range.mpr ha)
    have h2 := List.all_eq_true.mp h1 c (List.mem_range.mpr hc)
    exact Nat.le_of_ble_eq_true (List.all_eq_true.mp h2 b (List.mem_range.mpr hb))
  rcases Nat.lt_trichotomy a c with h | h | h
  · have := key c a hc h
    rw [steps_sym T 10 c a, steps_sym T 10 c b, steps_sym T 10 b a] at this
    walk_at "lx"
  · rw [h, stepsD, if_pos rfl]; exact Nat.zero_le _
  · exact key a c ha h
theorem anc_ex {T : List Nat} (h : ancAll T = true) (p k : Nat) (hp : p < 6) (hk : k ≤ stepsD T 10 p 0) : ∃ t, t < 6 ∧ stepsD T 10 p t = k ∧ stepsD T 10 p 0 = k + stepsD T 10 t 0 ∧ ∀ q, q < 6 → stepsD T 10 q 0 = stepsD T 10 q t + stepsD T 10 t 0 ∨ stepsD T 10 p q = k + stepsD T 10 t q := by
  have h1 := List.all_eq_true.mp h p (List.mem_range.mpr hp)
  have h2 := List.all_eq_true.mp h1 k (List.mem_range.mpr (Nat.lt_succ_of_le hk))
  obtain ⟨t, _, h3⟩ := List.any_eq_true.mp h2
  rw [Bool.and_eq_true, Bool.and_eq_true, Bool.and_eq_true] at h3
  obtain ⟨⟨⟨a, b⟩, c⟩, d⟩ := h3
  refine ⟨t, Nat.lt_succ_of_le (Nat.le_of_ble_eq_true b), eq_of_beq a, eq_of_beq c, fun q hq => ?_⟩
  have e := List.all_eq_true.mp d q (List.mem_range.mpr hq)
  rw [Bool.or_eq_true] at e
  exact e.imp eq_of_beq eq_of_beq
noncomputable def ballP (T wi : List Nat) (p q : Nat) : Bool := decide (stepsD T 10 p q ≤ wi.getD p 0)
theorem served_rows (ds : List Nat) (t : Nat) : servP (wordsP ds) (wishesL ds t) = (List.range 6).map fun p => rowE p (ballP (hostsL ds) (wishesL ds t) p) := by
  rw [serv_eq (wordsP ds) (wishesL ds t) (ballP (hostsL ds) (wishesL ds t)) fun l s hl hs => ?_, servA_rows]; rfl
  have hw1 := wish_le ds t l
  have hw2 := wish_le ds t s
  have key : ∀ k, k ≤ max ((wishesL ds t).getD l 0) ((wishesL ds t).getD s 0) → (apartP (wordsP ds) (wishesL ds t) l s ≤ k ↔ stepsD (hostsL ds) 10 l s ≤ k) := fun k hk => by
    unfold apartP
    rw [words_get ds hl, words_get ds (by walk_at "lx")]
    exact lev_le (hosts_ok ds).1 hl hs (by walk_at "lx") hk
  unfold ballP
  constructor
  · exact decide_eq_decide.mpr (key _ (Nat.le_max_left _ _))
  · rw [steps_sym _ 10 s l]; exact decide_eq_decide.mpr (key _ (Nat.le_max_right _ _))
theorem ball_bit (T wi : List Nat) {p x : Nat} (hp : p < 6) (hx : x < 6) : bitP (rowE p (ballP T wi p)) x = true ↔ stepsD T 10 p x ≤ wi.getD p 0 := by
  rw [rowE_bit p x _ hp hx]
  unfold ballP
  rw [Bool.or_eq_true, beq_iff_eq, decide_eq_true_iff]
  constructor
  · rintro (rfl | h)
    · rw [stepsD, if_pos rfl]; exact Nat.zero_le _
    · exact h
  · exact .inr
theorem fin_eq (ds : List Nat) (t : Nat) : fewP 7 (servP (wordsP ds) (wishesL ds t)) = mostP (hostsL ds) (wishesL ds t) 7 [0, 1, 2, 3, 4, 5] := by
  rw [served_rows]
  obtain ⟨_, h2, h3⟩ := hosts_ok ds
  generalize hostsL ds = T at h2 h3 ⊢
  generalize wishesL ds t = wi
  have sym := steps_sym T 10
  have tri := tri_le h2
  have six : ∀ p ∈ [0, 1, 2, 3, 4, 5], p < 6 := by decide
  obtain ⟨L, P, hLP, hn, hsub, hfar, hhit⟩ := both T wi sym (anc_ex h3) 6 [0, 1, 2, 3, 4, 5] (by decide) six
  have hP6 : ∀ p ∈ P, p < 6 := fun p hp => six p (hsub p hp)
  have a1 := most_le T wi tri sym 7 [0, 1, 2, 3, 4, 5] L (by decide) six hhit
  have a2 := most_ge T wi sym 7 [0, 1, 2, 3, 4, 5] P (by decide) hn hsub hfar
  have a3 := few_le 7 ((List.range 6).map fun p => rowE p (ballP T wi p)) L (by simp) (fun m hm => by
    obtain ⟨p, hp, rfl⟩ := List.mem_map.mp hm
    have hp6 := List.mem_range.mp hp
    obtain ⟨x, hx, hx6, hd⟩ := hhit p (by
      have : p = 0 ∨ p = 1 ∨ p = 2 ∨ p = 3 ∨ p = 4 ∨ p = 5 := by walk_at "lx"
      simp only [List.mem_cons, List.not_mem_nil, or_false]; exact this)
    exact ⟨x, hx, hx6, (ball_bit T wi hp6 hx6).mpr hd⟩)
  have disj : ∀ a ∈ P, ∀ b ∈ P, a ≠ b → ∀ x, x < 6 → ¬(bitP (rowE a (ballP T wi a)) x = true ∧ bitP (rowE b (ballP T wi b)) x = true) := fun a ha b hb hab x hx ⟨h1, h2⟩ => by
    rw [ball_bit T wi (hP6 a ha) hx] at h1
    rw [ball_bit T wi (hP6 b hb) hx] at h2
    have := tri a x b (hP6 a ha) hx (hP6 b hb)
    rw [sym x b] at this
    have := hfar a ha b hb hab
    walk_at "lx"
  have self : ∀ a, a < 6 → bitP (rowE a (ballP T wi a)) a = true := fun a ha => (ball_bit T wi ha ha).mpr (by rw [stepsD, if_pos rfl]; exact Nat.zero_le _)
  have a4 := few_ge 7 ((List.range 6).map fun p => rowE p (ballP T wi p)) (P.map fun p => rowE p (ballP T wi p)) (by simp) (by
    rw [List.Nodup, List.pairwise_map]
    refine List.Pairwise.imp_of_mem (fun {a b} ha hb hab e => ?_) hn
    have h1 := self a (hP6 a ha)
    exact disj a ha b hb hab a (hP6 a ha) ⟨h1, e ▸ h1⟩) (fun m hm => by
    obtain ⟨p, hp, rfl⟩ := List.mem_map.mp hm
    exact List.mem_map.mpr ⟨p, List.mem_range.mpr (hP6 p hp), rfl⟩) (fun m hm m' hm' hne x hx => by
    obtain ⟨a, ha, rfl⟩ := List.mem_map.mp hm
    obtain ⟨b, hb, rfl⟩ := List.mem_map.mp hm'
    exact disj a ha b hb (fun e => hne (by rw [e])) x hx) (fun m hm => by
    obtain ⟨p, hp, rfl⟩ := List.mem_map.mp hm
    exact ⟨p, List.mem_range.mp hp, self p (List.mem_range.mp hp)⟩)
  rw [List.length_map] at a4
  walk_at "lx"
theorem words_small (ds : List Nat) : ∀ l ∈ wordsP ds, l.length ≤ 40 ∧ ∀ c ∈ l, c < 128 := by
  intro l hl
  obtain ⟨j, _, rfl⟩ := List.mem_map.mp hl
  unfold wordN
  refine ⟨by simp, fun c hc => ?_⟩
  obtain ⟨i, hi, rfl⟩ := List.mem_map.mp hc
  have := List.mem_range.mp hi
  split <;> walk_at "lx"
theorem served_small (ds : List Nat) (t : Nat) : (servP (wordsP ds) (wishesL ds t)).length = 6 ∧ ∀ y ∈ servP (wordsP ds) (wishesL ds t), y < 64 ∧ y ≠ 0 := by
  rw [served_rows]
  refine ⟨by simp, fun y hy => ?_⟩
  obtain ⟨p, hp, rfl⟩ := List.mem_map.mp hy
  exact rowE_lt p _ (List.mem_range.mp hp)
theorem law_all2 (w : World) (mean : ExcName → Option Value) (mg mb : PySem.Str → Option Value) (ns : List Int) (hn : ns.length ≤ 63) : LawRun (W2 w mean mg mb) 9 133 [(PySem.Str.ofString "script", Slot.val (.lst (ns.map D.int)))] (.bool true) := by
  obtain ⟨h1, h2, h3, ⟨nm, h4⟩, h5, h6⟩ := page_facts (drawsP ns) (handP (drawsP ns).sum) (Nat.mod_lt _ (by decide))
  obtain ⟨s1, s2⟩ := served_small (drawsP ns) (drawsP ns).sum
  exact law_run w mean mg mb ns hn nm h1 h2 h3 h4 h5 h6 (words_small _) s1 s2 (fin_eq _ _)
end
section
set_option maxHeartbeats 8000000
noncomputable def scopeAt (K : Frag) (a : Addr) : Option (PySem.Str × Scope × List Stmt) := match K.lookup a with
  | some o => (match o.data with
    | .func fd => (match fd.body with
      | .stmts b => some (fd.qualname, fd.scope, b)
      | _ => none)
    | _ => none)
  | none => none
theorem VHs.ofInts {fz : GMap} : ∀ {vs : List Value} {ns : List Int}, IntsAre vs ns → VHs fz vs (ns.map D.int)
  | _, _, .nil => .nil
  | _, _, .cons n t h => .cons (.int n t) (VHs.ofInts h)
/-- from the head's last state to the walk -/
theorem law_join {W : WP} {s₁ : Shared} {h₁ : Heap} {tk₁ : Nat} {aL fa : Addr} {cd : Value} {vs : List Value} {ns : List Int} {m : PySem.Str → Option Value} {co : Obj} {qual : PySem.Str} {scope : Scope} {body : List Stmt} {k : Nat} {y : PySem.Str}
    {Q : Flow → Shared → Prop} {E : Value → Shared → Prop} (hX : ∀ A L f' cd', FOK k A (envOfC qual scope L f' cd') → X W A (envOfC qual scope L f' cd') [(PySem.Str.ofString "script", Slot.val (.lst (ns.map D.int)))] body (.ret (.bool true)))
    (hX0 : ∀ b o, W.X.lookup b = some o → s₁.heap.get? b = some o) (KX : W.K.In s₁.heap) (T : Top W.p W.loose W.mean W.mg W.mb s₁.heap) (hL : s₁.heap.IsList aL vs.toArray) (hI : IntsAre vs ns) (F : Fr s₁.heap s₁.heap.objs.size h₁ m) (hco : h₁.get? (s₁.heap.objs.size + 1) = some co) (hcv : ∃ v, co.data = Data.cell v)
    (hm : m (PySem.Str.ofString "script") = some (.ref aL)) (hkind : scope.kind = .function) (hcells : cellsFrom (s₁.heap.objs.size + 1) scope.names [] = [(y, s₁.heap.objs.size + 1)]) (hsc : ∀ L f' cd', (envOfC qual scope L f' cd').kindOf (PySem.Str.ofString "script") = some .local)
    (hdp : callerA.depth + 1 + k < recursionLimit) (hun : callerA.units + 3 + 16 * k < cLine)
    (hQ : ∀ h tk, (∀ b o, s₁.heap.get? b = some o → h.get? b = some o) → Q (.ret (.bool true)) { s₁ with heap := h, toks := tk }) :
    wpAny W.M (callerA.deeper (envOfC qual scope s₁.heap.objs.size fa cd)) (execs body (envOfC qual scope s₁.heap.objs.size fa cd)) Q E { s₁ with heap := h₁, toks := tk₁ } := by
  obtain ⟨oL, hoL, hcls, nL, hdL⟩ := hL
  have hfr : s₁.heap.get? s₁.heap.objs.size = none := get_fresh _
  have hfr1 : s₁.heap.get? (s₁.heap.objs.size + 1) = none := by
    cases q : s₁.heap.get? (s₁.heap.objs.size + 1) with
    | none => rfl
    | some o => exact absurd (Heap.lt_size q) (by exact Nat.not_lt.mpr (Nat.le_succ _))
  have haL : aL < s₁.heap.objs.size := Heap.lt_size hoL
  have FK : FOK k (callerA.deeper (envOfC qual scope s₁.heap.objs.size fa cd)) (envOfC qual scope s₁.heap.objs.size fa cd) :=
    ⟨rfl, hkind, rfl, rfl, by show callerA.depth + 1 + k < _; exact hdp, by show callerA.units + 3 + 16 * k < _; exact hun⟩
  have cl : ∀ x c, (envOfC qual scope s₁.heap.objs.size fa cd).cells.lookup x = some c → x = y ∧ c = s₁.heap.objs.size + 1 := by
    intro x c h
    have h' : (cellsFrom (s₁.heap.objs.size + 1) scope.names []).lookup x = some c := h
    rw [hcells, List.lookup_cons] at h'
    split at h'
    · next hx => rw [beq_iff_eq] at hx; cases h'; exact ⟨hx, rfl⟩
    · cases h'
  refine hX _ _ _ _ FK (fun b => s₁.heap.get? b) (fun b => if b = aL then some oL else none) (fun b => if b = aL then some oL else none) (fun _ => 0) m _ Q E ?_ ?_
  · refine { wf := ⟨⟨s₁.heap, KX, T, fun _ _ e => e⟩, hX0⟩, kept := F.keep, fzIn := ?_, fz0 := fun _ _ e => e, fzNew := fun _ _ e => .inl e, ns := F.ns, nsK := hfr, nsF := ?_, cells := ?_, cinj := ?_, cfree := ?_, vars := ?_, own := ?_, inj := ?_ }
    · intro b o e
      by_cases hb : b = aL
      · rw [if_pos hb] at e; cases e; subst hb; exact F.keep _ _ hoL
      · rw [if_neg hb] at e; cases e
    · show (if s₁.heap.objs.size = aL then some oL else none) = none
      rw [if_neg (fun e => by have := haL; rw [← e] at this; exact absurd this (Nat.lt_irrefl _))]
    · intro x c h
      obtain ⟨_, rfl⟩ := cl x c h
      obtain ⟨v, hv⟩ := hcv
      exact ⟨v, co, hco, hv⟩
    · intro x z c hx hz
      exact (cl x c hx).1.trans (cl z c hz).1.symm
    · intro x c h _
      obtain ⟨_, rfl⟩ := cl x c h
      refine ⟨hfr1, ?_⟩
      show (if s₁.heap.objs.size + 1 = aL then some oL else none) = none
      rw [if_neg (fun e => by have := haL; rw [← e] at this; exact absurd this (Nat.not_lt.mpr (Nat.le_succ _)))]
    · intro x sl h
      have := List.mem_singleton.mp h
      cases this
      refine ⟨.ref aL, .inl ⟨hsc _ _ _, hm⟩, ?_⟩
      exact .lst (show (if aL = aL then some oL else none) = some oL by rw [if_pos rfl]) hcls hdL (VHs.ofInts hI)
    · intro x es h
      have := List.mem_singleton.mp h
      cases this
    · intro x z es es' h
      have := List.mem_singleton.mp h
      cases this
  · intro v fz h tk Fn hv
    cases hv
    exact hQ h tk Fn.kept
theorem law_fin2 {w : World} {mean : ExcName → Option Value} {mg mb : PySem.Str → Option Value} {s₁ : Shared} {h₁ : Heap} {tk₁ : Nat} {aL fa : Addr} {cd : Value} {vs : List Value} {ns : List Int} {m : PySem.Str → Option Value} {co : Obj} {qual : PySem.Str} {scope : Scope} {body : List Stmt} {y : PySem.Str}
    {Q : Flow → Shared → Prop} {E : Value → Shared → Prop} (KX : (heap2 w.params).In s₁.heap) (T : Top hd.view_304 (looseW hd.view_304 [PySem.Str.ofString "EXACT_TOKEN_TYPES"]) mean mg mb s₁.heap) (hL : s₁.heap.IsList aL vs.toArray) (hI : IntsAre vs ns) (hn : ¬ ((63 : Nat) : Int) < (ns.length : Int))
    (F : Fr s₁.heap s₁.heap.objs.size h₁ m) (hco : h₁.get? (s₁.heap.objs.size + 1) = some co) (hcv : ∃ v, co.data = Data.cell v)
    (hm : m (PySem.Str.ofString "script") = some (.ref aL)) (hsc : scopeAt (heap2 w.params) 133 = some (qual, scope, body)) (hkind : scope.kind = .function) (hcells : cellsFrom (s₁.heap.objs.size + 1) scope.names [] = [(y, s₁.heap.objs.size + 1)]) (hkd : ∀ L f' cd', (envOfC qual scope L f' cd').kindOf (PySem.Str.ofString "script") = some .local)
    (hQ : ∀ h tk, (∀ b o, s₁.heap.get? b = some o → h.get? b = some o) → Q (.ret (.bool true)) { s₁ with heap := h, toks := tk }) :
    wpAny (model pwS w) (callerA.deeper (envOfC qual scope s₁.heap.objs.size fa cd)) (execs body (envOfC qual scope s₁.heap.objs.size fa cd)) Q E { s₁ with heap := h₁, toks := tk₁ } := by
  obtain ⟨fc, od, osl, name, qual', params, body', scope', dV, kV, doc, pm, cdv, ct, an, hK, hX⟩ := law_all2 w mean mg mb ns (by omega)
  have h1 : scopeAt (heap2 w.params) 133 = some (qual', scope', body') := by
    unfold scopeAt
    rw [show List.lookup 133 (heap2 w.params) = _ from hK]
  rw [hsc] at h1
  cases h1
  exact law_join (W := W2 w mean mg mb) hX (fun _ _ e => nomatch e) KX T hL hI F hco hcv hm hkind hcells hkd (by decide) (by decide) hQ
theorem join2 : PySem.Challenge.rw_tp0050_02.Holds := by
  rw [rwE]
  refine hd ?_
  k_fill
  intro w s₀ s₁ mg mb G y fa o pm cd doc dV kV ho hdd hcd hD hmg hg args vals as L hpre hlay hrd hwl hlo
  have KX := heap2_in (InK.keeps w s₀.heap s₁.heap (X.z_facts (K := hd.heap_170) (fun _ => rfl) y).2.1 L.keeps)
  k_behind G ho hdd hcd hD hmg hpre hlay hrd hwl hlo cd
  rename Top _ _ _ _ _ _ => T
  rename IntsAre _ _ => hI
  rename Fr _ _ _ _ => F
  rename News _ _ _ _ => N0
  rename _ = Data.cell _ => hco
  rename Heap.IsList _ _ _ => hL
  rename ¬ _ => hn
  rename _ = #[] => hg
  refine law_fin2 KX T hL hI hn F (N0 _ (.head _)).1 ⟨_, hco⟩ rfl rfl rfl rfl (fun _ _ _ => rfl) fun h tk keep => ?_
  exact ⟨.inl ⟨_, .bool true, [], rfl, fun _ => rfl, .bool _, by wrow_post, fun _ => ⟨.nil, fun _ h => nomatch h⟩⟩, keep, rfl, hg⟩
end
end Mine
theorem PySem.Challenge.cw_tp0050_02_holds : PySem.Challenge.rw_tp0050_02.Holds := by
  exact Mine.join2
