import PyProof.Rows.All
import Wide.All
import OpenK.AllK
import Wide.FinOn
import PySem.Challenge.RW_tp0050_01
open PySem PySem.W PyProof.Rows PySem.Spec PySem.Calls
set_option Elab.async false
set_option linter.all false
set_option maxRecDepth 100000
set_option compiler.extract_closed false
set_option genSizeOf false
set_option genInjectivity false
namespace Mine
section
set_option maxHeartbeats 8000000
def cutS (i : Nat) : Stmt := (PySem.Challenge.pw_tp0050_01.main.body.drop i).headD (.Pass ⟨0, 0, 0, 0⟩)
abbrev pwS : Program := { PySem.Challenge.pw_tp0050_01 with main := { PySem.Challenge.pw_tp0050_01.main with body := [cutS 0, cutS 1, cutS 2, cutS 3, cutS 4, cutS 5, cutS 6, cutS 7, cutS 8, cutS 9, cutS 10, cutS 11, cutS 12, cutS 13, cutS 14, cutS 15, cutS 16, cutS 17, cutS 18, cutS 19, cutS 20, cutS 21, cutS 22, cutS 23, cutS 24, cutS 25, cutS 26, cutS 27, cutS 28, cutS 29, cutS 30, cutS 31, cutS 32, cutS 33, cutS 34, cutS 35, cutS 36, cutS 37, cutS 38, cutS 39, cutS 40, cutS 41, cutS 42, cutS 43, cutS 44, cutS 45, cutS 46, cutS 47, cutS 48, cutS 49, cutS 50, cutS 51, cutS 52, cutS 53, cutS 54, cutS 55, cutS 56, cutS 57, cutS 58, cutS 59, cutS 60, cutS 61, cutS 62, cutS 63, cutS 64, cutS 65, cutS 66, cutS 67, cutS 68, cutS 69, cutS 70, cutS 71, cutS 72, cutS 73, cutS 74, cutS 75] } }
abbrev rwS : OpenLaw := { PySem.Challenge.rw_tp0050_01 with prog := pwS }
theorem rwE : PySem.Challenge.rw_tp0050_01 = rwS := rfl
local macro_rules | `(tactic| k_head) => `(tactic| z_head)
open_top hd for rwS
end
local macro_rules | `(tactic| walk_at "lx") => `(tactic| first | assumption | exact Nat.le_of_ble_eq_true rfl | exact Nat.le_trans (by assumption) (Nat.le_of_ble_eq_true rfl) | exact Nat.lt_of_le_of_lt (by assumption) (Nat.le_of_ble_eq_true rfl) | omega)
section
noncomputable abbrev GMap := Addr → Option Obj

inductive D where
  | none
  | bool (b : Bool)
  | int (i : Int)
  | str (s : PySem.Str)
  | byt (b : Array UInt8)
  | tup (ds : List D)
  | lst (ds : List D)
  | fn (a : Addr)
  | rng (a b c : Int)

noncomputable def mTup (fz : GMap) (P : List Value → Prop) (v : Value) : Prop := ∃ a vs n, v = .ref a ∧ fz a = some { cls := .type "tuple", data := .seq (List.toArray vs) n } ∧ P vs
noncomputable def mLst (fz : GMap) (P : List Value → Prop) (v : Value) : Prop := ∃ a o vs n, v = .ref a ∧ fz a = some o ∧ o.cls = .type "list" ∧ o.data = .seq (List.toArray vs) n ∧ P vs
noncomputable def mRng (fz : GMap) (a b c : Int) (v : Value) : Prop := ∃ r t u w, v = .ref r ∧ fz r = some { cls := .type "range", data := .fields #[.int a t, .int b u, .int c w] }
noncomputable def mCons (P : Value → Prop) (R : List Value → Prop) (vs : List Value) : Prop := ∃ v ws, vs = v :: ws ∧ P v ∧ R ws
noncomputable def mInt (i : Int) (v : Value) : Prop := ∃ t, v = .int i t
noncomputable def mStr (x : PySem.Str) (v : Value) : Prop := ∃ t, v = .str x t
noncomputable def mByt (x : Array UInt8) (v : Value) : Prop := ∃ t, v = .bytes x t
/-- a value has data -/
noncomputable def VHd (fz : GMap) (d : D) : Value → Prop :=
  D.rec (motive_1 := fun _ => Value → Prop) (motive_2 := fun _ => List Value → Prop)
    (· = .none) (fun b v => v = .bool b) mInt mStr mByt (fun _ => mTup fz) (fun _ => mLst fz) (fun a v => v = .ref a) (mRng fz) (· = []) (fun _ _ => mCons) d
noncomputable def VHsd (fz : GMap) (ds : List D) : List Value → Prop :=
  D.rec_1 (motive_1 := fun _ => Value → Prop) (motive_2 := fun _ => List Value → Prop)
    (· = .none) (fun b v => v = .bool b) mInt mStr mByt (fun _ => mTup fz) (fun _ => mLst fz) (fun a v => v = .ref a) (mRng fz) (· = []) (fun _ _ => mCons) ds
noncomputable def VH (fz : GMap) (v : Value) (d : D) : Prop := VHd fz d v
noncomputable def VHs (fz : GMap) (vs : List Value) (ds : List D) : Prop := VHsd fz ds vs
theorem VH.int_ {fz : GMap} {v : Value} {i : Int} (h : VH fz v (.int i)) : ∃ t, v = .int i t := h
theorem VH.str_ {fz : GMap} {v : Value} {x : PySem.Str} (h : VH fz v (.str x)) : ∃ t, v = .str x t := h
theorem VH.byt_ {fz : GMap} {v : Value} {x : Array UInt8} (h : VH fz v (.byt x)) : ∃ t, v = .bytes x t := h
theorem VH.bool_ {fz : GMap} {v : Value} {b : Bool} (h : VH fz v (.bool b)) : v = .bool b := h
theorem VH.none_ {fz : GMap} {v : Value} (h : VH fz v .none) : v = .none := h
theorem VH.fn_ {fz : GMap} {v : Value} {a : Addr} (h : VH fz v (.fn a)) : v = .ref a := h
theorem VH.rng_ {fz : GMap} {v : Value} {a b c : Int} (h : VH fz v (.rng a b c)) : ∃ r t u w, v = .ref r ∧ fz r = some { cls := .type "range", data := .fields #[.int a t, .int b u, .int c w] } := h
theorem VH.lst_ {fz : GMap} {v : Value} {ds : List D} (h : VH fz v (.lst ds)) : ∃ a o vs n, v = .ref a ∧ fz a = some o ∧ o.cls = .type "list" ∧ o.data = .seq (List.toArray vs) n ∧ VHs fz vs ds := h
theorem VH.tup_ {fz : GMap} {v : Value} {ds : List D} (h : VH fz v (.tup ds)) : ∃ a vs n, v = .ref a ∧ fz a = some { cls := .type "tuple", data := .seq (List.toArray vs) n } ∧ VHs fz vs ds := h
theorem VH.none {fz : GMap} : VH fz .none .none := rfl
theorem VH.bool {fz : GMap} (b : Bool) : VH fz (.bool b) (.bool b) := rfl
theorem VH.int {fz : GMap} (i : Int) (t : Tok) : VH fz (.int i t) (.int i) := ⟨t, rfl⟩
theorem VH.str {fz : GMap} (x : PySem.Str) (t : Tok) : VH fz (.str x t) (.str x) := ⟨t, rfl⟩
theorem VH.byt {fz : GMap} (x : Array UInt8) (t : Tok) : VH fz (.bytes x t) (.byt x) := ⟨t, rfl⟩
theorem VH.fn {fz : GMap} (a : Addr) : VH fz (.ref a) (.fn a) := rfl
theorem VH.tup {fz : GMap} {a : Addr} {vs : List Value} {n : Nat} {ds : List D} (h : fz a = some { cls := .type "tuple", data := .seq vs.toArray n }) (r : VHs fz vs ds) : VH fz (.ref a) (.tup ds) := ⟨a, vs, n, rfl, h, r⟩
theorem VH.lst {fz : GMap} {a : Addr} {o : Obj} {vs : List Value} {n : Nat} {ds : List D} (h : fz a = some o) (c : o.cls = .type "list") (d : o.data = .seq vs.toArray n) (r : VHs fz vs ds) : VH fz (.ref a) (.lst ds) := ⟨a, o, vs, n, rfl, h, c, d, r⟩
theorem VH.rng {fz : GMap} {r : Addr} {a b c : Int} {t u v : Tok} (h : fz r = some { cls := .type "range", data := .fields #[.int a t, .int b u, .int c v] }) : VH fz (.ref r) (.rng a b c) := ⟨r, t, u, v, rfl, h⟩
theorem VHs.nil {fz : GMap} : VHs fz [] [] := rfl
theorem VHs.cons {fz : GMap} {v : Value} {vs : List Value} {d : D} {ds : List D} (h : VH fz v d) (r : VHs fz vs ds) : VHs fz (v :: vs) (d :: ds) := ⟨v, vs, rfl, h, r⟩
theorem VHs.nil_ {fz : GMap} {vs : List Value} (h : VHs fz vs []) : vs = [] := h
theorem VHs.cons_ {fz : GMap} {vs : List Value} {d : D} {ds : List D} (h : VHs fz vs (d :: ds)) : ∃ v ws, vs = v :: ws ∧ VH fz v d ∧ VHs fz ws ds := h
theorem VHs.one {fz : GMap} {vs : List Value} {d : D} (h : VHs fz vs [d]) : ∃ v, vs = [v] ∧ VH fz v d := by
  obtain ⟨v, _, e, h1, rfl⟩ := h
  exact ⟨v, e, h1⟩
theorem VHs.two {fz : GMap} {vs : List Value} {d e : D} (h : VHs fz vs [d, e]) : ∃ v w, vs = [v, w] ∧ VH fz v d ∧ VH fz w e := by
  obtain ⟨v, _, e1, h1, r⟩ := h
  obtain ⟨w, rfl, h2⟩ := VHs.one r
  exact ⟨v, w, e1, h1, h2⟩
theorem VHs.three {fz : GMap} {vs : List Value} {d e f : D} (h : VHs fz vs [d, e, f]) : ∃ v w x, vs = [v, w, x] ∧ VH fz v d ∧ VH fz w e ∧ VH fz x f := by
  obtain ⟨v, _, e1, h1, r⟩ := h
  obtain ⟨w, x, rfl, h2, h3⟩ := VHs.two r
  exact ⟨v, w, x, e1, h1, h2, h3⟩
theorem mCons.imp {P P' : Value → Prop} {R R' : List Value → Prop} (h : ∀ v, P v → P' v) (k : ∀ vs, R vs → R' vs) (vs : List Value) : mCons P R vs → mCons P' R' vs
  | ⟨v, ws, e, p, r⟩ => ⟨v, ws, e, h v p, k ws r⟩
theorem mTup.imp {fz fz' : GMap} (hs : ∀ b o, fz b = some o → fz' b = some o) {P P' : List Value → Prop} (h : ∀ v, P v → P' v) (v : Value) : mTup fz P v → mTup fz' P' v
  | ⟨a, vs, n, e, f, r⟩ => ⟨a, vs, n, e, hs _ _ f, h vs r⟩
theorem mLst.imp {fz fz' : GMap} (hs : ∀ b o, fz b = some o → fz' b = some o) {P P' : List Value → Prop} (h : ∀ v, P v → P' v) (v : Value) : mLst fz P v → mLst fz' P' v
  | ⟨a, o, vs, n, e, f, c, d, r⟩ => ⟨a, o, vs, n, e, hs _ _ f, c, d, h vs r⟩
theorem mRng.imp {fz fz' : GMap} (hs : ∀ b o, fz b = some o → fz' b = some o) {a b c : Int} (v : Value) : mRng fz a b c v → mRng fz' a b c v
  | ⟨r, t, u, w, e, f⟩ => ⟨r, t, u, w, e, hs _ _ f⟩
theorem VH.mono {fz fz' : GMap} (hs : ∀ b o, fz b = some o → fz' b = some o) {v : Value} {d : D} : VH fz v d → VH fz' v d :=
  D.rec (motive_1 := fun d => ∀ v, VH fz v d → VH fz' v d) (motive_2 := fun ds => ∀ vs, VHs fz vs ds → VHs fz' vs ds)
    (fun _ h => h) (fun _ _ h => h) (fun _ _ h => h) (fun _ _ h => h) (fun _ _ h => h) (fun _ => mTup.imp hs) (fun _ => mLst.imp hs) (fun _ _ h => h) (fun _ _ _ => mRng.imp hs) (fun _ h => h) (fun _ _ => mCons.imp) d v
theorem VHs.mono {fz fz' : GMap} (hs : ∀ b o, fz b = some o → fz' b = some o) {vs : List Value} {ds : List D} (h : VHs fz vs ds) : VHs fz' vs ds := by
  induction ds generalizing vs with
  | nil => exact h
  | cons d ds ih => exact mCons.imp (fun _ => VH.mono hs) (fun _ => ih) vs h

theorem VHs.length {fz : GMap} {vs : List Value} {ds : List D} (h : VHs fz vs ds) : vs.length = ds.length := by
  induction ds generalizing vs with
  | nil => rw [h.nil_]; rfl
  | cons d ds ih => obtain ⟨v, ws, rfl, _, r⟩ := h.cons_; rw [List.length_cons, List.length_cons, ih r]
theorem VHs.append {fz : GMap} {vs ws : List Value} {ds es : List D} (h : VHs fz vs ds) (k : VHs fz ws es) : VHs fz (vs ++ ws) (ds ++ es) := by
  induction ds generalizing vs with
  | nil => rw [h.nil_]; exact k
  | cons d ds ih => obtain ⟨v, us, rfl, h1, r⟩ := h.cons_; exact .cons h1 (ih r)
theorem VHs.get {fz : GMap} {vs : List Value} {ds : List D} (h : VHs fz vs ds) {k : Nat} {d : D} (e : ds[k]? = some d) : ∃ v, vs[k]? = some v ∧ VH fz v d := by
  induction ds generalizing vs k with
  | nil => cases e
  | cons d' ds ih =>
    obtain ⟨v, us, rfl, h1, r⟩ := h.cons_
    cases k with
    | zero => cases e; exact ⟨v, rfl, h1⟩
    | succ k => exact ih r e
theorem VHs.take {fz : GMap} {vs : List Value} {ds : List D} (k : Nat) (h : VHs fz vs ds) : VHs fz (vs.take k) (ds.take k) := by
  induction ds generalizing vs k with
  | nil => rw [h.nil_, List.take_nil, List.take_nil]; exact .nil
  | cons d ds ih =>
    obtain ⟨v, us, rfl, h1, r⟩ := h.cons_
    cases k with
    | zero => exact .nil
    | succ k => exact .cons h1 (ih k r)
theorem VHs.drop {fz : GMap} {vs : List Value} {ds : List D} (k : Nat) (h : VHs fz vs ds) : VHs fz (vs.drop k) (ds.drop k) := by
  induction ds generalizing vs k with
  | nil => rw [h.nil_, List.drop_nil, List.drop_nil]; exact .nil
  | cons d ds ih =>
    obtain ⟨v, us, rfl, h1, r⟩ := h.cons_
    cases k with
    | zero => exact .cons h1 r
    | succ k => exact ih k r
theorem VHs.set {fz : GMap} {vs : List Value} {ds : List D} (k : Nat) {v : Value} {d : D} (h : VHs fz vs ds) (x : VH fz v d) : VHs fz (vs.set k v) (ds.set k d) := by
  induction ds generalizing vs k with
  | nil => rw [h.nil_]; exact .nil
  | cons d' ds ih =>
    obtain ⟨w, us, rfl, h1, r⟩ := h.cons_
    cases k with
    | zero => exact .cons x r
    | succ k => exact .cons h1 (ih k r)

/-- the world that a proof speaks of -/
structure WP where
  prog : Program
  w : World
  K : Frag
  p : Program
  loose : List PySem.Str
  mean : ExcName → Option Value
  mg : PySem.Str → Option Value
  mb : PySem.Str → Option Value
  X : Frag := []

noncomputable abbrev WP.M (W : WP) : Model := model W.prog W.w

noncomputable def WF (W : WP) (kp : GMap) : Prop := (∃ hw : Heap, W.K.In hw ∧ Top W.p W.loose W.mean W.mg W.mb hw ∧ ∀ b o, hw.get? b = some o → kp b = some o) ∧ ∀ b o, W.X.lookup b = some o → kp b = some o

theorem WF.mono {W : WP} {kp kp' : GMap} (h : WF W kp) (hs : ∀ b o, kp b = some o → kp' b = some o) : WF W kp' :=
  let ⟨⟨hw, a, b, c⟩, d⟩ := h; ⟨⟨hw, a, b, fun x o e => hs _ _ (c x o e)⟩, fun x o e => hs _ _ (d x o e)⟩

structure Ext (fz : GMap) (s : Shared) (fz' : GMap) (s' : Shared) : Prop where
  keeps : Keeps s s'
  sub : ∀ b o, fz b = some o → fz' b = some o
  inH : ∀ b o, fz' b = some o → s'.heap.get? b = some o
  new : ∀ b o, fz' b = some o → fz b = some o ∨ s.heap.get? b = none

theorem kRfl {s : Shared} : Keeps s s := ⟨s.heap, s.toks, by cases s; rfl, fun _ _ e => e⟩
theorem kTr {s s₁ s₂ : Shared} (h : Keeps s s₁) (k : Keeps s₁ s₂) : Keeps s s₂ := by
  obtain ⟨h1, t1, rfl, k1⟩ := h
  obtain ⟨h2, t2, rfl, k2⟩ := k
  exact ⟨h2, t2, rfl, fun b o e => k2 b o (k1 b o e)⟩
theorem kGet {s s' : Shared} (h : Keeps s s') {b : Addr} {o : Obj} (e : s.heap.get? b = some o) : s'.heap.get? b = some o := by
  obtain ⟨h1, t1, rfl, k1⟩ := h; exact k1 b o e

theorem Ext.refl {fz : GMap} {s : Shared} (h : ∀ b o, fz b = some o → s.heap.get? b = some o) : Ext fz s fz s := ⟨kRfl, fun _ _ e => e, h, fun _ _ e => .inl e⟩
theorem Ext.trans {fz fz₁ fz₂ : GMap} {s s₁ s₂ : Shared} (h : Ext fz s fz₁ s₁) (k : Ext fz₁ s₁ fz₂ s₂) : Ext fz s fz₂ s₂ :=
  ⟨kTr h.keeps k.keeps, fun b o e => k.sub b o (h.sub b o e), k.inH, fun b o e => (k.new b o e).elim (h.new b o) fun hn => .inr (by
    cases q : s.heap.get? b with
    | none => rfl
    | some o' => rw [kGet h.keeps q] at hn; cases hn)⟩
theorem Ext.toks {fz : GMap} {s : Shared} {t : Nat} (h : ∀ b o, fz b = some o → s.heap.get? b = some o) : Ext fz s fz { s with toks := t } :=
  ⟨⟨s.heap, t, rfl, fun _ _ e => e⟩, fun _ _ e => e, h, fun _ _ e => .inl e⟩
theorem Ext.heap {fz : GMap} {s : Shared} {h' : Heap} {t : Nat} (h : ∀ b o, fz b = some o → s.heap.get? b = some o) (k : ∀ b o, s.heap.get? b = some o → h'.get? b = some o) : Ext fz s fz { s with heap := h', toks := t } :=
  ⟨⟨h', t, rfl, k⟩, fun _ _ e => e, fun b o e => k b o (h b o e), fun _ _ e => .inl e⟩

/-- a map with one object more -/
noncomputable def GMap.add (fz : GMap) (a : Addr) (o : Obj) : GMap := fun b => if b = a then some o else fz b
theorem GMap.add_self {fz : GMap} {a : Addr} {o : Obj} : fz.add a o a = some o := by simp [GMap.add]
theorem GMap.add_of {fz : GMap} {a b : Addr} {o q : Obj} (h : fz a = none) (e : fz b = some q) : fz.add a o b = some q := by
  unfold GMap.add
  by_cases hb : b = a
  · subst hb; rw [h] at e; cases e
  · rw [if_neg hb]; exact e

/-- a new object is frozen -/
theorem Ext.freeze {fz fz' : GMap} {s s' : Shared} {a : Addr} {o : Obj} (h : Ext fz s fz' s') (ha : s.heap.get? a = none) (hn : fz' a = none) (ho : s'.heap.get? a = some o) : Ext fz s (fz'.add a o) s' where
  keeps := h.keeps
  sub := fun b q e => GMap.add_of hn (h.sub b q e)
  inH := fun b q e => by
    unfold GMap.add at e
    by_cases hb : b = a
    · rw [if_pos hb] at e; cases e; subst hb; exact ho
    · rw [if_neg hb] at e; exact h.inH b q e
  new := fun b q e => by
    unfold GMap.add at e
    by_cases hb : b = a
    · subst hb; exact .inr ha
    · rw [if_neg hb] at e; exact h.new b q e

inductive Slot where
  | val (d : D)
  | own (ds : List D)
noncomputable abbrev Sto := List (PySem.Str × Slot)

noncomputable def Look (env : Env) (m : PySem.Str → Option Value) (h : Heap) (x : PySem.Str) (v : Value) : Prop :=
  (env.kindOf x = some .local ∧ m x = some v) ∨ ((env.kindOf x = some .cell ∨ (env.kindOf x = some .free ∧ (x == ("__classdict__" : PySem.Str)) = false)) ∧ ∃ c, env.cells.lookup x = some c ∧ h.IsCell c (some v))

noncomputable def Holds (env : Env) (fz : GMap) (ad : PySem.Str → Addr) (m : PySem.Str → Option Value) (h : Heap) (x : PySem.Str) : Slot → Prop
  | .val d => ∃ v, Look env m h x v ∧ VH fz v d
  | .own ds => env.kindOf x = some .local ∧ m x = some (.ref (ad x)) ∧ ∃ us n, h.get? (ad x) = some { cls := .type "list", data := .seq (List.toArray us) n } ∧ VHs fz us ds

structure Ok (W : WP) (env : Env) (kp fz₀ : GMap) (σ : Sto) (fz : GMap) (ad : PySem.Str → Addr) (m : PySem.Str → Option Value) (s : Shared) : Prop where
  wf : WF W kp
  kept : ∀ b o, kp b = some o → s.heap.get? b = some o
  fzIn : ∀ b o, fz b = some o → s.heap.get? b = some o
  fz0 : ∀ b o, fz₀ b = some o → fz b = some o
  fzNew : ∀ b o, fz b = some o → fz₀ b = some o ∨ kp b = none
  ns : s.heap.Ns env.locals m
  nsK : kp env.locals = none
  nsF : fz env.locals = none
  cells : ∀ x c, env.cells.lookup x = some c → ∃ v, s.heap.IsCell c v
  cinj : ∀ x y c, env.cells.lookup x = some c → env.cells.lookup y = some c → x = y
  cfree : ∀ x c, env.cells.lookup x = some c → env.locals < c → kp c = none ∧ fz c = none
  vars : ∀ x sl, (x, sl) ∈ σ → Holds env fz ad m s.heap x sl
  own : ∀ x ds, (x, Slot.own ds) ∈ σ → kp (ad x) = none ∧ fz (ad x) = none
  inj : ∀ x y ds es, (x, Slot.own ds) ∈ σ → (y, Slot.own es) ∈ σ → ad x = ad y → x = y

theorem IsCell.keeps' {h h' : Heap} {c : Addr} {v : Option Value} (x : h.IsCell c v) (k : ∀ b o, h.get? b = some o → h'.get? b = some o) : h'.IsCell c v := let ⟨o, a, b⟩ := x; ⟨o, k _ _ a, b⟩

theorem Look.keeps {env : Env} {m : PySem.Str → Option Value} {h h' : Heap} {x : PySem.Str} {v : Value} (l : Look env m h x v) (k : ∀ b o, h.get? b = some o → h'.get? b = some o) : Look env m h' x v :=
  l.elim .inl fun ⟨a, c, b, d⟩ => .inr ⟨a, c, b, IsCell.keeps' d k⟩

theorem Ok.ext {W : WP} {env : Env} {kp fz₀ : GMap} {σ : Sto} {fz fz' : GMap} {ad : PySem.Str → Addr} {m : PySem.Str → Option Value} {s s' : Shared} (H : Ok W env kp fz₀ σ fz ad m s) (e : Ext fz s fz' s') : Ok W env kp fz₀ σ fz' ad m s' where
  wf := H.wf
  kept := fun b o h => kGet e.keeps (H.kept b o h)
  fzIn := e.inH
  fz0 := fun b o h => e.sub b o (H.fz0 b o h)
  fzNew := fun b o h => (e.new b o h).elim (H.fzNew b o) fun hn => .inr (by
    cases q : kp b with
    | none => rfl
    | some o' => rw [H.kept b o' q] at hn; cases hn)
  ns := H.ns.keeps fun b o h => kGet e.keeps h
  nsK := H.nsK
  nsF := by
    cases q : fz' env.locals with
    | none => rfl
    | some o => rcases e.new _ _ q with h | h
                · rw [H.nsF] at h; cases h
                · obtain ⟨o', _, _, ho, _⟩ := H.ns; rw [ho] at h; cases h
  cells := fun x c h => let ⟨v, hv⟩ := H.cells x c h; ⟨v, IsCell.keeps' hv fun b o h => kGet e.keeps h⟩
  cinj := H.cinj
  cfree := fun x c h hl => ⟨(H.cfree x c h hl).1, by
    cases q : fz' c with
    | none => rfl
    | some o => rcases e.new _ _ q with h' | h'
                · rw [(H.cfree x c h hl).2] at h'; cases h'
                · obtain ⟨v, ob, g, _⟩ := H.cells x c h; rw [h'] at g; cases g⟩
  vars := fun x sl h => by
    have := H.vars x sl h
    cases sl with
    | val d => obtain ⟨v, a, b⟩ := this; exact ⟨v, a.keeps fun b o h => kGet e.keeps h, b.mono e.sub⟩
    | own ds => obtain ⟨a, b, us, n, c, d⟩ := this; exact ⟨a, b, us, n, kGet e.keeps c, d.mono e.sub⟩
  own := fun x ds h => ⟨(H.own x ds h).1, by
    obtain ⟨_, _, us, n, c, _⟩ := H.vars _ _ h
    cases q : fz' (ad x) with
    | none => rfl
    | some o => rcases e.new _ _ q with h' | h'
                · rw [(H.own x ds h).2] at h'; cases h'
                · rw [c] at h'; cases h'⟩
  inj := H.inj

theorem Ok.refl {W : WP} {env : Env} {kp fz₀ : GMap} {σ : Sto} {fz : GMap} {ad : PySem.Str → Addr} {m : PySem.Str → Option Value} {s : Shared} (H : Ok W env kp fz₀ σ fz ad m s) : Ext fz s fz s := Ext.refl H.fzIn

/-- what a frame is -/
structure FOK (n : Nat) (A : Around) (env : Env) : Prop where
  hh : A.handled = none
  hk : env.scope.kind = .function
  hg : env.globals = mainGlobals
  hb : env.builtins = builtinsNs
  dp : A.depth + n < recursionLimit
  un : A.units + 16 * n < cLine

noncomputable def Ev (W : WP) (A : Around) (env : Env) (σ : Sto) (e : PySem.Expr) (d : D) : Prop :=
  ∀ (kp fz₀ fz : GMap) (ad : PySem.Str → Addr) (m : PySem.Str → Option Value) (s : Shared) (Q E : Value → Shared → Prop), Ok W env kp fz₀ σ fz ad m s →
    (∀ v fz' s', Ext fz s fz' s' → VH fz' v d → Q v s') → wpAny W.M A (eval e env) Q E s

/-- a list of the call's own: nobody else holds it -/
noncomputable def EvF (W : WP) (A : Around) (env : Env) (σ : Sto) (e : PySem.Expr) (ds : List D) : Prop :=
  ∀ (kp fz₀ fz : GMap) (ad : PySem.Str → Addr) (m : PySem.Str → Option Value) (s : Shared) (Q E : Value → Shared → Prop), Ok W env kp fz₀ σ fz ad m s →
    (∀ a us n fz' s', Ext fz s fz' s' → s.heap.get? a = none → fz' a = none → s'.heap.get? a = some { cls := .type "list", data := .seq (List.toArray us) n } → VHs fz' us ds → Q (.ref a) s') → wpAny W.M A (eval e env) Q E s

theorem EvF.ev {W : WP} {A : Around} {env : Env} {σ : Sto} {e : PySem.Expr} {ds : List D} (h : EvF W A env σ e ds) : Ev W A env σ e (.lst ds) := by
  intro kp fz₀ fz ad m s Q E H k
  refine h kp fz₀ fz ad m s Q E H fun a us n fz' s' x ha hn ho hd => ?_
  exact k _ _ _ (x.freeze ha hn ho) (.lst (GMap.add_self) rfl rfl (hd.mono fun b q e => GMap.add_of hn e))

section
variable {W : WP} {A : Around} {env : Env} {σ : Sto}

theorem ev_int {i : Int} {k : Nat} {pos : Pos} : Ev W A env σ (.Constant (.int i) k pos) (.int i) := fun kp fz₀ fz ad m s Q E H k => wpAny_Constant_int (k _ _ _ (Ext.toks H.fzIn) (.int _ _))
theorem ev_str {x : PySem.Str} {k : Nat} {pos : Pos} : Ev W A env σ (.Constant (.str x) k pos) (.str x) := fun kp fz₀ fz ad m s Q E H k => wpAny_Constant_str (k _ _ _ (Ext.toks H.fzIn) (.str _ _))
theorem ev_bool {b : Bool} {k : Nat} {pos : Pos} : Ev W A env σ (.Constant (.bool b) k pos) (.bool b) := fun kp fz₀ fz ad m s Q E H k => wpAny_Constant_bool (k _ _ _ H.refl (.bool _))
theorem ev_none {k : Nat} {pos : Pos} : Ev W A env σ (.Constant .none k pos) .none := fun kp fz₀ fz ad m s Q E H k => wpAny_Constant_none (k _ _ _ H.refl .none)
theorem ev_byt {x : List UInt8} {k : Nat} {pos : Pos} : Ev W A env σ (.Constant (.bytes x) k pos) (.byt x.toArray) := fun kp fz₀ fz ad m s Q E H k => PySem.W.Constant_bytes (k _ _ _ (Ext.toks H.fzIn) (.byt _ _))

theorem Look.ev {n : Nat} {x : PySem.Str} {pos : Pos} {m : PySem.Str → Option Value} {s : Shared} {v : Value} {Q E : Value → Shared → Prop} (F : FOK n A env) (l : Look env m s.heap x v) (N : s.heap.Ns env.locals m) (hd : (x == ("__debug__" : PySem.Str)) = false) (h : Q v s) : wpAny W.M A (eval (.Name x pos) env) Q E s := by
  rcases l with ⟨a, b⟩ | ⟨a | a, c, b, d⟩
  · exact wpAny_Name (wpAny_loadName_local F.hk a N b h) hd
  · exact wpAny_Name (wpAny_loadName_cell F.hk a b d h) hd
  · exact wpAny_Name (wpAny_loadName_free F.hk a.1 b d h a.2) hd

theorem ev_name {n : Nat} {x : PySem.Str} {pos : Pos} {d : D} (F : FOK n A env) (hx : (x, Slot.val d) ∈ σ) (hd : (x == ("__debug__" : PySem.Str)) = false) : Ev W A env σ (.Name x pos) d := by
  intro kp fz₀ fz ad m s Q E H k
  obtain ⟨v, l, hv⟩ := H.vars _ _ hx
  exact Look.ev F l H.ns hd (k _ _ _ H.refl hv)

theorem ev_glob {n : Nat} {x : PySem.Str} {pos : Pos} {v : Value} {d : D} (F : FOK n A env) (hx : env.kindOf x = some .globalImplicit) (hv : nsIn W.K mainGlobals x = some (some v)) (hd : (x == ("__debug__" : PySem.Str)) = false)
    (hr : ∀ fz, VH fz v d) : Ev W A env σ (.Name x pos) d := by
  intro kp fz₀ fz ad m s Q E H k
  obtain ⟨⟨hw, X, T, hk⟩, _⟩ := H.wf
  have kk : ∀ b o, hw.get? b = some o → s.heap.get? b = some o := fun b o e => H.kept _ _ (hk _ _ e)
  exact Name_function_global F.hk hx (loadGlobal_global (env := env) (show s.heap.Ns env.globals W.mg from F.hg ▸ (T.keeps kk).g) (mg_of X T.g hv) (k _ _ _ H.refl (hr _))) hd

end
end
section
noncomputable def FzIn (fz : GMap) (s : Shared) : Prop := ∀ b o, fz b = some o → s.heap.get? b = some o

/-- an operation on two values -/
noncomputable def Op2 (W : WP) (A : Around) (op : Value → Value → Sem Value) (d₁ d₂ d : D) : Prop :=
  ∀ (fz : GMap) (s : Shared) (v₁ v₂ : Value) (Q E : Value → Shared → Prop), FzIn fz s → VH fz v₁ d₁ → VH fz v₂ d₂ →
    (∀ v fz' s', Ext fz s fz' s' → VH fz' v d → Q v s') → wpAny W.M A (op v₁ v₂) Q E s
noncomputable def Op1 (W : WP) (A : Around) (op : Value → Sem Value) (d₁ d : D) : Prop :=
  ∀ (fz : GMap) (s : Shared) (v₁ : Value) (Q E : Value → Shared → Prop), FzIn fz s → VH fz v₁ d₁ →
    (∀ v fz' s', Ext fz s fz' s' → VH fz' v d → Q v s') → wpAny W.M A (op v₁) Q E s
/-- a call by values -/
noncomputable def CallV (W : WP) (A : Around) (f : Value) (ds : List D) (d : D) : Prop :=
  ∀ (fz : GMap) (s : Shared) (vs : List Value) (Q E : Value → Shared → Prop), WF W (fun b => s.heap.get? b) → FzIn fz s → VHs fz vs ds →
    (∀ v fz' s', Ext fz s fz' s' → VH fz' v d → Q v s') → wpAny W.M A (call f vs) Q E s

section
variable {W : WP} {A : Around} {env : Env} {σ : Sto}

theorem Ok.heapWF {kp fz₀ fz : GMap} {ad : PySem.Str → Addr} {m : PySem.Str → Option Value} {s : Shared} (H : Ok W env kp fz₀ σ fz ad m s) : WF W (fun b => s.heap.get? b) := H.wf.mono H.kept

theorem ev_bin {e₁ e₂ : PySem.Expr} {op : Operator} {pos : Pos} {d₁ d₂ d : D} (h₁ : Ev W A env σ e₁ d₁) (h₂ : Ev W A env σ e₂ d₂) (ho : Op2 W A (binaryOp op) d₁ d₂ d) : Ev W A env σ (.BinOp e₁ op e₂ pos) d := by
  intro kp fz₀ fz ad m s Q E H k
  refine wpAny_BinOp (h₁ _ _ _ _ _ _ _ _ H fun v₁ fz₁ s₁ x₁ hv₁ => h₂ _ _ _ _ _ _ _ _ (H.ext x₁) fun v₂ fz₂ s₂ x₂ hv₂ => ?_)
  exact ho _ _ _ _ _ _ x₂.inH (hv₁.mono x₂.sub) hv₂ fun v fz' s' x hv => k _ _ _ ((x₁.trans x₂).trans x) hv
theorem ev_cmp {e₁ e₂ : PySem.Expr} {op : CmpOp} {pos : Pos} {d₁ d₂ d : D} (h₁ : Ev W A env σ e₁ d₁) (h₂ : Ev W A env σ e₂ d₂) (ho : Op2 W A (compareOp op) d₁ d₂ d) (hm : behindInMarks op e₂ = false) : Ev W A env σ (.Compare e₁ [op] [e₂] pos) d := by
  intro kp fz₀ fz ad m s Q E H k
  refine wpAny_Compare1 (h₁ _ _ _ _ _ _ _ _ H fun v₁ fz₁ s₁ x₁ hv₁ => h₂ _ _ _ _ _ _ _ _ (H.ext x₁) fun v₂ fz₂ s₂ x₂ hv₂ => ?_) hm
  exact ho _ _ _ _ _ _ x₂.inH (hv₁.mono x₂.sub) hv₂ fun v fz' s' x hv => k _ _ _ ((x₁.trans x₂).trans x) hv
theorem ev_un {e₁ : PySem.Expr} {op : UnaryOp} {pos : Pos} {d₁ d : D} (h₁ : Ev W A env σ e₁ d₁) (ho : Op1 W A (unaryOp op) d₁ d) : Ev W A env σ (.UnaryOp op e₁ pos) d := by
  intro kp fz₀ fz ad m s Q E H k
  refine wpAny_UnaryOp (h₁ _ _ _ _ _ _ _ _ H fun v₁ fz₁ s₁ x₁ hv₁ => ?_)
  exact ho _ _ _ _ _ x₁.inH hv₁ fun v fz' s' x hv => k _ _ _ (x₁.trans x) hv

/-- a test's truth -/
noncomputable def Tr (W : WP) (A : Around) (env : Env) (σ : Sto) (e : PySem.Expr) (b : Bool) : Prop :=
  ∀ (kp fz₀ fz : GMap) (ad : PySem.Str → Addr) (m : PySem.Str → Option Value) (s : Shared) (Q : Bool → Shared → Prop) (E : Value → Shared → Prop), Ok W env kp fz₀ σ fz ad m s →
    (∀ fz' s', Ext fz s fz' s' → Q b s') → wpAny W.M A (isTrue e env (eval e env)) Q E s
/-- a value's truth -/
noncomputable def Truth (W : WP) (A : Around) (d : D) (b : Bool) : Prop :=
  ∀ (fz : GMap) (s : Shared) (v : Value) (Q : Bool → Shared → Prop) (E : Value → Shared → Prop), FzIn fz s → VH fz v d →
    (∀ fz' s', Ext fz s fz' s' → Q b s') → wpAny W.M A (truthy v) Q E s

theorem truth_bool {b : Bool} : Truth W A (.bool b) b := by
  intro fz s v Q E hf hv k; obtain rfl := hv.bool_; exact wpAny_truthy_bool (k _ _ (Ext.refl hf))

theorem tr_val {e : PySem.Expr} {d : D} {b : Bool} (h : Ev W A env σ e d) (t : Truth W A d b) (he : isTrue e env (eval e env) = (do let v ← eval e env; standAt e.pos; holding [v] (truthy v)) := by rfl) : Tr W A env σ e b := by
  intro kp fz₀ fz ad m s Q E H k
  refine wpAny_isTrue_value (h _ _ _ _ _ _ _ _ H fun v fz₁ s₁ x₁ hv => ?_) he
  exact t _ _ _ _ _ x₁.inH hv fun fz' s' x => k _ _ (x₁.trans x)
theorem tr_not {e : PySem.Expr} {pos : Pos} {b : Bool} (h : Tr W A env σ e b) : Tr W A env σ (.UnaryOp .Not e pos) (!b) := by
  intro kp fz₀ fz ad m s Q E H k
  exact wpAny_isTrue_Not (h _ _ _ _ _ _ _ _ H fun fz' s' x => k _ _ x)
theorem tr_cmp {e₁ e₂ : PySem.Expr} {op : CmpOp} {pos : Pos} {d₁ d₂ : D} {b : Bool} (h₁ : Ev W A env σ e₁ d₁) (h₂ : Ev W A env σ e₂ d₂) (ho : Op2 W A (compareOp op) d₁ d₂ (.bool b)) (hm : behindInMarks op e₂ = false) : Tr W A env σ (.Compare e₁ [op] [e₂] pos) b := by
  intro kp fz₀ fz ad m s Q E H k
  refine wpAny_isTrue_Compare1 (h₁ _ _ _ _ _ _ _ _ H fun v₁ fz₁ s₁ x₁ hv₁ => h₂ _ _ _ _ _ _ _ _ (H.ext x₁) fun v₂ fz₂ s₂ x₂ hv₂ => ?_) hm
  refine ho _ _ _ _ _ _ x₂.inH (hv₁.mono x₂.sub) hv₂ fun v fz' s' x hv => ?_
  exact truth_bool _ _ _ _ _ x.inH hv fun fz'' s'' x' => k _ _ (((x₁.trans x₂).trans x).trans x')

/-- the tests of a BoolOp -/
noncomputable def AllT (W : WP) (A : Around) (env : Env) (σ : Sto) (op : BoolOp) (es : List PySem.Expr) (b : Bool) : Prop :=
  ∀ (kp fz₀ fz : GMap) (ad : PySem.Str → Addr) (m : PySem.Str → Option Value) (s : Shared) (Q : Bool → Shared → Prop) (E : Value → Shared → Prop), Ok W env kp fz₀ σ fz ad m s →
    (∀ fz' s', Ext fz s fz' s' → Q b s') → wpAny W.M A (allTrue op es env) Q E s
theorem tr_bool {op : BoolOp} {es : List PySem.Expr} {pos : Pos} {b : Bool} (h : AllT W A env σ op es b) : Tr W A env σ (.BoolOp op es pos) b := by
  intro kp fz₀ fz ad m s Q E H k
  exact wpAny_isTrue_BoolOp (h _ _ _ _ _ _ _ _ H k)
theorem allT_nil {op : BoolOp} : AllT W A env σ op [] (op == .And) := by
  intro kp fz₀ fz ad m s Q E H k
  exact wpAny_pure (k _ _ H.refl)
theorem allT_and {e : PySem.Expr} {es : List PySem.Expr} {b c : Bool} (h : Tr W A env σ e b) (r : b = true → AllT W A env σ .And es c) : AllT W A env σ .And (e :: es) (b && c) := by
  intro kp fz₀ fz ad m s Q E H k
  show wpAny _ A (do match BoolOp.And, ← isTrue e env (eval e env) with
    | .And, false => pure false
    | .Or, true => pure true
    | _, _ => allTrue .And es env) Q E s
  refine wpAny_bind (h _ _ _ _ _ _ _ _ H fun fz' s' x => ?_)
  cases b with
  | false => exact wpAny_pure (k _ _ x)
  | true => exact r rfl _ _ _ _ _ _ _ _ (H.ext x) fun fz'' s'' x' => k _ _ (x.trans x')
theorem allT_or {e : PySem.Expr} {es : List PySem.Expr} {b c : Bool} (h : Tr W A env σ e b) (r : b = false → AllT W A env σ .Or es c) : AllT W A env σ .Or (e :: es) (b || c) := by
  intro kp fz₀ fz ad m s Q E H k
  show wpAny _ A (do match BoolOp.Or, ← isTrue e env (eval e env) with
    | .And, false => pure false
    | .Or, true => pure true
    | _, _ => allTrue .Or es env) Q E s
  refine wpAny_bind (h _ _ _ _ _ _ _ _ H fun fz' s' x => ?_)
  cases b with
  | true => exact wpAny_pure (k _ _ x)
  | false => exact r rfl _ _ _ _ _ _ _ _ (H.ext x) fun fz'' s'' x' => k _ _ (x.trans x')

theorem ev_if {t e₁ e₂ : PySem.Expr} {pos : Pos} {b : Bool} {d : D} (h : Tr W A env σ t b) (h₁ : b = true → Ev W A env σ e₁ d) (h₂ : b = false → Ev W A env σ e₂ d) : Ev W A env σ (.IfExp t e₁ e₂ pos) d := by
  intro kp fz₀ fz ad m s Q E H k
  refine wpAny_IfExp (h _ _ _ _ _ _ _ _ H fun fz' s' x => ?_)
  cases b with
  | true => exact h₁ rfl _ _ _ _ _ _ _ _ (H.ext x) fun v fz'' s'' x' hv => k _ _ _ (x.trans x') hv
  | false => exact h₂ rfl _ _ _ _ _ _ _ _ (H.ext x) fun v fz'' s'' x' hv => k _ _ _ (x.trans x') hv
theorem ev_or {e₁ e₂ : PySem.Expr} {pos : Pos} {b : Bool} {d₁ d : D} (h : Ev W A env σ e₁ d₁) (t : Truth W A d₁ b) (h₁ : b = true → d = d₁) (h₂ : b = false → Ev W A env σ e₂ d) : Ev W A env σ (.BoolOp .Or [e₁, e₂] pos) d := by
  intro kp fz₀ fz ad m s Q E H k
  refine wpAny_Or2 (h _ _ _ _ _ _ _ _ H fun v fz₁ s₁ x hv => t _ _ _ _ _ x.inH hv fun fz₂ s₂ x₂ => ?_)
  cases b with
  | true => exact k _ _ _ (x.trans x₂) (h₁ rfl ▸ hv.mono x₂.sub)
  | false => exact h₂ rfl _ _ _ _ _ _ _ _ ((H.ext x).ext x₂) fun v' fz'' s'' x' hv' => k _ _ _ ((x.trans x₂).trans x') hv'

/-- arguments, items of a display -/
noncomputable def Evs (W : WP) (A : Around) (env : Env) (σ : Sto) (es : List PySem.Expr) (ds : List D) : Prop :=
  ∀ (pos : Pos) (kp fz₀ fz : GMap) (ad : PySem.Str → Addr) (m : PySem.Str → Option Value) (s : Shared) (Q : List Value → Shared → Prop) (E : Value → Shared → Prop), Ok W env kp fz₀ σ fz ad m s →
    (∀ vs fz' s', Ext fz s fz' s' → VHs fz' vs ds → Q vs s') → wpAny W.M A (spliced (backTo pos (starEach es env))) Q E s
theorem evs_nil : Evs W A env σ [] [] := fun pos kp fz₀ fz ad m s Q E H k => spliced_nil (k _ _ _ H.refl .nil)
theorem evs_cons {e : PySem.Expr} {es : List PySem.Expr} {d : D} {ds : List D} (h : Ev W A env σ e d) (r : Evs W A env σ es ds) (he : starEach (e :: es) env = (false, eval e env) :: starEach es env := by rfl) : Evs W A env σ (e :: es) (d :: ds) := by
  intro pos kp fz₀ fz ad m s Q E H k
  rw [he]
  refine spliced_cons (h _ _ _ _ _ _ _ _ H fun v fz₁ s₁ x hv => ?_)
  exact r pos _ _ _ _ _ _ _ _ (H.ext x) fun vs fz₂ s₂ x₂ hvs => k _ _ _ (x.trans x₂) (.cons (hv.mono x₂.sub) hvs)

theorem get_push {h : Heap} {o : Obj} {b : Addr} {q : Obj} (e : h.get? b = some q) : (h.push o).get? b = some q := Heap.get?_push_of_some _ e
theorem get_fresh (h : Heap) : h.get? h.objs.size = none := by
  cases q : h.get? h.objs.size with
  | none => rfl
  | some o => exact absurd (Heap.lt_size q) (Nat.lt_irrefl _)
theorem Ext.push {fz : GMap} {s : Shared} {o : Obj} {t : Nat} (h : FzIn fz s) : Ext fz s fz { s with heap := s.heap.push o, toks := t } := Ext.heap h fun _ _ e => get_push e

theorem Ext.fresh {fz fz' : GMap} {s s' : Shared} (x : Ext fz s fz' s') {a : Addr} (hs : s'.heap.get? a = none) : s.heap.get? a = none ∧ fz' a = none := by
  constructor
  · cases q : s.heap.get? a with
    | none => rfl
    | some o => rw [kGet x.keeps q] at hs; cases hs
  · cases q : fz' a with
    | none => rfl
    | some o => rw [x.inH _ _ q] at hs; cases hs

theorem evF_list {es : List PySem.Expr} {pos : Pos} {ds : List D} (h : Evs W A env σ es ds) (hl : ds.length ≤ 1000) : EvF W A env σ (.List es pos) ds := by
  intro kp fz₀ fz ad m s Q E H k
  refine wpAny_List_spliced (h pos _ _ _ _ _ _ _ _ H fun vs fz₁ s₁ x hv => ⟨?_, ?_⟩)
  · rw [hv.length, PySem.sizeLine_eq]; walk_at "lx"
  · have f := x.fresh (get_fresh s₁.heap)
    exact k _ _ _ _ _ (x.trans (Ext.push (t := s₁.toks) x.inH)) f.1 f.2 (Heap.get?_push_size _ rfl) hv
theorem ev_tuple {es : List PySem.Expr} {n : Nat} {pos : Pos} {ds : List D} (h : Evs W A env σ es ds) (hl : ds.length ≤ 1000) : Ev W A env σ (.Tuple es n pos) (.tup ds) := by
  intro kp fz₀ fz ad m s Q E H k
  refine wpAny_Tuple_spliced (h pos _ _ _ _ _ _ _ _ H fun vs fz₁ s₁ x hv => ⟨?_, ?_⟩)
  · rw [hv.length, PySem.sizeLine_eq]; walk_at "lx"
  · have f := x.fresh (get_fresh s₁.heap)
    exact k _ _ _ ((x.trans (Ext.push (t := s₁.toks) x.inH)).freeze f.1 f.2 (Heap.get?_push_size _ rfl)) (.tup GMap.add_self (hv.mono fun b q e => GMap.add_of f.2 e))

theorem op2II {op : Value → Value → Sem Value} {a b : Int} {d : D} (h : ∀ (t u : Tok) (fz : GMap) (s : Shared) (Q E : Value → Shared → Prop), FzIn fz s → (∀ v fz' s', Ext fz s fz' s' → VH fz' v d → Q v s') → wpAny W.M A (op (.int a t) (.int b u)) Q E s) : Op2 W A op (.int a) (.int b) d := by
  intro fz s v₁ v₂ Q E hf h₁ h₂ k
  obtain ⟨t, rfl⟩ := h₁.int_
  obtain ⟨u, rfl⟩ := h₂.int_
  exact h t u fz s Q E hf k
theorem op2SS {op : Value → Value → Sem Value} {a b : PySem.Str} {d : D} (h : ∀ (t u : Tok) (fz : GMap) (s : Shared) (Q E : Value → Shared → Prop), FzIn fz s → (∀ v fz' s', Ext fz s fz' s' → VH fz' v d → Q v s') → wpAny W.M A (op (.str a t) (.str b u)) Q E s) : Op2 W A op (.str a) (.str b) d := by
  intro fz s v₁ v₂ Q E hf h₁ h₂ k
  obtain ⟨t, rfl⟩ := h₁.str_
  obtain ⟨u, rfl⟩ := h₂.str_
  exact h t u fz s Q E hf k
-- ints
theorem op_add {a b : Int} : Op2 W A (binaryOp .Add) (.int a) (.int b) (.int (a + b)) :=
  op2II fun t u fz s Q E hf k => add_int (k _ _ _ (Ext.toks hf) (.int _ _))
theorem op_sub {a b : Int} : Op2 W A (binaryOp .Sub) (.int a) (.int b) (.int (a - b)) :=
  op2II fun t u fz s Q E hf k => sub_int (k _ _ _ (Ext.toks hf) (.int _ _))
theorem op_mul {a b : Int} (hm : IntMulOk a b) : Op2 W A (binaryOp .Mult) (.int a) (.int b) (.int (a * b)) :=
  op2II fun t u fz s Q E hf k => mul_int (k _ _ _ (Ext.toks hf) (.int _ _)) hm
theorem op_mod {a b : Int} (hb : b ≠ 0) : Op2 W A (binaryOp .Mod) (.int a) (.int b) (.int (a.fmod b)) :=
  op2II fun t u fz s Q E hf k => mod_int' hb (k _ _ _ (Ext.toks hf) (.int _ _))
theorem op_div {a b : Int} (hb : b ≠ 0) (hp : Builtin.divisionGoesByPylong a b = false) : Op2 W A (binaryOp .FloorDiv) (.int a) (.int b) (.int (a.fdiv b)) :=
  op2II fun t u fz s Q E hf k => floordiv_int hb (k _ _ _ (Ext.toks hf) (.int _ _)) (.inl hp)
theorem op_pow {a n : Int} (h0 : 0 ≤ n) (hz : (Builtin.Int.intBits a : Int) * n ≤ 2 ^ 27) : Op2 W A (binaryOp .Pow) (.int a) (.int n) (.int (a ^ n.toNat)) :=
  op2II fun t u fz s Q E hf k => pow_int h0 hz (k _ _ _ (Ext.toks hf) (.int _ _))
theorem op_shl {a n : Int} (h0 : 0 ≤ n) (h1 : n ≤ 1000000) (ha : a.natAbs < 2 ^ 64) : Op2 W A (binaryOp .LShift) (.int a) (.int n) (.int (a * 2 ^ n.toNat)) :=
  op2II fun t u fz s Q E hf k => lshift_int_small h0 h1 ha (k _ _ _ (Ext.toks hf) (.int _ _))
theorem op_shr {a n : Int} (h0 : 0 ≤ n) : Op2 W A (binaryOp .RShift) (.int a) (.int n) (.int (a.fdiv (2 ^ n.toNat))) :=
  op2II fun t u fz s Q E hf k => rshift_int h0 (k _ _ _ (Ext.toks hf) (.int _ _))
theorem op_band {a b : Int} : Op2 W A (binaryOp .BitAnd) (.int a) (.int b) (.int (Builtin.bitAnd a b)) :=
  op2II fun t u fz s Q E hf k => and_int (k _ _ _ (Ext.toks hf) (.int _ _))
theorem op_neg {a : Int} : Op1 W A (unaryOp .USub) (.int a) (.int (-a)) := by
  intro fz s v₁ Q E hf h₁ k; obtain ⟨t, rfl⟩ := h₁.int_; exact neg_int (k _ _ _ (Ext.toks hf) (.int _ _))
theorem op_eqI {a b : Int} : Op2 W A (compareOp .Eq) (.int a) (.int b) (.bool (a == b)) :=
  op2II fun t u fz s Q E hf k => eq_int (k _ _ _ (Ext.refl hf) (.bool _))
theorem op_neI {a b : Int} : Op2 W A (compareOp .NotEq) (.int a) (.int b) (.bool (a != b)) :=
  op2II fun t u fz s Q E hf k => ne_int (k _ _ _ (Ext.refl hf) (.bool _))
theorem op_ltI {a b : Int} : Op2 W A (compareOp .Lt) (.int a) (.int b) (.bool (decide (a < b))) :=
  op2II fun t u fz s Q E hf k => lt_int (k _ _ _ (Ext.refl hf) (.bool _))
theorem op_gtI {a b : Int} : Op2 W A (compareOp .Gt) (.int a) (.int b) (.bool (decide (b < a))) :=
  op2II fun t u fz s Q E hf k => gt_int (k _ _ _ (Ext.refl hf) (.bool _))
theorem op_leI {a b : Int} : Op2 W A (compareOp .LtE) (.int a) (.int b) (.bool (decide (a ≤ b))) :=
  op2II fun t u fz s Q E hf k => le_int (k _ _ _ (Ext.refl hf) (.bool _))
theorem op_eqS {x y : PySem.Str} : Op2 W A (compareOp .Eq) (.str x) (.str y) (.bool (x == y)) :=
  op2SS fun t u fz s Q E hf k => eq_str (k _ _ _ (Ext.refl hf) (.bool _))
theorem op_inS {x y : PySem.Str} : Op2 W A (compareOp .In) (.str y) (.str x) (.bool !(Builtin.Str.occurrences x y 0 x.length 1).isEmpty) :=
  op2SS fun t u fz s Q E hf k => in_str (k _ _ _ (Ext.refl hf) (.bool _))
theorem op_addS {x y : PySem.Str} (hz : x.length + y.length ≤ 16777216) : Op2 W A (binaryOp .Add) (.str x) (.str y) (.str (x ++ y)) :=
  op2SS fun t u fz s Q E hf k => SB.add (fun t' c => k _ _ _ (Ext.toks hf) (.str _ _)) (by rw [PySem.sizeLine_eq]; exact hz)
theorem op_addB {x y : Array UInt8} (hz : x.size + y.size ≤ 16777216) : Op2 W A (binaryOp .Add) (.byt x) (.byt y) (.byt (x ++ y)) := by
  intro fz s v₁ v₂ Q E hf h₁ h₂ k; obtain ⟨t, rfl⟩ := h₁.byt_; obtain ⟨u, rfl⟩ := h₂.byt_
  exact KBy.add_bytes hz (fun t' c => k _ _ _ (Ext.toks hf) (.byt _ _))

theorem VH.isList {fz : GMap} {s : Shared} {v : Value} {ds : List D} (hf : FzIn fz s) (h : VH fz v (.lst ds)) : ∃ a vs, v = .ref a ∧ s.heap.IsList a (List.toArray vs) ∧ VHs fz vs ds := by
  obtain ⟨a, o, vs, n, rfl, e, c, d, r⟩ := h.lst_
  exact ⟨_, _, rfl, ⟨_, hf _ _ e, c, _, d⟩, r⟩

/-- a new list is made -/
theorem newL {fz : GMap} {s : Shared} {t : Nat} {us : List Value} {ds : List D} {Q : Value → Shared → Prop} (hf : FzIn fz s) (hd : VHs fz us ds) (k : ∀ v fz' s', Ext fz s fz' s' → VH fz' v (.lst ds) → Q v s') :
    Q (.ref s.heap.objs.size) { s with heap := s.heap.push { cls := .type "list", data := .seq us.toArray }, toks := t } := by
  have f := (Ext.refl hf).fresh (get_fresh s.heap)
  exact k _ _ _ ((Ext.push (t := t) hf).freeze f.1 f.2 (Heap.get?_push_size _ rfl)) (.lst GMap.add_self rfl rfl (hd.mono fun b q e => GMap.add_of f.2 e))

theorem op_addL {xs ys : List D} (hz : xs.length + ys.length ≤ 10000) : Op2 W A (binaryOp .Add) (.lst xs) (.lst ys) (.lst (xs ++ ys)) := by
  intro fz s v₁ v₂ Q E hf h₁ h₂ k
  obtain ⟨a, vs, rfl, l₁, r₁⟩ := h₁.isList hf
  obtain ⟨b, ws, rfl, l₂, r₂⟩ := h₂.isList hf
  obtain ⟨⟨c1, d1, da1, s1⟩, o1, hc1, n1, hd1⟩ := l₁
  obtain ⟨⟨c2, d2, da2, s2⟩, o2, hc2, n2, hd2⟩ := l₂
  simp only at hc1 hd1 hc2 hd2
  subst hc1 hd1 hc2 hd2
  refine concat_meets ⟨_, o1, rfl⟩ ⟨_, o2, rfl⟩ noFill_list_add seq_list_add PySem.F.slot_list_add PySem.F.entry_list_add (PySem.F.args_list_add_2 _ _)
    (list_addW a b vs.toArray ws.toArray n1 n2 d1 d2 s1 s2 (by rw [List.size_toArray, List.size_toArray, r₁.length, r₂.length, PySem.sizeLine_eq]; walk_at "lx")) ⟨o1, o2, ?_⟩
  rw [List.append_toArray]
  exact newL hf (r₁.append r₂) k
end
end
section
inductive Out where
  | next (σ : Sto)
  | ret (d : D)

structure Fin (kp fz₀ fz : GMap) (s : Shared) : Prop where
  kept : ∀ b o, kp b = some o → s.heap.get? b = some o
  fzIn : FzIn fz s
  fz0 : ∀ b o, fz₀ b = some o → fz b = some o
  fzNew : ∀ b o, fz b = some o → fz₀ b = some o ∨ kp b = none

theorem Ok.fin {W : WP} {env : Env} {kp fz₀ fz : GMap} {σ : Sto} {ad : PySem.Str → Addr} {m : PySem.Str → Option Value} {s : Shared} (H : Ok W env kp fz₀ σ fz ad m s) : Fin kp fz₀ fz s := ⟨H.kept, H.fzIn, H.fz0, H.fzNew⟩

noncomputable def Post (W : WP) (env : Env) (kp fz₀ : GMap) (s : Shared) (Q : Flow → Shared → Prop) : Out → Prop
  | .next σ => ∀ fz ad m h tk, Ok W env kp fz₀ σ fz ad m { s with heap := h, toks := tk } → Q .next { s with heap := h, toks := tk }
  | .ret d => ∀ v fz h tk, Fin kp fz₀ fz { s with heap := h, toks := tk } → VH fz v d → Q (.ret v) { s with heap := h, toks := tk }

theorem Post.moved {W : WP} {env : Env} {kp fz₀ : GMap} {s : Shared} {Q : Flow → Shared → Prop} {o : Out} {h : Heap} {tk : Nat} (p : Post W env kp fz₀ s Q o) : Post W env kp fz₀ { s with heap := h, toks := tk } Q o := by
  cases o with
  | next σ => exact p
  | ret d => exact p
theorem Post.keeps {W : WP} {env : Env} {kp fz₀ : GMap} {s s' : Shared} {Q : Flow → Shared → Prop} {o : Out} (k : Keeps s s') (p : Post W env kp fz₀ s Q o) : Post W env kp fz₀ s' Q o := by
  obtain ⟨h, tk, rfl, _⟩ := k; exact p.moved

noncomputable def X (W : WP) (A : Around) (env : Env) (σ : Sto) (ss : List Stmt) (o : Out) : Prop :=
  ∀ (kp fz₀ fz : GMap) (ad : PySem.Str → Addr) (m : PySem.Str → Option Value) (s : Shared) (Q : Flow → Shared → Prop) (E : Value → Shared → Prop), Ok W env kp fz₀ σ fz ad m s →
    Post W env kp fz₀ s Q o → wpAny W.M A (execs ss env) Q E s
noncomputable def X1 (W : WP) (A : Around) (env : Env) (σ : Sto) (st : Stmt) (o : Out) : Prop :=
  ∀ (kp fz₀ fz : GMap) (ad : PySem.Str → Addr) (m : PySem.Str → Option Value) (s : Shared) (Q : Flow → Shared → Prop) (E : Value → Shared → Prop), Ok W env kp fz₀ σ fz ad m s →
    Post W env kp fz₀ s Q o → wpAny W.M A (exec st env) Q E s

section
variable {W : WP} {A : Around} {env : Env} {σ σ' : Sto}

theorem Ok.weaken {kp fz₀ fz : GMap} {ad : PySem.Str → Addr} {m : PySem.Str → Option Value} {s : Shared} (H : Ok W env kp fz₀ σ fz ad m s) (hs : ∀ p ∈ σ', p ∈ σ) : Ok W env kp fz₀ σ' fz ad m s :=
  { H with vars := fun x sl h => H.vars x sl (hs _ h), own := fun x ds h => H.own x ds (hs _ h), inj := fun x y ds es h h' => H.inj x y ds es (hs _ h) (hs _ h') }

theorem x_weak {ss : List Stmt} {o : Out} (hs : ∀ p ∈ σ', p ∈ σ) (h : X W A env σ' ss o) : X W A env σ ss o := fun kp fz₀ fz ad m s Q E H p => h _ _ _ _ _ _ _ _ (H.weaken hs) p
theorem x_weakO {ss : List Stmt} {σ₁ : Sto} (h : X W A env σ ss (.next σ₁)) (hs : ∀ p ∈ σ', p ∈ σ₁) : X W A env σ ss (.next σ') := fun kp fz₀ fz ad m s Q E H p => h _ _ _ _ _ _ _ _ H fun fz ad m h tk H' => p _ _ _ _ _ (H'.weaken hs)
theorem x1_weak {ss : Stmt} {o : Out} (hs : ∀ p ∈ σ', p ∈ σ) (h : X1 W A env σ' ss o) : X1 W A env σ ss o := fun kp fz₀ fz ad m s Q E H p => h _ _ _ _ _ _ _ _ (H.weaken hs) p

theorem x_nil : X W A env σ [] (.next σ) := fun kp fz₀ fz ad m s Q E H p => wpAny_execs_nil (p _ _ _ s.heap s.toks H)
theorem x_cons {st : Stmt} {rest : List Stmt} {σ₁ : Sto} {o : Out} (h : X1 W A env σ st (.next σ₁)) (r : X W A env σ₁ rest o) : X W A env σ (st :: rest) o := by
  intro kp fz₀ fz ad m s Q E H p
  refine wpAny_execs_cons (h _ _ _ _ _ _ _ _ H fun fz ad m h tk H' => ?_)
  exact r _ _ _ _ _ _ _ _ H' p.moved
theorem x_stop {st : Stmt} {rest : List Stmt} {d : D} (h : X1 W A env σ st (.ret d)) : X W A env σ (st :: rest) (.ret d) := by
  intro kp fz₀ fz ad m s Q E H p
  exact wpAny_execs_cons (h _ _ _ _ _ _ _ _ H fun v fz h tk F hv => p v fz h tk F hv)

theorem x_if {t : PySem.Expr} {body orelse : List Stmt} {pos : Pos} {b : Bool} {o : Out} (h : Tr W A env σ t b) (h₁ : b = true → X W A env σ body o) (h₂ : b = false → X W A env σ orelse o) : X1 W A env σ (.If t body orelse pos) o := by
  intro kp fz₀ fz ad m s Q E H p
  refine wpAny_If (h _ _ _ _ _ _ _ _ H fun fz' s' x => ?_)
  cases b with
  | true => exact h₁ rfl _ _ _ _ _ _ _ _ (H.ext x) (p.keeps x.keeps)
  | false => exact h₂ rfl _ _ _ _ _ _ _ _ (H.ext x) (p.keeps x.keeps)
theorem x_ret {e : PySem.Expr} {pos : Pos} {d : D} (h : Ev W A env σ e d) : X1 W A env σ (.Return (some e) pos) (.ret d) := by
  intro kp fz₀ fz ad m s Q E H p
  refine wpAny_Return_some (h _ _ _ _ _ _ _ _ H fun v fz' s' x hv => ?_)
  obtain ⟨h', tk, e', _⟩ := id x.keeps
  have F := (H.ext x).fin
  subst e'
  exact p v fz' h' tk F hv

/-- the store with x told anew -/
noncomputable def upd (σ : Sto) (x : PySem.Str) (sl : Slot) : Sto := (x, sl) :: σ.filter fun p => !decide (p.1 = x)
theorem mem_upd {x y : PySem.Str} {sl t : Slot} (h : (y, t) ∈ upd σ x sl) : (y = x ∧ t = sl) ∨ (y ≠ x ∧ (y, t) ∈ σ) := by
  rcases List.mem_cons.mp h with e | h
  · exact .inl ⟨congrArg Prod.fst e, congrArg Prod.snd e⟩
  · have := List.mem_filter.mp h
    exact .inr ⟨by simpa using this.2, this.1⟩
theorem upd_self {x : PySem.Str} {sl : Slot} : (x, sl) ∈ upd σ x sl := .head _
theorem upd_of {x y : PySem.Str} {sl t : Slot} (hn : y ≠ x) (h : (y, t) ∈ σ) : (y, t) ∈ upd σ x sl := .tail _ (List.mem_filter.mpr ⟨h, by simpa using hn⟩)

theorem Look.sameBut {m m' : PySem.Str → Option Value} {h h' : Heap} {x y : PySem.Str} {v : Value} (l : Look env m h y v) (hn : y ≠ x) (hm : ∀ z, z ≠ x → m' z = m z) (hc : ∀ c, env.cells.lookup y = some c → h'.get? c = h.get? c) : Look env m' h' y v := by
  rcases l with ⟨a, b⟩ | ⟨a, c, b, o, d, e⟩
  · exact .inl ⟨a, (hm y hn).trans b⟩
  · exact .inr ⟨a, c, b, o, (hc c b).trans d, e⟩

/-- one object, of the frame's own, is another one now -/
theorem Ok.changed {kp fz₀ fz : GMap} {ad : PySem.Str → Addr} {m m' : PySem.Str → Option Value} {s : Shared} {a : Addr} {h' : Heap} {tk : Nat} (H : Ok W env kp fz₀ σ fz ad m s)
    (hs : Heap.SameBut a s.heap h') (hk : kp a = none) (hf : fz a = none) (hn : h'.Ns env.locals m') (hcell : ∀ x c, env.cells.lookup x = some c → ∃ v, h'.IsCell c v)
    (hv : ∀ x sl, (x, sl) ∈ σ' → Holds env fz ad m' h' x sl) (ho : ∀ x ds, (x, Slot.own ds) ∈ σ' → ∃ es, (x, Slot.own es) ∈ σ) : Ok W env kp fz₀ σ' fz ad m' { s with heap := h', toks := tk } where
  wf := H.wf
  kept := fun b o e => (hs.2 b (fun q => by subst q; rw [hk] at e; cases e)).trans (H.kept b o e)
  fzIn := fun b o e => (hs.2 b (fun q => by subst q; rw [hf] at e; cases e)).trans (H.fzIn b o e)
  fz0 := H.fz0
  fzNew := H.fzNew
  ns := hn
  nsK := H.nsK
  nsF := H.nsF
  cells := hcell
  cinj := H.cinj
  cfree := H.cfree
  vars := hv
  own := fun x ds h => let ⟨es, h'⟩ := ho x ds h; H.own x es h'
  inj := fun x y ds es h h' e => let ⟨ds', h1⟩ := ho x ds h; let ⟨es', h2⟩ := ho y es h'; H.inj x y ds' es' h1 h2 e

theorem Ok.objOwn {kp fz₀ fz : GMap} {ad : PySem.Str → Addr} {m : PySem.Str → Option Value} {s : Shared} (H : Ok W env kp fz₀ σ fz ad m s) {x : PySem.Str} {ds : List D} (h : (x, Slot.own ds) ∈ σ) : ∃ us n, s.heap.get? (ad x) = some { cls := .type "list", data := .seq (List.toArray us) n } ∧ VHs fz us ds := (H.vars _ _ h).2.2

theorem Ok.ownNotLoc {kp fz₀ fz : GMap} {ad : PySem.Str → Addr} {m : PySem.Str → Option Value} {s : Shared} (H : Ok W env kp fz₀ σ fz ad m s) {x : PySem.Str} {ds : List D} (h : (x, Slot.own ds) ∈ σ) : ad x ≠ env.locals := by
  intro e
  obtain ⟨us, n, g, _⟩ := H.objOwn h
  obtain ⟨o, es, ep, ho, hd, _⟩ := H.ns
  rw [e, ho] at g
  rw [Option.some.inj g] at hd
  cases hd
theorem Ok.cellNotLoc {kp fz₀ fz : GMap} {ad : PySem.Str → Addr} {m : PySem.Str → Option Value} {s : Shared} (H : Ok W env kp fz₀ σ fz ad m s) {x : PySem.Str} {c : Addr} (h : env.cells.lookup x = some c) : c ≠ env.locals := by
  intro e
  obtain ⟨v, o', g, hd'⟩ := H.cells _ _ h
  obtain ⟨o, es, ep, ho, hd, _⟩ := H.ns
  rw [e, ho] at g
  rw [Option.some.inj g, hd'] at hd
  cases hd
theorem Ok.ownNotCell {kp fz₀ fz : GMap} {ad : PySem.Str → Addr} {m : PySem.Str → Option Value} {s : Shared} (H : Ok W env kp fz₀ σ fz ad m s) {x y : PySem.Str} {ds : List D} {c : Addr} (h : (x, Slot.own ds) ∈ σ) (h' : env.cells.lookup y = some c) : ad x ≠ c := by
  intro e
  obtain ⟨us, n, g, _⟩ := H.objOwn h
  obtain ⟨v, o', g', hd'⟩ := H.cells _ _ h'
  rw [e, g'] at g
  rw [Option.some.inj g] at hd'
  cases hd'

/-- a name is stored -/
theorem wp_store {n : Nat} {x : PySem.Str} {v : Value} {d : D} {kp fz₀ fz : GMap} {ad : PySem.Str → Addr} {m : PySem.Str → Option Value} {s : Shared} {Q : Unit → Shared → Prop} {E : Value → Shared → Prop} (F : FOK n A env) (H : Ok W env kp fz₀ σ fz ad m s)
    (hx : env.kindOf x = some .local ∨ (env.kindOf x = some .cell ∧ ∃ c, env.cells.lookup x = some c ∧ kp c = none ∧ fz c = none)) (hv : VH fz v d)
    (k : ∀ m' h' tk, Ok W env kp fz₀ (upd σ x (.val d)) fz ad m' { s with heap := h', toks := tk } → Q () { s with heap := h', toks := tk }) : wpAny W.M A (storeName env x v) Q E s := by
  rcases hx with hx | ⟨hx, c, hc, hck, hcf⟩
  · refine wpAny_storeName_local hx H.ns (fun h' hn hs => k (fun y => if y = x then some v else m y) _ _ ?_) (by show (env.scope.kind == .class || (env.scope.kind == .module && env.locals != env.globals)) = false; rw [F.hk]; rfl)
    refine H.changed hs H.nsK H.nsF hn (fun y c h => ?_) (fun y sl h => ?_) (fun y ds h => ?_)
    · obtain ⟨v', o, g, q⟩ := H.cells y c h
      exact ⟨v', o, (hs.2 c (H.cellNotLoc h)).trans g, q⟩
    · rcases mem_upd h with ⟨rfl, rfl⟩ | ⟨hn', h⟩
      · exact ⟨v, .inl ⟨hx, by simp⟩, hv⟩
      · have hl := H.vars _ _ h
        cases sl with
        | val d' => obtain ⟨v', l, hv'⟩ := hl; exact ⟨v', Look.sameBut l hn' (fun z hz => by simp [hz]) (fun c hc => hs.2 c (H.cellNotLoc hc)), hv'⟩
        | own ds => obtain ⟨a, b, us, n, g, q⟩ := hl; exact ⟨a, by simp [hn', b], us, n, (hs.2 _ (H.ownNotLoc h)).trans g, q⟩
    · rcases mem_upd h with ⟨_, e⟩ | ⟨_, h⟩
      · cases e
      · exact ⟨ds, h⟩
  · obtain ⟨v₀, hv₀⟩ := H.cells _ _ hc
    refine wpAny_storeName_cell F.hk hx hc hv₀ (fun h' hc' hs => k m h' s.toks ?_)
    refine H.changed hs hck hcf (H.ns.sameBut hs (H.cellNotLoc hc).symm) (fun y c' h => ?_) (fun y sl h => ?_) (fun y ds h => ?_)
    · by_cases e : c' = c
      · subst e; exact ⟨_, hc'⟩
      · obtain ⟨v', o, g, q⟩ := H.cells y c' h
        exact ⟨v', o, (hs.2 c' e).trans g, q⟩
    · rcases mem_upd h with ⟨rfl, rfl⟩ | ⟨hn', h⟩
      · exact ⟨v, .inr ⟨.inl hx, c, hc, hc'⟩, hv⟩
      · have hl := H.vars _ _ h
        cases sl with
        | val d' => obtain ⟨v', l, hv'⟩ := hl; exact ⟨v', Look.sameBut l hn' (fun z hz => rfl) (fun c' hc'' => hs.2 c' fun e => hn' (H.cinj _ _ _ hc'' (e ▸ hc))), hv'⟩
        | own ds => obtain ⟨a, b, us, n, g, q⟩ := hl; exact ⟨a, b, us, n, (hs.2 _ (H.ownNotCell h hc)).trans g, q⟩
    · rcases mem_upd h with ⟨_, e⟩ | ⟨_, h⟩
      · cases e
      · exact ⟨ds, h⟩

/-- names that may be stored -/
noncomputable def Stor (env : Env) (x : PySem.Str) : Prop := env.kindOf x = some .local

theorem x_assign {n : Nat} {x : PySem.Str} {e : PySem.Expr} {px pos : Pos} {d : D} (F : FOK n A env) (h : Ev W A env σ e d) (hx : env.kindOf x = some .local) (hsw : swapsWith e (some (.Name x px)) pos.line env = pure false := by rfl) :
    X1 W A env σ (.Assign [.Name x px] e pos) (.next (upd σ x (.val d))) := by
  intro kp fz₀ fz ad m s Q E H p
  refine wpAny_Assign_Name (h _ _ _ _ _ _ _ _ H fun v fz' s' x' hv => ?_) hsw
  refine wp_store F (H.ext x') (.inl hx) hv fun m' h' tk H' => ?_
  obtain ⟨h'', tk'', e', _⟩ := id x'.keeps
  subst e'
  exact p _ _ _ _ _ H'

/-- a fresh list under a name -/
theorem Ok.setOwn {kp fz₀ fz : GMap} {ad : PySem.Str → Addr} {m : PySem.Str → Option Value} {s : Shared} {x : PySem.Str} {a : Addr} {us : List Value} {nn : Nat} {ds : List D} {h' : Heap} {tk : Nat} (H : Ok W env kp fz₀ σ fz ad m s)
    (hx : env.kindOf x = some .local) (hn : h'.Ns env.locals (fun y => if y = x then some (.ref a) else m y)) (hs : Heap.SameBut env.locals s.heap h') (hk : kp a = none) (hf : fz a = none)
    (hg : s.heap.get? a = some { cls := .type "list", data := .seq us.toArray nn }) (hd : VHs fz us ds) (hnew : ∀ y es, (y, Slot.own es) ∈ σ → ad y ≠ a) : Ok W env kp fz₀ (upd σ x (.own ds)) fz (fun y => if y = x then a else ad y) (fun y => if y = x then some (.ref a) else m y) { s with heap := h', toks := tk } where
  wf := H.wf
  kept := fun b o e => (hs.2 b (fun q => by subst q; rw [H.nsK] at e; cases e)).trans (H.kept b o e)
  fzIn := fun b o e => (hs.2 b (fun q => by subst q; rw [H.nsF] at e; cases e)).trans (H.fzIn b o e)
  fz0 := H.fz0
  fzNew := H.fzNew
  ns := hn
  nsK := H.nsK
  nsF := H.nsF
  cells := fun y c h => by
    obtain ⟨v', o, g, q⟩ := H.cells y c h
    exact ⟨v', o, (hs.2 c (H.cellNotLoc h)).trans g, q⟩
  cinj := H.cinj
  cfree := H.cfree
  vars := fun y sl h => by
    have hal : a ≠ env.locals := by
      intro e
      obtain ⟨o, es, ep, ho, hd, _⟩ := H.ns
      rw [e, ho] at hg
      rw [Option.some.inj hg] at hd
      cases hd
    rcases mem_upd h with ⟨rfl, rfl⟩ | ⟨hn', h⟩
    · exact ⟨hx, by simp, us, nn, by simpa using (hs.2 a hal).trans hg, hd⟩
    · have hl := H.vars _ _ h
      cases sl with
      | val d' => obtain ⟨v', l, hv'⟩ := hl; exact ⟨v', Look.sameBut l hn' (fun z hz => by simp [hz]) (fun c hc => hs.2 c (H.cellNotLoc hc)), hv'⟩
      | own es => obtain ⟨a', b, us, n, g, q⟩ := hl; exact ⟨a', by simp [hn', b], us, n, by simpa [hn'] using (hs.2 _ (H.ownNotLoc h)).trans g, q⟩
  own := fun y es h => by
    rcases mem_upd h with ⟨rfl, e⟩ | ⟨hn', h⟩
    · simp [hk, hf]
    · simpa [hn'] using H.own y es h
  inj := fun y z es es' h h' e => by
    rcases mem_upd h with ⟨e1, _⟩ | ⟨hn1, h1⟩ <;> rcases mem_upd h' with ⟨e2, _⟩ | ⟨hn2, h2⟩
    · exact e1.trans e2.symm
    · simp [e1, hn2] at e; exact absurd e.symm (hnew _ _ h2)
    · simp [e2, hn1] at e; exact absurd e (hnew _ _ h1)
    · simp [hn1, hn2] at e; exact H.inj _ _ _ _ h1 h2 e

theorem wp_storeOwn {n : Nat} {x : PySem.Str} {a : Addr} {us : List Value} {nn : Nat} {ds : List D} {kp fz₀ fz : GMap} {ad : PySem.Str → Addr} {m : PySem.Str → Option Value} {s : Shared} {Q : Unit → Shared → Prop} {E : Value → Shared → Prop} (F : FOK n A env) (H : Ok W env kp fz₀ σ fz ad m s)
    (hx : env.kindOf x = some .local) (hk : kp a = none) (hf : fz a = none) (hg : s.heap.get? a = some { cls := .type "list", data := .seq us.toArray nn }) (hd : VHs fz us ds) (hnew : ∀ y es, (y, Slot.own es) ∈ σ → ad y ≠ a)
    (k : ∀ ad' m' h' tk, Ok W env kp fz₀ (upd σ x (.own ds)) fz ad' m' { s with heap := h', toks := tk } → Q () { s with heap := h', toks := tk }) : wpAny W.M A (storeName env x (.ref a)) Q E s := by
  refine wpAny_storeName_local hx H.ns (fun h' hn hs => k (fun y => if y = x then a else ad y) (fun y => if y = x then some (.ref a) else m y) _ _ ?_) (by show (env.scope.kind == .class || (env.scope.kind == .module && env.locals != env.globals)) = false; rw [F.hk]; rfl)
  exact H.setOwn hx hn hs hk hf hg hd hnew

theorem Ok.newAddr {kp fz₀ fz fz' : GMap} {ad : PySem.Str → Addr} {m : PySem.Str → Option Value} {s s' : Shared} {a : Addr} (H : Ok W env kp fz₀ σ fz ad m s) (x : Ext fz s fz' s') (ha : s.heap.get? a = none) : kp a = none ∧ ∀ y es, (y, Slot.own es) ∈ σ → ad y ≠ a := by
  constructor
  · cases q : kp a with
    | none => rfl
    | some o => rw [H.kept _ _ q] at ha; cases ha
  · intro y es h e
    obtain ⟨us, n, g, _⟩ := H.objOwn h
    rw [e, ha] at g; cases g

theorem x_assignF {n : Nat} {x : PySem.Str} {e : PySem.Expr} {px pos : Pos} {ds : List D} (F : FOK n A env) (h : EvF W A env σ e ds) (hx : env.kindOf x = some .local) (hsw : swapsWith e (some (.Name x px)) pos.line env = pure false := by rfl) :
    X1 W A env σ (.Assign [.Name x px] e pos) (.next (upd σ x (.own ds))) := by
  intro kp fz₀ fz ad m s Q E H p
  refine wpAny_Assign_Name (h _ _ _ _ _ _ _ _ H fun a us nn fz' s' x' ha hn hg hd => ?_) hsw
  have N := H.newAddr x' ha
  refine wp_storeOwn F (H.ext x') hx N.1 hn hg hd N.2 fun ad' m' h' tk H' => ?_
  obtain ⟨h'', tk'', e', _⟩ := id x'.keeps
  subst e'
  exact p _ _ _ _ _ H'

/-- an own list is frozen -/
theorem Ok.freeze {kp fz₀ fz : GMap} {ad : PySem.Str → Addr} {m : PySem.Str → Option Value} {s : Shared} {x : PySem.Str} {ds : List D} (H : Ok W env kp fz₀ σ fz ad m s) (hm : (x, Slot.own ds) ∈ σ) : ∃ fz', Ok W env kp fz₀ (upd σ x (.val (.lst ds))) fz' ad m s := by
  obtain ⟨hx, hmx, us, n, g, hd⟩ := H.vars _ _ hm
  obtain ⟨hk, hf⟩ := H.own _ _ hm
  refine ⟨fz.add (ad x) { cls := .type "list", data := .seq us.toArray n }, ?_⟩
  have sub : ∀ b o, fz b = some o → fz.add (ad x) { cls := .type "list", data := .seq us.toArray n } b = some o := fun b o e => GMap.add_of hf e
  have only : ∀ b o, fz.add (ad x) { cls := .type "list", data := .seq us.toArray n } b = some o → (b = ad x ∧ o = { cls := .type "list", data := .seq us.toArray n }) ∨ fz b = some o := by
    intro b o e
    unfold GMap.add at e
    by_cases hb : b = ad x
    · rw [if_pos hb] at e; exact .inl ⟨hb, (Option.some.inj e).symm⟩
    · rw [if_neg hb] at e; exact .inr e
  refine { H with fzIn := ?_, fz0 := fun b o e => sub b o (H.fz0 b o e), fzNew := ?_, nsF := ?_, vars := ?_, own := ?_, inj := ?_, cfree := fun y c h hl => ⟨(H.cfree y c h hl).1, by unfold GMap.add; rw [if_neg (fun e => H.ownNotCell hm h e.symm)]; exact (H.cfree y c h hl).2⟩ }
  · intro b o e
    rcases only b o e with ⟨rfl, rfl⟩ | e
    · exact g
    · exact H.fzIn b o e
  · intro b o e
    rcases only b o e with ⟨rfl, rfl⟩ | e
    · exact .inr hk
    · exact H.fzNew b o e
  · show fz.add _ _ env.locals = none
    unfold GMap.add; rw [if_neg (H.ownNotLoc hm).symm]; exact H.nsF
  · intro y sl h
    rcases mem_upd h with ⟨rfl, rfl⟩ | ⟨hn', h⟩
    · exact ⟨.ref (ad y), .inl ⟨hx, hmx⟩, .lst GMap.add_self rfl rfl (hd.mono sub)⟩
    · have hl := H.vars _ _ h
      cases sl with
      | val d' => obtain ⟨v', l, hv'⟩ := hl; exact ⟨v', l, hv'.mono sub⟩
      | own es => obtain ⟨a', b, us, n, g, q⟩ := hl; exact ⟨a', b, us, n, g, q.mono sub⟩
  · intro y es h
    rcases mem_upd h with ⟨_, e⟩ | ⟨hn', h⟩
    · cases e
    · refine ⟨(H.own y es h).1, ?_⟩
      show fz.add _ _ (ad y) = none
      unfold GMap.add; rw [if_neg fun e => hn' (H.inj _ _ _ _ h hm e)]; exact (H.own y es h).2
  · intro y z es es' h h' e
    rcases mem_upd h with ⟨_, q⟩ | ⟨_, h⟩
    · cases q
    · rcases mem_upd h' with ⟨_, q⟩ | ⟨_, h'⟩
      · cases q
      · exact H.inj _ _ _ _ h h' e
theorem x_freeze {x : PySem.Str} {ds : List D} {ss : List Stmt} {o : Out} (hm : (x, Slot.own ds) ∈ σ) (h : X W A env (upd σ x (.val (.lst ds))) ss o) : X W A env σ ss o := by
  intro kp fz₀ fz ad m s Q E H p
  obtain ⟨fz', H'⟩ := H.freeze hm
  exact h _ _ _ _ _ _ _ _ H' p
theorem x1_freeze {x : PySem.Str} {ds : List D} {st : Stmt} {o : Out} (hm : (x, Slot.own ds) ∈ σ) (h : X1 W A env (upd σ x (.val (.lst ds))) st o) : X1 W A env σ st o := by
  intro kp fz₀ fz ad m s Q E H p
  obtain ⟨fz', H'⟩ := H.freeze hm
  exact h _ _ _ _ _ _ _ _ H' p

/-- an own list is turned in place -/
theorem Ok.turnOwn {kp fz₀ fz : GMap} {ad : PySem.Str → Addr} {m : PySem.Str → Option Value} {s : Shared} {x : PySem.Str} {ds es : List D} {us : List Value} {nn : Nat} {h' : Heap} {tk : Nat} (H : Ok W env kp fz₀ σ fz ad m s) (hm : (x, Slot.own ds) ∈ σ)
    (hs : Heap.SameBut (ad x) s.heap h') (hg : h'.get? (ad x) = some { cls := .type "list", data := .seq us.toArray nn }) (hd : VHs fz us es) : Ok W env kp fz₀ (upd σ x (.own es)) fz ad m { s with heap := h', toks := tk } := by
  obtain ⟨hx, hmx, us₀, n₀, g, _⟩ := H.vars _ _ hm
  refine H.changed hs (H.own _ _ hm).1 (H.own _ _ hm).2 (H.ns.sameBut hs (H.ownNotLoc hm).symm) (fun y c h => ?_) (fun y sl h => ?_) (fun y ds' h => ?_)
  · obtain ⟨v', o, g, q⟩ := H.cells y c h
    exact ⟨v', o, (hs.2 c (H.ownNotCell hm h).symm).trans g, q⟩
  · rcases mem_upd h with ⟨rfl, rfl⟩ | ⟨hn', h⟩
    · exact ⟨hx, hmx, us, nn, hg, hd⟩
    · have hl := H.vars _ _ h
      cases sl with
      | val d' => obtain ⟨v', l, hv'⟩ := hl; exact ⟨v', Look.sameBut (x := x) l hn' (fun z hz => rfl) (fun c' hc'' => hs.2 c' (H.ownNotCell hm hc'').symm), hv'⟩
      | own ds' => obtain ⟨a, b, us, n, g, q⟩ := hl; exact ⟨a, b, us, n, (hs.2 _ fun e => hn' (H.inj _ _ _ _ h hm e)).trans g, q⟩
  · rcases mem_upd h with ⟨rfl, _⟩ | ⟨_, h⟩
    · exact ⟨ds, hm⟩
    · exact ⟨ds', h⟩
end
end
section
section
variable {W : WP} {A : Around} {env : Env} {σ σ' : Sto}

/-- what a while does in n turns at most -/
noncomputable def WhileRun (test : Sto → Bool → Prop) (body : Sto → Out → Prop) : Nat → Sto → Out → Prop
  | 0, σ, o => ∃ σ', (∀ p ∈ σ', p ∈ σ) ∧ ((test σ' false ∧ o = .next σ') ∨ ∃ d, test σ' true ∧ body σ' (.ret d) ∧ o = .ret d)
  | n + 1, σ, o => ∃ σ', (∀ p ∈ σ', p ∈ σ) ∧ ((test σ' false ∧ o = .next σ') ∨ (∃ d, test σ' true ∧ body σ' (.ret d) ∧ o = .ret d) ∨ ∃ σ₁, test σ' true ∧ body σ' (.next σ₁) ∧ WhileRun test body n σ₁ o)
section
variable {test : Sto → Bool → Prop} {body : Sto → Out → Prop} {n : Nat} {o : Out}
theorem WhileRun.stop (t : test σ false) : WhileRun test body n σ (.next σ) := by
  cases n with
  | zero => exact ⟨σ, fun _ h => h, .inl ⟨t, rfl⟩⟩
  | succ n => exact ⟨σ, fun _ h => h, .inl ⟨t, rfl⟩⟩
theorem WhileRun.ret {d : D} (t : test σ true) (b : body σ (.ret d)) : WhileRun test body n σ (.ret d) := by
  cases n with
  | zero => exact ⟨σ, fun _ h => h, .inr ⟨d, t, b, rfl⟩⟩
  | succ n => exact ⟨σ, fun _ h => h, .inr (.inl ⟨d, t, b, rfl⟩)⟩
theorem WhileRun.next {σ₁ : Sto} (t : test σ true) (b : body σ (.next σ₁)) (r : WhileRun test body n σ₁ o) : WhileRun test body (n + 1) σ o := ⟨σ, fun _ h => h, .inr (.inr ⟨σ₁, t, b, r⟩)⟩
theorem WhileRun.weak0 (hs : ∀ p ∈ σ', p ∈ σ) (r : WhileRun test body n σ' o) : WhileRun test body n σ o := by
  cases n with
  | zero => obtain ⟨σ₂, h, r⟩ := r; exact ⟨σ₂, fun p hp => hs p (h p hp), r⟩
  | succ n => obtain ⟨σ₂, h, r⟩ := r; exact ⟨σ₂, fun p hp => hs p (h p hp), r⟩
theorem WhileRun.more : ∀ {n : Nat} {σ : Sto}, WhileRun test body n σ o → WhileRun test body (n + 1) σ o
  | 0, _, ⟨σ', h, r⟩ => ⟨σ', h, r.imp id .inl⟩
  | _ + 1, _, ⟨σ', h, r⟩ => ⟨σ', h, r.imp id fun r => r.imp id fun ⟨σ₁, t, b, r⟩ => ⟨σ₁, t, b, r.more⟩⟩
theorem WhileRun.weak (hs : ∀ p ∈ σ', p ∈ σ) (r : WhileRun test body n σ' o) : WhileRun test body (n + 1) σ o := (r.weak0 hs).more
/-- one look -/
theorem WhileRun.look (r : WhileRun test body n σ o) : ∃ σ' b, (∀ p ∈ σ', p ∈ σ) ∧ test σ' b ∧ (b = false → o = .next σ') ∧ (b = true → (∃ d, body σ' (.ret d) ∧ o = .ret d) ∨ ∃ σ₁ k, k < n ∧ body σ' (.next σ₁) ∧ WhileRun test body k σ₁ o) := by
  have key : ∀ {k : Nat} {σ' : Sto}, ((test σ' false ∧ o = .next σ') ∨ (∃ d, test σ' true ∧ body σ' (.ret d) ∧ o = .ret d) ∨ ∃ σ₁, k < n ∧ test σ' true ∧ body σ' (.next σ₁) ∧ WhileRun test body k σ₁ o) → ∃ b, test σ' b ∧ (b = false → o = .next σ') ∧ (b = true → (∃ d, body σ' (.ret d) ∧ o = .ret d) ∨ ∃ σ₁ k, k < n ∧ body σ' (.next σ₁) ∧ WhileRun test body k σ₁ o) := by
    rintro k σ' (⟨t, e⟩ | ⟨d, t, b, e⟩ | ⟨σ₁, hk, t, b, r⟩)
    · exact ⟨false, t, fun _ => e, (fun h => nomatch h)⟩
    · exact ⟨true, t, (fun h => nomatch h), fun _ => .inl ⟨d, b, e⟩⟩
    · exact ⟨true, t, (fun h => nomatch h), fun _ => .inr ⟨σ₁, k, hk, b, r⟩⟩
  cases n with
  | zero => obtain ⟨σ', h, r⟩ := r; obtain ⟨b, q⟩ := key (k := 0) (r.imp id .inl); exact ⟨σ', b, h, q⟩
  | succ n => obtain ⟨σ', h, r⟩ := r; obtain ⟨b, q⟩ := key (k := n) (r.imp id fun r => r.imp id fun ⟨σ₁, t, b, r⟩ => ⟨σ₁, Nat.lt_succ_self n, t, b, r⟩); exact ⟨σ', b, h, q⟩
end
/-- a state of the walk: kp and fz₀ stay -/
noncomputable def At (W : WP) (env : Env) (kp fz₀ : GMap) (σ : Sto) (s s' : Shared) : Prop := ∃ fz ad m h tk, s' = { s with heap := h, toks := tk } ∧ Ok W env kp fz₀ σ fz ad m s'
noncomputable def WInv (W : WP) (env : Env) (kp fz₀ : GMap) (s : Shared) (P : Nat → Sto → Prop) (k : Nat) (s' : Shared) : Prop := ∃ σ, At W env kp fz₀ σ s s' ∧ P k σ

theorem x_while {test : PySem.Expr} {body : List Stmt} {pos : Pos} {n : Nat} {o : Out} (h : WhileRun (fun σ b => Tr W A env σ test b) (fun σ o => X W A env σ body o) n σ o) : X1 W A env σ (.While test body [] pos) o := by
  intro kp fz₀ fz ad m s Q E H p
  refine wpAny_While (codeAny_whileLoop (WInv W env kp fz₀ s fun k σ => WhileRun (fun σ b => Tr W A env σ test b) (fun σ o => X W A env σ body o) k σ o) ?_ n ⟨σ, ⟨fz, ad, m, s.heap, s.toks, rfl, H⟩, h⟩)
  rintro k s' ⟨σ₁, ⟨fz₁, ad₁, m₁, h₁, tk₁, rfl, H₁⟩, r⟩
  obtain ⟨σ', b, hs, t, r1, r2⟩ := r.look
  replace H₁ := H₁.weaken hs
  refine t _ _ _ _ _ _ _ _ H₁ fun fz' s' x => ?_
  obtain ⟨h', tk', e, _⟩ := id x.keeps
  have H₂ := H₁.ext x
  subst e
  clear t r x H₁
  cases b with
  | false =>
    cases r1 rfl
    exact wpAny_execs_nil (p _ _ _ _ _ H₂)
  | true =>
    rcases r2 rfl with ⟨d, b, rfl⟩ | ⟨σ₂, j, hj, b, r⟩
    · exact b _ _ _ _ _ _ _ _ H₂ fun v fz h tk F hv => p v fz h tk F hv
    · exact b _ _ _ _ _ _ _ _ H₂ fun fz ad m h tk H₃ => ⟨j, hj, σ₂, ⟨fz, ad, m, h, tk, rfl, H₃⟩, r⟩

/-- a map over another -/
noncomputable def GMap.ov (kp g : GMap) : GMap := fun b => (g b).or (kp b)
theorem GMap.ov_none {kp g : GMap} {b : Addr} (h : g b = none) : kp.ov g b = kp b := by unfold GMap.ov; rw [h]; rfl
theorem GMap.ov_some {kp g : GMap} {b : Addr} {o : Obj} (h : g b = some o) : kp.ov g b = some o := by unfold GMap.ov; rw [h]; rfl
theorem GMap.ov_eq {kp g : GMap} {b : Addr} {o : Obj} (h : kp.ov g b = some o) : g b = some o ∨ (g b = none ∧ kp b = some o) := by
  cases q : g b with
  | none => rw [GMap.ov_none q] at h; exact .inr ⟨rfl, h⟩
  | some o' => rw [GMap.ov_some q] at h; cases h; exact .inl rfl
theorem GMap.ov_off {kp g : GMap} {b : Addr} (h : kp.ov g b = none) : g b = none ∧ kp b = none := by
  cases q : g b with
  | none => rw [GMap.ov_none q] at h; exact ⟨rfl, h⟩
  | some o' => rw [GMap.ov_some q] at h; cases h
/-- apart -/
noncomputable def Dis (g kp : GMap) : Prop := ∀ b o, kp b = some o → g b = none
theorem Dis.flip {g kp : GMap} (h : Dis g kp) {b : Addr} {o : Obj} (e : g b = some o) : kp b = none := by
  cases q : kp b with
  | none => rfl
  | some o' => rw [h b o' q] at e; cases e
noncomputable def OffEnv (g : GMap) (env : Env) : Prop := g env.locals = none ∧ ∀ x c, env.cells.lookup x = some c → g c = none
/-- objects that this heap knows nothing of -/
noncomputable def New (g : GMap) (h : Heap) : Prop := ∀ b o, h.get? b = some o → g b = none
theorem New.dis {g kp : GMap} {h : Heap} (n : New g h) (k : ∀ b o, kp b = some o → h.get? b = some o) : Dis g kp := fun b o e => n b o (k b o e)

theorem Ok.offNew {kp fz₀ fz g : GMap} {ad : PySem.Str → Addr} {m : PySem.Str → Option Value} {s : Shared} (H : Ok W env kp fz₀ σ fz ad m s) (n : New g s.heap) : OffEnv g env :=
  ⟨let ⟨o, _, _, ho, _⟩ := H.ns; n _ o ho, fun x c h => let ⟨_, o, ho, _⟩ := H.cells x c h; n _ o ho⟩
theorem Ok.enter {kp fz₀ fz g : GMap} {ad : PySem.Str → Addr} {m : PySem.Str → Option Value} {s : Shared} {h' : Heap} {tk : Nat} (H : Ok W env kp fz₀ σ fz ad m s) (keep : ∀ b o, s.heap.get? b = some o → h'.get? b = some o) (n : New g s.heap) (hg : ∀ b o, g b = some o → h'.get? b = some o) : Ok W env (kp.ov g) fz σ fz ad m { s with heap := h', toks := tk } := by
  have H' := H.ext (Ext.heap (t := tk) H.fzIn keep)
  have of := H.offNew n
  refine { H' with wf := H.wf.mono fun b o e => (GMap.ov_none (n b o (H.kept b o e))).trans e, kept := fun b o e => (GMap.ov_eq e).elim (hg b o) fun ⟨_, e⟩ => H'.kept b o e, fz0 := fun _ _ e => e, fzNew := fun _ _ e => .inl e, nsK := (GMap.ov_none of.1).trans H.nsK, own := fun y es h => ⟨?_, (H'.own y es h).2⟩, cfree := fun x c h hl => ⟨(GMap.ov_none (of.2 x c h)).trans (H.cfree x c h hl).1, (H'.cfree x c h hl).2⟩ }
  obtain ⟨us, nn, ho, _⟩ := H.objOwn h
  exact (GMap.ov_none (n _ _ ho)).trans (H.own y es h).1

/-- the objects on top turn, new ones freeze -/
theorem Ok.turn' {kp fz₀ fz fz₂ g g' : GMap} {ad : PySem.Str → Addr} {m : PySem.Str → Option Value} {s : Shared} {h' : Heap} {tk : Nat} (H : Ok W env (kp.ov g) fz₀ σ fz ad m s) (hwf : WF W kp) (d1 : Dis g kp) (d0 : Dis g fz₀) (of : OffEnv g env) (dom : ∀ b, g b = none → g' b = none)
    (keep : ∀ b o, g b = none → s.heap.get? b = some o → h'.get? b = some o) (hg : ∀ b o, g' b = some o → h'.get? b = some o) (hs : ∀ b o, fz b = some o → fz₂ b = some o) (hnew : ∀ b o, fz₂ b = some o → fz b = some o ∨ s.heap.get? b = none) (hin : ∀ b o, fz₂ b = some o → h'.get? b = some o) : Ok W env (kp.ov g') fz₀ σ fz₂ ad m { s with heap := h', toks := tk } := by
  have off : ∀ b, kp.ov g b = none → kp.ov g' b = none := fun b h => (GMap.ov_none (dom b (GMap.ov_off h).1)).trans (GMap.ov_off h).2
  have ow : ∀ y es, (y, Slot.own es) ∈ σ → g (ad y) = none := fun y es h => (GMap.ov_off (H.own y es h).1).1
  have nt : ∀ b o, s.heap.get? b = some o → fz b = none → fz₂ b = none := fun b o e f => by
    cases q : fz₂ b with
    | none => rfl
    | some o' => rcases hnew b o' q with h | h
                 · rw [f] at h; cases h
                 · rw [e] at h; cases h
  refine { wf := hwf.mono fun b o e => (GMap.ov_none (dom b (d1 b o e))).trans e, kept := fun b o e => (GMap.ov_eq e).elim (hg b o) fun ⟨_, e⟩ => keep b o (d1 b o e) (H.kept b o ((GMap.ov_none (d1 b o e)).trans e)), fzIn := hin, fz0 := fun b o e => hs b o (H.fz0 b o e), fzNew := fun b o e => (hnew b o e).elim (fun e => (H.fzNew b o e).imp id (off b)) fun h => .inr (off b ?_), ns := H.ns.at' fun o e => keep _ _ of.1 e, nsK := off _ H.nsK, nsF := let ⟨o, _, _, ho, _⟩ := H.ns; nt _ o ho H.nsF, cells := ?_, cinj := H.cinj, cfree := fun x c h hl => ⟨off _ (H.cfree x c h hl).1, let ⟨_, o, ho, _⟩ := H.cells x c h; nt _ o ho (H.cfree x c h hl).2⟩, vars := ?_, own := fun y es h => ⟨off _ (H.own y es h).1, let ⟨_, _, ho, _⟩ := H.objOwn h; nt _ _ ho (H.own y es h).2⟩, inj := H.inj }
  · cases q : kp.ov g b with
    | none => rfl
    | some o' => rw [H.kept b o' q] at h; cases h
  · intro x c h
    obtain ⟨v, o, e, q⟩ := H.cells x c h
    exact ⟨v, o, keep _ _ (of.2 x c h) e, q⟩
  · intro x sl h
    have hl := H.vars x sl h
    cases sl with
    | val d =>
      obtain ⟨v, l, hv⟩ := hl
      exact ⟨v, l.imp id fun ⟨a, c, b, o, e, q⟩ => ⟨a, c, b, o, keep _ _ (of.2 x c b) e, q⟩, hv.mono hs⟩
    | own ds =>
      obtain ⟨a, b, us, n, e, q⟩ := hl
      exact ⟨a, b, us, n, keep _ _ (ow x ds h) e, q.mono hs⟩
theorem Ok.turn {kp fz₀ fz g g' : GMap} {ad : PySem.Str → Addr} {m : PySem.Str → Option Value} {s : Shared} {h' : Heap} {tk : Nat} (H : Ok W env (kp.ov g) fz₀ σ fz ad m s) (hwf : WF W kp) (d1 : Dis g kp) (d0 : Dis g fz₀) (of : OffEnv g env) (dom : ∀ b, g b = none → g' b = none)
    (keep : ∀ b o, g b = none → s.heap.get? b = some o → h'.get? b = some o) (hg : ∀ b o, g' b = some o → h'.get? b = some o) : Ok W env (kp.ov g') fz₀ σ fz ad m { s with heap := h', toks := tk } :=
  H.turn' hwf d1 d0 of dom keep hg (fun _ _ e => e) (fun _ _ e => .inl e) fun b o e => keep b o ((H.fzNew b o e).elim (d0 b o) fun h => (GMap.ov_off h).1) (H.fzIn b o e)
theorem Ok.rebase {kp fz₀ fz : GMap} {ad : PySem.Str → Addr} {m : PySem.Str → Option Value} {s : Shared} (H : Ok W env kp fz₀ σ fz ad m s) : Ok W env kp fz σ fz ad m s := { H with fz0 := fun _ _ e => e, fzNew := fun _ _ e => .inl e }
theorem Ok.unbase {kp fz₀ fz₁ fz : GMap} {ad : PySem.Str → Addr} {m : PySem.Str → Option Value} {s : Shared} (H : Ok W env kp fz₁ σ fz ad m s) (h0 : ∀ b o, fz₀ b = some o → fz₁ b = some o) (hn : ∀ b o, fz₁ b = some o → fz₀ b = some o ∨ kp b = none) : Ok W env kp fz₀ σ fz ad m s :=
  { H with fz0 := fun b o e => H.fz0 b o (h0 b o e), fzNew := fun b o e => (H.fzNew b o e).elim (hn b o) .inr }
/-- the objects on top are forgotten -/
theorem Ok.leave {kp fz₀ fz₁ fz g : GMap} {ad : PySem.Str → Addr} {m : PySem.Str → Option Value} {s : Shared} {h' : Heap} {tk : Nat} (H : Ok W env (kp.ov g) fz₁ σ fz ad m s) (hwf : WF W kp) (d1 : Dis g kp) (d0 : Dis g fz₁) (of : OffEnv g env) (keep : ∀ b o, g b = none → s.heap.get? b = some o → h'.get? b = some o)
    (h0 : ∀ b o, fz₀ b = some o → fz₁ b = some o) (hn : ∀ b o, fz₁ b = some o → fz₀ b = some o ∨ kp b = none) : Ok W env kp fz₀ σ fz ad m { s with heap := h', toks := tk } :=
  Ok.unbase (H.turn (g' := fun _ => none) hwf d1 d0 of (fun _ _ => rfl) keep (fun _ _ e => nomatch e)) h0 hn
theorem Fin.leave {kp fz₀ fz₁ fz g : GMap} {s : Shared} (H : Fin (kp.ov g) fz₁ fz s) (d1 : Dis g kp) (h0 : ∀ b o, fz₀ b = some o → fz₁ b = some o) (hn : ∀ b o, fz₁ b = some o → fz₀ b = some o ∨ kp b = none) : Fin kp fz₀ fz s :=
  ⟨fun b o e => H.kept b o ((GMap.ov_none (d1 b o e)).trans e), H.fzIn, fun b o e => H.fz0 b o (h0 b o e), fun b o e => (H.fzNew b o e).elim (hn b o) fun h => .inr (GMap.ov_off h).2⟩

/-- what stands behind an item's coming -/
noncomputable def Go (W : WP) (A : Around) (lo : Option PySem.Expr) (I : Addr) (v : Value) (Q : Shared → Prop) (E : Value → Shared → Prop) (s : Shared) : Prop := match lo with
  | none => Q s
  | some t => wpAny W.M A (letOwnedTupleGo t (.ref I) v) (fun _ => Q) E s
noncomputable def Nxt (W : WP) (A : Around) (lo : Option PySem.Expr) (I : Addr) (QN : Shared → Prop) (QS : Value → Shared → Prop) (E : Value → Shared → Prop) (s : Shared) : Prop :=
  wpAny W.M A (pyNext (.ref I)) (fun r s₁ => match r with | none => QN s₁ | some v => Go W A lo I v (QS v) E s₁) E s
/-- an iterator with objects of its own gives these -/
noncomputable def Gen (W : WP) (A : Around) (lo : Option PySem.Expr) (I : Addr) (fz₁ : GMap) : List D → GMap → Prop
  | [], g => ∀ (fz : GMap) (s : Shared) (QN : Shared → Prop) (QS E : Value → Shared → Prop), (∀ b o, fz₁ b = some o → fz b = some o) → FzIn fz s → FzIn g s → Dis g fz →
      (∀ h' tk', (∀ b o, g b = none → s.heap.get? b = some o → h'.get? b = some o) → QN { s with heap := h', toks := tk' }) → Nxt W A lo I QN QS E s
  | d :: ds, g => ∀ (fz : GMap) (s : Shared) (QN : Shared → Prop) (QS E : Value → Shared → Prop), (∀ b o, fz₁ b = some o → fz b = some o) → FzIn fz s → FzIn g s → Dis g fz →
      (∀ v fz' g' h' tk', VH fz' v d → (∀ b o, fz b = some o → fz' b = some o) → (∀ b o, fz' b = some o → fz b = some o ∨ s.heap.get? b = none) → (∀ b o, fz' b = some o → h'.get? b = some o) → (∀ b, g b = none → g' b = none) → (∀ b o, g b = none → s.heap.get? b = some o → h'.get? b = some o) → (∀ b o, g' b = some o → h'.get? b = some o) → Gen W A lo I fz₁ ds g' → QS v { s with heap := h', toks := tk' }) → Nxt W A lo I QN QS E s
/-- what a for goes over -/
noncomputable def Iter (W : WP) (A : Around) (d : D) (ds : List D) : Prop :=
  ∀ (fz : GMap) (s : Shared) (v : Value) (Q E : Value → Shared → Prop), FzIn fz s → VH fz v d →
    (∀ I g h' tk', New g s.heap → (∀ b o, s.heap.get? b = some o → h'.get? b = some o) → (∀ b o, g b = some o → h'.get? b = some o) → (∀ s', FzIn g s' → FzIn fz s' → ∀ (QQ EE : Value → Shared → Prop), QQ (.ref I) s' → wpAny W.M A (pyIter (.ref I)) QQ EE s') → Gen W A none I fz ds g → Q (.ref I) { s with heap := h', toks := tk' }) →
    wpAny W.M A (pyIter v) Q E s

noncomputable def Asg (W : WP) (A : Around) (env : Env) (t : PySem.Expr) (d : D) (σ σ₁ : Sto) : Prop :=
  ∀ (kp fz₀ fz : GMap) (ad : PySem.Str → Addr) (m : PySem.Str → Option Value) (s : Shared) (v : Value) (Q : Unit → Shared → Prop) (E : Value → Shared → Prop), Ok W env kp fz₀ σ fz ad m s → VH fz v d →
    (∀ fz' ad' m' h' tk', Ok W env kp fz₀ σ₁ fz' ad' m' { s with heap := h', toks := tk' } → Q () { s with heap := h', toks := tk' }) → wpAny W.M A (assign t env v) Q E s

theorem asg_name {n : Nat} {x : PySem.Str} {px : Pos} {d : D} (F : FOK n A env) (hx : env.kindOf x = some .local) : Asg W A env (.Name x px) d σ (upd σ x (.val d)) := by
  intro kp fz₀ fz ad m s v Q E H hv k
  exact wpAny_assign_Name (wp_store F H (.inl hx) hv fun m' h' tk H' => k _ _ _ _ _ H')

/-- a for's run -/
noncomputable def ForRun (step : D → Sto → Out → Prop) : List D → Sto → Out → Prop
  | [], σ, o => o = .next σ
  | d :: ds, σ, o => (∃ σ₁, step d σ (.next σ₁) ∧ ForRun step ds σ₁ o) ∨ ∃ r, step d σ (.ret r) ∧ o = .ret r
theorem ForRun.nil {step : D → Sto → Out → Prop} : ForRun step [] σ (.next σ) := rfl
theorem ForRun.next {step : D → Sto → Out → Prop} {d : D} {ds : List D} {σ₁ : Sto} {o : Out} (h : step d σ (.next σ₁)) (r : ForRun step ds σ₁ o) : ForRun step (d :: ds) σ o := .inl ⟨σ₁, h, r⟩
theorem ForRun.ret {step : D → Sto → Out → Prop} {d r : D} {ds : List D} (h : step d σ (.ret r)) : ForRun step (d :: ds) σ (.ret r) := .inr ⟨r, h, rfl⟩
theorem ForRun.imp {step step' : D → Sto → Out → Prop} (h : ∀ d σ o, step d σ o → step' d σ o) : ∀ {ds : List D} {σ : Sto} {o : Out}, ForRun step ds σ o → ForRun step' ds σ o := by
  intro ds
  induction ds with
  | nil => exact fun r => r
  | cons d ds ih => exact fun r => Or.imp (fun ⟨σ₁, a, r⟩ => ⟨σ₁, h _ _ _ a, ih r⟩) (fun ⟨r, a, e⟩ => ⟨r, h _ _ _ a, e⟩) r
noncomputable abbrev FStep (W : WP) (A : Around) (env : Env) (t : PySem.Expr) (body : List Stmt) (d : D) (σ : Sto) (o : Out) : Prop := ∃ σ₁, Asg W A env t d σ σ₁ ∧ X W A env σ₁ body o

/-- what a loop over an iterator knows -/
noncomputable def FInv (W : WP) (A : Around) (lo : Option PySem.Expr) (env : Env) (kp fz₁ g₀ : GMap) (I : Addr) (s : Shared) (P : List D → Sto → Prop) (k : Nat) (s' : Shared) : Prop :=
  ∃ es σ g, k = es.length ∧ (∀ b, g₀ b = none → g b = none) ∧ Gen W A lo I fz₁ es g ∧ At W env (kp.ov g) fz₁ σ s s' ∧ P es σ
/-- one turn -/
theorem wp_turn {lo : Option PySem.Expr} {t : PySem.Expr} {body : List Stmt} {kp fz₀ fz₁ g₀ : GMap} {I : Addr} {s : Shared} {o : Out} {k : Nat} {s' : Shared} {Q : Flow → Shared → Prop} {QN : Shared → Prop} {E : Value → Shared → Prop}
    (h : FInv W A lo env kp fz₁ g₀ I s (fun es σ => ForRun (FStep W A env t body) es σ o) k s') (hwf : WF W kp) (d1 : Dis g₀ kp) (d0 : Dis g₀ fz₁) (of : OffEnv g₀ env) (h0 : ∀ b o, fz₀ b = some o → fz₁ b = some o) (hn : ∀ b o, fz₁ b = some o → fz₀ b = some o ∨ kp b = none) (p : Post W env kp fz₀ s Q o)
    (hN : ∀ s₁, Q .next s₁ → QN s₁) {QS : Value → Shared → Prop} (hS : ∀ v s₁, wpAny W.M A (assign t env v) (fun _ s₂ => wpAny W.M A (execs body env) (fun f s₃ => match f with | .next => ∃ m, m < k ∧ FInv W A lo env kp fz₁ g₀ I s (fun es σ => ForRun (FStep W A env t body) es σ o) m s₃ | .ret v => Q (.ret v) s₃ | _ => False) E s₂) E s₁ → QS v s₁) :
    Nxt W A lo I QN QS E s' := by
  obtain ⟨es, σ', g, rfl, hg0, G, ⟨fz', ad', m', h', tk', rfl, H'⟩, r⟩ := h
  have sub : ∀ {x : GMap}, Dis g₀ x → Dis g x := fun d b o e => hg0 b (d b o e)
  have ofg : OffEnv g env := ⟨hg0 _ of.1, fun x c hc => hg0 _ (of.2 x c hc)⟩
  have gIn : FzIn g { s with heap := h', toks := tk' } := fun b o e => H'.kept b o (GMap.ov_some e)
  have dz : Dis g fz' := fun b o e => (H'.fzNew b o e).elim (sub d0 b o) fun h => (GMap.ov_off h).1
  cases es with
  | nil =>
    refine G fz' _ _ _ _ H'.fz0 H'.fzIn gIn dz fun h₅ tk₅ keep => hN _ ?_
    cases r
    exact p _ _ _ h₅ tk₅ (H'.leave hwf (sub d1) (sub d0) ofg keep h0 hn)
  | cons d ds =>
    refine G fz' _ _ _ _ H'.fz0 H'.fzIn gIn dz fun v fz₂ g₂ h₂ tk₂ hv hs hnew hin hd keep hg₂ G₂ => hS _ _ ?_
    have H₂ := H'.turn' (tk := tk₂) hwf (sub d1) (sub d0) ofg hd keep hg₂ hs hnew hin
    rcases r with ⟨σ₁, ⟨σ₂, ha, hb⟩, r⟩ | ⟨r, ⟨σ₂, ha, hb⟩, rfl⟩
    · refine ha _ _ _ _ _ _ _ _ _ H₂ hv fun fz₄ ad₄ m₄ h₄ tk₄ H₄ => ?_
      exact hb _ _ _ _ _ _ _ _ H₄ fun fz₅ ad₅ m₅ h₅ tk₅ H₅ => ⟨ds.length, Nat.lt_succ_self _, ds, σ₁, g₂, rfl, fun b e => hd b (hg0 b e), G₂, ⟨_, _, _, h₅, tk₅, rfl, H₅⟩, r⟩
    · refine ha _ _ _ _ _ _ _ _ _ H₂ hv fun fz₄ ad₄ m₄ h₄ tk₄ H₄ => ?_
      exact hb _ _ _ _ _ _ _ _ H₄ fun v fz₅ h₅ tk₅ F₅ hv₅ => p v fz₅ h₅ tk₅ (F₅.leave (fun b o e => hd b (sub d1 b o e)) h0 hn) hv₅
theorem x_for {t iter : PySem.Expr} {body : List Stmt} {pos : Pos} {d : D} {ds : List D} {o : Out} (he : Ev W A env σ iter d) (hi : Iter W A d ds)
    (h : ForRun (FStep W A env t body) ds σ o) (hs : ∀ x, foldedSetIterable iter env x = pure x := by intro _; rfl) (ht : ∀ it v, letOwnedTupleGo t it v = pure () := by intro _ _; rfl) :
    X1 W A env σ (.For t iter body [] pos) o := by
  intro kp fz₀ fz ad m s Q E H p
  refine wpAny_For (he _ _ _ _ _ _ _ _ H fun v fz₁ s₁ x₁ hv => hi _ _ _ _ _ x₁.inH hv fun I g h₂ tk₂ n hk₂ hg₂ _ G => ?_) hs
  have H₁ := H.ext x₁
  have H₂ := H₁.enter (tk := tk₂) hk₂ n hg₂
  obtain ⟨h₁, tk₁, e₁, _⟩ := id x₁.keeps
  subst e₁
  refine codeAny_forLoop (FInv W A none env kp fz₁ g I s fun es σ => ForRun (FStep W A env t body) es σ o) (fun k s' hk => ?_) ds.length ⟨ds, σ, g, rfl, fun _ e => e, G, ⟨_, _, _, h₂, tk₂, rfl, H₂⟩, h⟩ (fun v => ht _ v)
  exact wp_turn hk H.wf (n.dis H₁.kept) (n.dis x₁.inH) (H₁.offNew n) H₁.fz0 H₁.fzNew p (fun s₁ q => wpAny_execs_nil q) fun v s₁ q => wpAny_mono q (fun _ s₂ q => wpAny_mono q (fun f s₃ q => by cases f <;> first | exact q | exact q.elim) fun _ _ e => e) fun _ _ e => e

/-- what the library's iterators are -/
structure IterOk (W : WP) (A : Around) (I : Addr) (fp wr : List Addr) (n : Nat) (P : Nat → Value → Prop) (St : Nat → Heap → Prop) (fz : GMap) (ds : List D) : Prop where
  walks : Walks W.prog W.w A I fp wr n P St
  len : n = ds.length
  wr : ∀ b ∈ wr, b = I
  fp : ∀ b ∈ fp, b = I ∨ ∃ o, fz b = some o
  item : ∀ i v, i < n → P i v → ∃ d, ds[i]? = some d ∧ VH fz v d
  has : ∀ i h, St i h → ∃ o, h.get? I = some o
noncomputable def one (I : Addr) (o : Obj) : GMap := fun b => if b = I then some o else none
theorem one_self {I : Addr} {o : Obj} : one I o I = some o := if_pos rfl
theorem one_off {I b : Addr} {o : Obj} (h : b ≠ I) : one I o b = none := if_neg h
theorem one_eq {I b : Addr} {o q : Obj} (h : one I o b = some q) : b = I ∧ q = o := by
  by_cases e : b = I
  · rw [e, one_self] at h; exact ⟨e, (Option.some.inj h).symm⟩
  · rw [one_off e] at h; cases h
theorem one_ne {I b : Addr} {o : Obj} (h : one I o b = none) : b ≠ I := fun e => by rw [e, one_self] at h; cases h
theorem gen_walks {I : Addr} {fp wr : List Addr} {n : Nat} {P : Nat → Value → Prop} {St : Nat → Heap → Prop} {fz₁ : GMap} {ds : List D} (K : IterOk W A I fp wr n P St fz₁ ds) : ∀ (k i : Nat) (h : Heap) (oI : Obj), i + k = n → St i h → h.get? I = some oI → (∀ b o, fz₁ b = some o → h.get? b = some o) → Gen W A none I fz₁ (ds.drop i) (one I oI) := by
  have fr : ∀ {i h oI fz} {s : Shared}, St i h → h.get? I = some oI → (∀ b o, fz₁ b = some o → h.get? b = some o) → (∀ b o, fz₁ b = some o → fz b = some o) → FzIn fz s → FzIn (one I oI) s → St i s.heap := by
    intro i h oI fz s st hI hf hs hz hg
    refine K.walks.frame _ _ _ st fun b hb q e => ?_
    rcases K.fp b hb with rfl | ⟨o, ho⟩
    · rw [hI] at e; cases e; exact hg _ _ one_self
    · rw [hf b o ho] at e; cases e; exact hz _ _ (hs _ _ ho)
  intro k
  induction k with
  | zero =>
    intro i h oI hn st hI hf
    obtain rfl : i = n := hn
    rw [List.drop_eq_nil_of_le (Nat.le_of_eq K.len.symm)]
    intro fz s QN QS E hs hz hg dz kont
    exact K.walks.done _ _ _ (fr st hI hf hs hz hg) fun h₃ tk₃ keep => kont h₃ tk₃ fun b o e q => keep b o (fun hw => one_ne e (K.wr b hw)) q
  | succ k ih =>
    intro i h oI hn st hI hf
    have hlt : i < n := by walk_at "lx"
    rw [List.drop_eq_getElem_cons (by rw [← K.len]; exact hlt)]
    intro fz s QN QS E hs hz hg dz kont
    refine K.walks.item i _ _ _ hlt (fr st hI hf hs hz hg) fun v h₃ tk₃ hP st₃ keep => ?_
    obtain ⟨dv, hdv, hvv⟩ := K.item i v hlt hP
    obtain ⟨oI₃, hoI₃⟩ := K.has _ _ st₃
    have keep' : ∀ b o, one I oI b = none → s.heap.get? b = some o → h₃.get? b = some o := fun b o e q => keep b o (fun hw => one_ne e (K.wr b hw)) q
    rw [List.getElem?_eq_getElem (by rw [← K.len]; exact hlt)] at hdv
    cases hdv
    exact kont v fz (one I oI₃) h₃ tk₃ (hvv.mono hs) (fun _ _ e => e) (fun _ _ e => .inl e) (fun b o e => keep' b o (dz b o e) (hz b o e)) (fun b e => one_off (one_ne e)) keep' (fun b o e => by obtain ⟨rfl, rfl⟩ := one_eq e; exact hoI₃) (ih (i + 1) h₃ oI₃ (by walk_at "lx") st₃ hoI₃ fun b o e => keep' b o (dz b o (hs b o e)) (hz b o (hs b o e)))
/-- from the library's iterators -/
theorem iter_walks {I : Addr} {fp wr : List Addr} {n : Nat} {P : Nat → Value → Prop} {St : Nat → Heap → Prop} {fz : GMap} {ds : List D} {s : Shared} {h' : Heap} {tk' : Nat} {Q : Value → Shared → Prop} (K : IterOk W A I fp wr n P St fz ds) (st : St 0 h') (hI : s.heap.get? I = none) (hk : ∀ b o, s.heap.get? b = some o → h'.get? b = some o) (hf : FzIn fz s)
    (k : ∀ I g h' tk', New g s.heap → (∀ b o, s.heap.get? b = some o → h'.get? b = some o) → (∀ b o, g b = some o → h'.get? b = some o) → (∀ s', FzIn g s' → FzIn fz s' → ∀ (QQ EE : Value → Shared → Prop), QQ (.ref I) s' → wpAny W.M A (pyIter (.ref I)) QQ EE s') → Gen W A none I fz ds g → Q (.ref I) { s with heap := h', toks := tk' }) : Q (.ref I) { s with heap := h', toks := tk' } := by
  obtain ⟨oI, hoI⟩ := K.has _ _ st
  have hfh : ∀ b o, fz b = some o → h'.get? b = some o := fun b o e => hk b o (hf b o e)
  refine k I (one I oI) h' tk' (fun b o e => one_off fun q => by rw [q, hI] at e; cases e) hk (fun b o e => by obtain ⟨rfl, rfl⟩ := one_eq e; exact hoI) (fun s' hg hz QQ EE q => K.walks.self 0 _ _ _ (K.walks.frame _ _ _ st fun b hb o e => ?_) q) (gen_walks K n 0 h' oI (Nat.zero_add n) st hoI hfh)
  rcases K.fp b hb with rfl | ⟨o', ho'⟩
  · rw [hoI] at e; cases e; exact hg _ _ one_self
  · rw [hfh b o' ho'] at e; cases e; exact hz _ _ ho'
theorem iter_list {ds : List D} (hh : A.handled = none) : Iter W A (.lst ds) ds := by
  intro fz s v Q E hf hv k
  obtain ⟨a, o, vs, n, rfl, e, c, d, r⟩ := hv.lst_
  have hl : s.heap.IsList a vs.toArray := ⟨_, hf _ _ e, c, n, d⟩
  have hne : a ≠ s.heap.objs.size := Nat.ne_of_lt (Heap.lt_size (hf _ _ e))
  refine wpAny_pyIter_list hl ?_
  refine iter_walks (tk' := s.toks) ⟨Walks.list hh s.heap.objs.size a hne vs.toArray, by simp [r.length], fun b hb => List.mem_singleton.mp hb, ?_, ?_, ?_⟩ ⟨⟨_, Heap.get?_push_size _ rfl, rfl, rfl⟩, hl.push _⟩ (get_fresh _) (fun b o e => get_push e) hf k
  · intro b hb
    rcases List.mem_cons.mp hb with h | h
    · exact .inl h
    · rw [List.mem_singleton.mp h]; exact .inr ⟨o, e⟩
  · intro i v hi hv
    have hv' : vs[i]? = some v := by simpa using hv
    have hi' : i < ds.length := by rw [← r.length]; simpa using hi
    obtain ⟨v', h1, h2⟩ := r.get (List.getElem?_eq_getElem hi')
    rw [hv'] at h1; cases h1
    exact ⟨_, List.getElem?_eq_getElem hi', h2⟩
  · intro i h st
    obtain ⟨⟨oI, ho, _⟩, _⟩ := st
    exact ⟨oI, ho⟩

/-- the ints of a range -/
noncomputable def rngL (a c : Int) : Nat → List D
  | 0 => []
  | n + 1 => .int a :: rngL (a + c) c n
theorem rngL_length (c : Int) : ∀ (n : Nat) (a : Int), (rngL a c n).length = n
  | 0, _ => rfl
  | n + 1, a => by rw [rngL, List.length_cons, rngL_length c n]
theorem rngL_get (c : Int) : ∀ (n : Nat) (a : Int) (i : Nat), i < n → (rngL a c n)[i]? = some (.int (a + i * c))
  | 0, _, _, h => absurd h (Nat.not_lt_zero _)
  | n + 1, a, 0, _ => by simp [rngL]
  | n + 1, a, i + 1, h => by
    rw [rngL, List.getElem?_cons_succ, rngL_get c n (a + c) i (Nat.lt_of_succ_lt_succ h)]
    congr 2
    rw [Int.natCast_succ, Int.add_mul]
    walk_at "lx"

theorem iter_rng {a b c : Int} {n : Nat} (hh : A.handled = none) (hs : Builtin.Range.small a b c = true) (hn : Builtin.Range.rangeSize a b c = (n : Int)) : Iter W A (.rng a b c) (rngL a c n) := by
  intro fz s v Q E hf hv k
  obtain ⟨r, t, u, x, rfl, e⟩ := hv.rng_
  have hr : IsRange s.heap r a b c t u x := by first | exact ⟨_, hf _ _ e, rfl, rfl⟩ | exact hf _ _ e
  refine wpAny_pyIter_range hr hs ?_
  have W0 := Walks.range (prog := W.prog) (w := W.w) hh s.heap.objs.size a c n
  rw [hn]
  refine iter_walks (tk' := s.toks) ⟨W0, by rw [rngL_length], fun b hb => List.mem_singleton.mp hb, fun b hb => .inl (List.mem_singleton.mp hb), ?_, ?_⟩ ?_ (get_fresh _) (fun b o e => get_push e) hf k
  · rintro i v hi ⟨t, rfl⟩
    exact ⟨_, rngL_get c n a i hi, .int _ _⟩
  · intro i h st
    exact ⟨_, st⟩
  · refine (Heap.get?_push_size _ rfl).trans ?_
    simp
end
end
section
/-- a def, called with room for k frames -/
noncomputable def CallOk (W : WP) (k : Nat) (f : Addr) (ds : List D) (d : D) : Prop :=
  ∀ A : Around, A.handled = none → A.depth + k < recursionLimit → A.units + 16 * k < cLine → CallV W A (.ref f) ds d

theorem bindL_notin {kof : PySem.Str → Option NameKind} : ∀ (names : List PySem.Str) (vs : List Value) (m : PySem.Str → Option Value) (x : PySem.Str), x ∉ names → bindL kof (names.zip vs) m x = m x
  | [], _, _, _, _ => by simp [bindL]
  | _ :: _, [], _, _, _ => by simp [bindL]
  | n :: ns, v :: vs, m, x, h => by
    have h1 : x ≠ n := fun e => h (by simp [e])
    have h2 : x ∉ ns := fun e => h (by simp [e])
    rw [List.zip_cons_cons, bindL, bindL_notin ns vs _ x h2]
    by_cases q : kof n = some .local
    · simp [q, h1]
    · simp [q]
theorem bindC_notin {kof : PySem.Str → Option NameKind} : ∀ (names : List PySem.Str) (vs : List Value) (m : PySem.Str → Option Value) (x : PySem.Str), x ∉ names → bindC kof (names.zip vs) m x = m x
  | [], _, _, _, _ => by simp [bindC]
  | _ :: _, [], _, _, _ => by simp [bindC]
  | n :: ns, v :: vs, m, x, h => by
    have h1 : x ≠ n := fun e => h (by simp [e])
    have h2 : x ∉ ns := fun e => h (by simp [e])
    rw [List.zip_cons_cons, bindC, bindC_notin ns vs _ x h2]
    by_cases q : kof n = some .local
    · simp [q]
    · simp [q, h1]
theorem bind_get {kof : PySem.Str → Option NameKind} {fz : GMap} (names : List PySem.Str) : ∀ (vs : List Value) (ds : List D) (m cm : PySem.Str → Option Value) (x : PySem.Str) (sl : Slot), names.Nodup → VHs fz vs ds → (x, sl) ∈ names.zip (ds.map Slot.val) →
    ∃ v d, sl = .val d ∧ VH fz v d ∧ (kof x = some .local → bindL kof (names.zip vs) m x = some v) ∧ (kof x ≠ some .local → bindC kof (names.zip vs) cm x = some v) := by
  induction names with
  | nil => intro vs ds m cm x sl _ _ h; simp at h
  | cons n ns ih =>
    intro vs ds m cm x sl hn hv h
    cases ds with
    | nil => simp at h
    | cons d ds =>
      obtain ⟨v, vs, rfl, hv, r⟩ := hv.cons_
      rw [List.nodup_cons] at hn
      rw [List.map_cons, List.zip_cons_cons] at h
      rcases List.mem_cons.mp h with e | h
      · cases e
        refine ⟨v, d, rfl, hv, fun q => ?_, fun q => ?_⟩
        · rw [List.zip_cons_cons, bindL, bindL_notin _ _ _ _ hn.1]; simp [q]
        · rw [List.zip_cons_cons, bindC, bindC_notin _ _ _ _ hn.1]; simp [q]
      · rw [List.zip_cons_cons, bindL, bindC]
        exact ih vs ds _ _ x sl hn.2 r h
theorem all1 {P : List Value → Prop} (h : ∀ a, P [a]) (vs : List Value) (e : vs.length = 1) : P vs := by
  cases vs with
  | nil => cases e
  | cons a r => cases r with
    | nil => exact h a
    | cons b r => cases e
theorem all2 {P : List Value → Prop} (h : ∀ a b, P [a, b]) (vs : List Value) (e : vs.length = 2) : P vs := by
  cases vs with
  | nil => cases e
  | cons a r => exact all1 (P := fun r => P (a :: r)) (h a) r (Nat.succ.inj e)
theorem all3 {P : List Value → Prop} (h : ∀ a b c, P [a, b, c]) (vs : List Value) (e : vs.length = 3) : P vs := by
  cases vs with
  | nil => cases e
  | cons a r => exact all2 (P := fun r => P (a :: r)) (h a) r (Nat.succ.inj e)

theorem def_ok {W : WP} {k : Nat} {f : Addr} {fc : Value} {od : Option Addr} {osl : Array (Option Value)} {name qual : PySem.Str} {params : Arguments} {body : List Stmt} {scope : Scope} {dV kV doc pm cdv ct : Value} {an : Option Addr} {ds : List D} {d : D} {names : List PySem.Str}
    (hK : W.K.lookup f = some ⟨fc, od, .func (fnOf name qual params body scope dV kV doc pm an cdv ct), osl⟩) (hcd : codeIn W.K cdv qual = true)
    (hb : ∀ vs : List Value, vs.length = ds.length → bindArgs (fnOf name qual params body scope dV kV doc pm an cdv ct) ⟨vs, []⟩ = pure (names.zip vs))
    (hn : names.Nodup) (hkind : ∀ (n : Nat), ∀ x ∈ names, scope.names.lookup x = some .local ∨ (scope.names.lookup x = some .cell ∧ ((cellsFrom n scope.names []).lookup x).isSome = true)) (hl : names.length = ds.length)
    (hk : scope.kind = .function) (hco : scope.isCoroutine = false) (hgen : scope.isGenerator = false)
    (h : ∀ A L, FOK k A (envOfC qual scope L f cdv) → X W A (envOfC qual scope L f cdv) (names.zip (ds.map Slot.val)) body (.ret d)) : CallOk W (k + 1) f ds d := by
  intro A hh hd hu fz s vs Q E hwf hf hvs kont
  obtain ⟨⟨hw, Xk, T, hkk⟩, hXX⟩ := hwf
  have ho := (Xk.keeps hkk) _ _ hK
  have hcdR : s.heap.CodeRec cdv qual := codeRec_of (Xk.keeps hkk) hcd
  have hvl := hvs.length
  refine wpAny_call (codeAny_call_function (fd := fnOf name qual params body scope dV kV doc pm an cdv ct) (by walk_at "lx") ho rfl hco hgen rfl hcdR ?_)
  refine (BindsTo.of_eq (s := s) (hb vs hvl)) _ _ _ _ ?_
  refine wpAny_newFunctionEnv_cells hk ?_ ?_
  · intro x hx
    have : x.1 ∈ names := (List.of_mem_zip hx).1
    exact hkind _ _ this
  · intro env henv s₁ C
    have henv' : env = envOfC qual scope s.heap.objs.size f cdv := henv
    subst henv'
    obtain ⟨h₁, tk₁, e₁⟩ := C.toInCall.same
    have kp₁ : ∀ b o, s.heap.get? b = some o → s₁.heap.get? b = some o := C.toInCall.keep
    refine ⟨(T.keeps fun b o e => kp₁ b o (hkk b o e)).nolimit, ?_⟩
    have hL : s.heap.get? s.heap.objs.size = none := get_fresh _
    have F : FOK k (A.deeper (envOfC qual scope s.heap.objs.size f cdv)) (envOfC qual scope s.heap.objs.size f cdv) :=
      ⟨hh, hk, rfl, rfl, by show A.depth + 1 + k < _; walk_at "lx", by show A.units + 3 + 16 * k < _; walk_at "lx"⟩
    refine codeAny_func (h _ _ F (fun b => s.heap.get? b) fz fz (fun _ => 0) (bindL (envOfC qual scope s.heap.objs.size f cdv).kindOf (names.zip vs) fun _ => none) s₁ _ _ ?_ ?_)
    · refine { wf := ⟨⟨hw, Xk, T, hkk⟩, hXX⟩, kept := kp₁, fzIn := fun b o e => kp₁ b o (hf b o e), fz0 := fun _ _ e => e, fzNew := fun _ _ e => .inl e, ns := C.toInCall.ns, nsK := hL, nsF := ?_, cells := ?_, cinj := ?_, cfree := ?_, vars := ?_, own := ?_, inj := ?_ }
      · show fz s.heap.objs.size = none
        cases q : fz s.heap.objs.size with
        | none => rfl
        | some o => rw [hf _ _ q] at hL; cases hL
      · intro x c hc
        exact ⟨_, C.cell x c hc⟩
      · intro x y c hx hy
        exact name_of_addr C.apart (mem_of_lookup hx) (mem_of_lookup hy)
      · intro x c hc hl
        have hn : s.heap.get? c = none := by
          cases q : s.heap.get? c with
          | none => rfl
          | some o => exact absurd (Heap.lt_size q) (Nat.not_lt.mpr (Nat.le_of_lt hl))
        refine ⟨hn, ?_⟩
        cases q : fz c with
        | none => rfl
        | some o => rw [hf _ _ q] at hn; cases hn
      · intro x sl hx
        obtain ⟨v, d', rfl, hv, h1, h2⟩ := bind_get (kof := (envOfC qual scope s.heap.objs.size f cdv).kindOf) names vs ds (fun _ => none) (fun _ => none) x sl hn hvs hx
        refine ⟨v, ?_, hv⟩
        rcases hkind (s.heap.objs.size + 1) x (List.of_mem_zip hx).1 with a | ⟨a, b⟩
        · exact .inl ⟨a, h1 a⟩
        · obtain ⟨c, hc⟩ := Option.isSome_iff_exists.mp b
          refine .inr ⟨.inl a, c, hc, ?_⟩
          have := C.cell x c hc
          rw [h2 (by show scope.names.lookup x ≠ _; rw [a]; decide)] at this
          exact this
      · intro x es hx
        obtain ⟨v, d', e, _⟩ := bind_get (kof := (envOfC qual scope s.heap.objs.size f cdv).kindOf) names vs ds (fun _ => none) (fun _ => none) x _ hn hvs hx
        cases e
      · intro x y es es' hx
        obtain ⟨v, d', e, _⟩ := bind_get (kof := (envOfC qual scope s.heap.objs.size f cdv).kindOf) names vs ds (fun _ => none) (fun _ => none) x _ hn hvs hx
        cases e
    · intro v fz' h' tk' Fn hv
      have e₂ : ({ s₁ with heap := h', toks := tk' } : Shared) = { s with heap := h', toks := tk' } := by rw [e₁]
      rw [e₂] at Fn ⊢
      exact kont v fz' _ ⟨⟨h', tk', rfl, Fn.kept⟩, Fn.fz0, Fn.fzIn, Fn.fzNew⟩ hv

section
variable {W : WP} {A : Around} {env : Env} {σ σ' : Sto}

/-- a def's name, called -/
theorem ev_call {n k : Nat} {x : PySem.Str} {p pos : Pos} {es : List PySem.Expr} {f : Addr} {ds : List D} {d : D} {fc : Value} {od : Option Addr} {osl : Array (Option Value)} {fd : FuncData} (F : FOK n A env) (hx : env.kindOf x = some .globalImplicit) (hv : nsIn W.K mainGlobals x = some (some (.ref f)))
    (hd : (x == ("__debug__" : PySem.Str)) = false) (hK : W.K.lookup f = some ⟨fc, od, .func fd, osl⟩) (ha : Evs W A env σ es ds) (hc : CallOk W k f ds d) (hk : k ≤ n) (hne : backTo pos (starEach es env) = (match backTo pos (starEach es env) with | (_, t) :: r => (false, t) :: r | [] => []) := by rfl) (hne' : es ≠ [] := by exact List.cons_ne_nil _ _)
    (hs : ∀ e rest, es = e :: rest → starEach es env = (false, eval e env) :: starEach rest env := by (intro e rest h; cases h; rfl)) :
    Ev W A env σ (.Call (.Name x p) es [] pos) d := by
  intro kp fz₀ fz ad m s Q E H kont
  obtain ⟨⟨hw, Xk, T, hkk⟩, _⟩ := H.wf
  have kk : ∀ b o, hw.get? b = some o → s.heap.get? b = some o := fun b o e => H.kept _ _ (hkk _ _ e)
  refine Call_Name rfl (Name_function_global F.hk hx (loadGlobal_global (env := env) (show s.heap.Ns env.globals W.mg from F.hg ▸ (T.keeps kk).g) (mg_of Xk T.g hv) ?_) hd)
  cases es with
  | nil => exact absurd rfl hne'
  | cons e rest =>
    have hst := hs e rest rfl
    refine callWith_function (o := ⟨fc, od, .func fd, osl⟩) (fd := fd) ?_
    have ha' := ha pos
    rw [hst] at ha' ⊢
    refine evalArgs_plain (ha' _ _ _ _ _ _ _ _ H fun vs fz' s' x' hvs => ⟨⟨?_, rfl⟩, ?_⟩)
    · exact kGet x'.keeps ((Xk.keeps kk) _ _ hK)
    · rw [List.nil_append]
      have hh := F.hh; have hdp := F.dp; have hun := F.un
      exact hc A F.hh (by walk_at "lx") (by walk_at "lx") _ _ _ _ _ (H.ext x').heapWF x'.inH hvs fun v fz'' s'' x'' hv' => kont _ _ _ (x'.trans x'') hv'

/-- a built-in function's name, called -/
theorem ev_callB {n : Nat} {x : PySem.Str} {id : String} {p pos : Pos} {e : PySem.Expr} {rest : List PySem.Expr} {ds : List D} {d : D} (F : FOK n A env) (hx : env.kindOf x = some .globalImplicit) (hv : nsIn W.K mainGlobals x = some none) (hb : bootBuiltins x = some (.builtin id)) (hnn : x ≠ "__name__")
    (hd : (x == ("__debug__" : PySem.Str)) = false) (ha : Evs W A env σ (e :: rest) ds) (hc : CallV W A (.builtin id) ds d)
    (hs : starEach (e :: rest) env = (false, eval e env) :: starEach rest env := by rfl) (hs2 : ((backTo pos (starEach rest env)).any fun x => x.1) = false := by rfl) :
    Ev W A env σ (.Call (.Name x p) (e :: rest) [] pos) d := by
  intro kp fz₀ fz ad m s Q E H kont
  obtain ⟨⟨hw, Xk, T, hkk⟩, _⟩ := H.wf
  have kk : ∀ b o, hw.get? b = some o → s.heap.get? b = some o := fun b o e => H.kept _ _ (hkk _ _ e)
  refine Call_Name rfl (Name_function_global F.hk hx (loadGlobal_builtin (env := env) (show s.heap.Ns env.globals W.mg from F.hg ▸ (T.keeps kk).g) (mg_none_of Xk T.g hv) (show s.heap.Ns env.builtins W.mb from F.hb ▸ (T.keeps kk).b) ((T.builtins x hnn).trans hb) ?_) hd)
  refine callWith_method1 (first := []) ?_ hs hs2
  refine ha pos _ _ _ _ _ _ _ _ H fun vs fz' s' x' hvs => ?_
  rw [List.nil_append]
  exact hc _ _ _ _ _ (H.ext x').heapWF x'.inH hvs fun v fz'' s'' x'' hv' => kont _ _ _ (x'.trans x'') hv'
/-- a built-in type's name, called -/
theorem ev_callT {n : Nat} {x : PySem.Str} {T' : String} {p pos : Pos} {e : PySem.Expr} {rest : List PySem.Expr} {ds : List D} {d : D} (F : FOK n A env) (hx : env.kindOf x = some .globalImplicit) (hv : nsIn W.K mainGlobals x = some none) (hb : bootBuiltins x = some (.type T')) (hnn : x ≠ "__name__")
    (hd : (x == ("__debug__" : PySem.Str)) = false) (ha : Evs W A env σ (e :: rest) ds) (hc : CallV W A (.type T') ds d)
    (hs : starEach (e :: rest) env = (false, eval e env) :: starEach rest env := by rfl) (hs2 : ((backTo pos (starEach rest env)).any fun x => x.1) = false := by rfl) :
    Ev W A env σ (.Call (.Name x p) (e :: rest) [] pos) d := by
  intro kp fz₀ fz ad m s Q E H kont
  obtain ⟨⟨hw, Xk, T, hkk⟩, _⟩ := H.wf
  have kk : ∀ b o, hw.get? b = some o → s.heap.get? b = some o := fun b o e => H.kept _ _ (hkk _ _ e)
  refine Call_Name rfl (Name_function_global F.hk hx (loadGlobal_builtin (env := env) (show s.heap.Ns env.globals W.mg from F.hg ▸ (T.keeps kk).g) (mg_none_of Xk T.g hv) (show s.heap.Ns env.builtins W.mb from F.hb ▸ (T.keeps kk).b) ((T.builtins x hnn).trans hb) ?_) hd)
  refine PyProof.Rows.callWith_type1 ?_ hs hs2
  refine ha pos _ _ _ _ _ _ _ _ H fun vs fz' s' x' hvs => ?_
  exact hc _ _ _ _ _ (H.ext x').heapWF x'.inH hvs fun v fz'' s'' x'' hv' => kont _ _ _ (x'.trans x'') hv'

-- the built-ins
theorem cv_min {a b : Int} (hh : A.handled = none) : CallV W A (.builtin "min") [.int a, .int b] (.int (if b < a then b else a)) := by
  intro fz s vs Q E hw hf hvs k
  obtain ⟨_, _, rfl, h1, h2⟩ := hvs.two; obtain ⟨t, rfl⟩ := h1.int_; obtain ⟨u, rfl⟩ := h2.int_
  refine min_two_ints hh fun h' tk hk => ?_
  by_cases c : b < a
  · rw [if_pos c] at k ⊢; exact k _ _ _ (Ext.heap hf hk) (.int _ _)
  · rw [if_neg c] at k ⊢; exact k _ _ _ (Ext.heap hf hk) (.int _ _)
theorem cv_max {a b : Int} (hh : A.handled = none) : CallV W A (.builtin "max") [.int a, .int b] (.int (if b > a then b else a)) := by
  intro fz s vs Q E hw hf hvs k
  obtain ⟨_, _, rfl, h1, h2⟩ := hvs.two; obtain ⟨t, rfl⟩ := h1.int_; obtain ⟨u, rfl⟩ := h2.int_
  refine max_two_ints hh fun h' tk hk => ?_
  by_cases c : b > a
  · rw [if_pos c] at k ⊢; exact k _ _ _ (Ext.heap hf hk) (.int _ _)
  · rw [if_neg c] at k ⊢; exact k _ _ _ (Ext.heap hf hk) (.int _ _)
theorem cv_abs {a : Int} : CallV W A (.builtin "abs") [.int a] (.int (if a < 0 then -a else a)) := by
  intro fz s vs Q E hw hf hvs k
  obtain ⟨_, rfl, h1⟩ := hvs.one; obtain ⟨t, rfl⟩ := h1.int_; exact call_abs_int fun u tk => k _ _ _ (Ext.toks hf) (.int _ _)
theorem cv_int {a : Int} : CallV W A (.type "int") [.int a] (.int a) := by
  intro fz s vs Q E hw hf hvs k
  obtain ⟨_, rfl, h1⟩ := hvs.one; obtain ⟨t, rfl⟩ := h1.int_; exact call_int_int (k _ _ _ (Ext.refl hf) (.int _ _))
theorem cv_chr {a : Int} (h0 : 0 ≤ a) (h1 : a ≤ 1114111) : CallV W A (.builtin "chr") [.int a] (.str ⟨#[a.toNat]⟩) := by
  intro fz s vs Q E hw hf hvs k
  obtain ⟨_, rfl, h2⟩ := hvs.one; obtain ⟨t, rfl⟩ := h2.int_; exact P.chr_of_int (by simp; walk_at "lx") (k _ _ _ (Ext.toks hf) (.str _ _))
theorem cv_lenS {x : PySem.Str} (h : x.length < 2 ^ 62) : CallV W A (.builtin "len") [.str x] (.int x.length) := by
  intro fz s vs Q E hw hf hvs k
  obtain ⟨_, rfl, h1⟩ := hvs.one; obtain ⟨t, rfl⟩ := h1.str_; exact P.len_str (by walk_at "lx") (k _ _ _ (Ext.toks hf) (.int _ _))
theorem cv_lenL {xs : List D} (h : xs.length < 2 ^ 62) : CallV W A (.builtin "len") [.lst xs] (.int xs.length) := by
  intro fz s vs Q E hw hf hvs k
  obtain ⟨_, rfl, h1⟩ := hvs.one
  obtain ⟨a, us, rfl, l, r⟩ := h1.isList hf
  have := r.length
  refine PyProof.Rows.len_list l (by rw [List.size_toArray]; walk_at "lx") ?_
  rw [List.size_toArray, this]
  exact k _ _ _ (Ext.toks hf) (.int _ _)
theorem newR {fz : GMap} {s : Shared} {tk : Nat} {a b c : Int} {t u v : Tok} {Q : Value → Shared → Prop} (hf : FzIn fz s) (k : ∀ v fz' s', Ext fz s fz' s' → VH fz' v (.rng a b c) → Q v s') :
    Q (.ref s.heap.objs.size) { s with heap := s.heap.push { cls := .type "range", data := .fields #[.int a t, .int b u, .int c v] }, toks := tk } := by
  have f := (Ext.refl hf).fresh (get_fresh s.heap)
  exact k _ _ _ ((Ext.push (t := tk) hf).freeze f.1 f.2 (Heap.get?_push_size _ rfl)) (.rng GMap.add_self)
theorem cv_rng1 {b : Int} : CallV W A (.type "range") [.int b] (.rng 0 b 1) := by
  intro fz s vs Q E hw hf hvs k
  obtain ⟨_, rfl, h1⟩ := hvs.one; obtain ⟨t, rfl⟩ := h1.int_; exact call_range_1 (newR hf k)
theorem cv_rng2 {a b : Int} : CallV W A (.type "range") [.int a, .int b] (.rng a b 1) := by
  intro fz s vs Q E hw hf hvs k
  obtain ⟨_, _, rfl, h1, h2⟩ := hvs.two; obtain ⟨t, rfl⟩ := h1.int_; obtain ⟨u, rfl⟩ := h2.int_; exact call_range_2 (newR hf k)
theorem cv_rng3 {a b c : Int} (hc : c ≠ 0) (hp : Builtin.divisionGoesByPylong (b - a) c = false) : CallV W A (.type "range") [.int a, .int b, .int c] (.rng a b c) := by
  intro fz s vs Q E hw hf hvs k
  obtain ⟨_, _, _, rfl, h1, h2, h3⟩ := hvs.three; obtain ⟨t, rfl⟩ := h1.int_; obtain ⟨u, rfl⟩ := h2.int_; obtain ⟨x, rfl⟩ := h3.int_; exact call_range_3 hc (newR hf k) (.inl hp)
end
end
section
section
variable {W : WP} {A : Around} {env : Env} {σ σ' : Sto}

/-- a bound of a slice -/
noncomputable def EvP (W : WP) (A : Around) (env : Env) (σ : Sto) (e : Option PySem.Expr) (l : Option Int) : Prop :=
  ∀ (kp fz₀ fz : GMap) (ad : PySem.Str → Addr) (m : PySem.Str → Option Value) (s : Shared) (Q E : Value → Shared → Prop), Ok W env kp fz₀ σ fz ad m s →
    (∀ v fz' s', Ext fz s fz' s' → IsPart v l → Q v s') → wpAny W.M A (evalPart e env) Q E s
theorem evp_nil : EvP W A env σ none none := fun kp fz₀ fz ad m s Q E H k => wpAny_pure (k _ _ _ H.refl .none)
theorem evp_int {e : PySem.Expr} {i : Int} (h : Ev W A env σ e (.int i)) : EvP W A env σ (some e) (some i) := fun kp fz₀ fz ad m s Q E H k =>
  h _ _ _ _ _ _ _ _ H fun v fz' s' x hv => by obtain ⟨t, rfl⟩ := hv.int_; exact k _ _ _ x (.int _ _)
theorem evp_none {e : PySem.Expr} (h : Ev W A env σ e .none) : EvP W A env σ (some e) none := fun kp fz₀ fz ad m s Q E H k =>
  h _ _ _ _ _ _ _ _ H fun v fz' s' x hv => by obtain rfl := hv.none_; exact k _ _ _ x .none

theorem part_moved {v : Value} {l : Option Int} (h : IsPart v l) : IsPart v l := h

theorem ev_sliceL {value : PySem.Expr} {lo hi : Option PySem.Expr} {p pos : Pos} {xs : List D} {l u : Option Int} {ys : List D} (h : Ev W A env σ value (.lst xs)) (hl : EvP W A env σ lo l) (hu : EvP W A env σ hi u) (hz : xs.length ≤ 100000)
    (hy : ∀ (fz : GMap) (vs : List Value), VHs fz vs xs → VHs fz (slicePick vs.toArray l u none).toList ys) : Ev W A env σ (.Subscript value (.Slice lo hi none p) pos) (.lst ys) := by
  intro kp fz₀ fz ad m s Q E H k
  refine Subscript_ (h _ _ _ _ _ _ _ _ H fun v fz₁ s₁ x₁ hv => ?_)
  obtain ⟨a, vs, rfl, hL, hr⟩ := hv.isList x₁.inH
  refine wpAny_Slice (hl _ _ _ _ _ _ _ _ (H.ext x₁) fun vl fz₂ s₂ x₂ hpl => hu _ _ _ _ _ _ _ _ ((H.ext x₁).ext x₂) fun vu fz₃ s₃ x₃ hpu => ?_)
  refine wpAny_pure ?_
  have hL₃ : s₃.heap.IsList a vs.toArray := (hL.at fun o e => kGet x₂.keeps e).at fun o e => kGet x₃.keeps e
  have hL₄ := hL₃.push { cls := .type "slice", data := .fields #[vl, vu, .none] }
  refine tail_any (T := "list") (s := { s₃ with heap := s₃.heap.push { cls := .type "slice", data := .fields #[vl, vu, .none] } }) hL₄.typeIs list_getitem_lookup ?_ rfl
  refine wpAny_getItem_list_slice hL₄ (Heap.IsSliceOf.new ..) hpl hpu .none (by simp) ?_ (by rw [List.size_toArray, hr.length, PySem.sizeLine_eq]; walk_at "lx")
  have x₄ := ((x₁.trans x₂).trans x₃).trans (Ext.push (t := s₃.toks) (o := { cls := .type "slice", data := .fields #[vl, vu, .none] }) x₃.inH)
  have hd : VHs fz₃ (slicePick vs.toArray l u none).toList ys := hy _ _ ((hr.mono x₂.sub).mono x₃.sub)
  have := newL (t := s₃.toks) (us := (slicePick vs.toArray l u none).toList) (Q := Q) x₄.inH hd fun v fz' s' x hv => k _ _ _ (x₄.trans x) hv
  simpa using this

theorem pick_from {fz : GMap} {vs : List Value} {xs : List D} {i : Int} (hv : VHs fz vs xs) (h0 : 0 ≤ i) (h1 : i ≤ xs.length) : VHs fz (slicePick vs.toArray (some i) none none).toList (xs.drop i.toNat) := by
  obtain ⟨n, rfl⟩ : ∃ n : Nat, i = n := ⟨i.toNat, by walk_at "lx"⟩
  have hl := hv.length
  rw [slicePick_from vs.toArray n (by simp; walk_at "lx")]
  simpa using hv.drop n
theorem pick_upto {fz : GMap} {vs : List Value} {xs : List D} {j : Int} (hv : VHs fz vs xs) (h0 : 0 ≤ j) (h1 : j ≤ xs.length) : VHs fz (slicePick vs.toArray none (some j) none).toList (xs.take j.toNat) := by
  obtain ⟨n, rfl⟩ : ∃ n : Nat, j = n := ⟨j.toNat, by walk_at "lx"⟩
  have hl := hv.length
  rw [slicePick_upto vs.toArray n (by simp; walk_at "lx")]
  simpa using hv.take n

/-- an item -/
theorem ev_item {value slice : PySem.Expr} {pos : Pos} {d₁ d₂ d : D} (h₁ : Ev W A env σ value d₁) (h₂ : Ev W A env σ slice d₂)
    (ho : ∀ (fz : GMap) (s : Shared) (v₁ v₂ : Value) (Q E : Value → Shared → Prop), FzIn fz s → VH fz v₁ d₁ → VH fz v₂ d₂ → (∀ v fz' s', Ext fz s fz' s' → VH fz' v d → Q v s') → ∃ T id, s.TypeIs v₁ T ∧ typeLookup (.type T) "__getitem__" = pure (some (.builtin id)) ∧ wpAny W.M A (getItem v₁ v₂) Q E s)
    (hs : ∀ o i, subscripted slice false o i = operate [o, i] (getItem o i) := by intro _ _; rfl) : Ev W A env σ (.Subscript value slice pos) d := by
  intro kp fz₀ fz ad m s Q E H k
  refine Subscript_ (h₁ _ _ _ _ _ _ _ _ H fun v₁ fz₁ s₁ x₁ hv₁ => h₂ _ _ _ _ _ _ _ _ (H.ext x₁) fun v₂ fz₂ s₂ x₂ hv₂ => ?_)
  obtain ⟨T, id, hT, hl, hw⟩ := ho fz₂ s₂ v₁ v₂ Q E x₂.inH (hv₁.mono x₂.sub) hv₂ fun v fz' s' x hv => k _ _ _ ((x₁.trans x₂).trans x) hv
  exact tail_any hT hl hw (hs _ _)
theorem ev_itemL {value slice : PySem.Expr} {pos : Pos} {xs : List D} {i : Int} {d : D} (h₁ : Ev W A env σ value (.lst xs)) (h₂ : Ev W A env σ slice (.int i)) (h0 : 0 ≤ i) (hx : xs[i.toNat]? = some d) (hz : xs.length < 2 ^ 62)
    (hs : ∀ o i, subscripted slice false o i = operate [o, i] (getItem o i) := by intro _ _; rfl) : Ev W A env σ (.Subscript value slice pos) d := by
  refine ev_item h₁ h₂ (fun fz s v₁ v₂ Q E hf hv₁ hv₂ k => ?_) hs
  obtain ⟨a, vs, rfl, hL, hr⟩ := hv₁.isList hf
  obtain ⟨t₂, rfl⟩ := hv₂.int_
  obtain ⟨v, h3, h4⟩ := hr.get hx
  have hlt : i.toNat < xs.length := by
    rcases Nat.lt_or_ge i.toNat xs.length with h | h
    · exact h
    · rw [List.getElem?_eq_none h] at hx; cases hx
  exact ⟨"list", _, hL.typeIs, list_getitem_lookup, wpAny_getItem_list hL h0 (by walk_at "lx") (by simpa using h3) (k _ _ _ (Ext.refl hf) h4)⟩
theorem ev_itemS {value slice : PySem.Expr} {pos : Pos} {x : PySem.Str} {i : Int} (h₁ : Ev W A env σ value (.str x)) (h₂ : Ev W A env σ slice (.int i)) (hr : fitsSsize i = true) (hin : (Txt.charAt x i).isSome = true)
    (hs : ∀ o i, subscripted slice false o i = operate [o, i] (getItem o i) := by intro _ _; rfl) : Ev W A env σ (.Subscript value slice pos) (.str (Txt.item x i)) := by
  refine ev_item h₁ h₂ (fun fz s v₁ v₂ Q E hf hv₁ hv₂ k => ?_) hs
  obtain ⟨t, rfl⟩ := hv₁.str_
  obtain ⟨u, rfl⟩ := hv₂.int_
  exact ⟨"str", _, typeIs_str _ _ _, PySem.F.slot_str_getitem.lookup, SB.getItem hr hin (k _ _ _ (Ext.toks hf) (.str _ _))⟩

/-- an item of a list of the frame's own -/
theorem ev_itemO {n : Nat} {x : PySem.Str} {px pos : Pos} {slice : PySem.Expr} {xs : List D} {i : Int} {d : D} (F : FOK n A env) (hm : (x, Slot.own xs) ∈ σ) (h₂ : Ev W A env σ slice (.int i)) (h0 : 0 ≤ i) (hx : xs[i.toNat]? = some d) (hz : xs.length < 2 ^ 62) (hd : (x == ("__debug__" : PySem.Str)) = false)
    (hs : ∀ o i, subscripted slice false o i = operate [o, i] (getItem o i) := by intro _ _; rfl) : Ev W A env σ (.Subscript (.Name x px) slice pos) d := by
  intro kp fz₀ fz ad m s Q E H k
  obtain ⟨hxl, hxm, _⟩ := H.vars _ _ hm
  refine Subscript_ (wpAny_Name (wpAny_loadName_local F.hk hxl H.ns hxm (h₂ _ _ _ _ _ _ _ _ H fun v₂ fz₂ s₂ x₂ hv₂ => ?_)) hd)
  obtain ⟨t₂, rfl⟩ := hv₂.int_
  obtain ⟨us, nn, g, hr⟩ := (H.ext x₂).objOwn hm
  have hL : s₂.heap.IsList (ad x) us.toArray := ⟨_, g, rfl, nn, rfl⟩
  obtain ⟨v, h3, h4⟩ := hr.get hx
  have hlt : i.toNat < xs.length := by
    rcases Nat.lt_or_ge i.toNat xs.length with h | h
    · exact h
    · rw [List.getElem?_eq_none h] at hx; cases hx
  exact tail_any hL.typeIs list_getitem_lookup (wpAny_getItem_list hL h0 (by walk_at "lx") (by simpa using h3) (k _ _ _ x₂ h4)) (hs _ _)

theorem ev_sliceS {value : PySem.Expr} {lo hi : Option PySem.Expr} {p pos : Pos} {x : PySem.Str} {l u : Option Int} (h : Ev W A env σ value (.str x)) (hl : EvP W A env σ lo l) (hu : EvP W A env σ hi u) (hz : x.length ≤ 16777216) : Ev W A env σ (.Subscript value (.Slice lo hi none p) pos) (.str (Txt.slice x l u)) := by
  intro kp fz₀ fz ad m s Q E H k
  refine Subscript_ (h _ _ _ _ _ _ _ _ H fun v fz₁ s₁ x₁ hv => ?_)
  obtain ⟨tv, rfl⟩ := hv.str_
  refine wpAny_Slice (hl _ _ _ _ _ _ _ _ (H.ext x₁) fun vl fz₂ s₂ x₂ hpl => hu _ _ _ _ _ _ _ _ ((H.ext x₁).ext x₂) fun vu fz₃ s₃ x₃ hpu => ?_)
  refine wpAny_pure ?_
  have KP : KeptH (fun h' => ∀ b o, s₃.heap.get? b = some o → h'.get? b = some o) := fun h ob hh b o e => get_push (hh b o e)
  have fin : ∀ (y : PySem.Str) (h' : Heap) (t' : Tok) (kk : Nat), (∀ b o, s₃.heap.get? b = some o → h'.get? b = some o) → y = Txt.slice x l u → Q (.str y t') { s₃ with heap := h', toks := kk } := by
    intro y h' t' kk hk e
    subst e
    exact k _ _ _ (((x₁.trans x₂).trans x₃).trans (Ext.heap x₃.inH hk)) (.str _ _)
  have hzz : x.length ≤ sizeLine := by rw [PySem.sizeLine_eq]; exact hz
  have it : ItemOn W.M A E (.str x (by assumption)) (.ref s₃.heap.objs.size) Q { s₃ with heap := s₃.heap.push { cls := .type "slice", data := .fields #[vl, vu, .none] } } := by
    cases hpl <;> cases hpu
    · exact SBH.sliceItem_nn KP (fun _ _ e => e) (fun h' t' kk hk => fin _ h' t' kk hk rfl) hzz
    · exact SBH.sliceItem_ns KP (fun _ _ e => e) (fun h' t' kk hk => fin _ h' t' kk hk rfl) hzz
    · exact SBH.sliceItem_sn KP (fun _ _ e => e) (fun h' t' kk hk => fin _ h' t' kk hk rfl) hzz
    · exact SBH.sliceItem_ss KP (fun _ _ e => e) (fun h' t' kk hk => fin _ h' t' kk hk rfl) hzz
  obtain ⟨T, id, hl', hT', hw'⟩ := it
  exact tail_any hT' hl' hw' rfl

theorem ev_sliceB {value : PySem.Expr} {lo hi : Option PySem.Expr} {p pos : Pos} {x : Array UInt8} {l u : Option Int} (h : Ev W A env σ value (.byt x)) (hl : EvP W A env σ lo l) (hu : EvP W A env σ hi u) (hne : KBy.whole x l u = false) (hz : (KBy.picked x l u).size ≤ 16777216) : Ev W A env σ (.Subscript value (.Slice lo hi none p) pos) (.byt (KBy.picked x l u)) := by
  intro kp fz₀ fz ad m s Q E H k
  refine Subscript_ (h _ _ _ _ _ _ _ _ H fun v fz₁ s₁ x₁ hv => ?_)
  obtain ⟨tv, rfl⟩ := hv.byt_
  refine wpAny_Slice (hl _ _ _ _ _ _ _ _ (H.ext x₁) fun vl fz₂ s₂ x₂ hpl => hu _ _ _ _ _ _ _ _ ((H.ext x₁).ext x₂) fun vu fz₃ s₃ x₃ hpu => ?_)
  refine wpAny_pure ?_
  refine tail_any (typeIs_bytes _ _ _) FB.slot_bytes_getitem.lookup (getItem_meets (typeIs_bytes _ _ _) (by decide) FB.slot_bytes_getitem FB.entry_bytes_getitem (FB.args_bytes_getitem_2 _ _) (KBy.meets_slice x _ _ hpl hpu hne)
    ⟨Heap.IsSliceOf.new _ _ _ _, by rw [PySem.sizeLine_eq]; exact hz, ?_⟩) rfl
  exact k _ _ _ ((((x₁.trans x₂).trans x₃).trans (Ext.push (t := s₃.toks) x₃.inH)).trans (Ext.toks fun b o e => get_push (x₃.inH b o e))) (.byt _ _)

/-- a str's method -/
theorem ev_methS {o : PySem.Expr} {name : PySem.Str} {id : String} {apos pos : Pos} {es : List PySem.Expr} {x : PySem.Str} {ds : List D} {d : D} {pl : Sem Bool} (h : Ev W A env σ o (.str x)) (slot : PySem.Slot "str" name id) (ty : typeOf (.builtin id) = pure (.type "method_descriptor")) (ha : Evs W A env σ es ds)
    (hc : CallV W A (.builtin id) (.str x :: ds) d)
    (he : ∀ v : Value, ∀ Q E s, wpAny W.M A (spliced (backTo pos (starEach es env))) (fun vs s₁ => wpAny W.M A (call (.builtin id) (v :: vs)) Q E s₁) E s → wpAny W.M A (callWith pos (.builtin id) [v] (backTo pos (starEach es env)) []) Q E s)
    (hm : eval ((o.Attribute name apos).Call es [] pos) env = (do let ov ← eval o env; standAt apos.atName; let (f, first) ← holding [ov] (getMethod ov name pl); callWith pos f first (backTo pos (starEach es env)) []) := by rfl) :
    Ev W A env σ (.Call (.Attribute o name apos) es [] pos) d := by
  intro kp fz₀ fz ad m s Q E H k
  refine MethodCall_ (pl := pl) (h _ _ _ _ _ _ _ _ H fun v fz₁ s₁ x₁ hv => ?_) hm
  obtain ⟨tv, rfl⟩ := hv.str_
  refine getMethod_builtin (typeIs_str _ _ _) PySem.F.plainAttrs_str slot ty (fun a e => nomatch e) ?_
  refine he _ _ _ _ (ha pos _ _ _ _ _ _ _ _ (H.ext x₁) fun vs fz₂ s₂ x₂ hvs => ?_)
  exact hc _ _ _ _ _ ((H.ext x₁).ext x₂).heapWF x₂.inH (.cons (.str _ _) hvs) fun v' fz' s' x' hv' => k _ _ _ ((x₁.trans x₂).trans x') hv'

theorem cv_lower {x : PySem.Str} (h : Builtin.Str.tooLong (Txt.lower x).length = false) : CallV W A (.builtin "str.lower") [.str x] (.str (Txt.lower x)) := by
  intro fz s vs Q E hw hf hvs k
  obtain ⟨_, rfl, h1⟩ := hvs.one; obtain ⟨t, rfl⟩ := h1.str_; exact SC.lower h (k _ _ _ (Ext.toks hf) (.str _ _))

theorem VHs.strs {fz : GMap} {vs : List Value} {ys : List PySem.Str} (h : VHs fz vs (ys.map D.str)) : StrsAre vs ys := by
  induction ys generalizing vs with
  | nil => obtain rfl := h.nil_; exact .nil
  | cons y ys ih => obtain ⟨v, ws, rfl, h1, r⟩ := VHs.cons_ h; obtain ⟨t, rfl⟩ := h1.str_; exact .cons y t (ih r)
theorem VHs.ints {fz : GMap} {vs : List Value} {ns : List Int} (h : VHs fz vs (ns.map D.int)) : IntsAre vs ns := by
  induction ns generalizing vs with
  | nil => obtain rfl := h.nil_; exact .nil
  | cons y ys ih => obtain ⟨v, ws, rfl, h1, r⟩ := VHs.cons_ h; obtain ⟨t, rfl⟩ := h1.int_; exact .cons y t (ih r)
theorem cv_join {x : PySem.Str} {ys : List PySem.Str} (hok : (ys.map (·.length)).sum + ys.length * x.length ≤ 16777216) : CallV W A (.builtin "str.join") [.str x, .lst (ys.map D.str)] (.str (Txt.join x ys)) := by
  intro fz s vs Q E hw hf hvs k
  obtain ⟨_, _, rfl, h1, h2⟩ := hvs.two
  obtain ⟨t, rfl⟩ := h1.str_
  obtain ⟨a, us, rfl, hL, hr⟩ := h2.isList hf
  exact PyProof.Rows.join_list hL (by simpa using hr.strs) hok fun t' kk => k _ _ _ (Ext.toks hf) (.str _ _)

end
end
section
section
variable {W : WP} {A : Around} {env : Env} {σ σ' : Sto}

theorem Evs.mk1 {e : PySem.Expr} {d : D} (h : Ev W A env σ e d) (hs : starEach [e] env = [(false, eval e env)]) : Evs W A env σ [e] [d] := evs_cons h evs_nil hs
theorem sameUpd {h : Heap} {a : Addr} {f : Obj → Obj} : Heap.SameBut a h (h.update a f) := Heap.SameBut.update ..

/-- x.append(e) -/
theorem x_append {n : Nat} {x : PySem.Str} {px apos cpos pos : Pos} {e : PySem.Expr} {xs : List D} {d : D} (F : FOK n A env) (hm : (x, Slot.own xs) ∈ σ) {pl : Sem Bool} (h : Ev W A env σ e d) (hz : xs.length ≤ 100000) (hd : (x == ("__debug__" : PySem.Str)) = false)
    (hi : interactive env = false) (hsw : swapsWith (.Call (.Attribute (.Name x px) "append" apos) [e] [] cpos) none pos.line env = pure false := by rfl)
    (hs : starEach [e] env = [(false, eval e env)] := by rfl)
    (hme : eval (((PySem.Expr.Name x px).Attribute "append" apos).Call [e] [] cpos) env = (do let ov ← eval (.Name x px) env; standAt apos.atName; let (f, first) ← holding [ov] (getMethod ov "append" pl); callWith cpos f first (backTo cpos (starEach [e] env)) []) := by rfl) :
    X1 W A env σ (.Expr (.Call (.Attribute (.Name x px) "append" apos) [e] [] cpos) pos) (.next (upd σ x (.own (xs ++ [d])))) := by
  intro kp fz₀ fz ad m s Q E H p
  obtain ⟨hxl, hxm, _⟩ := H.vars _ _ hm
  obtain ⟨us₀, n₀, g₀, _⟩ := H.objOwn hm
  refine wpAny_Expr (MethodCall_ (pl := pl) (wpAny_Name (wpAny_loadName_local F.hk hxl H.ns hxm ?_) hd) hme) hi hsw
  refine getMethod_builtin (T := "list") ⟨_, g₀, rfl⟩ PySem.F.plainAttrs_list PySem.F.slot_list_append PySem.F.type_list_append (fun a e => by cases e; exact ⟨_, g₀, rfl⟩) ?_
  refine callWith_method1 (e := e) (rest := []) ?_ hs rfl
  have hs' := Evs.mk1 (W := W) (A := A) (env := env) (σ := σ) h hs
  refine hs' cpos _ _ _ _ _ _ _ _ H fun vs fz₁ s₁ x₁ hvs => ?_
  obtain ⟨v, rfl, hv⟩ := hvs.one
  · have H₁ := H.ext x₁
    obtain ⟨us, nn, g, hr⟩ := H₁.objOwn hm
    refine wpAny_list_append_plain ⟨_, g⟩ (fun h' hp hsb => ?_) (by rw [List.size_toArray, hr.length, PySem.sizeLine_eq]; walk_at "lx")
    obtain ⟨n', g'⟩ := hp
    rw [List.push_toArray] at g'
    obtain ⟨h'', tk'', e', _⟩ := id x₁.keeps
    subst e'
    exact p _ _ _ h' tk'' (H₁.turnOwn hm hsb g' (hr.append (.cons hv .nil)))

/-- x[i] = e -/
theorem x_setItem {n : Nat} {x : PySem.Str} {px sp pos : Pos} {i e : PySem.Expr} {xs : List D} {k : Int} {d : D} (F : FOK n A env) (hm : (x, Slot.own xs) ∈ σ) (h : Ev W A env σ e d) (hi : Ev W A env σ i (.int k)) (h0 : 0 ≤ k) (h1 : k < xs.length) (hz : xs.length < 2 ^ 62) (hd : (x == ("__debug__" : PySem.Str)) = false)
    (hsw : swapsWith e (some (.Subscript (.Name x px) i sp)) pos.line env = pure false := by rfl) :
    X1 W A env σ (.Assign [.Subscript (.Name x px) i sp] e pos) (.next (upd σ x (.own (xs.set k.toNat d)))) := by
  intro kp fz₀ fz ad m s Q E H p
  refine wpAny_Assign_Subscript (h _ _ _ _ _ _ _ _ H fun v fz₁ s₁ x₁ hv => ?_) hsw
  have H₁ := H.ext x₁
  obtain ⟨hxl, hxm, _⟩ := H₁.vars _ _ hm
  refine wpAny_Name (wpAny_loadName_local F.hk hxl H₁.ns hxm ?_) hd
  refine hi _ _ _ _ _ _ _ _ H₁ fun vi fz₂ s₂ x₂ hvi => ?_
  obtain ⟨ti, rfl⟩ := hvi.int_
  have H₂ := H₁.ext x₂
  obtain ⟨us, nn, g, hr⟩ := H₂.objOwn hm
  have hl := hr.length
  refine ki_setAt g h0 (by walk_at "lx") (by rw [List.size_toArray]; walk_at "lx") ?_
  obtain ⟨h', tk', e', _⟩ := id (kTr x₁.keeps x₂.keeps)
  subst e'
  refine p _ _ _ _ tk' (H₂.turnOwn hm sameUpd ?_ (hr.set k.toNat (hv.mono x₂.sub)) (nn := nn))
  refine (Heap.get?_update_self _ g ?_).trans ?_
  · simp [Obj.mapSeq, Obj.isFreed]
  · simp [Obj.mapSeq]

/-- a name, an operation in place -/
theorem x_aug {n : Nat} {x : PySem.Str} {px pos : Pos} {op : Operator} {e : PySem.Expr} {d₁ d₂ d : D} (F : FOK n A env) (hm : (x, Slot.val d₁) ∈ σ) (hx : env.kindOf x = some .local) (h : Ev W A env σ e d₂) (ho : Op2 W A (inplaceOp op) d₁ d₂ d) :
    X1 W A env σ (.AugAssign (.Name x px) op e pos) (.next (upd σ x (.val d))) := by
  intro kp fz₀ fz ad m s Q E H p
  obtain ⟨v, l, hv⟩ := H.vars _ _ hm
  have hml : m x = some v := by
    rcases l with ⟨_, b⟩ | ⟨a | a, _⟩
    · exact b
    · rw [hx] at a; cases a
    · rw [hx] at a; cases a.1
  refine wpAny_AugAssign_Name (wpAny_loadName_local F.hk hx H.ns hml (h _ _ _ _ _ _ _ _ H fun v₂ fz₂ s₂ x₂ hv₂ => ?_))
  refine ho _ _ _ _ _ _ x₂.inH (hv.mono x₂.sub) hv₂ fun v₃ fz₃ s₃ x₃ hv₃ => ?_
  refine wp_store F ((H.ext x₂).ext x₃) (.inl hx) hv₃ fun m' h' tk H' => ?_
  obtain ⟨h'', tk'', e', _⟩ := id (kTr x₂.keeps x₃.keeps)
  subst e'
  exact p _ _ _ _ _ H'
theorem op_iaddI {a b : Int} : Op2 W A (inplaceOp .Add) (.int a) (.int b) (.int (a + b)) :=
  op2II fun t u fz s Q E hf k => iadd_int (k _ _ _ (Ext.toks hf) (.int _ _))
theorem op_isubI {a b : Int} : Op2 W A (inplaceOp .Sub) (.int a) (.int b) (.int (a - b)) :=
  op2II fun t u fz s Q E hf k => AutoIntOps.isub_0 (k _ _ _ (Ext.toks hf) (.int _ _))
theorem op_imulI {a b : Int} (hm : IntMulOk a b) : Op2 W A (inplaceOp .Mult) (.int a) (.int b) (.int (a * b)) :=
  op2II fun t u fz s Q E hf k => imul_int (k _ _ _ (Ext.toks hf) (.int _ _)) hm
theorem op_iaddS {x y : PySem.Str} (hz : x.length + y.length ≤ 16777216) : Op2 W A (inplaceOp .Add) (.str x) (.str y) (.str (x ++ y)) :=
  op2SS fun t u fz s Q E hf k => SB.iadd (fun t' c => k _ _ _ (Ext.toks hf) (.str _ _)) (by rw [PySem.sizeLine_eq]; exact hz)

/-- x[i] += e, of an own list of ints -/
theorem x_augItem {n : Nat} {x y : PySem.Str} {px py sp pos : Pos} {op : Operator} {e : PySem.Expr} {xs : List D} {k : Int} {d₁ d₂ d : D} (F : FOK n A env) (hm : (x, Slot.own xs) ∈ σ) (hy : (y, Slot.val (.int k)) ∈ σ) (h0 : 0 ≤ k) (hx : xs[k.toNat]? = some d₁) (h : Ev W A env σ e d₂) (ho : Op2 W A (inplaceOp op) d₁ d₂ d) (hz : xs.length < 2 ^ 62)
    (hd : (x == ("__debug__" : PySem.Str)) = false) (hd' : (y == ("__debug__" : PySem.Str)) = false) :
    X1 W A env σ (.AugAssign (.Subscript (.Name x px) (.Name y py) sp) op e pos) (.next (upd σ x (.own (xs.set k.toNat d)))) := by
  intro kp fz₀ fz ad m s Q E H p
  obtain ⟨hxl, hxm, _⟩ := H.vars _ _ hm
  have hlt : k.toNat < xs.length := by
    rcases Nat.lt_or_ge k.toNat xs.length with h | h
    · exact h
    · rw [List.getElem?_eq_none h] at hx; cases hx
  refine wpAny_AugAssign_Subscript (wpAny_Name (wpAny_loadName_local F.hk hxl H.ns hxm ?_) hd)
  obtain ⟨vy, ly, hvy⟩ := H.vars _ _ hy
  refine Look.ev F ly H.ns hd' ?_
  obtain ⟨ty, rfl⟩ := hvy.int_
  obtain ⟨us, nn, g, hr⟩ := H.objOwn hm
  have hL : s.heap.IsList (ad x) us.toArray := ⟨_, g, rfl, nn, rfl⟩
  obtain ⟨v₁, h3, h4⟩ := hr.get hx
  refine wpAny_getItem_list hL h0 (by walk_at "lx") (by simpa using h3) ?_
  refine h _ _ _ _ _ _ _ _ H fun v₂ fz₂ s₂ x₂ hv₂ => ?_
  refine ho _ _ _ _ _ _ x₂.inH (h4.mono x₂.sub) hv₂ fun v₃ fz₃ s₃ x₃ hv₃ => ?_
  have H₃ := (H.ext x₂).ext x₃
  obtain ⟨us', nn', g', hr'⟩ := H₃.objOwn hm
  have hl := hr'.length
  refine ki_setAt g' h0 (by walk_at "lx") (by rw [List.size_toArray]; walk_at "lx") ?_
  obtain ⟨h', tk', e', _⟩ := id (kTr x₂.keeps x₃.keeps)
  subst e'
  refine p _ _ _ _ tk' (H₃.turnOwn hm sameUpd ?_ (hr'.set k.toNat hv₃) (nn := nn'))
  refine (Heap.get?_update_self _ g' ?_).trans ?_
  · simp [Obj.mapSeq, Obj.isFreed]
  · simp [Obj.mapSeq]

/-- truths -/
theorem truth_int {i : Int} : Truth W A (.int i) (i != 0) := by
  intro fz s v Q E hf hv k; obtain ⟨t, rfl⟩ := hv.int_; exact truthy_int (k _ _ (Ext.refl hf))
theorem truth_str {x : PySem.Str} (hz : x.length < 2 ^ 62) : Truth W A (.str x) ((x.length : Int) != 0) := by
  intro fz s v Q E hf hv k; obtain ⟨t, rfl⟩ := hv.str_; exact P.truthy_str (by walk_at "lx") (k _ _ (Ext.toks hf))
theorem truth_lst {xs : List D} (hz : xs.length < 2 ^ 62) : Truth W A (.lst xs) (!xs.isEmpty) := by
  intro fz s v Q E hf hv k
  obtain ⟨a, us, rfl, l, r⟩ := hv.isList hf
  have hl := r.length
  refine wpAny_truthy_list l (by rw [List.size_toArray]; walk_at "lx") ?_
  have e : us.toArray.isEmpty = xs.isEmpty := by
    cases us <;> cases xs <;> simp_all
  rw [e]
  exact k _ _ (Ext.toks hf)

/-- sums, the least one -/
theorem intsToks : ∀ {us : List Value} {ns : List Int}, IntsAre us ns → ∃ l : List (Int × Tok), us = l.map (fun p => Value.int p.1 p.2) ∧ l.map (·.1) = ns
  | _, _, .nil => ⟨[], rfl, rfl⟩
  | _, _, .cons n t h => by obtain ⟨l, e1, e2⟩ := intsToks h; exact ⟨(n, t) :: l, by rw [e1]; rfl, by rw [List.map_cons, e2]⟩
theorem cv_sum {ns : List Int} (hh : A.handled = none) : CallV W A (.builtin "sum") [.lst (ns.map D.int)] (.int ns.sum) := by
  intro fz s vs Q E hw hf hvs k
  obtain ⟨_, rfl, h1⟩ := hvs.one
  · obtain ⟨a, us, rfl, l, r⟩ := h1.isList hf
    obtain ⟨xs, e1, e2⟩ := intsToks r.ints
    subst e1
    have hl : s.heap.IsList a (intItems xs.toArray) := by simpa [intItems] using l
    refine sum_intListG hh hl fun h' tk t' hk => ?_
    have e3 : preSum (numAt xs.toArray) xs.toArray.size = ns.sum := by
      have : numAt xs.toArray = fun i => ns.getD i 0 := by
        funext i
        rw [← e2]
        simp only [numAt]
        cases h : xs[i]? <;> simp [h]
      rw [this, preSum_getD, List.size_toArray, ← e2, List.take_of_length_le (by simp)]
    rw [e3]
    exact k _ _ _ (Ext.heap hf hk) (.int _ _)
end
end
section
section
variable {W : WP} {A : Around} {env : Env} {σ σ' : Sto}

/-- a comprehension's tests -/
noncomputable def Tst (W : WP) (A : Around) (env : Env) (σ : Sto) (ifs : List PySem.Expr) (b : Bool) : Prop :=
  ∀ (kp fz₀ fz : GMap) (ad : PySem.Str → Addr) (m : PySem.Str → Option Value) (s : Shared) (Q : Bool → Shared → Prop) (E : Value → Shared → Prop), Ok W env kp fz₀ σ fz ad m s →
    (∀ fz' s', Ext fz s fz' s' → Q b s') → wpAny W.M A (forIn ifs true fun c r => if r = true then do let ok ← isTrue c env (eval c env); pure (ForInStep.yield ok) else pure (ForInStep.yield r)) Q E s
theorem tst_nil : Tst W A env σ [] true := fun kp fz₀ fz ad m s Q E H k => wpAny_pure (k _ _ H.refl)
theorem tst_one {c : PySem.Expr} {b : Bool} (h : Tr W A env σ c b) : Tst W A env σ [c] b := by
  intro kp fz₀ fz ad m s Q E H k
  simp only [List.forIn_cons, List.forIn_nil, if_true]
  refine wpAny_bind (wpAny_bind (h _ _ _ _ _ _ _ _ H fun fz' s' x => wpAny_pure ?_))
  exact wpAny_pure (k _ _ x)

/-- one item of a comprehension, what it gives -/
noncomputable def CStep (W : WP) (A : Around) (env : Env) (t : PySem.Expr) (cap : Sto) (ifs : List PySem.Expr) (elt : PySem.Expr) (d : D) : Option D → Prop
  | none => ∃ σ₁, Asg W A env t d cap σ₁ ∧ (∀ p ∈ cap, p ∈ σ₁) ∧ Tst W A env σ₁ ifs false
  | some e => ∃ σ₁, Asg W A env t d cap σ₁ ∧ (∀ p ∈ cap, p ∈ σ₁) ∧ Tst W A env σ₁ ifs true ∧ Ev W A env σ₁ elt e

/-- item by item -/
noncomputable def All2 {α β : Type} (R : α → β → Prop) : List α → List β → Prop
  | [], bs => bs = []
  | a :: as, bs => ∃ b cs, bs = b :: cs ∧ R a b ∧ All2 R as cs
theorem All2.nil {α β : Type} {R : α → β → Prop} : All2 R [] [] := rfl
theorem All2.cons {α β : Type} {R : α → β → Prop} {a : α} {b : β} {as : List α} {bs : List β} (h : R a b) (r : All2 R as bs) : All2 R (a :: as) (b :: bs) := ⟨b, bs, rfl, h, r⟩
theorem All2.length {α β : Type} {R : α → β → Prop} : ∀ {as : List α} {bs : List β}, All2 R as bs → as.length = bs.length := by
  intro as
  induction as with
  | nil => intro bs r; cases r; rfl
  | cons a as ih => intro bs r; obtain ⟨b, cs, rfl, _, r⟩ := r; rw [List.length_cons, List.length_cons, ih r]
theorem All2.map {α β γ : Type} {R : α → β → Prop} (f : γ → α) (g : γ → β) {l : List γ} (h : ∀ c ∈ l, R (f c) (g c)) : All2 R (l.map f) (l.map g) := by
  induction l with
  | nil => exact .nil
  | cons c l ih => exact .cons (h c (.head _)) (ih fun c' hc => h c' (.tail _ hc))
theorem All2.imp {α β γ : Type} {R : α → β → Prop} {S : α → γ → Prop} (f : β → γ) (h : ∀ a b, R a b → S a (f b)) : ∀ {as : List α} {bs : List β}, All2 R as bs → All2 S as (bs.map f) := by
  intro as
  induction as with
  | nil => intro bs r; cases r; exact .nil
  | cons a as ih => intro bs r; obtain ⟨b, cs, rfl, h1, r⟩ := r; exact .cons (h a b h1) (ih r)

/-- what the comprehension's end knows -/
structure CEnd (fz₁ : GMap) (s₁ : Shared) (outs : List D) (a C : Addr) (us : List Value) (nn : Nat) (m : PySem.Str → Option Value) (fz : GMap) (s' : Shared) : Prop where
  keeps : Keeps s₁ s'
  aNew : s₁.heap.get? a = none
  cNew : s₁.heap.get? C = none
  ne : a ≠ C
  ns : s'.heap.Ns C m
  get : s'.heap.get? a = some { cls := .type "list", data := .seq us.toArray nn }
  vals : VHs fz us outs
  sub : ∀ b o, fz₁ b = some o → fz b = some o
  inH : FzIn fz s'
  aF : fz a = none
  cF : fz C = none
  new : ∀ b o, fz b = some o → fz₁ b = some o ∨ s₁.heap.get? b = none

/-- the captured cells -/
structure Caps (env : Env) (σ : Sto) (cenv : Env) (cap : List (PySem.Str × D)) : Prop where
  cells : ∀ x c, cenv.cells.lookup x = some c → env.cells.lookup x = some c
  caps : ∀ p ∈ cap, (p.1, Slot.val p.2) ∈ σ ∧ env.kindOf p.1 ≠ some .local ∧ cenv.kindOf p.1 = some .cell ∧ cenv.cells.lookup p.1 = env.cells.lookup p.1

theorem Keeps.of {s : Shared} {h : Heap} {tk : Nat} (k : ∀ b o, s.heap.get? b = some o → h.get? b = some o) : Keeps s { s with heap := h, toks := tk } := ⟨h, tk, rfl, k⟩


theorem GMap.ov_comm {kp g a : GMap} (d : ∀ b o, g b = some o → a b = none) : (kp.ov g).ov a = (kp.ov a).ov g := by
  funext b
  unfold GMap.ov
  cases q : g b with
  | none => cases a b <;> rfl
  | some o => rw [d b o q]; rfl
noncomputable abbrev lstO (us : List Value) (c : Nat) : Obj := { cls := .type "list", data := .seq us.toArray c }
/-- the frame's list under way, at Dd -/
noncomputable abbrev AccOk (W : WP) (env : Env) (kp : GMap) (Dd : Addr) (us : List Value) (c : Nat) (fz₀ : GMap) (σ : Sto) (fz : GMap) (ad : PySem.Str → Addr) (m : PySem.Str → Option Value) (s : Shared) : Prop := Ok W env (kp.ov (one Dd (lstO us c))) fz₀ σ fz ad m s
/-- what stands about the list under way -/
structure AccAt (W : WP) (env : Env) (kp : GMap) (Dd : Addr) (fz₀ : GMap) : Prop where
  wf : WF W kp
  kp : kp Dd = none
  fz : fz₀ Dd = none
  loc : env.locals ≠ Dd
  cell : ∀ x c, env.cells.lookup x = some c → c ≠ Dd
theorem AccAt.dis {kp : GMap} {Dd : Addr} {fz₀ : GMap} (a : AccAt W env kp Dd fz₀) {o : Obj} : Dis (one Dd o) kp := fun b q e => one_off fun h => by rw [h, a.kp] at e; cases e
theorem AccAt.dis0 {kp : GMap} {Dd : Addr} {fz₀ : GMap} (a : AccAt W env kp Dd fz₀) {o : Obj} : Dis (one Dd o) fz₀ := fun b q e => one_off fun h => by rw [h, a.fz] at e; cases e
theorem AccAt.off {kp : GMap} {Dd : Addr} {fz₀ : GMap} (a : AccAt W env kp Dd fz₀) {o : Obj} : OffEnv (one Dd o) env := ⟨one_off a.loc, fun x c h => one_off (a.cell x c h)⟩
theorem AccAt.fzN {kp : GMap} {Dd : Addr} {fz₀ fz : GMap} {us : List Value} {c : Nat} {ad : PySem.Str → Addr} {m : PySem.Str → Option Value} {s : Shared} (a : AccAt W env kp Dd fz₀) (H : AccOk W env kp Dd us c fz₀ σ fz ad m s) : fz Dd = none := by
  cases q : fz Dd with
  | none => rfl
  | some o =>
    rcases H.fzNew Dd o q with h | h
    · rw [a.fz] at h; cases h
    · have := (GMap.ov_off h).1; rw [one_self] at this; cases this
noncomputable abbrev AccK (W : WP) (env : Env) (kp : GMap) (Dd : Addr) (us : List Value) (fz₀ : GMap) (σ : Sto) (fz : GMap) (s : Shared) (es : List D) (P : Shared → Prop) : Prop :=
  ∀ fz' ad' m' h' tk' vals c', AccOk W env kp Dd (us ++ vals) c' fz₀ σ fz' ad' m' { s with heap := h', toks := tk' } → (∀ b o, fz b = some o → fz' b = some o) → VHs fz' vals es → P { s with heap := h', toks := tk' }
/-- one item's turn -/
noncomputable def CTurn (W : WP) (env : Env) (Dd : Addr) (σ : Sto) (code : Value → (Shared → Prop) → Shared → Prop) (d : D) (es : List D) : Prop :=
  ∀ (kp fz₀ fz : GMap) (ad : PySem.Str → Addr) (m : PySem.Str → Option Value) (s : Shared) (us : List Value) (c : Nat) (v : Value) (P : Shared → Prop), AccAt W env kp Dd fz₀ → AccOk W env kp Dd us c fz₀ σ fz ad m s → VH fz v d → us.length + es.length ≤ 100000 → AccK W env kp Dd us fz₀ σ fz s es P → code v P s
noncomputable def AInv (W : WP) (A : Around) (lo : Option PySem.Expr) (env : Env) (kp : GMap) (Dd : Addr) (us : List Value) (fz₁ g₀ : GMap) (I : Addr) (σ : Sto) (s : Shared) (code : Value → (Shared → Prop) → Shared → Prop) (all : List D) (k : Nat) (s' : Shared) : Prop :=
  ∃ es oss g fz ad m h tk vals c pre, s' = { s with heap := h, toks := tk } ∧ k = es.length ∧ (∀ b, g₀ b = none → g b = none) ∧ Gen W A lo I fz₁ es g ∧ AccOk W env (kp.ov g) Dd (us ++ vals) c fz₁ σ fz ad m s' ∧ VHs fz vals pre ∧ pre ++ oss.flatten = all ∧ All2 (CTurn W env Dd σ code) es oss
theorem acc_loop {lo : Option PySem.Expr} {kp fz₁ fz g₀ : GMap} {I Dd : Addr} {s : Shared} {us : List Value} {c : Nat} {ad : PySem.Str → Addr} {m : PySem.Str → Option Value} {code : Value → (Shared → Prop) → Shared → Prop} {ds : List D} {oss : List (List D)} {C R : Shared → Prop} {E : Value → Shared → Prop}
    (rule : ∀ Inv : Nat → Shared → Prop, (∀ n s, Inv n s → Nxt W A lo I R (fun v s₁ => code v (fun s' => ∃ m, m < n ∧ Inv m s') s₁) E s) → ∀ n s, Inv n s → C s)
    (at_ : AccAt W env kp Dd fz₁) (d1 : Dis g₀ kp) (d0 : Dis g₀ fz₁) (of : OffEnv g₀ env) (gD : g₀ Dd = none) (H : AccOk W env (kp.ov g₀) Dd us c fz₁ σ fz ad m s) (G : Gen W A lo I fz₁ ds g₀) (st : All2 (CTurn W env Dd σ code) ds oss) (hz : us.length + oss.flatten.length ≤ 100000)
    (hR : ∀ fz' ad' m' h' tk' vals c', AccOk W env kp Dd (us ++ vals) c' fz₁ σ fz' ad' m' { s with heap := h', toks := tk' } → VHs fz' vals oss.flatten → R { s with heap := h', toks := tk' }) : C s := by
  refine rule (AInv W A lo env kp Dd us fz₁ g₀ I σ s code oss.flatten) (fun n s' h => ?_) ds.length s ⟨ds, oss, g₀, fz, ad, m, s.heap, s.toks, [], c, [], rfl, rfl, fun _ e => e, G, by rw [List.append_nil]; exact H, .nil, rfl, st⟩
  obtain ⟨es, os, g, fz', ad', m', h', tk', vals, c', pre, rfl, rfl, hg0, G, H', hv, hall, st⟩ := h
  have sub : ∀ {x : GMap}, Dis g₀ x → Dis g x := fun d b o e => hg0 b (d b o e)
  have com : ∀ {q : GMap} {o : Obj}, q Dd = none → (kp.ov q).ov (one Dd o) = (kp.ov (one Dd o)).ov q := fun hq => GMap.ov_comm fun b o' e => one_off fun h => by rw [h, hq] at e; cases e
  have gD' := hg0 _ gD
  unfold AccOk at H'
  rw [com gD'] at H'
  have wfA : WF W (kp.ov (one Dd (lstO (us ++ vals) c'))) := at_.wf.mono fun b o e => (GMap.ov_none (at_.dis b o e)).trans e
  have dA : Dis g (kp.ov (one Dd (lstO (us ++ vals) c'))) := fun b o e => (GMap.ov_eq e).elim (fun e => by rw [(one_eq e).1]; exact gD') fun e => sub d1 b o e.2
  have ofg : OffEnv g env := ⟨hg0 _ of.1, fun x c hc => hg0 _ (of.2 x c hc)⟩
  have gIn : FzIn g { s with heap := h', toks := tk' } := fun b o e => H'.kept b o (GMap.ov_some e)
  have dz : Dis g fz' := fun b o e => (H'.fzNew b o e).elim (sub d0 b o) fun h => (GMap.ov_off h).1
  cases es with
  | nil =>
    refine G fz' _ _ _ _ H'.fz0 H'.fzIn gIn dz fun h₅ tk₅ keep => ?_
    cases st
    rw [List.flatten_nil, List.append_nil] at hall
    subst hall
    exact hR _ _ _ _ _ _ _ (H'.turn (g' := fun _ => none) wfA dA (sub d0) ofg (fun _ _ => rfl) keep fun _ _ e => nomatch e) hv
  | cons d ds =>
    obtain ⟨e1, os, rfl, ht, st⟩ := st
    refine G fz' _ _ _ _ H'.fz0 H'.fzIn gIn dz fun v fz₂ g₂ h₂ tk₂ hvv hs hnew hin hd keep hg₂ G₂ => ?_
    have H₂ := H'.turn' (tk := tk₂) wfA dA (sub d0) ofg hd keep hg₂ hs hnew hin
    have gD₂ := hd _ gD'
    rw [← com gD₂] at H₂
    have hl := congrArg List.length hall
    rw [List.flatten_cons, List.length_append, List.length_append] at hl
    refine ht (kp.ov g₂) fz₁ fz₂ ad' m' _ (us ++ vals) c' v _ ⟨at_.wf.mono fun b o e => (GMap.ov_none (hd b (sub d1 b o e))).trans e, (GMap.ov_none gD₂).trans at_.kp, at_.fz, at_.loc, at_.cell⟩ H₂ hvv (by rw [List.length_append, hv.length]; walk_at "lx") fun fz₃ ad₃ m₃ h₃ tk₃ vals₃ c₃ H₃ hs₃ hv₃ => ?_
    rw [List.append_assoc] at H₃
    exact ⟨ds.length, Nat.lt_succ_self _, ds, os, g₂, fz₃, ad₃, m₃, h₃, tk₃, vals ++ vals₃, c₃, pre ++ e1, rfl, rfl, fun b e => hd b (hg0 b e), G₂, H₃, ((hv.mono hs).mono hs₃).append hv₃, by rw [List.append_assoc, ← List.flatten_cons]; exact hall, st⟩
/-- the append at a turn's end -/
theorem acc_append {kp fz₀ fz : GMap} {Dd : Addr} {us : List Value} {c : Nat} {ad : PySem.Str → Addr} {m : PySem.Str → Option Value} {s : Shared} {y : Value} {P : Shared → Prop} {E : Value → Shared → Prop} (a : AccAt W env kp Dd fz₀) (H : AccOk W env kp Dd us c fz₀ σ fz ad m s) (hz : us.length < 100000)
    (k : ∀ h' c', AccOk W env kp Dd (us ++ [y]) c' fz₀ σ fz ad m { s with heap := h', toks := s.toks } → P { s with heap := h', toks := s.toks }) : wpAny W.M A (call (.builtin "list.append") [.ref Dd, y]) (fun _ s' => P s') E s := by
  refine wpAny_list_append_plain ⟨c, H.kept _ _ (GMap.ov_some one_self)⟩ (fun h' hp hsb => ?_) (by rw [List.size_toArray, PySem.sizeLine_eq]; walk_at "lx")
  obtain ⟨c', g'⟩ := hp
  rw [List.push_toArray] at g'
  exact k h' c' (H.turn a.wf a.dis a.dis0 a.off (fun b e => one_off (one_ne e)) (fun b o e q => (hsb.2 b (one_ne e)).trans q) fun b o e => by obtain ⟨rfl, rfl⟩ := one_eq e; exact g')
end
end
section
section
variable {W : WP} {A : Around} {env : Env} {σ σ' : Sto}

/-- a comprehension's code, to its end -/
noncomputable def CompOk (W : WP) (A : Around) (env : Env) (σ : Sto) (e : PySem.Expr) (scope : Scope) (cl : List (PySem.Str × Addr)) (first : Sem Value) (outs : List D) : Prop :=
  ∀ (kp fz₀ fz : GMap) (ad : PySem.Str → Addr) (m : PySem.Str → Option Value) (s : Shared) (RR : Value → Addr → Result → Shared → Prop) (E : Value → Shared → Prop), Ok W env kp fz₀ σ fz ad m s →
    (∀ a C us k m' fz₁ s₁ fz' h tk, Ext fz s fz₁ s₁ → CEnd fz₁ s₁ outs a C us k m' fz' { s₁ with heap := h, toks := tk } → RR (.ref a) C (.ok .next) { s₁ with heap := h, toks := tk }) →
    wpAny W.M A first (fun x s₁ => wpAny W.M A (pyIter x) (fun it s₂ => wpAny W.M A (newList []) (fun acc s₃ => wpAny W.M A (newFunctionEnv scope env.globals cl [] env.qual none .none (some env)) (fun cenv s₄ =>
      codeAny W.M A (.compStart e 0 it acc { cenv with scope := relabel scope env }) (RR acc cenv.locals) s₄) E s₃) E s₂) E s₁) E s
noncomputable abbrev CCode := Addr → Env → (Value → Shared → Prop) → Value → (Shared → Prop) → Shared → Prop
/-- the loop's rule at depth 0 -/
noncomputable def CRule (W : WP) (A : Around) (e : PySem.Expr) (code : CCode) : Prop :=
  ∀ (I Dd : Addr) (cenv : Env) (R : Result → Shared → Prop) (Inv : Nat → Shared → Prop), (∀ n s, Inv n s → Nxt W A none I (fun s => R (.ok .next) s) (fun v s₁ => code Dd cenv (fun e s' => R (.error e) s') v (fun s' => ∃ m, m < n ∧ Inv m s') s₁) (notedBy W.M A cenv fun e s' => R (.error e) s') s) → ∀ n s, Inv n s → codeAny W.M A (.compLoop e 0 (.ref I) (.ref Dd) cenv) R s
/-- the loop's rule at depth 0, the target any -/
noncomputable def CRuleG (lo : Option PySem.Expr) (W : WP) (A : Around) (e : PySem.Expr) (code : CCode) : Prop :=
  ∀ (I Dd : Addr) (cenv : Env) (R : Result → Shared → Prop) (Inv : Nat → Shared → Prop), (∀ n s, Inv n s → Nxt W A lo I (fun s => R (.ok .next) s) (fun v s₁ => code Dd cenv (fun e s' => R (.error e) s') v (fun s' => ∃ m, m < n ∧ Inv m s') s₁) (notedBy W.M A cenv fun e s' => R (.error e) s') s) → ∀ n s, Inv n s → codeAny W.M A (.compLoop e 0 (.ref I) (.ref Dd) cenv) R s
/-- what the first iterable gives -/
noncomputable def FirstOk (W : WP) (A : Around) (env : Env) (σ : Sto) (iter : PySem.Expr) (lo : Option PySem.Expr) (ds : List D) : Prop :=
  ∀ (kp fz₀ fz : GMap) (ad : PySem.Str → Addr) (m : PySem.Str → Option Value) (s : Shared) (Q E : Value → Shared → Prop), Ok W env kp fz₀ σ fz ad m s →
    (∀ I g fz₁ s₁ h₂ tk₂, Ext fz s fz₁ s₁ → New g s₁.heap → (∀ b o, s₁.heap.get? b = some o → h₂.get? b = some o) → (∀ b o, g b = some o → h₂.get? b = some o) → (∀ s', FzIn g s' → FzIn fz₁ s' → ∀ (QQ EE : Value → Shared → Prop), QQ (.ref I) s' → wpAny W.M A (pyIter (.ref I)) QQ EE s') → Gen W A lo I fz₁ ds g → Q (.ref I) { s₁ with heap := h₂, toks := tk₂ }) →
    wpAny W.M A (eval iter env) (fun x s₁ => wpAny W.M A (pyIter x) Q E s₁) E s
theorem comp_startG {lo : Option PySem.Expr} {n : Nat} {elt iter t : PySem.Expr} {ifs : List PySem.Expr} {gs : List Comprehension} {scope : Scope} {cl : List (PySem.Str × Addr)} {pos : Pos} {ds : List D} {oss : List (List D)} {cap : List (PySem.Str × D)} {code : CCode}
    (F : FOK n A env) (hf : FirstOk W A env σ iter lo ds) (rule : CRuleG lo W A (.ListComp elt (⟨t, iter, ifs, 0⟩ :: gs) scope pos) code)
    (hcell : ∀ y ∈ scope.names, y.2 ≠ .cell) (hkind : scope.kind = .function) (hcaps : ∀ C, Caps env σ (compEnvC scope cl C env) cap)
    (hstep : ∀ C Dd Eo, FOK n A (compEnvC scope cl C env) → All2 (CTurn W (compEnvC scope cl C env) Dd (cap.map fun p => (p.1, Slot.val p.2)) (code Dd (compEnvC scope cl C env) Eo)) ds oss) (hz : oss.flatten.length ≤ 100000) :
    CompOk W A env σ (.ListComp elt (⟨t, iter, ifs, 0⟩ :: gs) scope pos) scope cl (eval iter env) oss.flatten := by
  intro kp fz₀ fz ad m s RR E H hRR
  refine hf _ _ _ _ _ _ _ _ H fun I g fz₁ s₁ h₂ tk₂ x₁ hn hk₂ hg₂ self G => ?_
  replace hRR := fun a C us k m' fz' h tk => hRR a C us k m' fz₁ s₁ fz' h tk x₁
  replace H := H.ext x₁
  clear x₁ hf
  refine wpAny_newObj_type (wpAny_newFunctionEnv hcell (by intro y hy; simp at hy) (fun h₃ hns₃ hsb₃ => ?_) hkind)
  dsimp only at hns₃ hsb₃ ⊢
  have hC : (h₂.push { cls := .type "list", dict := none, data := .seq ([] : List Value).toArray }).objs.size = h₂.objs.size + 1 := by rw [Heap.size_push]
  have lt2 : ∀ b o, h₂.get? b = some o → b < h₂.objs.size := fun b o e => Heap.lt_size e
  generalize hCC : (h₂.push { cls := .type "list", dict := none, data := .seq ([] : List Value).toArray }).objs.size = C at *
  have hacc₂ : (h₂.push { cls := .type "list", dict := none, data := .seq ([] : List Value).toArray }).get? h₂.objs.size = some (lstO [] 0) := Heap.get?_push_size _ rfl
  generalize hDD : h₂.objs.size = Dd at *
  have hDC : Dd ≠ C := by rw [hC]; exact Nat.ne_of_lt (Nat.lt_succ_self _)
  have none1 : ∀ (k : GMap), (∀ b o, k b = some o → h₂.get? b = some o) → ∀ b, Dd ≤ b → k b = none := fun k hk b hb => by
    cases q : k b with
    | none => rfl
    | some o => exact absurd (lt2 b o (hk b o q)) (Nat.not_lt.mpr hb)
  have leC : Dd ≤ C := by rw [hC]; exact Nat.le_succ _
  have ltC : ∀ c o, s₁.heap.get? c = some o → c < C := fun c o e => Nat.lt_of_lt_of_le (lt2 c o (hk₂ c o e)) leC
  have old : ∀ b o, h₂.get? b = some o → h₃.get? b = some o := fun b o e => hsb₃.extBut b o (Nat.ne_of_lt (by rw [hC]; exact Nat.lt_succ_of_lt (lt2 b o e))) (Heap.get?_push_of_some _ (Heap.get?_push_of_some _ e))
  have hacc : h₃.get? Dd = some (lstO [] 0) := hsb₃.extBut _ _ hDC (Heap.get?_push_of_some _ hacc₂)
  have sD := none1 (fun b => s₁.heap.get? b) hk₂ Dd (Nat.le_refl _)
  have sC := none1 (fun b => s₁.heap.get? b) hk₂ C leC
  have fD := none1 fz₁ (fun b o e => hk₂ b o (H.fzIn b o e)) Dd (Nat.le_refl _)
  have fC := none1 fz₁ (fun b o e => hk₂ b o (H.fzIn b o e)) C leC
  have gD := none1 g hg₂ Dd (Nat.le_refl _)
  have gC := none1 g hg₂ C leC
  have FC : FOK n A (compEnvC scope cl C env) := ⟨F.hh, hkind, F.hg, F.hb, F.dp, F.un⟩
  have hcp := hcaps C
  have hst := hstep C Dd (fun e s' => RR (.ref Dd) C (.error e) s') FC
  have keep₃ : ∀ b o, s₁.heap.get? b = some o → h₃.get? b = some o := fun b o e => old b o (hk₂ b o e)
  clear hstep hcaps hk₂ lt2 none1 hacc₂ hsb₃ hCC hC
  have cellsOut : ∀ x c, (compEnvC scope cl C env).cells.lookup x = some c → ∃ v, s₁.heap.IsCell c v := fun x c h => H.cells x c (hcp.cells x c h)
  have hwf₁ : WF W (fun b => s₁.heap.get? b) := H.heapWF
  have at_ : AccAt W (compEnvC scope cl C env) (fun b => s₁.heap.get? b) Dd fz₁ := ⟨hwf₁, sD, fD, Ne.symm hDC, fun x c h e => by obtain ⟨v, o, q, _⟩ := cellsOut x c h; rw [e] at q; exact absurd (q.symm.trans sD) (fun h => nomatch h)⟩
  have of : OffEnv g (compEnvC scope cl C env) := ⟨gC, fun x c h => let ⟨_, o, q, _⟩ := cellsOut x c h; hn _ o q⟩
  have offK : ∀ {b : Addr} {o : Obj}, b ≠ Dd → g b = none → (GMap.ov (GMap.ov (fun b => s₁.heap.get? b) g) (one Dd o)) b = s₁.heap.get? b := fun h1 h2 => (GMap.ov_none (one_off h1)).trans (GMap.ov_none h2)
  have H₃ : AccOk W (compEnvC scope cl C env) (GMap.ov (fun b => s₁.heap.get? b) g) Dd [] 0 fz₁ (cap.map fun p => (p.1, Slot.val p.2)) fz₁ (fun _ => 0) (fun x => List.lookup x ([] : List (PySem.Str × Value)).reverse) { s₁ with heap := h₃, toks := tk₂ + ([] : List (PySem.Str × Value)).length } := by
    have noOwn : ∀ x es, (x, Slot.own es) ∉ cap.map fun p => (p.1, Slot.val p.2) := fun x es h => by obtain ⟨p, _, e⟩ := List.mem_map.mp h; cases e
    refine { wf := hwf₁.mono fun b o e => (offK (fun h => by rw [h] at e; exact absurd (e.symm.trans sD) (fun h => nomatch h)) (hn b o e)).trans e, kept := ?_, fzIn := fun b o e => keep₃ b o (H.fzIn b o e), fz0 := fun _ _ e => e, fzNew := fun _ _ e => .inl e, ns := hns₃, nsK := (offK (Ne.symm hDC) gC).trans sC, nsF := fC, cells := ?_, cinj := fun x y c hx hy => H.cinj x y c (hcp.cells x c hx) (hcp.cells y c hy), cfree := ?_, vars := ?_, own := fun x es h => absurd h (noOwn x es), inj := fun x y es es' h => absurd h (noOwn x es) }
    · intro b o e
      rcases GMap.ov_eq e with e | ⟨_, e⟩
      · obtain ⟨rfl, rfl⟩ := one_eq e; exact hacc
      · rcases GMap.ov_eq e with e | ⟨_, e⟩
        · exact old _ _ (hg₂ _ _ e)
        · exact keep₃ _ _ e
    · intro x c h
      obtain ⟨v, o, q, r⟩ := cellsOut x c h
      exact ⟨v, o, keep₃ _ _ q, r⟩
    · intro x c hx hl
      obtain ⟨v, o, q, _⟩ := cellsOut x c hx
      exact absurd (Nat.lt_trans hl (ltC c o q)) (Nat.lt_irrefl _)
    · intro x sl hx
      obtain ⟨p, hp, e⟩ := List.mem_map.mp hx
      cases e
      obtain ⟨h1, h2, h3, h4⟩ := hcp.caps p hp
      obtain ⟨v, l, hv⟩ := H.vars _ _ h1
      refine ⟨v, ?_, hv⟩
      rcases l with ⟨a, _⟩ | ⟨_, c, b, o, q, r⟩
      · exact absurd a h2
      · exact .inr ⟨.inl h3, c, h4.trans b, o, keep₃ _ _ q, r⟩
  have d1 : Dis g (fun b => s₁.heap.get? b) := hn
  have d0 : Dis g fz₁ := hn.dis H.fzIn
  have loop : codeAny W.M A (.compLoop (.ListComp elt (⟨t, iter, ifs, 0⟩ :: gs) scope pos) 0 (.ref I) (.ref Dd) (compEnvC scope cl C env)) (RR (.ref Dd) C) { s₁ with heap := h₃, toks := tk₂ + ([] : List (PySem.Str × Value)).length } := by
    refine acc_loop (us := []) (rule I Dd _ (RR (.ref Dd) C)) at_ d1 d0 of gD H₃ G hst (by rw [List.length_nil, Nat.zero_add]; exact hz) fun fz' ad' m' h' tk' vals c' H' hv => ?_
    refine hRR Dd C vals c' m' fz' h' tk' ⟨Keeps.of fun b o e => H'.kept b o ((GMap.ov_none (at_.dis b o e)).trans e), sD, sC, hDC, H'.ns, H'.kept _ _ (GMap.ov_some one_self), hv, H'.fz0, H'.fzIn, at_.fzN H', H'.nsF, fun b o e => (H'.fzNew b o e).imp id fun h => (GMap.ov_off h).2⟩
  exact codeAny_compStart_list loop (self _ (fun b o e => old _ _ (hg₂ _ _ e)) (fun b o e => keep₃ _ _ (H.fzIn _ _ e)) _ _ loop)
theorem comp_start {n : Nat} {elt iter t : PySem.Expr} {ifs : List PySem.Expr} {gs : List Comprehension} {scope : Scope} {cl : List (PySem.Str × Addr)} {pos : Pos} {d : D} {ds : List D} {oss : List (List D)} {cap : List (PySem.Str × D)} {code : CCode}
    (F : FOK n A env) (he : Ev W A env σ iter d) (hi : Iter W A d ds) (rule : CRule W A (.ListComp elt (⟨t, iter, ifs, 0⟩ :: gs) scope pos) code)
    (hcell : ∀ y ∈ scope.names, y.2 ≠ .cell) (hkind : scope.kind = .function) (hcaps : ∀ C, Caps env σ (compEnvC scope cl C env) cap)
    (hstep : ∀ C Dd Eo, FOK n A (compEnvC scope cl C env) → All2 (CTurn W (compEnvC scope cl C env) Dd (cap.map fun p => (p.1, Slot.val p.2)) (code Dd (compEnvC scope cl C env) Eo)) ds oss) (hz : oss.flatten.length ≤ 100000) :
    CompOk W A env σ (.ListComp elt (⟨t, iter, ifs, 0⟩ :: gs) scope pos) scope cl (eval iter env) oss.flatten :=
  comp_startG (lo := none) F (fun kp fz₀ fz ad m s Q E H kont => he _ _ _ _ _ _ _ _ H fun v fz₁ s₁ x₁ hv => hi _ _ _ _ _ x₁.inH hv fun I g h₂ tk₂ hn hk₂ hg₂ self G => kont I g fz₁ s₁ h₂ tk₂ x₁ hn hk₂ hg₂ self G) rule hcell hkind hcaps hstep hz
theorem evF_of_comp {elt iter t : PySem.Expr} {ifs : List PySem.Expr} {gs : List Comprehension} {scope : Scope} {cl : List (PySem.Str × Addr)} {pos : Pos} {outs : List D} (h : CompOk W A env σ (.ListComp elt (⟨t, iter, ifs, 0⟩ :: gs) scope pos) scope cl (eval iter env) outs)
    (hclos : closureFor scope env = pure cl) (hkind : scope.kind = .function) (hnames : ∀ y ∈ scope.names, y.2 = .local → scope.names.lookup y.1 = some .local) (hs : ∀ x, foldedSetIterable iter env x = pure x) : EvF W A env σ (.ListComp elt (⟨t, iter, ifs, 0⟩ :: gs) scope pos) outs := by
  intro kp fz₀ fz ad m s Q E H k
  rw [eval_ListComp]
  refine wpAny_comprehension_free (use := none) rfl hs hclos hkind hnames (h kp fz₀ fz ad m s (fun acc C => compPost W.M A E none Q acc C) E H ?_)
  intro a C us c m' fz₁ s₁ fz' h tk x₁ X
  refine ⟨m', X.ns, fun h' hs' => ?_⟩
  have x₂ : Ext fz₁ s₁ fz' { s₁ with heap := h', toks := tk } := by
    refine ⟨⟨h', tk, rfl, fun b o e => ?_⟩, X.sub, fun b o e => ?_, X.new⟩
    · exact hs'.extBut b o (fun q => by rw [q, X.cNew] at e; cases e) (kGet X.keeps e)
    · exact hs'.extBut b o (fun q => by rw [q, X.cF] at e; cases e) (X.inH b o e)
  have ha : s.heap.get? a = none := by
    cases q : s.heap.get? a with
    | none => rfl
    | some o => have := kGet x₁.keeps q; rw [X.aNew] at this; cases this
  exact k a us c fz' _ (x₁.trans x₂) ha X.aF (hs'.extBut _ _ X.ne X.get) X.vals

/-- y = [comprehension], the store exchanged -/
theorem x_of_comp {n : Nat} {y : PySem.Str} {py spos : Pos} {elt iter t : PySem.Expr} {ifs : List PySem.Expr} {gs : List Comprehension} {scope : Scope} {cl : List (PySem.Str × Addr)} {pos : Pos} {outs : List D} (F : FOK n A env) (h : CompOk W A env σ (.ListComp elt (⟨t, iter, ifs, 0⟩ :: gs) scope pos) scope cl (eval iter env) outs)
    (hy : env.kindOf y = some .local) (hsw : swapsWith (.ListComp elt (⟨t, iter, ifs, 0⟩ :: gs) scope pos) (some (.Name y py)) spos.line env = pure true)
    (hclos : closureFor scope env = pure cl) (hkind : scope.kind = .function) (hnames : ∀ y ∈ scope.names, y.2 = .local → scope.names.lookup y.1 = some .local) (hs : ∀ x, foldedSetIterable iter env x = pure x) :
    X1 W A env σ (.Assign [.Name y py] (.ListComp elt (⟨t, iter, ifs, 0⟩ :: gs) scope pos) spos) (.next (upd σ y (.own outs))) := by
  intro kp fz₀ fz ad m s Q E H p
  rw [exec_Assign_Name_used _ _ _ _ hsw]
  refine wpAny_bind (wpAny_standAt (wpAny_bind ?_))
  show wpAny _ A (do let _ ← comprehension (.ListComp elt (⟨t, iter, ifs, 0⟩ :: gs) scope pos) scope env _ (newList []) false (eval iter env) (some (assign (.Name y py) env))) _ _ s
  refine wpAny_bind (wpAny_mono (wpAny_comprehension_free (use := some (assign (.Name y py) env)) (Q := fun _ s' => Q .next s') rfl hs hclos hkind hnames (h kp fz₀ fz ad m s (fun acc C => compPost W.M A E (some (assign (.Name y py) env)) (fun _ s' => Q .next s') acc C) E H ?_)) (fun _ s' hq => wpAny_pure (wpAny_pure hq)) fun _ _ e => e)
  intro a C us c m' fz₁ s₁ fz' h tk x₁ X
  have H₁ := H.ext x₁
  have x₂ : Ext fz₁ s₁ fz' { s₁ with heap := h, toks := tk } := ⟨X.keeps, X.sub, X.inH, X.new⟩
  have H₂ := H₁.ext x₂
  have N := H₁.newAddr x₂ X.aNew
  have hLC : env.locals ≠ C := fun e => by obtain ⟨o, _, _, ho, _⟩ := H₁.ns; rw [e, X.cNew] at ho; cases ho
  show wpAny _ A (assign (.Name y py) env (.ref a)) _ _ _
  refine wpAny_assign_Name (wpAny_storeName_local hy H₂.ns (fun h' hn hs' => ?_) (by show (env.scope.kind == .class || (env.scope.kind == .module && env.locals != env.globals)) = false; rw [F.hk]; rfl))
  refine ⟨m', X.ns.sameBut hs' (Ne.symm hLC), fun h₃ hs₃ => ?_⟩
  have H₃ := H₂.setOwn (tk := tk + 1) hy hn hs' N.1 X.aF X.get X.vals N.2
  have hkC : ∀ b o, kp b = some o → b ≠ C := fun b o e q => by have := H₁.kept b o e; rw [q, X.cNew] at this; cases this
  obtain ⟨h₁, tk₁, e₁, _⟩ := id x₁.keeps
  subst e₁
  -- the comprehension's own dict may have turned: nothing that we know speaks of it
  have keepC : ∀ b q, b ≠ C → h'.get? b = some q → h₃.get? b = some q := fun b q hb e => hs₃.extBut b q hb e
  have cellC : ∀ x c, env.cells.lookup x = some c → c ≠ C := fun x c h e => by
    obtain ⟨_, o, g, _⟩ := H₁.cells x c h
    rw [e, X.cNew] at g; cases g
  refine p fz' (fun z => if z = y then a else ad z) (fun z => if z = y then some (.ref a) else m z) h₃ (tk + 1) ?_
  refine { H₃ with kept := fun b o e => keepC b o (hkC b o e) (H₃.kept b o e), fzIn := fun b o e => keepC b o (fun q => by rw [q, X.cF] at e; cases e) (H₃.fzIn b o e), ns := H₃.ns.at' fun o e => keepC _ _ hLC e, cells := ?_, vars := ?_ }
  · intro x cc hc
    obtain ⟨v, o, g, q⟩ := H₃.cells x cc hc
    exact ⟨v, o, keepC _ _ (cellC x cc hc) g, q⟩
  · intro x sl hx
    have hl := H₃.vars x sl hx
    cases sl with
    | val d =>
      obtain ⟨v, l, hv⟩ := hl
      refine ⟨v, ?_, hv⟩
      rcases l with ⟨a, b⟩ | ⟨a, cc, b, o, g, q⟩
      · exact .inl ⟨a, b⟩
      · exact .inr ⟨a, cc, b, o, keepC _ _ (cellC x cc b) g, q⟩
    | own es =>
      obtain ⟨a', b, us', nn', g, q⟩ := hl
      refine ⟨a', b, us', nn', keepC _ _ ?_ g, q⟩
      intro e
      rcases mem_upd hx with ⟨rfl, _⟩ | ⟨hn', hx'⟩
      · simp at e; exact X.ne e
      · simp [hn'] at e
        obtain ⟨_, _, g', _⟩ := H₁.objOwn hx'
        rw [e, X.cNew] at g'; cases g'

/-- one generator -/
noncomputable def code1 (W : WP) (A : Around) (t elt : PySem.Expr) (ifs : List PySem.Expr) : CCode := fun Dd cenv Eo v P s =>
  wpAny W.M A (assign t cenv v) (fun _ s₂ => wpAny W.M A (forIn ifs true fun c r => if r = true then do let ok ← isTrue c cenv (eval c cenv); pure (ForInStep.yield ok) else pure (ForInStep.yield r)) (fun ok s₃ =>
    if ok = true then wpAny W.M A (eval elt cenv) (fun x s₄ => wpAny W.M A (call (.builtin "list.append") [.ref Dd, x]) (fun _ s₅ => P s₅) (notedBy W.M A cenv Eo) s₄) (notedBy W.M A cenv Eo) s₃ else P s₃) (notedBy W.M A cenv Eo) s₂) (notedBy W.M A cenv Eo) s
theorem rule1 {elt iter t : PySem.Expr} {ifs : List PySem.Expr} {scope : Scope} {pos : Pos} (ht : ∀ it v, letOwnedTupleGo t it v = pure ()) : CRule W A (.ListComp elt [⟨t, iter, ifs, 0⟩] scope pos) (code1 W A t elt ifs) :=
  fun I Dd cenv R Inv turn n s h => codeAny_compLoop_tests Inv (fun n s hI => wpAny_mono (turn n s hI) (fun r s₁ q => by cases r <;> exact q) fun _ _ e => e) n h (fun v => ht _ v)
theorem turn1 {elt t : PySem.Expr} {ifs : List PySem.Expr} {cenv : Env} {Dd : Addr} {Eo : Value → Shared → Prop} {d : D} {o : Option D} (h : CStep W A cenv t σ ifs elt d o) : CTurn W cenv Dd σ (code1 W A t elt ifs Dd cenv Eo) d o.toList := by
  have key : ∃ σ₁, Asg W A cenv t d σ σ₁ ∧ (∀ p ∈ σ, p ∈ σ₁) ∧ Tst W A cenv σ₁ ifs o.isSome ∧ ∀ e, o = some e → Ev W A cenv σ₁ elt e := by
    cases o with
    | none => obtain ⟨σ₁, a, b, c⟩ := h; exact ⟨σ₁, a, b, c, fun _ e => nomatch e⟩
    | some e => obtain ⟨σ₁, a, b, c, q⟩ := h; exact ⟨σ₁, a, b, c, fun _ h => by cases h; exact q⟩
  obtain ⟨σ₁, ha, hsub, htst, hel⟩ := key
  intro kp fz₀ fz ad m s us c v P at_ H hv hz k
  refine ha _ _ _ _ _ _ _ _ _ (Ok.rebase H) hv fun fz₅ ad₅ m₅ h₅ tk₅ H₅ => ?_
  refine htst _ _ _ _ _ _ _ _ H₅ fun fz₆ s₆ x₆ => ?_
  have H₆ := H₅.ext x₆
  obtain ⟨h₇, tk₇, e₇, _⟩ := id x₆.keeps
  subst e₇
  have nb : ∀ {us c} b q, fz b = some q → fz₀ b = some q ∨ (kp.ov (one Dd (lstO us c))) b = none := fun b q e => (H.fzNew b q e).imp id fun h => (GMap.ov_none (one_off (one_ne (GMap.ov_off h).1))).trans (GMap.ov_off h).2
  cases o with
  | none =>
    rw [Option.isSome_none, if_neg (by decide)]
    exact k fz₆ ad₅ m₅ h₇ tk₇ [] c (by rw [List.append_nil]; exact (Ok.unbase H₆ H.fz0 nb).weaken hsub) H₆.fz0 .nil
  | some e =>
    rw [Option.isSome_some, if_pos rfl]
    refine hel e rfl _ _ _ _ _ _ _ _ H₆ fun y fz₈ s₈ x₈ hy => ?_
    have H₈ := H₆.ext x₈
    obtain ⟨h₉, tk₉, e₉, _⟩ := id x₈.keeps
    subst e₉
    exact acc_append at_ ((Ok.unbase H₈ H.fz0 nb).weaken hsub) (by simp at hz; walk_at "lx") fun h' c' H' => k fz₈ ad₅ m₅ h' tk₉ [y] c' H' H₈.fz0 (.cons hy .nil)
theorem flat_opt (os : List (Option D)) : (os.map Option.toList).flatten = os.filterMap id := by
  induction os with
  | nil => rfl
  | cons o os ih => cases o <;> simp [ih]
section
variable {n : Nat} {elt iter t : PySem.Expr} {ifs : List PySem.Expr} {scope : Scope} {cl : List (PySem.Str × Addr)} {pos : Pos} {d : D} {ds : List D} {os : List (Option D)} {cap : List (PySem.Str × D)}
theorem comp_ok1 (F : FOK n A env) (he : Ev W A env σ iter d) (hi : Iter W A d ds) (hcell : ∀ y ∈ scope.names, y.2 ≠ .cell) (hkind : scope.kind = .function)
    (hcaps : ∀ C, Caps env σ (compEnvC scope cl C env) cap) (hstep : ∀ C, FOK n A (compEnvC scope cl C env) → All2 (fun d o => CStep W A (compEnvC scope cl C env) t (cap.map fun p => (p.1, Slot.val p.2)) ifs elt d o) ds os) (hz : (os.filterMap id).length ≤ 100000) (ht : ∀ it v, letOwnedTupleGo t it v = pure ()) :
    CompOk W A env σ (.ListComp elt [⟨t, iter, ifs, 0⟩] scope pos) scope cl (eval iter env) (os.filterMap id) := by
  rw [← flat_opt] at hz ⊢
  exact comp_start F he hi (rule1 ht) hcell hkind hcaps (fun C Dd Eo FC => (hstep C FC).imp Option.toList fun d o h => turn1 h) hz
theorem evF_comp (F : FOK n A env) (he : Ev W A env σ iter d) (hi : Iter W A d ds) (hclos : closureFor scope env = pure cl) (hcell : ∀ y ∈ scope.names, y.2 ≠ .cell) (hkind : scope.kind = .function) (hnames : ∀ y ∈ scope.names, y.2 = .local → scope.names.lookup y.1 = some .local)
    (hcaps : ∀ C, Caps env σ (compEnvC scope cl C env) cap)
    (hstep : ∀ C, FOK n A (compEnvC scope cl C env) → All2 (fun d o => CStep W A (compEnvC scope cl C env) t (cap.map fun p => (p.1, Slot.val p.2)) ifs elt d o) ds os) (hz : ds.length ≤ 100000)
    (hs : ∀ x, foldedSetIterable iter env x = pure x := by intro _; rfl) (ht : ∀ it v, letOwnedTupleGo t it v = pure () := by intro _ _; rfl) :
    EvF W A env σ (.ListComp elt [⟨t, iter, ifs, 0⟩] scope pos) (os.filterMap id) := evF_of_comp (comp_ok1 F he hi hcell hkind hcaps hstep (Nat.le_trans (List.length_filterMap_le id os) (by rw [← (hstep 0 ⟨F.hh, hkind, F.hg, F.hb, F.dp, F.un⟩).length]; exact hz)) ht) hclos hkind hnames hs
end

/-- names bound one by one -/
noncomputable def BndL (W : WP) (A : Around) (env : Env) (fs : List (Value → Sem Unit)) (ds : List D) (σ σ₁ : Sto) : Prop :=
  ∀ (kp fz₀ fz : GMap) (ad : PySem.Str → Addr) (m : PySem.Str → Option Value) (s : Shared) (vs : List Value) (Q : Unit → Shared → Prop) (E : Value → Shared → Prop), Ok W env kp fz₀ σ fz ad m s → VHs fz vs ds →
    (∀ fz' ad' m' h' tk', Ok W env kp fz₀ σ₁ fz' ad' m' { s with heap := h', toks := tk' } → Q () { s with heap := h', toks := tk' }) → wpAny W.M A (assignInOrder fs vs) Q E s
noncomputable def Bnd (W : WP) (A : Around) (env : Env) (f : Value → Sem Unit) (d : D) (σ σ₁ : Sto) : Prop :=
  ∀ (kp fz₀ fz : GMap) (ad : PySem.Str → Addr) (m : PySem.Str → Option Value) (s : Shared) (v : Value) (Q : Unit → Shared → Prop) (E : Value → Shared → Prop), Ok W env kp fz₀ σ fz ad m s → VH fz v d →
    (∀ fz' ad' m' h' tk', Ok W env kp fz₀ σ₁ fz' ad' m' { s with heap := h', toks := tk' } → Q () { s with heap := h', toks := tk' }) → wpAny W.M A (f v) Q E s
theorem bnd_asg {t : PySem.Expr} {d : D} {σ₁ : Sto} (h : Asg W A env t d σ σ₁) : Bnd W A env (assign t env) d σ σ₁ := h
theorem bnd_name {n : Nat} {x : PySem.Str} {d : D} (F : FOK n A env) (hx : env.kindOf x = some .local) : Bnd W A env (fun v => bindName env x v) d σ (upd σ x (.val d)) := by
  intro kp fz₀ fz ad m s v Q E H hv k
  exact wpAny_bindName (wp_store F H (.inl hx) hv fun m' h' tk H' => k _ _ _ _ _ H')
theorem bndl_nil {fs : List (Value → Sem Unit)} : BndL W A env fs [] σ σ := by
  intro kp fz₀ fz ad m s vs Q E H hv k
  obtain rfl := hv.nil_
  have : assignInOrder fs [] = pure () := by cases fs <;> rfl
  rw [this]
  exact wpAny_pure (k _ _ _ s.heap s.toks H)
theorem bndl_cons {f : Value → Sem Unit} {fs : List (Value → Sem Unit)} {d : D} {ds : List D} {σ₁ σ₂ : Sto} (h : Bnd W A env f d σ σ₁) (r : BndL W A env fs ds σ₁ σ₂) : BndL W A env (f :: fs) (d :: ds) σ σ₂ := by
  intro kp fz₀ fz ad m s vs Q E H hv k
  obtain ⟨v, vs, rfl, hv, hr⟩ := hv.cons_
  · show wpAny _ A (do holding vs (f v); assignInOrder fs vs) _ _ s
    refine wpAny_bind (wpAny_holding (h _ _ _ _ _ _ _ _ _ H.rebase hv fun fz' ad' m' h' tk' H' => ?_))
    refine r _ _ _ _ _ _ _ _ _ (H'.unbase H.fz0 H.fzNew) (hr.mono H'.fz0) fun fz'' ad'' m'' h'' tk'' H'' => k _ _ _ _ _ H''

theorem VH.isTup {fz : GMap} {s : Shared} {v : Value} {ds : List D} (hf : FzIn fz s) (h : VH fz v (.tup ds)) : ∃ a vs, v = .ref a ∧ s.heap.IsTuple a (List.toArray vs) ∧ VHs fz vs ds := by
  obtain ⟨a, vs, n, rfl, e, r⟩ := h.tup_
  exact ⟨_, _, rfl, ⟨_, hf _ _ e, rfl, _, rfl⟩, r⟩

/-- targets = a tuple, stored in order -/
theorem x_tup {ts : List PySem.Expr} {k : Nat} {tp pos : Pos} {e : PySem.Expr} {ds : List D} {σ₁ : Sto} (hh : A.handled = none) (h : Ev W A env σ e (.tup ds)) (hl : ts.length = ds.length) (hb : BndL W A env ((assignEach ts env).map (·.2)) ds σ σ₁)
    (hs : swapsWithSole [.Tuple ts k tp] e pos.line env = pure false) (hw : swappedStores [.Tuple ts k tp] e env = pure none) (hln : (assignEach ts env).length = ts.length) (hst : (assignEach ts env).findIdx? (·.1) = none) :
    X1 W A env σ (.Assign [.Tuple ts k tp] e pos) (.next σ₁) := by
  intro kp fz₀ fz ad m s Q E H p
  refine wpAny_Assign_stores (h _ _ _ _ _ _ _ _ H fun v fz₁ s₁ x₁ hv => ?_) hs hw
  obtain ⟨a, vs, rfl, hT, hr⟩ := hv.isTup x₁.inH
  show wpAny _ A (do standAt tp; unpack (.ref a) (assignEach ts env)) _ _ s₁
  refine wpAny_bind (wpAny_standAt (wpAny_unpack_tuple hh hT (by rw [hln, List.size_toArray, hr.length]; exact hl) hst fun h' he => ?_))
  have x₂ : Ext fz₁ s₁ fz₁ { s₁ with heap := h', toks := s₁.toks } := Ext.heap x₁.inH fun b o e => he b o (Nat.ne_of_lt (Heap.lt_size e)) e
  refine hb _ _ _ _ _ _ _ _ _ ((H.ext x₁).ext x₂) hr fun fz' ad' m' h'' tk' H' => ?_
  obtain ⟨h₁, tk₁, e₁, _⟩ := id x₁.keeps
  subst e₁
  exact p _ _ _ _ _ H'
/-- names = a tuple display, stored from the last to the first -/
theorem x_tupS {ts : List PySem.Expr} {k : Nat} {tp pos : Pos} {e : PySem.Expr} {ds : List D} {names : List PySem.Str} {σ₁ : Sto} (hh : A.handled = none) (h : Ev W A env σ e (.tup ds)) (hl : names.length = ds.length) (hb : BndL W A env (names.reverse.map fun n => fun v => bindName env n v) ds.reverse σ σ₁)
    (hs : swapsWithSole [.Tuple ts k tp] e pos.line env = pure false) (hw : swappedStores [.Tuple ts k tp] e env = pure (some names)) :
    X1 W A env σ (.Assign [.Tuple ts k tp] e pos) (.next σ₁) := by
  intro kp fz₀ fz ad m s Q E H p
  rw [exec_Assign_arm]
  refine wpAny_bind (wpAny_standAt ?_)
  rw [hs]
  refine wpAny_bind (wpAny_pure ?_)
  rw [if_neg (by decide)]
  refine wpAny_bind (h _ _ _ _ _ _ _ _ H fun v fz₁ s₁ x₁ hv => ?_)
  obtain ⟨a, vs, rfl, hT, hr⟩ := hv.isTup x₁.inH
  rw [hw]
  refine wpAny_bind (wpAny_pure ?_)
  show wpAny _ A (do rule "assign.swapped-stores"; let items ← unpackItems (.ref a) names.length none; assignInOrder (names.reverse.map fun n => bindName env n) items.reverse; pure Flow.next) _ _ s₁
  refine wpAny_bind (wpAny_rule (wpAny_bind ?_))
  have hsz : names.length = vs.toArray.size := by rw [List.size_toArray, hr.length, hl]
  rw [hsz]
  refine wpAny_unpackItems_tuple hh hT fun h' he => ?_
  have x₂ : Ext fz₁ s₁ fz₁ { s₁ with heap := h', toks := s₁.toks } := Ext.heap x₁.inH fun b o e => he b o (Nat.ne_of_lt (Heap.lt_size e)) e
  have rev : ∀ {vs : List Value} {ds : List D}, VHs fz₁ vs ds → VHs fz₁ vs.reverse ds.reverse := by
    intro vs ds h
    induction ds generalizing vs with
    | nil => obtain rfl := h.nil_; exact .nil
    | cons d ds ih => obtain ⟨v, ws, rfl, h, r⟩ := h.cons_; rw [List.reverse_cons, List.reverse_cons]; exact (ih r).append (.cons h .nil)
  refine wpAny_bind (hb _ _ _ _ _ _ _ _ _ ((H.ext x₁).ext x₂) (rev hr) fun fz' ad' m' h'' tk' H' => wpAny_pure ?_)
  obtain ⟨h₁, tk₁, e₁, _⟩ := id x₁.keeps
  subst e₁
  exact p _ _ _ _ _ H'

/-- x = y = e -/
theorem x_assign2 {n : Nat} {x y : PySem.Str} {px py pos : Pos} {e : PySem.Expr} {d : D} (F : FOK n A env) (h : Ev W A env σ e d) (hx : env.kindOf x = some .local) (hy : env.kindOf y = some .local) :
    X1 W A env σ (.Assign [.Name x px, .Name y py] e pos) (.next (upd (upd σ x (.val d)) y (.val d))) := by
  intro kp fz₀ fz ad m s Q E H p
  refine wpAny_Assign_two (h _ _ _ _ _ _ _ _ H fun v fz₁ s₁ x₁ hv => ?_) rfl
  have H₁ := H.ext x₁
  refine wpAny_assign_Name (wp_store F H₁.rebase (.inl hx) hv fun m' h' tk H' => ?_)
  refine wpAny_assign_Name (wp_store F (H'.unbase H₁.fz0 H₁.fzNew) (.inl hy) (hv.mono H'.fz0) fun m'' h'' tk'' H'' => ?_)
  obtain ⟨h₁, tk₁, e₁, _⟩ := id x₁.keeps
  subst e₁
  exact p _ _ _ _ _ H''

/-- a cell stored -/
theorem asg_cell {n : Nat} {x : PySem.Str} {px : Pos} {d : D} {c : Addr} (F : FOK n A env) (hx : env.kindOf x = some .cell) (hc : env.cells.lookup x = some c) (hl : env.locals < c) : Asg W A env (.Name x px) d σ (upd σ x (.val d)) := by
  intro kp fz₀ fz ad m s v Q E H hv k
  exact wpAny_assign_Name (wp_store F H (.inr ⟨hx, c, hc, H.cfree _ _ hc hl⟩) hv fun m' h' tk H' => k _ _ _ _ _ H')

/-- going over a text, over bytes -/
theorem iter_str {x : PySem.Str} (hh : A.handled = none) (ha : (x.cps.all fun c => decide (c < 128)) = true) : Iter W A (.str x) (x.cps.toList.map fun c => .str ⟨#[c]⟩) := by
  intro fz s v Q E hf hv k
  obtain ⟨t, rfl⟩ := hv.str_
  · refine wpAny_pyIter_ascii ha ?_
    refine iter_walks (tk' := s.toks) ⟨Walks.strAscii hh s.heap.objs.size x t, by simp, fun b hb => List.mem_singleton.mp hb, fun b hb => .inl (List.mem_singleton.mp hb), ?_, ?_⟩ ⟨_, Heap.get?_push_size _ rfl, rfl, rfl⟩ (get_fresh _) (fun b o e => get_push e) hf k
    · rintro i v hi ⟨c, u, hc, rfl⟩
      exact ⟨.str ⟨#[c]⟩, by simp [hc], .str _ _⟩
    · rintro i h ⟨o, ho, _⟩
      exact ⟨o, ho⟩
theorem iter_byt {x : Array UInt8} (hh : A.handled = none) : Iter W A (.byt x) (x.toList.map fun c => .int (c.toNat : Int)) := by
  intro fz s v Q E hf hv k
  obtain ⟨t, rfl⟩ := hv.byt_
  · refine KBw.pyIter_bytes ?_
    refine iter_walks (tk' := s.toks) ⟨KBw.walks hh s.heap.objs.size x t, by simp, fun b hb => List.mem_singleton.mp hb, fun b hb => .inl (List.mem_singleton.mp hb), ?_, ?_⟩ ⟨_, Heap.get?_push_size _ rfl, rfl, rfl⟩ (get_fresh _) (fun b o e => get_push e) hf k
    · rintro i v hi ⟨c, u, hc, rfl⟩
      exact ⟨.int (c.toNat : Int), by simp [hc], .int _ _⟩
    · rintro i h ⟨o, ho, _⟩
      exact ⟨o, ho⟩

theorem VHs.ofGet {fz : GMap} : ∀ {vs : List Value} {ds : List D}, vs.length = ds.length → (∀ (i : Nat) (v : Value) (d : D), vs[i]? = some v → ds[i]? = some d → VH fz v d) → VHs fz vs ds
  | [], [], _, _ => .nil
  | v :: vs, d :: ds, hl, h => .cons (h 0 v d rfl rfl) (VHs.ofGet (by simpa using hl) fun i v d h1 h2 => h (i + 1) v d (by simpa using h1) (by simpa using h2))
/-- list(range(..)), a list of the call's own -/
theorem evF_listRng {n : Nat} {p pos : Pos} {e : PySem.Expr} {a b c : Int} {k : Nat} (F : FOK n A env) (hx : env.kindOf "list" = some .globalImplicit) (hv : nsIn W.K mainGlobals "list" = some none)
    (h : Ev W A env σ e (.rng a b c)) (hsm : Builtin.Range.small a b c = true) (hn : Builtin.Range.rangeSize a b c = (k : Int)) (hz : k ≤ 2 ^ 24) (hs : starEach [e] env = [(false, eval e env)] := by rfl) :
    EvF W A env σ (.Call (.Name "list" p) [e] [] pos) (rngL a c k) := by
  intro kp fz₀ fz ad m s Q E H kont
  obtain ⟨⟨hw, Xk, T, hkk⟩, _⟩ := H.wf
  have kk : ∀ b o, hw.get? b = some o → s.heap.get? b = some o := fun b o e => H.kept _ _ (hkk _ _ e)
  refine Call_Name rfl (Name_function_global F.hk hx (loadGlobal_builtin (env := env) (show s.heap.Ns env.globals W.mg from F.hg ▸ (T.keeps kk).g) (mg_none_of Xk T.g hv) (show s.heap.Ns env.builtins W.mb from F.hb ▸ (T.keeps kk).b) ((T.builtins _ (by decide)).trans boot_list) ?_) (by decide))
  refine PyProof.Rows.callWith_type1 (e := e) (rest := []) ?_ hs rfl
  refine Evs.mk1 h hs pos _ _ _ _ _ _ _ _ H fun vs fz₁ s₁ x₁ hvs => ?_
  obtain ⟨v, rfl, hv⟩ := hvs.one
  obtain ⟨r, t, u, x, rfl, e⟩ := hv.rng_
  have hr : IsRange s₁.heap r a b c t u x := x₁.inH _ _ e
  refine call_list_range F.hh hr hsm hn hz fun h' tk acc' c' hk hg hit => ?_
  have f := x₁.fresh (get_fresh s₁.heap)
  refine kont _ acc'.toList c' fz₁ _ (x₁.trans (Ext.heap x₁.inH hk)) f.1 f.2 (by simpa using hg) ?_
  refine VHs.ofGet (by rw [rngL_length, Array.length_toList]; exact hit.1) fun i v d h1 h2 => ?_
  have hi : i < k := by
    rcases Nat.lt_or_ge i k with h | h
    · exact h
    · rw [List.getElem?_eq_none (by rw [rngL_length]; exact h)] at h2; cases h2
  rw [rngL_get c k a i hi] at h2
  cases h2
  obtain ⟨t', rfl⟩ := hit.2 i v (by simpa using h1)
  exact .int _ _
end
end
section
section
variable {W : WP} {A : Around} {env : Env} {σ σ' : Sto}

theorem ev_methS0 {o : PySem.Expr} {name : PySem.Str} {id : String} {apos pos : Pos} {x : PySem.Str} {d : D} {pl : Sem Bool} (h : Ev W A env σ o (.str x)) (slot : PySem.Slot "str" name id) (ty : typeOf (.builtin id) = pure (.type "method_descriptor"))
    (hc : CallV W A (.builtin id) [.str x] d)
    (hm : eval ((o.Attribute name apos).Call [] [] pos) env = (do let ov ← eval o env; standAt apos.atName; let (f, first) ← holding [ov] (getMethod ov name pl); callWith pos f first (backTo pos (starEach [] env)) []) := by rfl) :
    Ev W A env σ (.Call (.Attribute o name apos) [] [] pos) d := by
  intro kp fz₀ fz ad m s Q E H k
  refine MethodCall_ (pl := pl) (h _ _ _ _ _ _ _ _ H fun v fz₁ s₁ x₁ hv => ?_) hm
  obtain ⟨t, rfl⟩ := hv.str_
  refine getMethod_builtin (typeIs_str _ _ _) PySem.F.plainAttrs_str slot ty (fun a e => nomatch e) ?_
  refine callWith_method0 ?_
  exact hc _ _ _ _ _ (H.ext x₁).heapWF x₁.inH (.cons (.str _ _) .nil) fun v' fz' s' x' hv' => k _ _ _ (x₁.trans x') hv'
theorem ev_methS1 {o e : PySem.Expr} {rest : List PySem.Expr} {name : PySem.Str} {id : String} {apos pos : Pos} {x : PySem.Str} {ds : List D} {d : D} {pl : Sem Bool} (h : Ev W A env σ o (.str x)) (slot : PySem.Slot "str" name id) (ty : typeOf (.builtin id) = pure (.type "method_descriptor")) (ha : Evs W A env σ (e :: rest) ds)
    (hc : CallV W A (.builtin id) (.str x :: ds) d)
    (hm : eval ((o.Attribute name apos).Call (e :: rest) [] pos) env = (do let ov ← eval o env; standAt apos.atName; let (f, first) ← holding [ov] (getMethod ov name pl); callWith pos f first (backTo pos (starEach (e :: rest) env)) []) := by rfl)
    (hs : starEach (e :: rest) env = (false, eval e env) :: starEach rest env := by rfl) (hs2 : ((backTo pos (starEach rest env)).any fun x => x.1) = false := by rfl) :
    Ev W A env σ (.Call (.Attribute o name apos) (e :: rest) [] pos) d := by
  intro kp fz₀ fz ad m s Q E H k
  refine MethodCall_ (pl := pl) (h _ _ _ _ _ _ _ _ H fun v fz₁ s₁ x₁ hv => ?_) hm
  obtain ⟨t, rfl⟩ := hv.str_
  refine getMethod_builtin (typeIs_str _ _ _) PySem.F.plainAttrs_str slot ty (fun a e => nomatch e) ?_
  refine callWith_method1 (ha pos _ _ _ _ _ _ _ _ (H.ext x₁) fun vs fz₂ s₂ x₂ hvs => ?_) hs hs2
  exact hc _ _ _ _ _ ((H.ext x₁).ext x₂).heapWF x₂.inH (.cons (.str _ _) hvs) fun v' fz' s' x' hv' => k _ _ _ ((x₁.trans x₂).trans x') hv'

theorem lower_fits (z : PySem.Str) (hz : z.length ≤ 1000) : Builtin.Str.tooLong (Txt.lower z).length = false := by
  have := PyProof.Rows.len_lower z
  simp [Builtin.Str.tooLong, PySem.sizeLine_eq]; walk_at "lx"
end
end
section
section
variable {W : WP} {A : Around} {env : Env} {σ σ' : Sto}
/-- the pairs of an enumerate -/
noncomputable def enumL : Nat → List D → List D
  | _, [] => []
  | i, d :: ds => .tup [.int (i : Int), d] :: enumL (i + 1) ds
/-- an enumerate's two objects -/
noncomputable abbrev enumG (e it : Addr) (i : Int) (old : Value) (oi : Obj) : GMap := (one it oi).ov (one e { cls := .type "enumerate", dict := none, data := .fields #[.none, .bool false, .ref it, rawInt i, .none, old], slots := #[] })
theorem gen_enum {elts : List PySem.Expr} {x1 : Nat} {pos : Pos} {fz₁ : GMap} {l e it : Addr} {ol : Obj} {us : List Value} {nl : Nat} {ds : List D} (hh : A.handled = none) (hl : fz₁ l = some ol) (hc : ol.cls = .type "list") (hd : ol.data = .seq us.toArray nl) (hr : VHs fz₁ us ds) (hei : e ≠ it) :
    ∀ (k i j : Nat) (old : Value) (oi : Obj) (h : Heap), k + j = ds.length → i = j → h.get? it = some oi → h.IsListIter it l j → Gen W A (some (.Tuple elts x1 pos)) e fz₁ (enumL i (ds.drop j)) (enumG e it i old oi) := by
  have hul := hr.length
  intro k
  induction k with
  | zero =>
    intro i j old oi h hk hij hoi hit
    rw [List.drop_eq_nil_of_le (by walk_at "lx")]
    subst hij
    intro fz s QN QS E hs hz hg dz kont
    have g1 : s.heap.get? it = some oi := hg _ _ ((GMap.ov_none (one_off (Ne.symm hei))).trans one_self)
    refine wpAny_pyNext_enum_end hh (hg _ _ (GMap.ov_some one_self)) (by obtain ⟨o, q, r⟩ := hit; rw [hoi] at q; cases q; exact ⟨_, g1, r⟩) ⟨ol, hz _ _ (hs _ _ hl), hc, nl, hd⟩ (by simp; walk_at "lx") fun h' hx => kont h' _ fun b o q r => hx b o (one_ne (GMap.ov_off q).2) r
  | succ k ih =>
    intro i j old oi h hk hij hoi hit
    have hlt : j < ds.length := by walk_at "lx"
    rw [List.drop_eq_getElem_cons hlt]
    subst hij
    intro fz s QN QS E hs hz hg dz kont
    have g1 : s.heap.get? it = some oi := hg _ _ ((GMap.ov_none (one_off (Ne.symm hei))).trans one_self)
    have gE : IsEnum s.heap e it (i : Int) old := hg _ _ (GMap.ov_some one_self)
    obtain ⟨v, hvi, hvv⟩ := hr.get (List.getElem?_eq_getElem hlt)
    have heH := Heap.lt_size gE
    refine wpAny_pyNext_enum_item gE (by obtain ⟨o, q, r⟩ := hit; rw [hoi] at q; cases q; exact ⟨_, g1, r⟩) ⟨ol, hz _ _ (hs _ _ hl), hc, nl, hd⟩ (by simpa using hvi) hei fun h₃ heo hit₃ ht₃ hz₃ hk₃ => ?_
    refine wpAny_letOwnedTupleGo_enum heo fun h₄ he₄ hs₄ => ?_
    replace hs₄ : Heap.SameBut e h₃ h₄ := hs₄
    have ht₄ : h₄.get? s.heap.objs.size = some { cls := .type "tuple", data := .seq (List.toArray [.int i s.toks, v]) } := (hs₄.2 _ (Nat.ne_of_gt heH)).trans ht₃
    have offs : ∀ {b : Addr} {i : Int} {old : Value} {oi : Obj}, enumG e it i old oi b = none → b ≠ e ∧ b ≠ it := fun q => ⟨one_ne (GMap.ov_off q).1, one_ne (GMap.ov_off q).2⟩
    have keep : ∀ b o, enumG e it i old oi b = none → s.heap.get? b = some o → h₄.get? b = some o := fun b o q r => (hs₄.2 b (offs q).1).trans (hk₃ b o (offs q).1 (offs q).2 r)
    have fT : fz s.heap.objs.size = none := by
      cases q : fz s.heap.objs.size with
      | none => rfl
      | some o => exact absurd (Heap.lt_size (hz _ _ q)) (Nat.lt_irrefl _)
    obtain ⟨o3, q3, r3⟩ := hit₃
    have q4 : h₄.get? it = some o3 := (hs₄.2 _ (Ne.symm hei)).trans q3
    refine kont _ (fz.add s.heap.objs.size { cls := .type "tuple", data := .seq (List.toArray [.int i s.toks, v]) }) (enumG e it ((i + 1 : Nat) : Int) v o3) h₄ (s.toks + 1) ?_ (fun b o q => GMap.add_of fT q) (fun b o q => ?_) (fun b o q => ?_) (fun b q => (GMap.ov_none (one_off (offs q).1)).trans (one_off (offs q).2)) keep (fun b o q => ?_) (ih (i + 1) (i + 1) v o3 h₄ (by walk_at "lx") rfl q4 ⟨o3, q4, r3⟩)
    · exact .tup GMap.add_self (.cons (.int _ _) (.cons (hvv.mono fun b o q => GMap.add_of fT (hs b o q)) .nil))
    · unfold GMap.add at q
      by_cases hb : b = s.heap.objs.size
      · right; rw [hb]; exact get_fresh _
      · rw [if_neg hb] at q; exact .inl q
    · unfold GMap.add at q
      by_cases hb : b = s.heap.objs.size
      · rw [if_pos hb] at q; cases q; rw [hb]; exact ht₄
      · rw [if_neg hb] at q; exact keep b o (dz b o q) (hz b o q)
    · rcases GMap.ov_eq q with q | ⟨_, q⟩
      · obtain ⟨rfl, rfl⟩ := one_eq q
        have : ((i + 1 : Nat) : Int) = (i : Int) + 1 := by push_cast; rfl
        rw [this]; exact he₄
      · obtain ⟨rfl, rfl⟩ := one_eq q; exact q4
/-- a name's tuple, bound in order -/
theorem asg_tup {ts : List PySem.Expr} {k : Nat} {tp : Pos} {ds : List D} {σ₁ : Sto} (hh : A.handled = none) (hb : BndL W A env ((assignEach ts env).map (·.2)) ds σ σ₁) (hl : (assignEach ts env).length = ds.length) (hst : (assignEach ts env).findIdx? (·.1) = none) : Asg W A env (.Tuple ts k tp) (.tup ds) σ σ₁ := by
  intro kp fz₀ fz ad m s v Q E H hv kont
  obtain ⟨a, vs, rfl, hT, hr⟩ := hv.isTup H.fzIn
  refine wpAny_assign_Tuple hh hT (by rw [hl, List.size_toArray, hr.length]) hst fun h' hx => ?_
  exact hb _ _ _ _ _ _ _ _ _ (H.ext (Ext.heap (t := s.toks) H.fzIn fun b o e => hx b o (Nat.ne_of_lt (Heap.lt_size e)) e)) hr fun fz' ad' m' h'' tk' H' => kont _ _ _ _ _ H'
theorem x_forEnum {n : Nat} {xi xv : PySem.Str} {pi pv pt p1 p2 pos : Pos} {k : Nat} {arg : PySem.Expr} {body : List Stmt} {ds : List D} {o : Out} (F : FOK n A env) (hx : env.kindOf "enumerate" = some .globalImplicit) (hv : nsIn W.K mainGlobals "enumerate" = some none)
    (hxi : env.kindOf xi = some .local) (hxv : env.kindOf xv = some .local) (he : Ev W A env σ arg (.lst ds))
    (h : ForRun (fun d σ o => ∃ (i : Int) (dv : D), d = .tup [.int i, dv] ∧ X W A env (upd (upd σ xi (.val (.int i))) xv (.val dv)) body o) (enumL 0 ds) σ o)
    (hs : starEach [arg] env = [(false, eval arg env)] := by rfl) (hfs : ∀ x, foldedSetIterable (.Call (.Name "enumerate" p1) [arg] [] p2) env x = pure x := by intro _; rfl) :
    X1 W A env σ (.For (.Tuple [.Name xi pi, .Name xv pv] k pt) (.Call (.Name "enumerate" p1) [arg] [] p2) body [] pos) o := by
  replace h : ForRun (FStep W A env (.Tuple [.Name xi pi, .Name xv pv] k pt) body) (enumL 0 ds) σ o := h.imp fun d σ o ⟨i, dv, e, hb⟩ => ⟨_, by rw [e]; exact asg_tup F.hh (bndl_cons (bnd_asg (asg_name F hxi)) (bndl_cons (bnd_asg (asg_name F hxv)) bndl_nil)) rfl rfl, hb⟩
  intro kp fz₀ fz ad m s Q E H p
  refine wpAny_For ?_ hfs
  obtain ⟨⟨hw, Xk, T, hkk⟩, _⟩ := id H.wf
  have kk : ∀ b o, hw.get? b = some o → s.heap.get? b = some o := fun b o e => H.kept _ _ (hkk _ _ e)
  refine Call_Name rfl (Name_function_global F.hk hx (loadGlobal_builtin (env := env) (show s.heap.Ns env.globals W.mg from F.hg ▸ (T.keeps kk).g) (mg_none_of Xk T.g hv) (show s.heap.Ns env.builtins W.mb from F.hb ▸ (T.keeps kk).b) ((T.builtins "enumerate" (by decide)).trans boot_enumerate) ?_) (by decide))
  refine PyProof.Rows.callWith_type1 ?_ hs rfl
  refine (Evs.mk1 he hs) p2 _ _ _ _ _ _ _ _ H fun vs fz₁ s₁ x₁ hvs => ?_
  clear kk hkk T Xk
  obtain ⟨v, rfl, hv1⟩ := hvs.one
  obtain ⟨l, ol, us, nl, rfl, hl, hc, hd, hr⟩ := hv1.lst_
  refine call_enumerate_list ⟨ol, x₁.inH _ _ hl, hc, nl, hd⟩ fun h₂ hE hI hsz hk₂ => ?_
  have hE0 : s₁.heap.get? (s₁.heap.objs.size + 1) = none := by
    cases q : s₁.heap.get? (s₁.heap.objs.size + 1) with
    | none => rfl
    | some q' => exact absurd (Heap.lt_size q) (Nat.not_lt.mpr (Nat.le_succ _))
  have hI0 : s₁.heap.get? s₁.heap.objs.size = none := get_fresh _
  have hei : s₁.heap.objs.size + 1 ≠ s₁.heap.objs.size := Nat.succ_ne_self _
  generalize s₁.heap.objs.size + 1 = e at hE hE0 hei ⊢
  generalize s₁.heap.objs.size = it at hE hI hI0 hei ⊢
  refine wpAny_pyIter_enum hE ?_
  obtain ⟨oi, hoi, _⟩ := id hI
  have H₁ := H.ext x₁
  have n : New (enumG e it 0 .none oi) s₁.heap := fun b o q => by
    have h1 : b ≠ e := fun h => by rw [h, hE0] at q; cases q
    have h2 : b ≠ it := fun h => by rw [h, hI0] at q; cases q
    exact (GMap.ov_none (one_off h1)).trans (one_off h2)
  have H₂ := H₁.enter (tk := s₁.toks) hk₂ n (fun b o q => by
    rcases GMap.ov_eq q with q | ⟨_, q⟩
    · obtain ⟨rfl, rfl⟩ := one_eq q; exact hE
    · obtain ⟨rfl, rfl⟩ := one_eq q; exact hoi)
  have G := gen_enum (W := W) (elts := [.Name xi pi, .Name xv pv]) (x1 := k) (pos := pt) F.hh hl hc hd hr hei ds.length 0 0 .none oi h₂ rfl rfl hoi hI
  obtain ⟨h₁, tk₁, e₁, _⟩ := id x₁.keeps
  subst e₁
  refine codeAny_forLoop_any (FInv W A (some (.Tuple [.Name xi pi, .Name xv pv] k pt)) env kp fz₁ (enumG e it 0 .none oi) e s fun es σ => ForRun (FStep W A env (.Tuple [.Name xi pi, .Name xv pv] k pt) body) es σ o) (fun k s' hk => ?_) _ ⟨enumL 0 ds, σ, _, rfl, fun _ e => e, G, ⟨_, _, _, h₂, _, rfl, H₂⟩, h⟩
  exact wp_turn hk H.wf (n.dis H₁.kept) (n.dis x₁.inH) (H₁.offNew n) H₁.fz0 H₁.fzNew p (fun s₁ q => wpAny_execs_nil q) fun v s₁ q => wpAny_mono q (fun _ s₂ q => wpAny_mono q (fun f s₃ q => by cases f <;> first | exact q | exact q.elim) fun _ _ e => e) fun _ _ e => e
end
end
section
variable {W : WP} {A : Around} {env : Env} {σ σ' : Sto}
theorem VHs.rep {fz : GMap} {vs : List Value} {ds : List D} (h : VHs fz vs ds) : ∀ n : Nat, VHs fz (List.replicate n vs).flatten (List.replicate n ds).flatten
  | 0 => .nil
  | n + 1 => by
    rw [List.replicate_succ, List.flatten_cons, List.replicate_succ, List.flatten_cons]
    exact VHs.append h (VHs.rep h n)
theorem evF_rep {e₁ e₂ : PySem.Expr} {pos : Pos} {ds : List D} {x : Int} (h₁ : Ev W A env σ e₁ (.lst ds)) (h₂ : Ev W A env σ e₂ (.int x)) (h0 : 0 ≤ x) (hx : x ≤ 256) (hsz : ds.length * x.toNat ≤ 256) : EvF W A env σ (.BinOp e₁ .Mult e₂ pos) (List.replicate x.toNat ds).flatten := by
  intro kp fz₀ fz ad m s Q E H k
  refine wpAny_BinOp (h₁ _ _ _ _ _ _ _ _ H fun v₁ fz₁ s₁ x₁ hv₁ => h₂ _ _ _ _ _ _ _ _ (H.ext x₁) fun v₂ fz₂ s₂ x₂ hv₂ => ?_)
  obtain ⟨u, rfl⟩ := hv₂.int_
  obtain ⟨l, vs, rfl, hl, hr⟩ := (hv₁.mono x₂.sub).isList x₂.inH
  obtain ⟨⟨cls, d, data, sl⟩, ho, hcl, k', hd⟩ := id hl
  simp only at hcl hd
  subst hcl hd
  have hsz2 : vs.length * x.toNat ≤ 256 := by rw [hr.length]; exact hsz
  have hsz3 : (vs.length : Int) * (x.toNat : Int) ≤ 256 := by have := Int.ofNat_le.mpr hsz2; simpa using this
  have hsz' : vs.toArray.size * x.toNat ≤ 256 := by simpa [hr.length] using hsz
  refine wpAny_binaryOp_repeat_ref (T := "list") (U := "int") (by decide) ⟨_, ho, rfl⟩ (fun s' => typeIs_int s' x u) noFill_list_mul F.fills_int_mul F.slot_int_rmul repeat_list F.slot_int_index.lookup
    (call_meets F.slot_int_rmul (typeIs_int s₂ x u) F.entry_int_rmul (F.args_int_rmul_2 _ _) (lm_int_rmul_list_any x u l vs.toArray k' d sl)
      ⟨ho, rfl, ⟨_, ho, rfl⟩, call_meets F.slot_list_mul ⟨_, ho, rfl⟩ F.entry_list_mul (F.args_list_mul_2 _ _)
        (lm_list_mul_any l vs.toArray k' d sl x u (by simp [Builtin.List.listFitsIndex]; walk_at "lx") (by walk_at "lx") (by simp [Builtin.List.listTooLong, sizeLine]; walk_at "lx"))
        ⟨ho, ?_⟩⟩)
  rw [listMul_foldl_if]
  have f := (x₁.trans x₂).fresh (get_fresh s₂.heap)
  exact k _ _ _ _ _ ((x₁.trans x₂).trans (Ext.push (t := s₂.toks) x₂.inH)) f.1 f.2 (Heap.get?_push_size _ rfl) (VHs.rep hr _)
end
section
variable {W : WP} {A : Around} {env : Env} {σ σ' : Sto}
theorem seq_list_iadd : seqSlot? (.type "list") (dunderI "add") = pure (some (.builtin "list.__iadd__")) := by
  unfold seqSlot?
  rw [F.slot_list_iadd.lookup, pure_bind]
  rw [if_neg (by decide +kernel)]
theorem wpAny_iadd_list {prog : Program} {w : World} {A : Around} {E : Value → Shared → Prop} {s : Shared} {a b : Addr} {xs ys : Array Value} {n k : Nat} {Q : Value → Shared → Prop} (ha : s.heap.get? a = some { cls := .type "list", dict := none, data := .seq xs n, slots := #[] }) (hb : s.heap.get? b = some { cls := .type "list", dict := none, data := .seq ys k, slots := #[] }) (hz : xs.size + ys.size ≤ 100000)
    (hQ : Q (.ref a) { s with heap := s.heap.update a (Obj.mapSeq fun x => x ++ ys), toks := s.toks }) : wpAny (model prog w) A (inplaceOp .Add (.ref a) (.ref b)) Q E s := by
  have hTa : s.TypeIs (.ref a) "list" := ⟨_, ha, rfl⟩
  have hTb : s.TypeIs (.ref b) "list" := ⟨_, hb, rfl⟩
  unfold inplaceOp
  refine wpAny_holding ?_
  have hfi : fillsInplaceSlot (.type "list") "add" (Operator.Add == .Add) = pure false := by
    unfold fillsInplaceSlot
    show (typeLookup (.type "list") (dunderI "add") >>= fun fi => pure (fi.isSome && !isSeqSlot fi)) = pure false
    rw [F.slot_list_iadd.lookup]
    show (pure (!isSeqSlot (some (Value.builtin "list.__iadd__"))) : Sem Bool) = pure false
    rw [show isSeqSlot (some (Value.builtin "list.__iadd__")) = true by decide +kernel]; rfl
  refine wpAny_bind (wpAny_typeOf hTa (wpAny_bind (wpAny_of_eq hfi ?_)))
  show wpAny _ A (if false = true then _ else _) Q E s
  rw [if_neg Bool.false_ne_true]
  refine wpAny_bind (wpAny_binaryOp1_none (nm := "add") hTa hTb noFill_list_add ?_)
  refine wpAny_bind (wpAny_of_eq seq_list_iadd ?_)
  refine wpAny_bind (wpAny_rule ?_)
  refine call_meets F.slot_list_iadd hTa F.entry_list_iadd (F.args_list_iadd_2 _ _) (AutoSeq1.list___iadd___list_list_0 a xs n b ys k (by simp [Builtin.List.listTooLong, sizeLine]; walk_at "lx") (by rw [sizeLine_eq]; walk_at "lx") (by rw [sizeLine_eq]; walk_at "lx")) ⟨ha, hb, hQ⟩
/-- x += e, both lists, x the frame's own, e's fresh -/
theorem x_augL {n : Nat} {x : PySem.Str} {px pos : Pos} {e : PySem.Expr} {xs ys : List D} (F : FOK n A env) (hm : (x, Slot.own xs) ∈ σ) (h : EvF W A env σ e ys) (hz : xs.length + ys.length ≤ 100000) :
    X1 W A env σ (.AugAssign (.Name x px) .Add e pos) (.next (upd σ x (.own (xs ++ ys)))) := by
  intro kp fz₀ fz ad m s Q E H p
  obtain ⟨hxl, hxm, _⟩ := H.vars _ _ hm
  refine wpAny_AugAssign_Name (wpAny_loadName_local F.hk hxl H.ns hxm (h _ _ _ _ _ _ _ _ H fun b ws k' fz₂ s₂ x₂ hb0 hbf hb hv₂ => ?_))
  have H₂ := H.ext x₂
  have hal := H₂.ownNotLoc hm
  obtain ⟨_, hxm2, us, nn, g, hr⟩ := H₂.vars _ _ hm
  refine wpAny_iadd_list g hb (by simp [hr.length, hv₂.length]; walk_at "lx") ?_
  obtain ⟨h'', tk'', e', _⟩ := id x₂.keeps
  subst e'
  have hsb := sameUpd (h := h'') (a := ad x) (f := Obj.mapSeq fun x => x ++ ws.toArray)
  obtain ⟨nn', hg'⟩ : ∃ nn', (h''.update (ad x) (Obj.mapSeq fun x => x ++ ws.toArray)).get? (ad x) = some { cls := .type "list", data := .seq (us ++ ws).toArray nn' } := by
    refine ⟨if (us.toArray ++ ws.toArray).size == us.toArray.size then nn else nn + 1, (Heap.get?_update_self _ g ?_).trans ?_⟩
    · simp [Obj.mapSeq, Obj.isFreed]
    · rw [← List.append_toArray]; rfl
  have H₃ := H₂.turnOwn (h' := h''.update (ad x) (Obj.mapSeq fun x => x ++ ws.toArray)) (tk := tk'') hm hsb hg' (VHs.append hr hv₂)
  refine wpAny_storeName_local hxl H₃.ns (fun h₄ hn₄ hs₄ => ?_) (by show (env.scope.kind == .class || (env.scope.kind == .module && env.locals != env.globals)) = false; rw [F.hk]; rfl)
  replace hs₄ : Heap.SameBut env.locals (h''.update (ad x) (Obj.mapSeq fun x => x ++ ws.toArray)) h₄ := hs₄
  have em : (fun y => if y = x then some (Value.ref (ad x)) else m y) = m := by
    funext y
    by_cases hy : y = x
    · rw [if_pos hy, hy, hxm]
    · rw [if_neg hy]
  rw [em] at hn₄
  refine p _ _ _ h₄ (tk'' + 1) (H₃.changed (a := env.locals) (tk := tk'' + 1) hs₄ H₃.nsK H₃.nsF hn₄ (fun y c hc => ?_) (fun y sl hy => ?_) fun y ds hy => ⟨ds, hy⟩)
  · obtain ⟨v, o, g1, q⟩ := H₃.cells y c hc
    exact ⟨v, o, (hs₄.2 c (H₃.cellNotLoc hc)).trans g1, q⟩
  · have hl := H₃.vars y sl hy
    cases sl with
    | val d =>
      obtain ⟨v, l, hv⟩ := hl
      refine ⟨v, ?_, hv⟩
      rcases l with ⟨a, b⟩ | ⟨a, c, b, ob, g1, q⟩
      · exact .inl ⟨a, b⟩
      · exact .inr ⟨a, c, b, ob, (hs₄.2 c (H₃.cellNotLoc b)).trans g1, q⟩
    | own es =>
      obtain ⟨a, b, us, n, g1, q⟩ := hl
      exact ⟨a, b, us, n, (hs₄.2 _ (H₃.ownNotLoc hy)).trans g1, q⟩
end
section
noncomputable abbrev comp2 (elt t1 i1 t2 i2 : PySem.Expr) (scope : Scope) (pos : Pos) : PySem.Expr := .ListComp elt [⟨t1, i1, [], 0⟩, ⟨t2, i2, [], 0⟩] scope pos
theorem compTurn_two0 (elt t1 i1 t2 i2 : PySem.Expr) (scope : Scope) (pos : Pos) (it acc : Value) (env : Env) :
    compTurn (comp2 elt t1 i1 t2 i2 scope pos) 0 it acc env = (do
      standAt i1.pos
      match ← pyNext it with
      | none => pure (.done .next)
      | some v =>
        letOwnedTupleGo t1 it v
        assign t1 env v
        let x ← eval i2 env
        standAt i2.pos
        let x ← foldedSetIterable i2 env x
        let _ ← runOwn (.compStart (comp2 elt t1 i1 t2 i2 scope pos) 1 (← holding [x] (pyIter x)) acc env) env
        again (.compLoop (comp2 elt t1 i1 t2 i2 scope pos) 0 it acc env)) := by rfl
theorem compTurn_two1 (elt t1 i1 t2 i2 : PySem.Expr) (scope : Scope) (pos : Pos) (it acc : Value) (env : Env) :
    compTurn (comp2 elt t1 i1 t2 i2 scope pos) 1 it acc env = (do
      standAt i2.pos
      match ← pyNext it with
      | none => pure (.done .next)
      | some v =>
        letOwnedTupleGo t2 it v
        assign t2 env v
        (do let _ ← call (.builtin "list.append") [acc, ← eval elt env])
        again (.compLoop (comp2 elt t1 i1 t2 i2 scope pos) 1 it acc env)) := by rfl
section
variable {prog : Program} {w : World} {A : Around} {E : Value → Shared → Prop} {R : Result → Shared → Prop} {s : Shared}
theorem codeAny_loop2_in {elt t1 i1 t2 i2 : PySem.Expr} {scope : Scope} {pos : Pos} {it acc : Value} {env : Env} (I : Nat → Shared → Prop)
    (turn : ∀ n s, I n s → wpAny (model prog w) A (pyNext it) (fun r s₁ => match r with
      | none => R (.ok .next) s₁
      | some v => wpAny (model prog w) A (assign t2 env v) (fun _ s₂ =>
          wpAny (model prog w) A (eval elt env) (fun x s₄ =>
              wpAny (model prog w) A (call (.builtin "list.append") [acc, x]) (fun _ s₅ => ∃ m, m < n ∧ I m s₅) (notedBy (model prog w) A env fun e s' => R (.error e) s') s₄) (notedBy (model prog w) A env fun e s' => R (.error e) s') s₂) (notedBy (model prog w) A env fun e s' => R (.error e) s') s₁) (notedBy (model prog w) A env fun e s' => R (.error e) s') s)
    (n : Nat) (h : I n s) (ht : ∀ v, letOwnedTupleGo t2 it v = pure ()) :
    codeAny (model prog w) A (.compLoop (comp2 elt t1 i1 t2 i2 scope pos) 1 it acc env) R s := by
  refine codeAny_loop rfl I (fun n s hI => ?_) n h
  show wpAny _ A ((compTurn (comp2 elt t1 i1 t2 i2 scope pos) 1 it acc env).onRaise (fun x => do noteFrame x env; theTreesLotGoes x)) _ _ s
  refine wpAny_noted ?_
  rw [compTurn_two1]
  refine wpAny_bind (wpAny_standAt (wpAny_bind (wpAny_mono (turn n s hI) (fun r s₁ h₁ => ?_) fun _ _ h' => h')))
  cases r with
  | none => exact wpAny_pure h₁
  | some v =>
    refine wpAny_bind (wpAny_of_eq (ht v) ?_)
    refine wpAny_bind (wpAny_mono h₁ (fun _ s₂ h₂ => ?_) fun _ _ h' => h')
    exact wpAny_bind (wpAny_bind (wpAny_mono h₂ (fun x s₄ h₄ => wpAny_bind (wpAny_mono h₄ (fun _ s₅ h₅ => wpAny_pure (wpAny_pure ⟨rfl, h₅⟩)) fun _ _ h' => h')) fun _ _ h' => h'))
theorem codeAny_loop2_out {elt t1 i1 t2 i2 : PySem.Expr} {scope : Scope} {pos : Pos} {it acc : Value} {env : Env} (I : Nat → Shared → Prop)
    (turn : ∀ n s, I n s → wpAny (model prog w) A (pyNext it) (fun r s₁ => match r with
      | none => R (.ok .next) s₁
      | some v => wpAny (model prog w) A (assign t1 env v) (fun _ s₂ =>
          wpAny (model prog w) A (eval i2 env) (fun x s₃ => wpAny (model prog w) A (pyIter x) (fun it2 s₄ =>
            codeAny (model prog w) A (.compStart (comp2 elt t1 i1 t2 i2 scope pos) 1 it2 acc env) (fun r s' => match r with | .ok f => ∃ m, m < n ∧ I m s' | .error e => cameBackBy (model prog w) A env (notedBy (model prog w) A env fun e s' => R (.error e) s') e s') s₄)
            (notedBy (model prog w) A env fun e s' => R (.error e) s') s₃) (notedBy (model prog w) A env fun e s' => R (.error e) s') s₂) (notedBy (model prog w) A env fun e s' => R (.error e) s') s₁) (notedBy (model prog w) A env fun e s' => R (.error e) s') s)
    (n : Nat) (h : I n s) (ht : ∀ v, letOwnedTupleGo t1 it v = pure ()) (hs : ∀ x, foldedSetIterable i2 env x = pure x) :
    codeAny (model prog w) A (.compLoop (comp2 elt t1 i1 t2 i2 scope pos) 0 it acc env) R s := by
  refine codeAny_loop rfl I (fun n s hI => ?_) n h
  show wpAny _ A ((compTurn (comp2 elt t1 i1 t2 i2 scope pos) 0 it acc env).onRaise (fun x => do noteFrame x env; theTreesLotGoes x)) _ _ s
  refine wpAny_noted ?_
  rw [compTurn_two0]
  refine wpAny_bind (wpAny_standAt (wpAny_bind (wpAny_mono (turn n s hI) (fun r s₁ h₁ => ?_) fun _ _ h' => h')))
  cases r with
  | none => exact wpAny_pure h₁
  | some v =>
    refine wpAny_bind (wpAny_of_eq (ht v) ?_)
    refine wpAny_bind (wpAny_mono h₁ (fun _ s₂ h₂ => ?_) fun _ _ h' => h')
    refine wpAny_bind (wpAny_mono h₂ (fun x s₃ h₃ => wpAny_bind (wpAny_standAt (wpAny_bind (wpAny_of_eq (hs x) (wpAny_bind (wpAny_holding (wpAny_mono h₃ (fun it2 s₄ h₄ => wpAny_bind (wpAny_mono (wpAny_runOwn h₄) (fun _ s₅ h₅ => wpAny_pure ⟨rfl, h₅⟩) fun _ _ h' => h')) fun _ _ h' => h'))))))) fun _ _ h' => h')
theorem codeAny_start2 {elt t1 i1 t2 i2 : PySem.Expr} {scope : Scope} {pos : Pos} {it acc : Value} {env : Env}
    (h0 : codeAny (model prog w) A (.compLoop (comp2 elt t1 i1 t2 i2 scope pos) 1 it acc env) R s)
    (h : wpAny (model prog w) A (pyIter it) (fun it' s' => codeAny (model prog w) A (.compLoop (comp2 elt t1 i1 t2 i2 scope pos) 1 it' acc env) R s')
      (notedBy (model prog w) A env fun x s' => R (.error x) s') s) :
    codeAny (model prog w) A (.compStart (comp2 elt t1 i1 t2 i2 scope pos) 1 it acc env) R s := by
  refine codeAny_of_tree ?_
  show wpAny _ _ ((compStart (comp2 elt t1 i1 t2 i2 scope pos) 1 it acc env).onRaise (fun x => do noteFrame x env; standAt theWindowsPlace)) _ _ s
  refine wpAny_notedAt ?_
  unfold compStart
  show wpAny _ _ (ask >>= _) _ _ s
  refine wpAny_bind (wpAny_askSetting (wpAny_ite ?_))
  split
  · first
      | exact wpAny_bind (wpAny_pure (wpAny_pure (And.intro rfl h0)))
      | exact wpAny_pure (And.intro rfl h0)
  · first
      | exact wpAny_bind (wpAny_rule (wpAny_bind (wpAny_standAt (wpAny_bind (wpAny_mono h (fun it' s' h' => wpAny_pure (And.intro rfl h')) fun _ _ x => x)))))
      | (refine wpAny_bind (wpAny_rule ?_); show wpAny _ _ (standAt i2.pos >>= _) _ _ s; exact wpAny_bind (wpAny_standAt (wpAny_bind (wpAny_mono h (fun it' s' h' => wpAny_pure (And.intro rfl h')) fun _ _ x => x))))
end
end
section
section
variable {W : WP} {A : Around} {env : Env} {σ σ' σ₁ : Sto}
/-- the inner turn -/
noncomputable def IStep (W : WP) (A : Around) (env : Env) (t : PySem.Expr) (σ₁ : Sto) (elt : PySem.Expr) (d e : D) : Prop :=
  ∃ σ₂, Asg W A env t d σ₁ σ₂ ∧ (∀ p ∈ σ₁, p ∈ σ₂) ∧ Ev W A env σ₂ elt e
/-- the outer turn -/
noncomputable def OStep (W : WP) (A : Around) (env : Env) (t : PySem.Expr) (cap : Sto) (t2 i2 elt : PySem.Expr) (d : D) (es : List D) : Prop :=
  ∃ σ₁ d2 ds2, Asg W A env t d cap σ₁ ∧ (∀ p ∈ cap, p ∈ σ₁) ∧ Ev W A env σ₁ i2 d2 ∧ Iter W A d2 ds2 ∧ All2 (IStep W A env t2 σ₁ elt) ds2 es
noncomputable def codeI (W : WP) (A : Around) (t2 elt : PySem.Expr) (Dd : Addr) (cenv : Env) (N : Value → Shared → Prop) (v : Value) (P : Shared → Prop) (s : Shared) : Prop :=
  wpAny W.M A (assign t2 cenv v) (fun _ s₂ => wpAny W.M A (eval elt cenv) (fun x s₄ => wpAny W.M A (call (.builtin "list.append") [.ref Dd, x]) (fun _ s₅ => P s₅) N s₄) N s₂) N s
theorem turnI {elt t : PySem.Expr} {cenv : Env} {Dd : Addr} {N : Value → Shared → Prop} {d e : D} (h : IStep W A cenv t σ elt d e) : CTurn W cenv Dd σ (codeI W A t elt Dd cenv N) d [e] := by
  obtain ⟨σ₁, ha, hsub, hel⟩ := h
  intro kp fz₀ fz ad m s us c v P at_ H hv hz k
  refine ha _ _ _ _ _ _ _ _ _ (Ok.rebase H) hv fun fz₅ ad₅ m₅ h₅ tk₅ H₅ => ?_
  have nb : ∀ {us c} b q, fz b = some q → fz₀ b = some q ∨ (kp.ov (one Dd (lstO us c))) b = none := fun b q e => (H.fzNew b q e).imp id fun h => (GMap.ov_none (one_off (one_ne (GMap.ov_off h).1))).trans (GMap.ov_off h).2
  refine hel _ _ _ _ _ _ _ _ H₅ fun y fz₈ s₈ x₈ hy => ?_
  have H₈ := H₅.ext x₈
  obtain ⟨h₉, tk₉, e₉, _⟩ := id x₈.keeps
  subst e₉
  exact acc_append at_ ((Ok.unbase H₈ H.fz0 nb).weaken hsub) (by simp at hz; walk_at "lx") fun h' c' H' => k fz₈ ad₅ m₅ h' tk₉ [y] c' H' H₈.fz0 (.cons hy .nil)
noncomputable def code2 (W : WP) (A : Around) (elt t i1 t2 i2 : PySem.Expr) (scope : Scope) (pos : Pos) : CCode := fun Dd cenv Eo v P s =>
  wpAny W.M A (assign t cenv v) (fun _ s₂ => wpAny W.M A (eval i2 cenv) (fun x s₃ => wpAny W.M A (pyIter x) (fun it2 s₄ =>
    codeAny W.M A (.compStart (comp2 elt t i1 t2 i2 scope pos) 1 it2 (.ref Dd) cenv) (fun r s' => match r with | .ok f => P s' | .error e => cameBackBy W.M A cenv (notedBy W.M A cenv Eo) e s') s₄)
      (notedBy W.M A cenv Eo) s₃) (notedBy W.M A cenv Eo) s₂) (notedBy W.M A cenv Eo) s
theorem rule2 {elt t iter t2 i2 : PySem.Expr} {scope : Scope} {pos : Pos} (ht : ∀ it v, letOwnedTupleGo t it v = pure ()) (hs2 : ∀ cenv x, foldedSetIterable i2 cenv x = pure x) : CRule W A (comp2 elt t iter t2 i2 scope pos) (code2 W A elt t iter t2 i2 scope pos) :=
  fun I Dd cenv R Inv turn n s h => codeAny_loop2_out Inv (fun n s hI => wpAny_mono (turn n s hI) (fun r s₁ q => by
    cases r with
    | none => exact q
    | some v => exact wpAny_mono q (fun _ s₂ q => wpAny_mono q (fun _ s₃ q => wpAny_mono q (fun _ s₄ q => codeAny_mono q fun r s' q => by cases r <;> exact q) fun _ _ e => e) fun _ _ e => e) fun _ _ e => e) fun _ _ e => e) n h (fun v => ht _ v) (hs2 cenv)
theorem turn2 {elt t iter t2 i2 : PySem.Expr} {scope : Scope} {pos : Pos} {cenv : Env} {Dd : Addr} {Eo : Value → Shared → Prop} {d : D} {es : List D} (ht2 : ∀ it v, letOwnedTupleGo t2 it v = pure ()) (h : OStep W A cenv t σ t2 i2 elt d es) : CTurn W cenv Dd σ (code2 W A elt t iter t2 i2 scope pos Dd cenv Eo) d es := by
  obtain ⟨σ₁, d2, ds2, ha, hsub, hev2, hit2, hall⟩ := h
  intro kp fz₀ fz ad m s us c v P at_ H hv hz k
  refine ha _ _ _ _ _ _ _ _ _ (Ok.rebase H) hv fun fz₅ ad₅ m₅ h₅ tk₅ H₅ => ?_
  have nb : ∀ {us c} b q, fz b = some q → fz₀ b = some q ∨ (kp.ov (one Dd (lstO us c))) b = none := fun b q e => (H.fzNew b q e).imp id fun h => (GMap.ov_none (one_off (one_ne (GMap.ov_off h).1))).trans (GMap.ov_off h).2
  have fD := at_.fzN H
  refine hev2 _ _ _ _ _ _ _ _ H₅ fun v2 fz₆ s₆ x₆ hv2 => ?_
  have H₆ := H₅.ext x₆
  obtain ⟨h₇, tk₇, e₇, _⟩ := id x₆.keeps
  subst e₇
  refine hit2 _ _ _ _ _ H₆.fzIn hv2 fun I2 g h₂ tk₂ hn hk₂ hg₂ self G => ?_
  have H₈ := H₆.enter (tk := tk₂) hk₂ hn hg₂
  have at₂ : AccAt W cenv kp Dd fz₆ := ⟨at_.wf, at_.kp, AccAt.fzN ⟨at_.wf, at_.kp, fD, at_.loc, at_.cell⟩ H₆, at_.loc, at_.cell⟩
  have gD : g Dd = none := hn _ _ (H₆.kept _ _ (GMap.ov_some one_self))
  rw [← GMap.ov_comm fun b o e => one_off fun h => by rw [h, gD] at e; cases e] at H₈
  have st : All2 (CTurn W cenv Dd σ₁ (codeI W A t2 elt Dd cenv (notedBy W.M A cenv fun e s' => cameBackBy W.M A cenv (notedBy W.M A cenv Eo) e s'))) ds2 (es.map fun e => [e]) := hall.imp (fun e => [e]) fun d e h => turnI h
  have hflat : (es.map fun e => [e]).flatten = es := by
    clear st hall k hz
    induction es with
    | nil => rfl
    | cons e es ih => rw [List.map_cons, List.flatten_cons, ih]; rfl
  have inner : codeAny W.M A (.compLoop (comp2 elt t iter t2 i2 scope pos) 1 (.ref I2) (.ref Dd) cenv) (fun r s' => match r with | .ok f => P s' | .error e => cameBackBy W.M A cenv (notedBy W.M A cenv Eo) e s') { s with heap := h₂, toks := tk₂ } := by
    refine acc_loop (R := P) (code := codeI W A t2 elt Dd cenv (notedBy W.M A cenv fun e s' => cameBackBy W.M A cenv (notedBy W.M A cenv Eo) e s')) (fun Inv turn n s h => codeAny_loop2_in Inv (fun n s hI => wpAny_mono (turn n s hI) (fun r s₁ q => by cases r <;> exact q) fun _ _ e => e) n h (fun v => ht2 _ v)) at₂ (hn.dis fun b o e => H₆.kept b o ((GMap.ov_none (at_.dis b o e)).trans e)) (hn.dis H₆.fzIn) (H₆.offNew hn) gD H₈ G st (by rw [hflat]; exact hz) fun fz₉ ad₉ m₉ h₉ tk₉ vals c₉ H₉ hv₉ => ?_
    rw [hflat] at hv₉
    have nb₂ : ∀ {us c} b q, fz₆ b = some q → fz₀ b = some q ∨ (kp.ov (one Dd (lstO us c))) b = none := fun b q e => (H₆.fzNew b q e).elim (fun e => nb b q e) fun h => .inr ((GMap.ov_none (one_off (one_ne (GMap.ov_off h).1))).trans (GMap.ov_off h).2)
    exact k fz₉ ad₉ m₉ h₉ tk₉ vals c₉ ((Ok.unbase H₉ (fun b o e => H₆.fz0 b o (H.fz0 b o e)) nb₂).weaken hsub) (fun b o e => H₉.fz0 b o (H₆.fz0 b o e)) hv₉
  exact codeAny_start2 inner (self _ (fun b o e => hg₂ b o e) (fun b o e => hk₂ b o (H₆.fzIn b o e)) _ _ inner)
section
variable {n : Nat} {elt iter t t2 i2 : PySem.Expr} {scope : Scope} {cl : List (PySem.Str × Addr)} {pos : Pos} {d : D} {ds : List D} {os : List (List D)} {cap : List (PySem.Str × D)}
theorem comp_ok2 (F : FOK n A env) (he : Ev W A env σ iter d) (hi : Iter W A d ds) (hcell : ∀ y ∈ scope.names, y.2 ≠ .cell) (hkind : scope.kind = .function)
    (hcaps : ∀ C, Caps env σ (compEnvC scope cl C env) cap)
    (hstep : ∀ C, FOK n A (compEnvC scope cl C env) → All2 (fun d o => OStep W A (compEnvC scope cl C env) t (cap.map fun p => (p.1, Slot.val p.2)) t2 i2 elt d o) ds os) (hz : os.flatten.length ≤ 100000)
    (ht : ∀ it v, letOwnedTupleGo t it v = pure ()) (ht2 : ∀ it v, letOwnedTupleGo t2 it v = pure ()) (hs2 : ∀ cenv x, foldedSetIterable i2 cenv x = pure x) : CompOk W A env σ (comp2 elt t iter t2 i2 scope pos) scope cl (eval iter env) os.flatten := by
  have h := comp_start (gs := [⟨t2, i2, [], 0⟩]) F he hi (rule2 ht hs2) hcell hkind hcaps (fun C Dd Eo FC => (hstep C FC).imp id fun d o h => turn2 (Eo := Eo) (Dd := Dd) (iter := iter) (scope := scope) (pos := pos) ht2 h) (by rw [List.map_id]; exact hz)
  rw [List.map_id] at h
  exact h
theorem x_comp2 {y : PySem.Str} {py spos : Pos} (F : FOK n A env) (he : Ev W A env σ iter d) (hi : Iter W A d ds) (hy : env.kindOf y = some .local) (hsw : swapsWith (.ListComp elt [⟨t, iter, [], 0⟩, ⟨t2, i2, [], 0⟩] scope pos) (some (.Name y py)) spos.line env = pure true)
    (hclos : closureFor scope env = pure cl) (hcell : ∀ y ∈ scope.names, y.2 ≠ .cell) (hkind : scope.kind = .function) (hnames : ∀ y ∈ scope.names, y.2 = .local → scope.names.lookup y.1 = some .local)
    (hcaps : ∀ C, Caps env σ (compEnvC scope cl C env) cap)
    (hstep : ∀ C, FOK n A (compEnvC scope cl C env) → All2 (fun d o => OStep W A (compEnvC scope cl C env) t (cap.map fun p => (p.1, Slot.val p.2)) t2 i2 elt d o) ds os) (hz : os.flatten.length ≤ 100000)
    (hs : ∀ x, foldedSetIterable iter env x = pure x := by intro _; rfl) (ht : ∀ it v, letOwnedTupleGo t it v = pure () := by intro _ _; rfl)
    (ht2 : ∀ it v, letOwnedTupleGo t2 it v = pure () := by intro _ _; rfl) (hs2 : ∀ cenv x, foldedSetIterable i2 cenv x = pure x := by intro _ _; rfl) :
    X1 W A env σ (.Assign [.Name y py] (.ListComp elt [⟨t, iter, [], 0⟩, ⟨t2, i2, [], 0⟩] scope pos) spos) (.next (upd σ y (.own os.flatten))) :=
  x_of_comp F (comp_ok2 F he hi hcell hkind hcaps hstep hz ht ht2 hs2) hy hsw hclos hkind hnames hs
end
end
end
section
section
variable {W : WP} {A : Around} {env : Env} {σ σ' : Sto}
theorem op_neB {a b : Bool} : Op2 W A (compareOp .NotEq) (.bool a) (.bool b) (.bool (a != b)) := by
  intro fz s v₁ v₂ Q E hf h₁ h₂ k; obtain rfl := h₁.bool_; obtain rfl := h₂.bool_
  exact SeqAt.RcNeAt.bool_bool a b W.prog W.w E Q (k _ _ _ (Ext.refl hf) (.bool _))
theorem op_eqSI {x : PySem.Str} {b : Int} : Op2 W A (compareOp .Eq) (.str x) (.int b) (.bool false) := by
  intro fz s v₁ v₂ Q E hf h₁ h₂ k; obtain ⟨t, rfl⟩ := h₁.str_; obtain ⟨u, rfl⟩ := h₂.int_
  exact EqMixed.eq_str_int (k _ _ _ (Ext.refl hf) (.bool _))
theorem VH.isTuple {fz : GMap} {s : Shared} {v : Value} {ds : List D} (hf : FzIn fz s) (h : VH fz v (.tup ds)) : ∃ a vs, v = .ref a ∧ s.heap.IsTuple a (List.toArray vs) ∧ VHs fz vs ds := h.isTup hf
noncomputable def isI (n : Int) : D → Bool
  | .int k => k == n
  | _ => false
theorem op_inIT {n : Int} {ns : List Int} : Op2 W A (compareOp .In) (.int n) (.tup (ns.map D.int)) (.bool (ns.any fun k => k == n)) := by
  intro fz s v₁ v₂ Q E hf h₁ h₂ k
  obtain ⟨a, vs, rfl, l, r⟩ := h₂.isTup hf
  obtain ⟨t, rfl⟩ := h₁.int_
  · refine SeqAt.in_tupleAt (fun v => match v with | .int m _ => m == n | _ => false) l (fun y hy => ?_) ?_
    · have : ∃ m u, y = .int m u := by
        obtain ⟨l', e1, _⟩ := intsToks r.ints
        subst e1
        obtain ⟨p, _, e⟩ := List.mem_map.mp (by simpa using hy : y ∈ l'.map fun p => Value.int p.1 p.2)
        exact ⟨_, _, e.symm⟩
      obtain ⟨m, u, rfl⟩ := this
      exact SeqAt.EqAt.int_int m u n t
    · have e : (vs.toArray.any fun v => match v with | .int m _ => m == n | _ => false) = ns.any fun k => k == n := by
        obtain ⟨l', e1, e2⟩ := intsToks r.ints
        subst e1
        rw [← e2]
        simp [List.any_map, Function.comp_def]
      rw [e]
      exact k _ _ _ (Ext.refl hf) (.bool _)
theorem op_inST {x : PySem.Str} {ns : List Int} : Op2 W A (compareOp .In) (.str x) (.tup (ns.map D.int)) (.bool false) := by
  intro fz s v₁ v₂ Q E hf h₁ h₂ k
  obtain ⟨a, vs, rfl, l, r⟩ := h₂.isTup hf
  obtain ⟨t, rfl⟩ := h₁.str_
  · refine SeqAt.in_tupleAt (fun v => false) l (fun y hy => ?_) ?_
    · have : ∃ m u, y = .int m u := by
        obtain ⟨l', e1, _⟩ := intsToks r.ints
        subst e1
        obtain ⟨p, _, e⟩ := List.mem_map.mp (by simpa using hy : y ∈ l'.map fun p => Value.int p.1 p.2)
        exact ⟨_, _, e.symm⟩
      obtain ⟨m, u, rfl⟩ := this
      exact SeqAt.EqAt.int_str m u x t
    · have e : (vs.toArray.any fun v => false) = false := by simp
      rw [e]
      exact k _ _ _ (Ext.refl hf) (.bool _)
/-- a list of strs: where one stands -/
theorem cv_index {ys : List PySem.Str} {x : PySem.Str} {j : Nat} (hj : ys[j]? = some x) (hno : ∀ m y, m < j → ys[m]? = some y → (y == x) = false) (hz : ys.length ≤ 1000) : CallV W A (.builtin "list.index") [.lst (ys.map D.str), .str x] (.int (j : Int)) := by
  intro fz s vs Q E hw hf hvs k
  obtain ⟨_, _, rfl, h1, h2⟩ := hvs.two
  obtain ⟨tx, rfl⟩ := h2.str_
  obtain ⟨a, o, us, n, rfl, eo, hcls, hdata, hr⟩ := h1.lst_
  have hs := hr.strs
  obtain ⟨cls, dd, data, sl⟩ := o
  simp only at hcls hdata
  subst hcls hdata
  have hl := hr.length
  rw [List.length_map] at hl
  have hget : ∀ (m : Nat) (hm : m < us.length), ∃ y t, us[m]? = some (.str y t) ∧ ys[m]? = some y := by
    intro m hm
    have hm' : m < ys.length := by walk_at "lx"
    obtain ⟨v, e1, e2⟩ := hr.get (k := m) (d := D.str ys[m]) (by simp [hm'])
    obtain ⟨t2, rfl⟩ := e2.str_
    exact ⟨_, _, e1, List.getElem?_eq_getElem hm'⟩
  have hjl : j < us.length := by
    rcases Nat.lt_or_ge j ys.length with h | h
    · walk_at "lx"
    · rw [List.getElem?_eq_none h] at hj; cases hj
  refine call_meets PySem.F.slot_list_index ⟨_, hf _ _ eo, rfl⟩ PySem.F.entry_list_index (PySem.F.args_list_index_2 _ _)
    (SeqAt.list_indexAt a us.toArray n dd sl (.str x _) (fun v => match v with | .str y _ => y == x | _ => false) j (by simpa using hjl) (by walk_at "lx") ?_ ?_) ⟨hf _ _ eo, ?_, ?_⟩
  · obtain ⟨y, t, e1, e2⟩ := hget j hjl
    rw [hj] at e2; cases e2
    have : us.toArray[j]'(by simpa using hjl) = .str x t := by
      rw [List.getElem?_eq_getElem hjl] at e1; simpa using e1
    rw [this]; simp
  · intro m hm hmj
    have hm' : m < us.length := by simpa using hm
    obtain ⟨y, t, e1, e2⟩ := hget m hm'
    have : us.toArray[m]'hm = .str y t := by
      rw [List.getElem?_eq_getElem hm'] at e1; simpa using e1
    rw [this]
    exact hno m y hmj e2
  · intro y hy
    obtain ⟨m, hm, e⟩ := List.getElem_of_mem (by simpa using hy : y ∈ us)
    obtain ⟨y', t, e1, e2⟩ := hget m hm
    rw [List.getElem?_eq_getElem hm, e] at e1
    cases e1
    exact SeqAt.EqAt.str_str y' t x _
  · exact k _ _ _ (Ext.toks hf) (.int _ _)
/-- a list's method -/
theorem ev_methL {o : PySem.Expr} {name : PySem.Str} {id : String} {apos pos : Pos} {es : List PySem.Expr} {xs : List D} {ds : List D} {d : D} {pl : Sem Bool} (h : EvF W A env σ o xs) (slot : PySem.Slot "list" name id) (ty : typeOf (.builtin id) = pure (.type "method_descriptor")) (ha : Evs W A env σ es ds)
    (hc : CallV W A (.builtin id) (.lst xs :: ds) d)
    (he : ∀ v : Value, ∀ Q E s, wpAny W.M A (spliced (backTo pos (starEach es env))) (fun vs s₁ => wpAny W.M A (call (.builtin id) (v :: vs)) Q E s₁) E s → wpAny W.M A (callWith pos (.builtin id) [v] (backTo pos (starEach es env)) []) Q E s)
    (hm : eval ((o.Attribute name apos).Call es [] pos) env = (do let ov ← eval o env; standAt apos.atName; let (f, first) ← holding [ov] (getMethod ov name pl); callWith pos f first (backTo pos (starEach es env)) []) := by rfl) :
    Ev W A env σ (.Call (.Attribute o name apos) es [] pos) d := by
  intro kp fz₀ fz ad m s Q E H k
  refine MethodCall_ (pl := pl) (h _ _ _ _ _ _ _ _ H fun a us n fz₁ s₁ x₁ ha0 hf0 ho hv => ?_) hm
  refine getMethod_builtin (T := "list") ⟨_, ho, rfl⟩ PySem.F.plainAttrs_list slot ty (fun b e => by cases e; exact ⟨_, ho, rfl⟩) ?_
  have x₁' := x₁.freeze ha0 hf0 ho
  refine he _ _ _ _ (ha pos _ _ _ _ _ _ _ _ (H.ext x₁') fun vs fz₂ s₂ x₂ hvs => ?_)
  exact hc _ _ _ _ _ ((H.ext x₁').ext x₂).heapWF x₂.inH (.cons (.lst (x₂.sub _ _ GMap.add_self) rfl rfl ((hv.mono fun b q e => GMap.add_of hf0 e).mono x₂.sub)) hvs) fun v' fz' s' x' hv' => k _ _ _ ((x₁'.trans x₂).trans x') hv'
/-- try: the body ends by itself -/
theorem x_try {body : List Stmt} {h₀ : ExceptHandler} {hs : List ExceptHandler} {pos : Pos} {o : Out} (h : X W A env σ body o) : X1 W A env σ (.Try body (h₀ :: hs) [] [] pos) o := by
  intro kp fz₀ fz ad m s Q E H p
  refine wpAny_Try_except ?_
  refine h _ _ _ _ _ _ (fun f s₁ => match f with | Flow.next => wpAny W.M A (execs [] env) Q E s₁ | f => Q f s₁) _ H ?_
  cases o with
  | next σ₁ => exact fun fz ad m h tk H' => wpAny_execs_nil (p _ _ _ _ _ H')
  | ret d => exact fun v fz h tk F hv => p _ _ _ _ F hv
end
end
section
section
variable {W : WP} {A : Around} {env : Env} {σ σ' : Sto}
/-- if c in t: t = t.replace(c, r) -/
noncomputable def inRep (t c r : PySem.Str) : PySem.Str := if (Builtin.Str.occurrences t c 0 t.length 1).isEmpty then t else Txt.replace t c r
theorem x_ifReplace {n : Nat} {x c r t : PySem.Str} {k1 k7 k8 : Nat} {p1 p2 p3 p4 p5 p6 p7 p8 p9 p10 p11 : Pos} {pl : Sem Bool} (F : FOK n A env) (hm : (x, Slot.val (.str t)) ∈ σ) (hx : env.kindOf x = some .local) (hd : (x == ("__debug__" : PySem.Str)) = false)
    (hcr : (c == r) = false) (hz : t.length + (t.length + 1) * r.length ≤ 16777216)
    (hsw : swapsWith (.Call (.Attribute (.Name x p5) "replace" p6) [.Constant (.str c) k7 p7, .Constant (.str r) k8 p8] [] p9) (some (.Name x p4)) p10.line env = pure false := by rfl)
    (he : eval ((PySem.Expr.Attribute (.Name x p5) "replace" p6).Call [.Constant (.str c) k7 p7, .Constant (.str r) k8 p8] [] p9) env = (do let ov ← eval (.Name x p5) env; standAt p6.atName; let (f, first) ← holding [ov] (getMethod ov "replace" pl); callWith p9 f first (backTo p9 (starEach [.Constant (.str c) k7 p7, .Constant (.str r) k8 p8] env)) []) := by rfl) :
    X1 W A env σ (.If (.Compare (.Constant (.str c) k1 p1) [.In] [.Name x p2] p3) [.Assign [.Name x p4] (.Call (.Attribute (.Name x p5) "replace" p6) [.Constant (.str c) k7 p7, .Constant (.str r) k8 p8] [] p9) p10] [] p11) (.next (upd σ x (.val (.str (inRep t c r))))) := by
  intro kp fz₀ fz ad m s Q E H p
  obtain ⟨v, l, hv⟩ := H.vars _ _ hm
  obtain ⟨tk, rfl⟩ := hv.str_
  · refine wpAny_If (wpAny_isTrue_Compare1 (wpAny_Constant_str ?_) rfl)
    have H₁ := H.ext (Ext.toks (t := s.toks + 1) H.fzIn)
    refine Look.ev F l H₁.ns hd (in_str (wpAny_truthy_bool ?_))
    unfold inRep at p
    by_cases hb : (Builtin.Str.occurrences t c 0 t.length 1).isEmpty = true
    · rw [if_pos hb] at p
      rw [hb, if_neg (by simp)]
      refine wpAny_execs_nil (p fz ad m s.heap (s.toks + 1) ?_)
      refine H₁.weaken fun q hq => ?_
      rcases mem_upd (show (q.1, q.2) ∈ _ from hq) with ⟨h1, h2⟩ | ⟨_, h2⟩
      · have : q = (x, Slot.val (.str t)) := Prod.ext h1 h2
        rw [this]; exact hm
      · exact h2
    · rw [if_neg hb] at p
      have hb' : (Builtin.Str.occurrences t c 0 t.length 1).isEmpty = false := by simpa using hb
      rw [hb', if_pos (by rfl)]
      refine wpAny_execs_cons (wpAny_Assign_Name (MethodCall_ (pl := pl) (Look.ev F l H₁.ns hd (getMethod_builtin (typeIs_str _ _ _) PySem.F.plainAttrs_str PySem.F.slot_str_replace PySem.F.type_str_replace (fun a e => nomatch e) ?_)) he) hsw)
      refine callWith_method1 (e := .Constant (.str c) k7 p7) (rest := [.Constant (.str r) k8 p8]) ?_ rfl rfl
      refine spliced_cons (wpAny_Constant_str (k := k7) (pos := p7) ?_)
      refine spliced_cons (wpAny_Constant_str (k := k8) (pos := p8) ?_)
      refine spliced_nil ?_
      have h1 : (s.toks + 1 : Nat) ≠ 0 := by walk_at "lx"
      have h2 : (s.toks + 1 + 1 : Nat) ≠ 0 := by walk_at "lx"
      have h3 : (s.toks + 1 : Nat) ≠ s.toks + 1 + 1 := by walk_at "lx"
      refine SC.replace (u := s.toks + 1) (v := s.toks + 1 + 1) h1 h2 h3 hcr hz fun t' k => ?_
      have H₂ := H.ext (Ext.toks (t := k) H.fzIn)
      refine wp_store F H₂ (.inl hx) (.str (Txt.replace t c r) t') fun m' h' tk H' => ?_
      exact wpAny_execs_nil (p _ _ _ _ _ H')
/-- a call of what an expression gives -/
theorem ev_callX {n k : Nat} {g : PySem.Expr} {pos : Pos} {e : PySem.Expr} {rest : List PySem.Expr} {f : Addr} {ds : List D} {d : D} {fc : Value} {od : Option Addr} {osl : Array (Option Value)} {fd : FuncData} (F : FOK n A env) (hg : Ev W A env σ g (.fn f))
    (hK : W.K.lookup f = some ⟨fc, od, .func fd, osl⟩) (ha : Evs W A env σ (e :: rest) ds) (hc : CallOk W k f ds d) (hk : k ≤ n) (hne : backTo pos (starEach (e :: rest) env) = (match backTo pos (starEach (e :: rest) env) with | (_, t) :: r => (false, t) :: r | [] => []) := by rfl)
    (hst : starEach (e :: rest) env = (false, eval e env) :: starEach rest env := by rfl)
    (he : eval (.Call g (e :: rest) [] pos) env = (do callWith pos (← eval g env) [] (backTo pos (starEach (e :: rest) env)) (backToKw pos (keywordEach [] env))) := by rfl) :
    Ev W A env σ (.Call g (e :: rest) [] pos) d := by
  intro kp fz₀ fz ad m s Q E H kont
  obtain ⟨⟨hw, Xk, T, hkk⟩, _⟩ := H.wf
  have kk : ∀ b o, hw.get? b = some o → s.heap.get? b = some o := fun b o e => H.kept _ _ (hkk _ _ e)
  refine Call_ (hg _ _ _ _ _ _ _ _ H fun v fz₁ s₁ x₁ hv => ?_) he
  have H₁ := H.ext x₁
  obtain rfl := hv.fn_
  · refine callWith_function (o := ⟨fc, od, .func fd, osl⟩) (fd := fd) ?_
    have ha' := ha pos
    rw [hst] at ha' ⊢
    refine evalArgs_plain (ha' _ _ _ _ _ _ _ _ H₁ fun vs fz' s' x' hvs => ⟨⟨?_, rfl⟩, ?_⟩)
    · exact kGet x'.keeps (kGet x₁.keeps ((Xk.keeps kk) _ _ hK))
    · rw [List.nil_append]
      have hh := F.hh; have hdp := F.dp; have hun := F.un
      exact hc A F.hh (by walk_at "lx") (by walk_at "lx") _ _ _ _ _ (H₁.ext x').heapWF x'.inH hvs fun v fz'' s'' x'' hv' => kont _ _ _ ((x₁.trans x').trans x'') hv'
/-- lists of ints compared -/
theorem op_neL {n : Nat} (F : FOK n A env) {a b : List Int} : Op2 W A (compareOp .NotEq) (.lst (a.map D.int)) (.lst (b.map D.int)) (.bool (a != b)) := by
  intro fz s v₁ v₂ Q E hf h₁ h₂ k
  obtain ⟨l₁, us, rfl, i₁, r₁⟩ := h₁.isList hf
  obtain ⟨l₂, ws, rfl, i₂, r₂⟩ := h₂.isList hf
  obtain ⟨pa, e1, e2⟩ := intsToks r₁.ints
  obtain ⟨pb, e3, e4⟩ := intsToks r₂.ints
  subst e1 e3
  have hun := F.un
  by_cases hlen : pa.length = pb.length
  · have hq := SeqAt.RcNeAt.lists (A := A) (s := s) (e := fun j => (pa.map (·.1)).getD j 0 == (pb.map (·.1)).getD j 0) i₁ i₂ (by simpa using hlen) (by walk_at "lx") (fun j h1 h2 => by
      have h1' : j < pa.length := by simpa using h1
      have h2' : j < pb.length := by simpa using h2
      have := SeqAt.EqAt.int_int (A := A.in1) (s := s) (pa[j]).1 (pa[j]).2 (pb[j]).1 (pb[j]).2
      simpa [List.getD_eq_getElem?_getD, h1', h2'] using this)
    have e : (!(List.range (pa.map fun p => Value.int p.1 p.2).toArray.size).all fun j => (pa.map (·.1)).getD j 0 == (pb.map (·.1)).getD j 0) = (a != b) := by
      have hl : (pa.map (·.1)).length = (pb.map (·.1)).length := by simpa using hlen
      rw [← e2, ← e4, bne]
      congr 1
      rw [List.size_toArray, List.length_map, ← List.length_map (f := (·.1)) (as := pa)]
      generalize pa.map (·.1) = xs at hl ⊢
      generalize pb.map (·.1) = ys at hl ⊢
      rw [Bool.eq_iff_iff, List.all_eq_true, beq_iff_eq]
      constructor
      · intro h
        refine List.ext_getElem hl fun j h1 h2 => ?_
        have := h j (List.mem_range.mpr h1)
        simpa [List.getD_eq_getElem?_getD, h1, h2] using this
      · rintro rfl j _
        simp
    rw [e] at hq
    exact hq W.prog W.w E Q (k _ _ _ (Ext.refl hf) (.bool _))
  · have hq := SeqAt.RcNeAt.lists_lengths (A := A) (s := s) i₁ i₂ (by simpa using hlen) (by walk_at "lx")
    have e : true = (a != b) := by
      rw [← e2, ← e4]
      symm
      rw [bne_iff_ne]
      intro h
      have := congrArg List.length h
      exact hlen (by simpa using this)
    rw [e] at hq
    exact hq W.prog W.w E Q (k _ _ _ (Ext.refl hf) (.bool _))
end
end
section
/-- a table of the program's -/
noncomputable def tabLook (T : List (PySem.Str × Int)) (x : PySem.Str) : Option Int := match T with
  | [] => none
  | (a, n) :: r => if a = x then some n else tabLook r x
noncomputable abbrev tabD (T : List (PySem.Str × Int)) : List (PyData × PyData) := (T.map fun p => (p.1, PyData.int p.2)).map fun p => (PyData.str p.1, p.2)
theorem lookup_tab (x : PySem.Str) : ∀ T : List (PySem.Str × Int), Spec.lookup (PyData.str x) (tabD T) = (tabLook T x).map PyData.int
  | [] => rfl
  | (a, n) :: r => by
    have ih := lookup_tab x r
    show (if Spec.same (.str a) (.str x) then some (PyData.int n) else Spec.lookup (PyData.str x) (tabD r)) = (if a = x then some n else tabLook r x).map PyData.int
    rw [ih]
    by_cases h : a = x
    · rw [if_pos h, if_pos (by simp [Spec.same, h])]; rfl
    · rw [if_neg h, if_neg (by simp [Spec.same, h])]
section
variable {W : WP} {A : Around} {env : Env} {σ σ' : Sto}
noncomputable def HasTab (W : WP) (a : Addr) (T : List (PySem.Str × Int)) : Prop := ∀ h : Heap, W.K.In h → StrTab W.prog W.w h a (tabD T)
theorem HasTab.at {a : Addr} {T : List (PySem.Str × Int)} (hT : HasTab W a T) {kp fz₀ fz : GMap} {ad : PySem.Str → Addr} {m : PySem.Str → Option Value} {s : Shared} (H : Ok W env kp fz₀ σ fz ad m s) : StrTab W.prog W.w s.heap a (tabD T) := by
  obtain ⟨⟨hw, Xk, _, hkk⟩, _⟩ := H.wf
  exact hT _ (Xk.keeps fun b o e => H.kept _ _ (hkk _ _ e))
theorem tr_notInTab {n : Nat} {e : PySem.Expr} {y : PySem.Str} {p pos : Pos} {a : Addr} {T : List (PySem.Str × Int)} {x : PySem.Str} (F : FOK n A env) (hT : HasTab W a T) (hy : env.kindOf y = some .globalImplicit) (hv : nsIn W.K mainGlobals y = some (some (.ref a))) (hd : (y == ("__debug__" : PySem.Str)) = false) (h : Ev W A env σ e (.str x)) :
    Tr W A env σ (.Compare e [.NotIn] [.Name y p] pos) (!(tabLook T x).isSome) := by
  intro kp fz₀ fz ad m s Q E H k
  refine wpAny_isTrue_Compare1 (h _ _ _ _ _ _ _ _ H fun v₁ fz₁ s₁ x₁ hv₁ => ?_) rfl
  have hg : Ev W A env σ (.Name y p) (.fn a) := ev_glob F hy hv hd (fun fz => VH.fn a)
  refine hg _ _ _ _ _ _ _ _ (H.ext x₁) fun v₂ fz₂ s₂ x₂ hv₂ => ?_
  obtain ⟨t₁, rfl⟩ := hv₁.str_
  obtain rfl := hv₂.fn_
  refine notin_strTab (hT.at ((H.ext x₁).ext x₂)) (wpAny_truthy_bool ?_)
  rw [lookup_tab]
  have e : ((tabLook T x).map PyData.int).isSome = (tabLook T x).isSome := by cases tabLook T x <;> rfl
  rw [e]
  exact k _ _ ((x₁.trans x₂).trans (Ext.toks x₂.inH))
noncomputable def tabOr (T : List (PySem.Str × Int)) (x y : PySem.Str) : D := match tabLook T x with
  | some n => .int n
  | none => .str y
theorem ev_getTab {n : Nat} {e₁ e₂ : PySem.Expr} {y : PySem.Str} {p apos pos : Pos} {a : Addr} {T : List (PySem.Str × Int)} {x z : PySem.Str} {pl : Sem Bool} (F : FOK n A env) (hT : HasTab W a T) (hy : env.kindOf y = some .globalImplicit) (hv : nsIn W.K mainGlobals y = some (some (.ref a))) (hd : (y == ("__debug__" : PySem.Str)) = false) (h₁ : Ev W A env σ e₁ (.str x)) (h₂ : Ev W A env σ e₂ (.str z))
    (hs : starEach [e₁, e₂] env = (false, eval e₁ env) :: starEach [e₂] env := by rfl) (hs1 : starEach [e₂] env = (false, eval e₂ env) :: starEach [] env := by rfl) (hs2 : ((backTo pos (starEach [e₂] env)).any fun x => x.1) = false := by rfl)
    (hm : eval (((PySem.Expr.Name y p).Attribute "get" apos).Call [e₁, e₂] [] pos) env = (do let ov ← eval (.Name y p) env; standAt apos.atName; let (f, first) ← holding [ov] (getMethod ov "get" pl); callWith pos f first (backTo pos (starEach [e₁, e₂] env)) []) := by rfl) :
    Ev W A env σ (.Call (.Attribute (.Name y p) "get" apos) [e₁, e₂] [] pos) (tabOr T x z) := by
  intro kp fz₀ fz ad m s Q E H k
  have hg : Ev W A env σ (.Name y p) (.fn a) := ev_glob F hy hv hd (fun fz => VH.fn a)
  refine MethodCall_ (pl := pl) (hg _ _ _ _ _ _ _ _ H fun v fz₁ s₁ x₁ hv₁ => ?_) hm
  obtain rfl := hv₁.fn_
  have H₁ := H.ext x₁
  refine getMethod_tab_any (knd := PySem.strKind W.prog W.w) (enc := PyData.str) (by rfl) (hT.at H₁) ?_
  refine callWith_method1 (e := e₁) (rest := [e₂]) ?_ hs hs2
  refine evs_cons h₁ (evs_cons h₂ evs_nil hs1) hs pos _ _ _ _ _ _ _ _ H₁ fun vs fz₂ s₂ x₂ hvs => ?_
  obtain ⟨_, _, rfl, v1, v2⟩ := hvs.two
  obtain ⟨t1, rfl⟩ := v1.str_
  obtain ⟨t2, rfl⟩ := v2.str_
  refine call_get2_strTab (hT.at (H₁.ext x₂)) (PyProof.V.Flat.str _ _) fun v hfl => ?_
  rw [lookup_tab] at hfl
  refine k v _ _ ((x₁.trans x₂).trans (Ext.toks x₂.inH)) ?_
  unfold tabOr
  cases ht : tabLook T x with
  | none => rw [ht] at hfl; obtain ⟨t, rfl⟩ := PyProof.V.Flat.str_inv hfl; exact .str _ _
  | some n => rw [ht] at hfl; obtain ⟨t, rfl⟩ := PyProof.V.Flat.int_inv hfl; exact .int _ _
end
end
section
section
variable {W : WP} {A : Around} {env : Env} {σ σ' : Sto}
theorem Ok.put {kp fz₀ fz g : GMap} {ad : PySem.Str → Addr} {m : PySem.Str → Option Value} {s : Shared} (H : Ok W env kp fz₀ σ fz ad m s) (d1 : Dis g kp) (d0 : Dis g fz) (of : OffEnv g env) (ow : ∀ y es, (y, Slot.own es) ∈ σ → g (ad y) = none) (hg : ∀ b o, g b = some o → s.heap.get? b = some o) : Ok W env (kp.ov g) fz σ fz ad m s :=
  { H with wf := H.wf.mono fun b o e => (GMap.ov_none (d1 b o e)).trans e, kept := fun b o e => (GMap.ov_eq e).elim (hg b o) fun e => H.kept b o e.2, fz0 := fun _ _ e => e, fzNew := fun _ _ e => .inl e, nsK := (GMap.ov_none of.1).trans H.nsK, own := fun y es h => ⟨(GMap.ov_none (ow y es h)).trans (H.own y es h).1, (H.own y es h).2⟩, cfree := fun x c h hl => ⟨(GMap.ov_none (of.2 x c h)).trans (H.cfree x c h hl).1, (H.cfree x c h hl).2⟩ }
set_option maxHeartbeats 200000 in
/-- x, y = (a fresh list, what e₂ gives) -/
theorem x_tupOwn2 {n : Nat} {ts : List PySem.Expr} {k k2 : Nat} {tp tp2 pos : Pos} {e₁ e₂ : PySem.Expr} {ds : List D} {d : D} {x y : PySem.Str} (F : FOK n A env) (h₁ : EvF W A env σ e₁ ds) (h₂ : Ev W A env σ e₂ d) (hx : env.kindOf x = some .local) (hy : env.kindOf y = some .local) (hxy : x ≠ y)
    (hs : swapsWithSole [.Tuple ts k tp] (.Tuple [e₁, e₂] k2 tp2) pos.line env = pure false) (hw : swappedStores [.Tuple ts k tp] (.Tuple [e₁, e₂] k2 tp2) env = pure (some [x, y]))
    (he : starEach [e₁, e₂] env = (false, eval e₁ env) :: starEach [e₂] env := by rfl) (he2 : starEach [e₂] env = (false, eval e₂ env) :: starEach [] env := by rfl) :
    X1 W A env σ (.Assign [.Tuple ts k tp] (.Tuple [e₁, e₂] k2 tp2) pos) (.next (upd (upd σ y (.val d)) x (.own ds))) := by
  intro kp fz₀ fz ad m s Q E H p
  rw [exec_Assign_arm]
  refine wpAny_bind (wpAny_standAt ?_)
  rw [hs]
  refine wpAny_bind (wpAny_pure ?_)
  rw [if_neg (by decide)]
  refine wpAny_bind (wpAny_Tuple_spliced ?_)
  rw [he]
  refine spliced_cons (h₁ _ _ _ _ _ _ _ _ H fun a us nn fz₁ s₁ x₁ ha hfa hoa hd => ?_)
  rw [he2]
  have H₁ := H.ext x₁
  refine spliced_cons (h₂ _ _ _ _ _ _ _ _ H₁ fun v₂ fz₂ s₂ x₂ hv₂ => ?_)
  refine spliced_nil ?_
  refine And.intro ?_ ?_
  · rw [PySem.sizeLine_eq]; simp
  rw [hw]
  refine wpAny_bind (wpAny_pure ?_)
  have H₂ := H₁.ext x₂
  have hoa₂ : s₂.heap.get? a = some { cls := .type "list", data := .seq us.toArray nn } := kGet x₂.keeps hoa
  have hfa₂ : fz₂ a = none := by
    cases q : fz₂ a with
    | none => rfl
    | some o =>
      rcases x₂.new _ _ q with h | h
      · rw [hfa] at h; cases h
      · rw [hoa] at h; cases h
  have N := H.newAddr x₁ ha
  have hla : env.locals ≠ a := fun e => by obtain ⟨o, _, _, ho, _⟩ := H.ns; rw [e, ha] at ho; cases ho
  have hca : ∀ x c, env.cells.lookup x = some c → c ≠ a := fun x c h e => by obtain ⟨_, o, g, _⟩ := H.cells x c h; rw [e, ha] at g; cases g
  have x₃ : Ext fz₂ s₂ fz₂ { s₂ with heap := s₂.heap.push { cls := .type "tuple", data := .seq (List.toArray [.ref a, v₂]) }, toks := s₂.toks } := Ext.push x₂.inH
  have hT : (s₂.heap.push { cls := .type "tuple", data := .seq (List.toArray [.ref a, v₂]) }).IsTuple s₂.heap.objs.size (List.toArray [.ref a, v₂]) := ⟨_, Heap.get?_push_size _ rfl, rfl, _, rfl⟩
  show wpAny _ A (do rule "assign.swapped-stores"; let items ← unpackItems (.ref s₂.heap.objs.size) [x, y].length none; assignInOrder ([x, y].reverse.map fun n => bindName env n) items.reverse; pure Flow.next) _ _ _
  refine wpAny_bind (wpAny_rule (wpAny_bind ?_))
  have hsz : [x, y].length = (List.toArray [Value.ref a, v₂]).size := rfl
  rw [hsz]
  refine wpAny_unpackItems_tuple F.hh hT fun h' hke => ?_
  have x₄ : Ext fz₂ s₂ fz₂ { s₂ with heap := h', toks := s₂.toks } := Ext.heap x₂.inH fun b o e => hke b o (Nat.ne_of_lt (Heap.lt_size (get_push e))) (get_push e)
  have hoa₄ : h'.get? a = some { cls := .type "list", data := .seq us.toArray nn } := kGet x₄.keeps hoa₂
  have dk : ∀ {o}, Dis (one a o) kp := fun b q e => one_off fun h => by rw [h, N.1] at e; cases e
  have df : ∀ {o}, Dis (one a o) fz₂ := fun b q e => one_off fun h => by rw [h, hfa₂] at e; cases e
  have of : ∀ {o}, OffEnv (one a o) env := ⟨one_off hla, fun x c h => one_off (hca x c h)⟩
  have H₄ := (H₂.ext x₄).put (g := one a _) dk df of (fun y es h => one_off (N.2 y es h)) fun b o e => by obtain ⟨rfl, rfl⟩ := one_eq e; exact hoa₄
  show wpAny _ A (assignInOrder [bindName env y, bindName env x] [v₂, .ref a] >>= _) _ _ _
  refine wpAny_bind ?_
  show wpAny _ A (do holding [.ref a] (bindName env y v₂); assignInOrder [bindName env x] [.ref a]) _ _ _
  refine wpAny_bind (wpAny_holding (wpAny_bindName (wp_store F H₄ (.inl hy) hv₂ fun m' h₅ tk₅ H₅ => ?_)))
  have hoa₅ := H₅.kept _ _ (GMap.ov_some one_self)
  have H₆ := H₅.leave (tk := tk₅) H.wf dk df of (fun _ _ _ e => e) H₂.fz0 H₂.fzNew
  show wpAny _ A (do holding [] (bindName env x (.ref a)); assignInOrder [] []) _ _ _
  refine wpAny_bind (wpAny_holding (wpAny_bindName (wp_storeOwn F H₆ hx N.1 hfa₂ hoa₅ (hd.mono x₂.sub) (fun z es hz => ?_) fun ad' m'' h₇ tk₇ H₇ => ?_)))
  · rcases mem_upd hz with ⟨_, e⟩ | ⟨_, h⟩
    · cases e
    · exact N.2 z es h
  · show wpAny _ A (pure ()) _ _ _
    refine wpAny_pure (wpAny_pure ?_)
    obtain ⟨h₈, tk₈, e₈, _⟩ := id x₁.keeps
    subst e₈
    obtain ⟨h₉, tk₉, e₉, _⟩ := id x₂.keeps
    subst e₉
    exact p _ _ _ _ _ H₇
end
end
section
section
variable {W : WP} {A : Around} {env : Env} {σ σ' : Sto}
theorem bnd_cell {n : Nat} {x : PySem.Str} {d : D} {c : Addr} (F : FOK n A env) (hx : env.kindOf x = some .cell) (hc : env.cells.lookup x = some c) (hl : env.locals < c) : Bnd W A env (fun v => bindName env x v) d σ (upd σ x (.val d)) := by
  intro kp fz₀ fz ad m s v Q E H hv k
  exact wpAny_bindName (wp_store F H (.inr ⟨hx, c, hc, H.cfree _ _ hc hl⟩) hv fun m' h' tk H' => k _ _ _ _ _ H')
theorem pick_take {fz : GMap} {vs : List Value} {xs : List D} {j : Nat} (hv : VHs fz vs xs) : VHs fz (slicePick vs.toArray none (some (j : Int)) none).toList (xs.take j) := by
  have e : sliceBounds none (some (j : Int)) none vs.toArray.size = (((0 : Nat) : Int), ((min j vs.toArray.size : Nat) : Int), 1) := by
    unfold sliceBounds
    simp
    walk_at "lx"
  rw [kmk_pick_nat _ e]
  have h2 : xs.take j = xs.take (min j vs.toArray.size) := by
    rw [List.size_toArray, hv.length]
    rcases Nat.le_total j xs.length with h | h
    · rw [Nat.min_eq_left h]
    · rw [Nat.min_eq_right h, List.take_of_length_le h, List.take_of_length_le (Nat.le_refl _)]
  rw [h2]
  simpa using hv.take (min j vs.toArray.size)
theorem ev_slTL {value hi : PySem.Expr} {p pos : Pos} {xs : List D} {k : Nat} (h : Ev W A env σ value (.lst xs)) (hl : Ev W A env σ hi (.int (k : Int))) (hz : xs.length ≤ 1000) : Ev W A env σ (.Subscript value (.Slice none (some hi) none p) pos) (.lst (xs.take k)) :=
  ev_sliceL h evp_nil (evp_int hl) (by walk_at "lx") fun fz vs hv => pick_take hv
end
end
section
section
variable {W : WP} {A : Around} {env : Env} {σ : Sto}
theorem ev_lenS {n : Nat} {p pos : Pos} {e0 : PySem.Expr} {x : PySem.Str} (F : FOK n A env) (hx : env.kindOf (PySem.Str.ofString "len") = some .globalImplicit) (hv : nsIn W.K mainGlobals (PySem.Str.ofString "len") = some none) (h0 : Ev W A env σ e0 (.str x)) (q0 : x.length < 2 ^ 62)
    (s0 : starEach [e0] env = (false, eval e0 env) :: starEach [] env := by rfl) (hs2 : ((backTo pos (starEach [] env)).any fun x => x.1) = false := by rfl) :
    Ev W A env σ (.Call (.Name (PySem.Str.ofString "len") p) [e0] [] pos) (.int x.length) :=
  ev_callB F hx hv boot_len (by decide) (by decide) (evs_cons h0 (evs_nil) s0) (cv_lenS q0) s0 hs2
theorem ev_lenL {n : Nat} {p pos : Pos} {e0 : PySem.Expr} {x : List D} (F : FOK n A env) (hx : env.kindOf (PySem.Str.ofString "len") = some .globalImplicit) (hv : nsIn W.K mainGlobals (PySem.Str.ofString "len") = some none) (h0 : Ev W A env σ e0 (.lst x)) (q0 : x.length < 2 ^ 62)
    (s0 : starEach [e0] env = (false, eval e0 env) :: starEach [] env := by rfl) (hs2 : ((backTo pos (starEach [] env)).any fun x => x.1) = false := by rfl) :
    Ev W A env σ (.Call (.Name (PySem.Str.ofString "len") p) [e0] [] pos) (.int x.length) :=
  ev_callB F hx hv boot_len (by decide) (by decide) (evs_cons h0 (evs_nil) s0) (cv_lenL q0) s0 hs2
theorem ev_rng1 {n : Nat} {p pos : Pos} {e0 : PySem.Expr} {b : Int} (F : FOK n A env) (hx : env.kindOf (PySem.Str.ofString "range") = some .globalImplicit) (hv : nsIn W.K mainGlobals (PySem.Str.ofString "range") = some none) (h0 : Ev W A env σ e0 (.int b)) 
    (s0 : starEach [e0] env = (false, eval e0 env) :: starEach [] env := by rfl) (hs2 : ((backTo pos (starEach [] env)).any fun x => x.1) = false := by rfl) :
    Ev W A env σ (.Call (.Name (PySem.Str.ofString "range") p) [e0] [] pos) (.rng 0 b 1) :=
  ev_callT F hx hv boot_range (by decide) (by decide) (evs_cons h0 (evs_nil) s0) cv_rng1 s0 hs2
theorem ev_rng2 {n : Nat} {p pos : Pos} {e0 e1 : PySem.Expr} {a b : Int} (F : FOK n A env) (hx : env.kindOf (PySem.Str.ofString "range") = some .globalImplicit) (hv : nsIn W.K mainGlobals (PySem.Str.ofString "range") = some none) (h0 : Ev W A env σ e0 (.int a)) (h1 : Ev W A env σ e1 (.int b)) 
    (s0 : starEach [e0, e1] env = (false, eval e0 env) :: starEach [e1] env := by rfl) (s1 : starEach [e1] env = (false, eval e1 env) :: starEach [] env := by rfl) (hs2 : ((backTo pos (starEach [e1] env)).any fun x => x.1) = false := by rfl) :
    Ev W A env σ (.Call (.Name (PySem.Str.ofString "range") p) [e0, e1] [] pos) (.rng a b 1) :=
  ev_callT F hx hv boot_range (by decide) (by decide) (evs_cons h0 (evs_cons h1 (evs_nil) s1) s0) cv_rng2 s0 hs2
theorem ev_rng3 {n : Nat} {p pos : Pos} {e0 e1 e2 : PySem.Expr} {a b c : Int} (F : FOK n A env) (hx : env.kindOf (PySem.Str.ofString "range") = some .globalImplicit) (hv : nsIn W.K mainGlobals (PySem.Str.ofString "range") = some none) (h0 : Ev W A env σ e0 (.int a)) (h1 : Ev W A env σ e1 (.int b)) (h2 : Ev W A env σ e2 (.int c)) (q0 : c ≠ 0) (q1 : Builtin.divisionGoesByPylong (b - a) c = false)
    (s0 : starEach [e0, e1, e2] env = (false, eval e0 env) :: starEach [e1, e2] env := by rfl) (s1 : starEach [e1, e2] env = (false, eval e1 env) :: starEach [e2] env := by rfl) (s2 : starEach [e2] env = (false, eval e2 env) :: starEach [] env := by rfl) (hs2 : ((backTo pos (starEach [e1, e2] env)).any fun x => x.1) = false := by rfl) :
    Ev W A env σ (.Call (.Name (PySem.Str.ofString "range") p) [e0, e1, e2] [] pos) (.rng a b c) :=
  ev_callT F hx hv boot_range (by decide) (by decide) (evs_cons h0 (evs_cons h1 (evs_cons h2 (evs_nil) s2) s1) s0) (cv_rng3 q0 q1) s0 hs2
theorem ev_intc {n : Nat} {p pos : Pos} {e0 : PySem.Expr} {a : Int} (F : FOK n A env) (hx : env.kindOf (PySem.Str.ofString "int") = some .globalImplicit) (hv : nsIn W.K mainGlobals (PySem.Str.ofString "int") = some none) (h0 : Ev W A env σ e0 (.int a)) 
    (s0 : starEach [e0] env = (false, eval e0 env) :: starEach [] env := by rfl) (hs2 : ((backTo pos (starEach [] env)).any fun x => x.1) = false := by rfl) :
    Ev W A env σ (.Call (.Name (PySem.Str.ofString "int") p) [e0] [] pos) (.int a) :=
  ev_callT F hx hv boot_int (by decide) (by decide) (evs_cons h0 (evs_nil) s0) cv_int s0 hs2
theorem ev_abs {n : Nat} {p pos : Pos} {e0 : PySem.Expr} {a : Int} (F : FOK n A env) (hx : env.kindOf (PySem.Str.ofString "abs") = some .globalImplicit) (hv : nsIn W.K mainGlobals (PySem.Str.ofString "abs") = some none) (h0 : Ev W A env σ e0 (.int a)) 
    (s0 : starEach [e0] env = (false, eval e0 env) :: starEach [] env := by rfl) (hs2 : ((backTo pos (starEach [] env)).any fun x => x.1) = false := by rfl) :
    Ev W A env σ (.Call (.Name (PySem.Str.ofString "abs") p) [e0] [] pos) (.int (if a < 0 then -a else a)) :=
  ev_callB F hx hv boot_abs (by decide) (by decide) (evs_cons h0 (evs_nil) s0) cv_abs s0 hs2
theorem ev_sum {n : Nat} {p pos : Pos} {e0 : PySem.Expr} {ns : List Int} (F : FOK n A env) (hx : env.kindOf (PySem.Str.ofString "sum") = some .globalImplicit) (hv : nsIn W.K mainGlobals (PySem.Str.ofString "sum") = some none) (h0 : Ev W A env σ e0 (.lst (ns.map D.int))) 
    (s0 : starEach [e0] env = (false, eval e0 env) :: starEach [] env := by rfl) (hs2 : ((backTo pos (starEach [] env)).any fun x => x.1) = false := by rfl) :
    Ev W A env σ (.Call (.Name (PySem.Str.ofString "sum") p) [e0] [] pos) (.int ns.sum) :=
  ev_callB F hx hv boot_sum (by decide) (by decide) (evs_cons h0 (evs_nil) s0) (cv_sum (FOK.hh F)) s0 hs2
theorem ev_min {n : Nat} {p pos : Pos} {e0 e1 : PySem.Expr} {a b : Int} (F : FOK n A env) (hx : env.kindOf (PySem.Str.ofString "min") = some .globalImplicit) (hv : nsIn W.K mainGlobals (PySem.Str.ofString "min") = some none) (h0 : Ev W A env σ e0 (.int a)) (h1 : Ev W A env σ e1 (.int b)) 
    (s0 : starEach [e0, e1] env = (false, eval e0 env) :: starEach [e1] env := by rfl) (s1 : starEach [e1] env = (false, eval e1 env) :: starEach [] env := by rfl) (hs2 : ((backTo pos (starEach [e1] env)).any fun x => x.1) = false := by rfl) :
    Ev W A env σ (.Call (.Name (PySem.Str.ofString "min") p) [e0, e1] [] pos) (.int (if b < a then b else a)) :=
  ev_callB F hx hv boot_min (by decide) (by decide) (evs_cons h0 (evs_cons h1 (evs_nil) s1) s0) (cv_min (FOK.hh F)) s0 hs2
theorem ev_max {n : Nat} {p pos : Pos} {e0 e1 : PySem.Expr} {a b : Int} (F : FOK n A env) (hx : env.kindOf (PySem.Str.ofString "max") = some .globalImplicit) (hv : nsIn W.K mainGlobals (PySem.Str.ofString "max") = some none) (h0 : Ev W A env σ e0 (.int a)) (h1 : Ev W A env σ e1 (.int b)) 
    (s0 : starEach [e0, e1] env = (false, eval e0 env) :: starEach [e1] env := by rfl) (s1 : starEach [e1] env = (false, eval e1 env) :: starEach [] env := by rfl) (hs2 : ((backTo pos (starEach [e1] env)).any fun x => x.1) = false := by rfl) :
    Ev W A env σ (.Call (.Name (PySem.Str.ofString "max") p) [e0, e1] [] pos) (.int (if b > a then b else a)) :=
  ev_callB F hx hv boot_max (by decide) (by decide) (evs_cons h0 (evs_cons h1 (evs_nil) s1) s0) (cv_max (FOK.hh F)) s0 hs2
theorem ev_lower {o : PySem.Expr} {x : PySem.Str} {apos pos : Pos} {pl : Sem Bool} (h : Ev W A env σ o (.str x))
    (hm : eval ((o.Attribute (PySem.Str.ofString "lower") apos).Call [] [] pos) env = (do let ov ← eval o env; standAt apos.atName; let (f, first) ← holding [ov] (getMethod ov (PySem.Str.ofString "lower") pl); callWith pos f first (backTo pos (starEach [] env)) [])) (c : x.length ≤ 1000) :
    Ev W A env σ (.Call (.Attribute o (PySem.Str.ofString "lower") apos) [] [] pos) (.str (Txt.lower x)) :=
  ev_methS0 h PySem.F.slot_str_lower PySem.F.type_str_lower (cv_lower (lower_fits _ c)) hm
end
end
/-- a function's object, its text as the program writes it -/
noncomputable def refo (o : Obj) : List Stmt → Obj
  | .FunctionDef n a b _ _ _ sc _ _ _ :: _ => match o with
    | ⟨c, d, .func ⟨_, _, _, _, _, g, cl, dv, kv, doc, pm, an, cd, ct, bu⟩, sl⟩ => ⟨c, d, .func ⟨n, n, a, .stmts b, sc, g, cl, dv, kv, doc, pm, an, cd, ct, bu⟩, sl⟩
    | o => o
  | _ => o
noncomputable def fnAt (K : Frag) (p : Program) (q : Addr × Nat) : Addr × Obj := (q.1, refo ((K.lookup q.1).getD default) (p.main.body.drop q.2))
noncomputable def heap1 (p : Params) : Frag := List.map (fnAt (hd.heap_186 p) PySem.Challenge.rw_tp0050_01.prog) [(21, 1), (31, 55), (38, 56), (52, 59), (59, 60), (66, 61), (73, 62), (80, 63), (87, 65), (94, 66), (101, 67), (108, 68), (113, 69), (118, 70), (125, 71), (132, 72), (139, 73), (144, 74), (149, 75)] ++ hd.heap_186 p
theorem in_over {K K' : Frag} {h : Heap} (hK : K.In h) (hs : ∀ q ∈ K', K.lookup q.1 = some q.2) : (K' ++ K).In h := by
  intro a o e
  induction K' with
  | nil => exact hK a o e
  | cons q r ih =>
    obtain ⟨b, o'⟩ := q
    rw [List.cons_append, List.lookup_cons] at e
    split at e
    · next hx =>
      rw [beq_iff_eq] at hx
      cases e; subst hx
      exact hK _ _ (hs _ (.head _))
    · exact ih (fun q hq => hs q (.tail _ hq)) e
set_option maxRecDepth 100000 in
theorem heap1_in {p : Params} {h : Heap} (hK : (hd.heap_186 p).In h) : (heap1 p).In h := by
  refine in_over hK ?_
  unfold List.map
  repeat (refine List.forall_mem_cons.mpr ⟨rfl, ?_⟩)
  exact List.forall_mem_nil _
noncomputable abbrev W1 (w : World) (mean : ExcName → Option Value) (mg mb : PySem.Str → Option Value) : WP := ⟨pwS, w, heap1 w.params, hd.view_336, looseW hd.view_336 [PySem.Str.ofString "EXACT_TOKEN_TYPES"], mean, mg, mb, []⟩
local macro_rules | `(tactic| walk_at "mem") => `(tactic| with_reducible first | exact List.mem_cons_self | exact upd_self | (refine List.mem_cons_of_mem _ ?_; walk_at "mem") | (refine upd_of ?_ ?_; (· decide); (· walk_at "mem")))
local macro_rules | `(tactic| walk_at "side") => `(tactic| first | assumption | (exact IntMulOk.of_left (by decide)) | (exact IntMulOk.of_right (by decide)) | (exact PyProof.noPylong_small (by decide)) | decide | omega | (simp; done) | (simp; omega))
local macro_rules | `(tactic| walk_at "op") => `(tactic| first
  | (with_reducible first | exact op_add | exact op_sub | exact op_eqI | exact op_ltI | exact op_gtI | exact op_eqS | exact op_neg | exact op_iaddI | exact op_isubI)
  | ((with_reducible first | apply op_mod | apply op_div | apply op_mul | apply op_pow | apply op_addB | apply op_addL | apply op_imulI | apply op_iaddS); all_goals walk_at "side"))
local macro_rules | `(tactic| walk_at "ev") => `(tactic| first
  | (with_reducible first | exact ev_int | exact ev_str | exact ev_bool | exact ev_none | exact ev_byt)
  | ((with_reducible apply ev_name); (· assumption); (· walk_at "mem"); (· decide))
  | ((with_reducible apply ev_bin); (iterate 2 (· walk_at "ev")); (· walk_at "op"))
  | ((with_reducible apply ev_cmp); (iterate 2 (· walk_at "ev")); (· walk_at "op"); (· rfl))
  | ((with_reducible apply ev_un); (· walk_at "ev"); (· walk_at "op"))
  | walk_at "ev2")
local macro_rules | `(tactic| walk_at "tr") => `(tactic| first
  | ((with_reducible apply tr_cmp); (iterate 2 (· walk_at "ev")); (· walk_at "op"); (· rfl))
  | ((with_reducible apply tr_not); (· walk_at "tr"))
  | walk_at "tr2")
local macro_rules | `(tactic| walk_at "names") => `(tactic| (intro n; (repeat' (first | (refine List.forall_mem_cons.mpr ⟨?_, ?_⟩) | (exact List.forall_mem_nil _) | (left; rfl) | (right; exact ⟨rfl, rfl⟩)))))
local macro_rules | `(tactic| walk_at "evs") => `(tactic| first | (with_reducible exact evs_nil) | exact evs_cons (by walk_at "ev") (by walk_at "evs"))
local macro_rules | `(tactic| walk_at "tail") => `(tactic| ((· assumption); (· rfl); (· rfl); all_goals first | ((with_reducible show Ev _ _ _ _ _ _); walk_at "ev") | rfl | walk_at "side"))
local macro_rules | `(tactic| walk_at "ev2") => `(tactic| first
  | ((with_reducible first | apply ev_lenS | apply ev_min | apply ev_max | apply ev_rng1 | apply ev_rng2 | apply ev_rng3 | apply ev_intc | apply ev_abs | apply ev_sum); walk_at "tail")
  | ((with_reducible apply ev_lenL); walk_at "tail")
  | ((with_reducible apply ev_lower); (· walk_at "ev"); (· rfl); (· walk_at "side"))
  | ((with_reducible apply ev_glob); (· assumption); (· rfl); (· rfl); (· decide); intro fz; first | exact VH.int _ _ | exact VH.str _ _ | exact VH.fn _)
  | walk_at "ev3")
local macro_rules | `(tactic| walk_at "sub") => `(tactic| first | exact List.forall_mem_nil _ | ((refine List.forall_mem_cons.mpr ⟨?_, ?_⟩); (· walk_at "mem"); (· walk_at "sub")))
section
noncomputable def subC (x y : PySem.Str) : Int := if x == y then 0 else if Txt.lower x == Txt.lower y then 1 else 2

variable (w : World) (mean : ExcName → Option Value) (mg mb : PySem.Str → Option Value)
set_option maxHeartbeats 4000000
theorem subst_ok (x y : PySem.Str) (hx : x.length ≤ 100) (hy : y.length ≤ 100) : CallOk (W1 w mean mg mb) 1 31 [.str x, .str y] (.int (subC x y)) := by
  refine def_ok (names := [PySem.Str.ofString "ch_a", PySem.Str.ofString "ch_b"]) rfl rfl (all2 fun _ _ => rfl) (by decide) (by walk_at "names") rfl rfl rfl rfl ?_
  · intro A L F
    show X _ _ _ [(PySem.Str.ofString "ch_a", Slot.val (D.str x)), (PySem.Str.ofString "ch_b", Slot.val (D.str y))] _ _
    unfold subC
    by_cases h1 : (x == y) = true
    · rw [if_pos h1]
      exact x_stop (x_if (b := x == y) (by walk_at "tr") (fun _ => x_stop (x_ret (by walk_at "ev"))) fun h => absurd h1 (by rw [h]; decide))
    · rw [if_neg h1]
      refine x_cons (x_if (b := x == y) (by walk_at "tr") (fun h => absurd h h1) fun _ => x_nil) ?_
      by_cases h2 : (Txt.lower x == Txt.lower y) = true
      · rw [if_pos h2]
        exact x_stop (x_if (b := Txt.lower x == Txt.lower y) (by walk_at "tr") (fun _ => x_stop (x_ret (by walk_at "ev"))) fun h => absurd h2 (by rw [h]; decide))
      · rw [if_neg h2]
        exact x_cons (x_if (b := Txt.lower x == Txt.lower y) (by walk_at "tr") (fun h => absurd h h2) fun _ => x_nil) (x_stop (x_ret (by walk_at "ev")))
end
section
theorem cv_divmod {W : WP} {A : Around} {a b : Int} (hb : b ≠ 0) (hp : Builtin.divisionGoesByPylong a b = false) : CallV W A (.builtin "divmod") [.int a, .int b] (.tup [.int (a.fdiv b), .int (a.fmod b)]) := by
  intro fz s vs Q E hw hf hvs k
  obtain ⟨_, _, rfl, h1, h2⟩ := hvs.two
  obtain ⟨t, rfl⟩ := h1.int_
  obtain ⟨u, rfl⟩ := h2.int_
  refine divmod_int hb ?_ (.inl hp)
  have f := (Ext.refl hf).fresh (get_fresh s.heap)
  exact k _ _ _ ((Ext.push (t := s.toks + 1 + 1) hf).freeze f.1 f.2 (Heap.get?_push_size _ rfl)) (.tup (vs := [_, _]) GMap.add_self (.cons (.int _ _) (.cons (.int _ _) .nil)))

/-- the letters of a number -/
noncomputable def apGo : Nat → Nat → List UInt8 → List UInt8
  | 0, _, acc => acc
  | f + 1, n, acc => if n = 0 then acc else apGo f (n / 16) (UInt8.ofNat (65 + n % 16) :: acc)
noncomputable abbrev apB : Array UInt8 := [65, 66, 67, 68, 69, 70, 71, 72, 73, 74, 75, 76, 77, 78, 79, 80].toArray
theorem picked16 : ∀ m : Nat, m < 16 → KBy.picked apB (some (m : Int)) (some ((m : Int) + 1)) = [UInt8.ofNat (65 + m)].toArray ∧ KBy.whole apB (some (m : Int)) (some ((m : Int) + 1)) = false := by decide +kernel

variable (w : World) (mean : ExcName → Option Value) (mg mb : PySem.Str → Option Value)
set_option maxHeartbeats 4000000
theorem ap_ok (i : Int) (f : Nat) (hf : i.natAbs < 16 ^ f) (hi : i.natAbs < 2 ^ 60) (hf2 : f ≤ 100) : CallOk (W1 w mean mg mb) 1 21 [.int i] (.byt (apGo f i.natAbs []).toArray) := by
  refine def_ok (names := [PySem.Str.ofString "num"]) rfl rfl (all1 fun _ => rfl) (by decide) (by walk_at "names") rfl rfl rfl rfl ?_
  · intro A L F
    show X _ _ _ [(PySem.Str.ofString "num", Slot.val (D.int i))] _ _
    refine x_cons (x_assign F (by walk_at "ev") rfl) ?_
    refine x_cons (x_assign F (by walk_at "ev") rfl) ?_
    refine x_cons (x_assign (d := .int (i.natAbs : Int)) F ?_ rfl) ?_
    · have : (i.natAbs : Int) = if i < 0 then -i else i := by split <;> walk_at "lx"
      rw [this]
      walk_at "ev"
    refine x_cons (σ₁ := [(PySem.Str.ofString "num", Slot.val (D.int ((0 : Nat) : Int))), (PySem.Str.ofString "val", Slot.val (D.byt (apGo f i.natAbs []).toArray)), (PySem.Str.ofString "AP", Slot.val (D.byt apB))]) ?_ (x_stop (x_ret (by walk_at "ev")))
    refine x1_weak (σ' := [(PySem.Str.ofString "num", Slot.val (D.int (i.natAbs : Int))), (PySem.Str.ofString "val", Slot.val (D.byt ([] : List UInt8).toArray)), (PySem.Str.ofString "AP", Slot.val (D.byt apB))]) ?_ ?_
    · walk_at "sub"
    refine x_while (n := 2 * f) ?_
    have hz : ([] : List UInt8).length + f ≤ 100 := by simp; walk_at "lx"
    generalize i.natAbs = n at hf hi ⊢
    generalize ([] : List UInt8) = acc at hz ⊢
    clear hf2
    induction f generalizing n acc with
    | zero =>
      have : n = 0 := by simpa using hf
      subst this
      exact .stop (tr_val (by walk_at "ev") truth_int)
    | succ f ih =>
      by_cases h0 : n = 0
      · subst h0
        rw [apGo, if_pos rfl]
        exact .stop (tr_val (by walk_at "ev") truth_int)
      · rw [apGo, if_neg h0]
        have hne : ((n : Int) != 0) = true := by simp [h0]
        have hdiv : ((n : Int).fdiv 16) = ((n / 16 : Nat) : Int) := by rw [Int.fdiv_eq_ediv_of_nonneg _ (by decide)]; rfl
        have hmod : ((n : Int).fmod 16) = ((n % 16 : Nat) : Int) := by rw [Int.fmod_eq_emod_of_nonneg _ (by decide)]; rfl
        obtain ⟨p1, p2⟩ := picked16 (n % 16) (Nat.mod_lt _ (by decide))
        refine WhileRun.next (σ₁ := [(PySem.Str.ofString "num", Slot.val (D.int ((n / 16 : Nat) : Int))), (PySem.Str.ofString "val", Slot.val (D.byt (UInt8.ofNat (65 + n % 16) :: acc).toArray)), (PySem.Str.ofString "AP", Slot.val (D.byt apB))]) (n := 2 * f + 1) (by rw [← hne]; exact tr_val (by walk_at "ev") truth_int) ?_ (.weak (fun _ h => h) (ih (n / 16) (by rw [Nat.pow_succ] at hf; walk_at "lx") (by walk_at "lx") _ (by rw [List.length_cons]; walk_at "lx")))
        have e : (UInt8.ofNat (65 + n % 16) :: acc).toArray = KBy.picked apB (some ((n % 16 : Nat) : Int)) (some (((n % 16 : Nat) : Int) + 1)) ++ acc.toArray := by rw [p1]; simp
        have cv : ∀ A, CallV (W1 w mean mg mb) A (.builtin "divmod") [.int (n : Int), .int 16] (.tup [.int ((n / 16 : Nat) : Int), .int ((n % 16 : Nat) : Int)]) := fun A => by
          rw [← hdiv, ← hmod]; exact cv_divmod (by decide) (PyProof.noPylong_small (by decide))
        refine x_cons (x_tup F.hh (ev_callB F rfl rfl boot_divmod (by decide) (by decide) (by walk_at "evs") (cv A)) rfl (bndl_cons (asg_name F rfl) (bndl_cons (asg_name F rfl) bndl_nil)) rfl rfl rfl rfl) ?_
        refine x_weakO (x_cons (x_assign (d := .byt (UInt8.ofNat (65 + n % 16) :: acc).toArray) F ?_ rfl) x_nil) (by walk_at "sub")
        rw [e]
        refine ev_bin (ev_sliceB (by walk_at "ev") (evp_int (by walk_at "ev")) (evp_int (by walk_at "ev")) p2 ?_) (by walk_at "ev") (op_addB ?_)
        · rw [p1]; simp
        · rw [p1]; simp; walk_at "lx"
end
section
noncomputable abbrev S (l : List Nat) : PySem.Str := ⟨l.toArray⟩
theorem S_append (a b : List Nat) : S a ++ S b = S (a ++ b) := by
  show PySem.Str.mk (a.toArray ++ b.toArray) = _
  simp
theorem join_S : ∀ l : List (List Nat), Txt.join (PySem.Str.ofString "") (l.map S) = S l.flatten := by
  intro l
  show Builtin.Str.glued (PySem.Str.ofString "") (l.map S) = _
  rw [StrLaws.glued_eq_join]
  induction l with
  | nil => rfl
  | cons a r ih =>
    cases r with
    | nil => simp [PySem.Str.join]
    | cons b r =>
      rw [List.map_cons, List.map_cons, PySem.Str.join]
      rw [List.map_cons] at ih
      rw [ih]
      have e : PySem.Str.ofString "" = S [] := rfl
      rw [e, S_append, S_append]
      simp
      intro h; cases h
theorem flat_ones : ∀ l : List Nat, (l.map fun c => [c]).flatten = l
  | [] => rfl
  | c :: l => by rw [List.map_cons, List.flatten_cons, flat_ones l]; rfl
theorem join_chars (l : List Nat) : Txt.join (PySem.Str.ofString "") (l.map fun c => S [c]) = S l := by
  have := join_S (l.map fun c => [c])
  rw [List.map_map] at this
  rw [flat_ones] at this
  exact this

noncomputable def numP (l : List Nat) (a : Nat) : Nat := l.foldl (fun a k => 16 * a + k) a
theorem numP_lt : ∀ (l : List Nat) (a n : Nat), (∀ k ∈ l, k < 16) → a < 16 ^ n → numP l a < 16 ^ (n + l.length)
  | [], a, n, _, h => by simpa [numP] using h
  | k :: l, a, n, hk, h => by
    have h1 : k < 16 := hk k (.head _)
    have := numP_lt l (16 * a + k) (n + 1) (fun x hx => hk x (.tail _ hx)) (by rw [Nat.pow_succ]; walk_at "lx")
    rw [List.length_cons, show n + (l.length + 1) = n + 1 + l.length by walk_at "lx"]
    exact this

theorem apGo_len : ∀ (f n : Nat) (acc : List UInt8), (apGo f n acc).length ≤ f + acc.length
  | 0, n, acc => by simp [apGo]
  | f + 1, n, acc => by
    unfold apGo
    split
    · walk_at "lx"
    · have := apGo_len f (n / 16) (UInt8.ofNat (65 + n % 16) :: acc)
      rw [List.length_cons] at this; walk_at "lx"
theorem sum_ones {α : Type} (l : List α) (g : α → PySem.Str) (h : ∀ a, (g a).length = 1) : ((l.map g).map (·.length)).sum = l.length := by
  induction l with
  | nil => rfl
  | cons a l ih => rw [List.map_cons, List.map_cons, List.sum_cons, ih, h]; simp; walk_at "lx"

variable (w : World) (mean : ExcName → Option Value) (mg mb : PySem.Str → Option Value)
set_option maxHeartbeats 4000000
theorem word_ok (l : List Nat) (hk : ∀ k ∈ l, k < 16) (hl : l.length ≤ 15) : CallOk (W1 w mean mg mb) 2 118 [.lst (l.map fun k : Nat => .int (k : Int))] (.str (S ((apGo 15 (numP l 0) []).map UInt8.toNat))) := by
  refine def_ok (names := [PySem.Str.ofString "steps"]) rfl rfl (all1 fun _ => rfl) (by decide) (by walk_at "names") rfl rfl rfl rfl ?_
  · intro A L F
    show X _ _ _ [(PySem.Str.ofString "steps", Slot.val (D.lst (l.map fun k : Nat => D.int (k : Int))))] _ _
    refine x_cons (x_assign F (by walk_at "ev") rfl) ?_
    refine x_cons (σ₁ := [(PySem.Str.ofString "number", Slot.val (D.int (numP l 0 : Nat))), (PySem.Str.ofString "steps", Slot.val (D.lst (l.map fun k : Nat => D.int (k : Int))))]) ?_ ?_
    · refine x1_weak (σ' := [(PySem.Str.ofString "number", Slot.val (D.int 0)), (PySem.Str.ofString "steps", Slot.val (D.lst (l.map fun k : Nat => D.int (k : Int))))]) (by walk_at "sub") ?_
      refine x_for (ds := l.map fun k : Nat => D.int (k : Int)) (by walk_at "ev") (iter_list F.hh) ?_
      change ForRun _ _ [(PySem.Str.ofString "number", Slot.val (D.int ((0 : Nat) : Int))), _] _
      generalize D.lst (l.map fun k : Nat => D.int (k : Int)) = dl
      clear hl
      generalize (0 : Nat) = a
      induction l generalizing a with
      | nil => exact .nil
      | cons k l ih =>
        refine ForRun.next (σ₁ := [(PySem.Str.ofString "number", Slot.val (D.int ((16 * a + k : Nat) : Int))), (PySem.Str.ofString "steps", Slot.val dl)]) ⟨_, asg_name F rfl, x_weakO (x_cons (x_assign (d := .int ((16 * a + k : Nat) : Int)) F ?_ rfl) x_nil) (by walk_at "sub")⟩ (ih (fun x hx => hk x (.tail _ hx)) (16 * a + k))
        have e : ((16 * a + k : Nat) : Int) = 16 * (a : Int) + k := by simp
        rw [e]
        walk_at "ev"
    · have hn := numP_lt l 0 0 hk (by decide)
      have hp : 16 ^ (0 + l.length) ≤ 16 ^ 15 := Nat.pow_le_pow_right (by decide) (by walk_at "lx")
      have he : (16 : Nat) ^ 15 ≤ 2 ^ 60 := by decide
      have hc := ap_ok w mean mg mb ((numP l 0 : Nat) : Int) 15 (by simp; walk_at "lx") (by simp; walk_at "lx") (by decide)
      have hlen := apGo_len 15 (numP l 0) []
      rw [Int.natAbs_natCast] at hc
      rw [List.length_nil] at hlen
      generalize apGo 15 (numP l 0) [] = bs at hc hlen ⊢
      refine x_stop (x_ret (ev_methS1 (by walk_at "ev") PySem.F.slot_str_join PySem.F.type_str_join (evs_cons (d := .lst ((bs.map fun c => S [c.toNat]).map D.str)) ?_ evs_nil) ?_))
      · have eo : ((bs.map fun c => S [c.toNat]).map D.str) = (bs.map fun c => some (D.str (S [c.toNat]))).filterMap id := by
          clear hc hlen
          induction bs with
          | nil => rfl
          | cons b bs ih => rw [List.map_cons, List.map_cons, List.map_cons, ih]; rfl
        rw [eo]
        refine (evF_comp F (cl := []) (cap := []) (ds := bs.map fun c => D.int (c.toNat : Int)) (ev_call F rfl rfl (by decide) rfl (by walk_at "evs") hc (by walk_at "lx")) (iter_byt F.hh) rfl (by decide) rfl (by decide) ?_ ?_ ?_).ev
        · exact fun C => ⟨fun x c h => by simp [compEnvC] at h, fun p hp => nomatch hp⟩
        · intro C FC
          refine All2.map _ _ fun c _ => ?_
          have e : D.str (S [c.toNat]) = D.str ⟨#[((c.toNat : Int)).toNat]⟩ := by rw [Int.toNat_natCast]
          rw [e]
          have hc8 : c.toNat < 256 := c.toNat_lt
          generalize c.toNat = cn at hc8 ⊢
          exact ⟨_, asg_name FC rfl, fun p hp => by simp at hp, tst_nil, ev_callB FC rfl rfl boot_chr (by decide) (by decide) (by walk_at "evs") (cv_chr (a := (cn : Int)) (by walk_at "lx") (by walk_at "lx"))⟩
        · rw [List.length_map]; walk_at "lx"
      · have e : S (bs.map UInt8.toNat) = Txt.join (PySem.Str.ofString "") (bs.map fun c => S [c.toNat]) := by
          rw [← join_chars, List.map_map]; rfl
        rw [e]
        refine cv_join ?_
        rw [sum_ones _ _ (fun a => rfl), List.length_map]
        have h0 : (PySem.Str.ofString "").length = 0 := rfl
        rw [h0]; walk_at "lx"
end
section
theorem S_len (l : List Nat) : (S l).length = l.length := by simp [S, PySem.Str.length]
theorem sl_from (l : List Nat) (p : Nat) (h : p ≤ l.length) : Txt.slice (S l) (some (p : Int)) none = S (l.drop p) := by
  have := beq_iff_eq.mp (slice_closes_from (x := S l) (i := (p : Int)) ⟨by walk_at "lx", by simpa using h⟩)
  rw [this]
  have e : (((S l).cps.toList.length : Int) - (p : Int)).toNat = l.length - p := by simp [S]
  rw [e]
  show S ((l.drop (p : Int).toNat).take (l.length - p)) = _
  rw [Int.toNat_natCast, List.take_of_length_le (by rw [List.length_drop]; exact Nat.le_refl _)]
theorem sl_upto (l : List Nat) (p : Nat) (h : p ≤ l.length) : Txt.slice (S l) none (some (p : Int)) = S (l.take p) := by
  have := beq_iff_eq.mp (slice_closes_to (x := S l) (j := (p : Int)) ⟨by walk_at "lx", by simpa using h⟩)
  rw [this]; simp
theorem sl_neg (l : List Nat) (q : Nat) (h : q ≤ l.length) (h0 : 0 < q) : Txt.slice (S l) none (some (-(q : Int))) = S (l.take (l.length - q)) := by
  have := beq_iff_eq.mp (slice_closes_to_neg (x := S l) (j := -(q : Int)) (k := (l.length : Int) - q) (by walk_at "lx") (by rw [S_len]; walk_at "lx") (by rw [S_len]; walk_at "lx"))
  rw [this]
  have e : ((l.length : Int) - (q : Int) - 0).toNat = l.length - q := by walk_at "lx"
  rw [e]; simp
theorem idx_all (n : Nat) : Builtin.Str.strSliceIndices none none 1 n = Builtin.Str.strSliceIndices none (some (n : Int)) 1 n := by
  unfold Builtin.Str.strSliceIndices
  have : ¬ ((n : Int) < 0) := by walk_at "lx"
  simp [this]
theorem idx_over (n p : Nat) (h : n ≤ p) : Builtin.Str.strSliceIndices none (some (p : Int)) 1 n = Builtin.Str.strSliceIndices none (some (n : Int)) 1 n := by
  unfold Builtin.Str.strSliceIndices
  have h1 : ¬ ((n : Int) < 0) := by walk_at "lx"
  have h2 : ¬ ((p : Int) < 0) := by walk_at "lx"
  have h3 : min (p : Int) n = n := by walk_at "lx"
  simp [h1, h2, h3]
theorem sl_all (l : List Nat) : Txt.slice (S l) none none = S l := by
  have h := sl_upto l l.length (Nat.le_refl _)
  rw [List.take_length] at h
  unfold Txt.slice at h ⊢
  rw [S_len] at h ⊢
  rw [idx_all]; exact h
theorem sl_over (l : List Nat) (p : Nat) (h : l.length ≤ p) : Txt.slice (S l) none (some (p : Int)) = S l := by
  have h' := sl_upto l l.length (Nat.le_refl _)
  rw [List.take_length] at h'
  unfold Txt.slice at h' ⊢
  rw [S_len] at h' ⊢
  rw [idx_over _ _ h]; exact h'
theorem sl_fromOver (l : List Nat) (p : Nat) (h : l.length ≤ p) : Txt.slice (S l) (some (p : Int)) none = S [] := by
  have := slice_beyond (x := S l) (i := (p : Int)) (by rw [S_len]; walk_at "lx")
  rw [this]; rfl
theorem it_pos (l : List Nat) (p : Nat) (c : Nat) (h : l[p]? = some c) : Txt.charAt (S l) (p : Int) = some c := by
  have hp : p < l.length := by
    rcases Nat.lt_or_ge p l.length with h' | h'
    · exact h'
    · rw [List.getElem?_eq_none h'] at h; cases h
  unfold Txt.charAt seqIndex?
  rw [S_len]
  have e : ((if (p : Int) < 0 then (p : Int) + l.length else (p : Int))) = (p : Int) := by rw [if_neg (by walk_at "lx")]
  rw [e, if_pos (by simp; walk_at "lx")]
  simpa using h
theorem it_neg (l : List Nat) (q : Nat) (c : Nat) (h : l.reverse[q]? = some c) : Txt.charAt (S l) (-(q : Int) - 1) = some c := by
  have hq : q < l.length := by
    rcases Nat.lt_or_ge q l.length with h' | h'
    · exact h'
    · rw [List.getElem?_eq_none (by simpa using h')] at h; cases h
  unfold Txt.charAt seqIndex?
  rw [S_len]
  have e : ((if (-(q : Int) - 1) < 0 then (-(q : Int) - 1) + l.length else (-(q : Int) - 1))) = ((l.length - 1 - q : Nat) : Int) := by rw [if_pos (by walk_at "lx")]; walk_at "lx"
  rw [e, if_pos (by simp; walk_at "lx")]
  rw [List.getElem?_reverse hq] at h
  simpa using h
theorem it_item (l : List Nat) (i : Int) (c : Nat) (h : Txt.charAt (S l) i = some c) : Txt.item (S l) i = S [c] := by
  unfold Txt.item; rw [h]; rfl
end
section
noncomputable abbrev dN (k : Nat) : D := D.int (k : Int)
noncomputable abbrev N (s : String) : PySem.Str := PySem.Str.ofString s
noncomputable def cpre : List Nat → List Nat → Nat
  | a :: as, b :: bs => if a = b then cpre as bs + 1 else 0
  | _, _ => 0
theorem cpre_le : ∀ a b : List Nat, cpre a b ≤ a.length ∧ cpre a b ≤ b.length
  | [], _ => by simp [cpre]
  | _ :: _, [] => by simp [cpre]
  | a :: as, b :: bs => by
    have := cpre_le as bs
    unfold cpre; split <;> simp <;> walk_at "lx"
noncomputable def lowN (c : Nat) : Nat := if 65 ≤ c ∧ c ≤ 90 then c + 32 else c
noncomputable def subN (x y : Nat) : Nat := if x = y then 0 else if lowN x = lowN y then 1 else 2
noncomputable def bigN : Nat := 9223372036854775807
noncomputable def inP (bc : Nat) : List Nat → List Nat → Nat → Nat → Nat → List Nat × Nat × Nat
  | a :: as, r :: rs, d, res, mn =>
    let res' := min (min res r + 2) (d + subN bc a)
    let o := inP bc as rs r res' (if res' < mn then res' else mn)
    (res' :: o.1, o.2.1, o.2.2)
  | _, _, _, res, mn => ([], res, mn)
noncomputable def outP (a : List Nat) (m : Nat) : List Nat → Nat → List Nat → Nat → Nat
  | [], _, _, res => res
  | b :: bs, i, row, _ =>
    let o := inP b a row (2 * i) (2 * i) bigN
    if m < o.2.2 then m + 1 else outP a m bs (i + 1) o.1 o.2.1
noncomputable def rowN : Nat → Nat → List Nat
  | _, 0 => []
  | a, n + 1 => a :: rowN (a + 2) n
theorem rowN_len : ∀ n a, (rowN a n).length = n
  | 0, _ => rfl
  | n + 1, a => by simp [rowN, rowN_len n]
noncomputable def trimP (a b : List Nat) : List Nat × List Nat :=
  let p := cpre a b
  let a1 := a.drop p
  let b1 := b.drop p
  let q := cpre a1.reverse b1.reverse
  (a1.take (a1.length - q), b1.take (b1.length - q))
noncomputable def midP (a b : List Nat) (m : Nat) : Nat :=
  if m < (b.length - a.length) * 2 then m + 1 else outP a m b 0 (rowN 2 a.length) 0
noncomputable def levP (a b : List Nat) (m : Nat) : Nat :=
  if a = b then 0 else
  let t := trimP a b
  if t.1.isEmpty || t.2.isEmpty then 2 * (t.1.length + t.2.length) else
  if t.2.length < t.1.length then midP t.2 t.1 m else midP t.1 t.2 m
theorem lower1 : ∀ c : Nat, c < 128 → Txt.lower (S [c]) = S [lowN c] := by
  have : ∀ c : _root_.Fin 128, Txt.lower (S [c.val]) = S [lowN c.val] := by decide +kernel
  exact fun c h => this ⟨c, h⟩
theorem S_inj {a b : List Nat} : ((S a == S b) = true) ↔ a = b := by
  rw [beq_iff_eq]
  constructor
  · intro h; have := congrArg (fun x : PySem.Str => x.cps.toList) h; simpa [S] using this
  · intro h; rw [h]
theorem subC_eq {x y : Nat} (hx : x < 128) (hy : y < 128) : subC (S [x]) (S [y]) = (subN x y : Int) := by
  unfold subC subN
  rw [lower1 x hx, lower1 y hy]
  by_cases h : x = y
  · rw [if_pos (S_inj.mpr (by rw [h])), if_pos h]; rfl
  · rw [if_neg (fun e => h (by simpa using S_inj.mp e)), if_neg h]
    by_cases h2 : lowN x = lowN y
    · rw [if_pos (S_inj.mpr (by rw [h2])), if_pos h2]; rfl
    · rw [if_neg (fun e => h2 (by simpa using S_inj.mp e)), if_neg h2]; rfl
theorem S_ne {l : List Nat} : (((S l).length : Int) != 0) = !l.isEmpty := by
  rw [S_len]; cases l <;> simp <;> walk_at "lx"
theorem rangeSize1 (n : Nat) : Builtin.Range.rangeSize 0 (n : Int) 1 = (n : Int) := by
  unfold Builtin.Range.rangeSize
  by_cases h : 0 < n
  · rw [if_pos (by decide), if_pos (by walk_at "lx")]; walk_at "lx"
  · rw [if_pos (by decide), if_neg (by walk_at "lx")]; walk_at "lx"
theorem rangeSize2 (n : Nat) : Builtin.Range.rangeSize 2 (2 * ((n : Int) + 1)) 2 = (n : Int) := by
  unfold Builtin.Range.rangeSize
  by_cases h : 0 < n
  · rw [if_pos (by decide), if_pos (by walk_at "lx")]; walk_at "lx"
  · rw [if_pos (by decide), if_neg (by walk_at "lx")]; walk_at "lx"
theorem rngL_row : ∀ (n a : Nat), rngL (a : Int) 2 n = (rowN a n).map fun k : Nat => D.int (k : Int)
  | 0, _ => rfl
  | n + 1, a => by rw [rngL, rowN, List.map_cons, ← rngL_row n (a + 2)]; rfl
variable {W : WP} {A : Around} {env : Env} {σ : Sto}
theorem ev_slF {value lo : PySem.Expr} {p pos : Pos} {l : List Nat} {q : Nat} (h : Ev W A env σ value (.str (S l))) (hl : Ev W A env σ lo (.int (q : Int))) (hq : q ≤ l.length) (hz : l.length ≤ 1000) :
    Ev W A env σ (.Subscript value (.Slice (some lo) none none p) pos) (.str (S (l.drop q))) := by
  rw [← sl_from l q hq]; exact ev_sliceS h (evp_int hl) evp_nil (by rw [S_len]; walk_at "lx")
theorem ev_slP {value lo : PySem.Expr} {p pos pos2 pos3 : Pos} {k : Nat} {l : List Nat} {q : Nat} (h : Ev W A env σ value (.str (S l))) (hl : Ev W A env σ lo (.int (-(q : Int)))) (hq : q ≤ l.length) (hz : l.length ≤ 1000) :
    Ev W A env σ (.Subscript value (.Slice none (some (.BoolOp .Or [lo, .Constant .none k pos2] pos3)) none p) pos) (.str (S (l.take (l.length - q)))) := by
  by_cases h0 : q = 0
  · subst h0
    have e : S (l.take (l.length - 0)) = Txt.slice (S l) none none := by rw [sl_all]; simp
    rw [e]
    exact ev_sliceS h evp_nil (evp_none (ev_or (b := false) hl truth_int (fun h => absurd h (by decide)) fun _ => ev_none)) (by rw [S_len]; walk_at "lx")
  · rw [← sl_neg l q hq (by walk_at "lx")]
    exact ev_sliceS h evp_nil (evp_int (ev_or (b := (-(q : Int)) != 0) hl truth_int (fun _ => rfl) fun h => absurd h (by simp; walk_at "lx"))) (by rw [S_len]; walk_at "lx")
theorem ev_itF {value sl : PySem.Expr} {pos : Pos} {l : List Nat} {q c : Nat} (h : Ev W A env σ value (.str (S l))) (hl : Ev W A env σ sl (.int (q : Int))) (hc : l[q]? = some c) (hz : l.length ≤ 1000)
    (hs : ∀ o i, subscripted sl false o i = operate [o, i] (getItem o i) := by intro _ _; rfl) : Ev W A env σ (.Subscript value sl pos) (.str (S [c])) := by
  have e := it_pos l q c hc
  rw [← it_item l _ c e]
  have hq : q < l.length := by
    rcases Nat.lt_or_ge q l.length with h' | h'
    · exact h'
    · rw [List.getElem?_eq_none h'] at hc; cases hc
  exact ev_itemS h hl (by simp [fitsSsize]; walk_at "lx") (by rw [e]; rfl) hs
theorem ev_itN {value sl : PySem.Expr} {pos : Pos} {l : List Nat} {q c : Nat} (h : Ev W A env σ value (.str (S l))) (hl : Ev W A env σ sl (.int (-(q : Int) - 1))) (hc : l.reverse[q]? = some c) (hz : l.length ≤ 1000)
    (hs : ∀ o i, subscripted sl false o i = operate [o, i] (getItem o i) := by intro _ _; rfl) : Ev W A env σ (.Subscript value sl pos) (.str (S [c])) := by
  have e := it_neg l q c hc
  rw [← it_item l _ c e]
  have hq : q < l.length := by
    rcases Nat.lt_or_ge q l.length with h' | h'
    · exact h'
    · rw [List.getElem?_eq_none (by simpa using h')] at hc; cases hc
  exact ev_itemS h hl (by simp [fitsSsize]; walk_at "lx") (by rw [e]; rfl) hs
theorem tr_S {e : PySem.Expr} {l : List Nat} (h : Ev W A env σ e (.str (S l))) (hz : l.length ≤ 1000) (he : isTrue e env (eval e env) = (do let v ← eval e env; standAt e.pos; holding [v] (truthy v)) := by rfl) : Tr W A env σ e (!l.isEmpty) := by
  rw [← S_ne]; exact tr_val h (truth_str (by rw [S_len]; walk_at "lx")) he
theorem allT_stop {e : PySem.Expr} {es : List PySem.Expr} (h : Tr W A env σ e false) : AllT W A env σ .And (e :: es) false := allT_and (c := false) h (fun h => absurd h (by decide))
theorem allT_go {e : PySem.Expr} {es : List PySem.Expr} {c : Bool} (h : Tr W A env σ e true) (r : AllT W A env σ .And es c) : AllT W A env σ .And (e :: es) c := allT_and h (fun _ => r)
theorem allT_stopO {e : PySem.Expr} {es : List PySem.Expr} (h : Tr W A env σ e true) : AllT W A env σ .Or (e :: es) true := allT_or (c := true) h (fun h => absurd h (by decide))
theorem allT_goO {e : PySem.Expr} {es : List PySem.Expr} {c : Bool} (h : Tr W A env σ e false) (r : AllT W A env σ .Or es c) : AllT W A env σ .Or (e :: es) c := allT_or h (fun _ => r)
end
section
theorem run_count {test : Sto → Bool → Prop} {body : Sto → Out → Prop} (σ : Nat → Sto) (n : Nat) (hgo : ∀ i, i < n → test (σ i) true ∧ body (σ i) (.next (σ (i + 1)))) (hstop : test (σ n) false) : WhileRun test body n (σ 0) (.next (σ n)) := by
  have : ∀ k i, i + k = n → WhileRun test body k (σ i) (.next (σ n)) := by
    intro k
    induction k with
    | zero => intro i h; have : i = n := by walk_at "lx"
              subst this; exact .stop hstop
    | succ k ih => intro i h; exact .next (hgo i (by walk_at "lx")).1 (hgo i (by walk_at "lx")).2 (ih (i + 1) (by walk_at "lx"))
  exact this n 0 (by walk_at "lx")
theorem for_count {step : D → Sto → Out → Prop} (σ : Nat → Sto) (ds : List D) (h : ∀ i d, ds[i]? = some d → step d (σ i) (.next (σ (i + 1)))) : ForRun step ds (σ 0) (.next (σ ds.length)) := by
  have : ∀ (es : List D) (i : Nat), ds.drop i = es → i ≤ ds.length → ForRun step es (σ i) (.next (σ ds.length)) := by
    intro es
    induction es with
    | nil => intro i h hi
             have : i = ds.length := by have := congrArg List.length h; simp at this; walk_at "lx"
             subst this; exact .nil
    | cons d es ih =>
      intro i hd hi
      have h1 : ds[i]? = some d := by
        have := congrArg (fun l => l[0]?) hd
        simpa using this
      have h2 : ds.drop (i + 1) = es := by
        have := congrArg List.tail hd
        simpa using this
      have h3 : i < ds.length := (List.getElem?_eq_some_iff.mp h1).1
      exact .next (h i d h1) (ih (i + 1) h2 (by walk_at "lx"))
  exact this ds 0 rfl (Nat.zero_le _)
theorem cpre_go : ∀ (a b : List Nat) (i : Nat), i < cpre a b → ∃ c, a[i]? = some c ∧ b[i]? = some c
  | [], _, i, h => by simp [cpre] at h
  | _ :: _, [], i, h => by simp [cpre] at h
  | a :: as, b :: bs, i, h => by
    unfold cpre at h
    split at h
    · next e =>
      subst e
      cases i with
      | zero => exact ⟨a, rfl, rfl⟩
      | succ i => exact cpre_go as bs i (by walk_at "lx")
    · walk_at "lx"
theorem cpre_stop : ∀ (a b : List Nat), a.length = cpre a b ∨ b.length = cpre a b ∨ ∃ x y, a[cpre a b]? = some x ∧ b[cpre a b]? = some y ∧ x ≠ y
  | [], _ => by simp [cpre]
  | _ :: _, [] => by simp [cpre]
  | a :: as, b :: bs => by
    unfold cpre
    split
    · next e =>
      rcases cpre_stop as bs with h | h | ⟨x, y, h1, h2, h3⟩
      · left; simp [h]
      · right; left; simp [h]
      · right; right; exact ⟨x, y, h1, h2, h3⟩
    · next e => right; right; exact ⟨a, b, rfl, rfl, e⟩
theorem rng_get : ∀ (n : Nat) (a : Int) (i : Nat) (d : D), (rngL a 1 n)[i]? = some d → i < n ∧ d = .int (a + i)
  | 0, a, i, d, h => by simp [rngL] at h
  | n + 1, a, 0, d, h => by simp [rngL] at h; exact ⟨by walk_at "lx", by rw [← h]; simp⟩
  | n + 1, a, i + 1, d, h => by
    simp [rngL] at h
    have := rng_get n (a + 1) i d h
    exact ⟨by walk_at "lx", by rw [this.2]; congr 1; walk_at "lx"⟩
/-- the inner loop's shape -/
theorem for_inner {step : D → Sto → Out → Prop} {bc : Nat} {a : List Nat} (σ : List Nat → Nat → Nat → Nat → Sto)
    (h : ∀ (i : Nat) (row : List Nat) (d res mn c r : Nat), a[i]? = some c → row[i]? = some r → row.length = a.length → step (.int (i : Int)) (σ row d res mn) (.next (σ (row.set i (min (min res r + 2) (d + subN bc c))) r (min (min res r + 2) (d + subN bc c)) (if min (min res r + 2) (d + subN bc c) < mn then min (min res r + 2) (d + subN bc c) else mn)))) :
    ∀ (as rs dn : List Nat) (i : Nat) (d res mn : Nat), dn.length = i → a.drop i = as → rs.length = as.length → i ≤ a.length → ∃ d', ForRun step (rngL (i : Int) 1 as.length) (σ (dn ++ rs) d res mn) (.next (σ (dn ++ (inP bc as rs d res mn).1) d' (inP bc as rs d res mn).2.1 (inP bc as rs d res mn).2.2))
  | [], rs, dn, i, d, res, mn, h1, h2, h3, h4 => by
    cases rs with
    | nil => exact ⟨d, by simpa [rngL, inP] using ForRun.nil⟩
    | cons r rs => simp at h3
  | c :: as, rs, dn, i, d, res, mn, h1, h2, h3, h4 => by
    cases rs with
    | nil => simp at h3
    | cons r rs =>
      have g1 : a[i]? = some c := by
        have := congrArg (fun l => l[0]?) h2
        simpa using this
      have g2 : a.drop (i + 1) = as := by
        have := congrArg List.tail h2
        simpa using this
      have g3 : i < a.length := (List.getElem?_eq_some_iff.mp g1).1
      have g4 : (dn ++ r :: rs)[i]? = some r := by rw [List.getElem?_append_right (by walk_at "lx")]; simp [h1]
      have g5 : (dn ++ r :: rs).length = a.length := by
        have := congrArg List.length h2
        simp at this h3 ⊢; walk_at "lx"
      have st := h i _ d res mn c r g1 g4 g5
      have e0 : (dn ++ r :: rs).set i (min (min res r + 2) (d + subN bc c)) = (dn ++ [min (min res r + 2) (d + subN bc c)]) ++ rs := by
        rw [List.set_append_right _ _ (by walk_at "lx"), show i - dn.length = 0 by walk_at "lx", List.set_cons_zero]; simp
      rw [e0] at st
      obtain ⟨d', ih⟩ := for_inner σ h as rs (dn ++ [min (min res r + 2) (d + subN bc c)]) (i + 1) r (min (min res r + 2) (d + subN bc c)) (if min (min res r + 2) (d + subN bc c) < mn then min (min res r + 2) (d + subN bc c) else mn) (by simp [h1]) g2 (by simpa using h3) (by walk_at "lx")
      refine ⟨d', ?_⟩
      rw [inP]
      have e1 : ∀ t : List Nat, dn ++ (min (min res r + 2) (d + subN bc c) :: t) = (dn ++ [min (min res r + 2) (d + subN bc c)]) ++ t := fun t => by simp
      dsimp only
      rw [e1]
      exact .next st ih
/-- the outer loop: an early end, or the last row -/
noncomputable def outQ (a : List Nat) (m : Nat) : List Nat → Nat → List Nat → Nat → Option (List Nat × Nat)
  | [], _, row, res => some (row, res)
  | b :: bs, i, row, _ =>
    let o := inP b a row (2 * i) (2 * i) bigN
    if m < o.2.2 then none else outQ a m bs (i + 1) o.1 o.2.1
theorem outP_Q (a : List Nat) (m : Nat) : ∀ (bs : List Nat) (i : Nat) (row : List Nat) (res : Nat), outP a m bs i row res = (match outQ a m bs i row res with | none => m + 1 | some o => o.2)
  | [], _, _, _ => rfl
  | b :: bs, i, row, res => by
    rw [outP, outQ]
    split
    · rfl
    · exact outP_Q a m bs _ _ _
theorem inP_len (bc : Nat) : ∀ (a row : List Nat) (d res mn : Nat), row.length = a.length → (inP bc a row d res mn).1.length = a.length
  | [], row, d, res, mn, _ => by simp [inP]
  | c :: a, row, d, res, mn, h => by
    cases row with
    | nil => simp at h
    | cons r rs => rw [inP]; simp; exact inP_len bc a rs _ _ _ (by simpa using h)
theorem for_outer {step : D → Sto → Out → Prop} {a lb : List Nat} {m : Nat} (σ : List Nat → Nat → Sto)
    (h : ∀ (i : Nat) (row : List Nat) (res b : Nat), lb[i]? = some b → row.length = a.length → step (.int (i : Int)) (σ row res) (if m < (inP b a row (2 * i) (2 * i) bigN).2.2 then .ret (.int ((m + 1 : Nat) : Int)) else .next (σ (inP b a row (2 * i) (2 * i) bigN).1 (inP b a row (2 * i) (2 * i) bigN).2.1))) :
    ∀ (bs : List Nat) (i : Nat) (row : List Nat) (res : Nat), lb.drop i = bs → row.length = a.length → ForRun step (rngL (i : Int) 1 bs.length) (σ row res) (match outQ a m bs i row res with | none => .ret (.int ((m + 1 : Nat) : Int)) | some o => .next (σ o.1 o.2))
  | [], i, row, res, h1, h2 => .nil
  | b :: bs, i, row, res, h1, h2 => by
    have g1 : lb[i]? = some b := by
      have := congrArg (fun l => l[0]?) h1
      simpa using this
    have g2 : lb.drop (i + 1) = bs := by
      have := congrArg List.tail h1
      simpa using this
    have st := h i row res b g1 h2
    rw [outQ]
    split at st
    · next hc => rw [if_pos hc]; exact .ret st
    · next hc => rw [if_neg hc]; exact .next st (for_outer σ h bs (i + 1) _ _ g2 (inP_len b a row _ _ _ h2))

variable {W : WP} {A : Around} {env : Env} {σ : Sto}
theorem and3_stop {e1 e2 e3 : PySem.Expr} {b1 b2 : Bool} (h1 : Tr W A env σ e1 b1) (h2 : Tr W A env σ e2 b2) (h3 : b1 = true → b2 = true → Tr W A env σ e3 false) : AllT W A env σ .And [e1, e2, e3] false := by
  cases b1 with
  | false => exact allT_stop h1
  | true =>
    cases b2 with
    | false => exact allT_go h1 (allT_stop h2)
    | true => exact allT_go h1 (allT_go h2 (allT_stop (h3 rfl rfl)))
theorem trOr2 {e1 e2 : PySem.Expr} {pos : Pos} {b1 b2 : Bool} (h1 : Tr W A env σ e1 b1) (h2 : Tr W A env σ e2 b2) : Tr W A env σ (.BoolOp .Or [e1, e2] pos) (b1 || b2) := by
  cases b1 with
  | false => exact tr_bool (allT_goO h1 (by cases b2 with | true => exact allT_stopO h2 | false => exact allT_goO h2 allT_nil))
  | true => exact tr_bool (allT_stopO h1)
theorem trNotS {e : PySem.Expr} {pos : Pos} {l : List Nat} (h : Tr W A env σ e (!l.isEmpty)) : Tr W A env σ (.UnaryOp .Not e pos) l.isEmpty := by
  have := tr_not (pos := pos) h
  rwa [Bool.not_not] at this
end
section
theorem smallN1 {n : Nat} (h : n ≤ 1000) : Builtin.Range.small 0 (n : Int) 1 = true := by
  simp [Builtin.Range.small, rangeSize1, Builtin.Range.rangeFitsLong]; walk_at "lx"
theorem smallN2 {n : Nat} (h : n ≤ 1000) : Builtin.Range.small 2 (2 * ((n : Int) + 1)) 2 = true := by
  simp [Builtin.Range.small, rangeSize2, Builtin.Range.rangeFitsLong]; walk_at "lx"
variable (w : World) (mean : ExcName → Option Value) (mg mb : PySem.Str → Option Value)
set_option maxHeartbeats 4000000
theorem ev_subst {A : Around} {L : Addr} {env : Env} {σ : Sto} {n : Nat} (F : FOK (n + 1) A env) (he : env.kindOf (N "_substitution_cost") = some .globalImplicit) {p pos : Pos} {e₁ e₂ : PySem.Expr} {x y : Nat} (hx : x < 128) (hy : y < 128)
    (h₁ : Ev (W1 w mean mg mb) A env σ e₁ (.str (S [x]))) (h₂ : Ev (W1 w mean mg mb) A env σ e₂ (.str (S [y])))
    (hs : starEach [e₁, e₂] env = (false, eval e₁ env) :: starEach [e₂] env := by rfl) (hs2 : starEach [e₂] env = (false, eval e₂ env) :: starEach [] env := by rfl)
    (hne : backTo pos (starEach [e₁, e₂] env) = (match backTo pos (starEach [e₁, e₂] env) with | (_, t) :: r => (false, t) :: r | [] => []) := by rfl) : Ev (W1 w mean mg mb) A env σ (.Call (.Name (N "_substitution_cost") p) [e₁, e₂] [] pos) (.int (subN x y : Nat)) := by
  rw [← subC_eq hx hy]
  exact ev_call F he rfl (by decide) rfl (evs_cons h₁ (evs_cons h₂ evs_nil hs2) hs) (subst_ok w mean mg mb _ _ (by rw [S_len]; exact Nat.le_of_ble_eq_true rfl) (by rw [S_len]; exact Nat.le_of_ble_eq_true rfl)) (by walk_at "lx") hne (List.cons_ne_nil _ _) (fun e rest h => by cases h; exact hs)
theorem tr_eqB {W : WP} {A : Around} {env : Env} {σ : Sto} {e : PySem.Expr} {b c : Bool} (h : b = c) (t : Tr W A env σ e b) : Tr W A env σ e c := h ▸ t
theorem mem_get {l : List Nat} {P : Nat → Prop} (h : ∀ c ∈ l, P c) {i c : Nat} (e : l[i]? = some c) : P c := h c (List.mem_of_getElem? e)
theorem get_lt {l : List Nat} {i c : Nat} (e : l[i]? = some c) : i < l.length := (List.getElem?_eq_some_iff.mp e).1
theorem lev_ok (la lb : List Nat) (m : Nat) (ha : ∀ c ∈ la, c < 128) (hb : ∀ c ∈ lb, c < 128) (hla : la.length ≤ 40) (hlb : lb.length ≤ 40) (hm : m ≤ 10000) : CallOk (W1 w mean mg mb) 2 38 [.str (S la), .str (S lb), .int (m : Int)] (.int (levP la lb m : Nat)) := by
  refine def_ok (names := [N "a", N "b", N "max_cost"]) rfl rfl (all3 fun _ _ _ => rfl) (by decide) (by walk_at "names") rfl rfl rfl rfl ?_
  · intro A L F
    show X _ _ _ [(N "a", Slot.val (D.str (S la))), (N "b", Slot.val (D.str (S lb))), (N "max_cost", Slot.val (D.int m))] _ _
    unfold levP
    by_cases hab : la = lb
    · rw [if_pos hab]
      exact x_stop (x_if (b := S la == S lb) (by walk_at "tr") (fun _ => x_stop (x_ret (ev_int (i := 0)))) fun h => absurd (S_inj.mpr hab) (by rw [h]; decide))
    rw [if_neg hab]
    refine x_cons (x_if (b := S la == S lb) (by walk_at "tr") (fun h => absurd (S_inj.mp h) hab) fun _ => x_nil) ?_
    refine x_cons (x_assign F (by walk_at "ev") rfl) ?_
    refine x_cons (σ₁ := [(N "a", Slot.val (D.str (S la))), (N "b", Slot.val (D.str (S lb))), (N "max_cost", Slot.val (D.int m)), (N "pre", Slot.val (D.int (cpre la lb : Nat)))]) ?_ ?_
    · refine x1_weak (σ' := [(N "a", Slot.val (D.str (S la))), (N "b", Slot.val (D.str (S lb))), (N "max_cost", Slot.val (D.int m)), (PySem.Str.ofString "pre", Slot.val (D.int 0))]) (by walk_at "sub") ?_
      refine x_while (n := cpre la lb) (run_count (σ := fun p => [(N "a", Slot.val (D.str (S la))), (N "b", Slot.val (D.str (S lb))), (N "max_cost", Slot.val (D.int m)), (N "pre", Slot.val (D.int ((p : Nat) : Int)))]) (cpre la lb) ?_ ?_)
      · intro i hi
        obtain ⟨c, g1, g2⟩ := cpre_go la lb i hi
        have l1 := get_lt g1
        have l2 := get_lt g2
        refine ⟨tr_bool (allT_go ?_ (allT_go ?_ (allT_go ?_ allT_nil))), ?_⟩
        · have : (!(la.drop i).isEmpty) = true := by simp; walk_at "lx"
          exact tr_eqB this <| tr_S (ev_slF (by walk_at "ev") (by walk_at "ev") (by walk_at "lx") (by walk_at "lx")) (by simp; walk_at "lx")
        · have : (!(lb.drop i).isEmpty) = true := by simp; walk_at "lx"
          exact tr_eqB this <| tr_S (ev_slF (by walk_at "ev") (by walk_at "ev") (by walk_at "lx") (by walk_at "lx")) (by simp; walk_at "lx")
        · have : (S [c] == S [c]) = true := S_inj.mpr rfl
          exact tr_eqB this <| tr_cmp (ev_itF (by walk_at "ev") (by walk_at "ev") g1 (by walk_at "lx")) (ev_itF (by walk_at "ev") (by walk_at "ev") g2 (by walk_at "lx")) op_eqS rfl
        · exact x_weakO (x_cons (x_aug (d := .int ((i + 1 : Nat) : Int)) F (by walk_at "mem") rfl ev_int op_iaddI) x_nil) (by walk_at "sub")
      · skip
        have hle := cpre_le la lb
        refine tr_bool (and3_stop (tr_S (ev_slF (by walk_at "ev") (by walk_at "ev") (by walk_at "lx") (by walk_at "lx")) (by simp; walk_at "lx")) (tr_S (ev_slF (by walk_at "ev") (by walk_at "ev") (by walk_at "lx") (by walk_at "lx")) (by simp; walk_at "lx")) ?_)
        intro h1 h2
        simp at h1 h2
        rcases cpre_stop la lb with h | h | ⟨x, y, h1, h2, h3⟩
        · walk_at "lx"
        · walk_at "lx"
        · have : (S [x] == S [y]) = false := by
            rw [Bool.eq_false_iff]; intro e; exact h3 (by simpa using S_inj.mp e)
          exact tr_eqB this (tr_cmp (ev_itF (by walk_at "ev") (by walk_at "ev") h1 (by walk_at "lx")) (ev_itF (by walk_at "ev") (by walk_at "ev") h2 (by walk_at "lx")) op_eqS rfl)
    have hpl := cpre_le la lb
    refine x_cons (x_assign (d := .str (S (la.drop (cpre la lb)))) F (ev_slF (by walk_at "ev") (by walk_at "ev") (by walk_at "lx") (by walk_at "lx")) rfl) ?_
    refine x_cons (x_assign (d := .str (S (lb.drop (cpre la lb)))) F (ev_slF (by walk_at "ev") (by walk_at "ev") (by walk_at "lx") (by walk_at "lx")) rfl) ?_
    refine x_cons (x_assign F (by walk_at "ev") rfl) ?_
    unfold trimP
    dsimp only
    have ha1 : ∀ c ∈ la.drop (cpre la lb), c < 128 := fun c h => ha c (List.mem_of_mem_drop h)
    have hb1 : ∀ c ∈ lb.drop (cpre la lb), c < 128 := fun c h => hb c (List.mem_of_mem_drop h)
    have hla1 : (la.drop (cpre la lb)).length ≤ 40 := by rw [List.length_drop]; walk_at "lx"
    have hlb1 : (lb.drop (cpre la lb)).length ≤ 40 := by rw [List.length_drop]; walk_at "lx"
    generalize la.drop (cpre la lb) = la1 at ha1 hla1 ⊢
    generalize lb.drop (cpre la lb) = lb1 at hb1 hlb1 ⊢
    have hpl := cpre_le la1.reverse lb1.reverse
    rw [List.length_reverse, List.length_reverse] at hpl
    refine x_cons (σ₁ := [(N "a", Slot.val (D.str (S la1))), (N "b", Slot.val (D.str (S lb1))), (N "max_cost", Slot.val (D.int m)), (N "post", Slot.val (D.int (-(cpre la1.reverse lb1.reverse : Nat))))]) ?_ ?_
    · refine x1_weak (σ' := [(PySem.Str.ofString "a", Slot.val (D.str (S la1))), (PySem.Str.ofString "b", Slot.val (D.str (S lb1))), (PySem.Str.ofString "max_cost", Slot.val (D.int m)), (PySem.Str.ofString "post", Slot.val (D.int 0))]) (by walk_at "sub") ?_
      refine x_while (n := cpre la1.reverse lb1.reverse) (run_count (σ := fun p => [(N "a", Slot.val (D.str (S la1))), (N "b", Slot.val (D.str (S lb1))), (N "max_cost", Slot.val (D.int m)), (N "post", Slot.val (D.int (-((p : Nat) : Int))))]) (cpre la1.reverse lb1.reverse) ?_ ?_)
      · intro i hi
        obtain ⟨c, g1, g2⟩ := cpre_go la1.reverse lb1.reverse i hi
        have l1 := get_lt g1
        have l2 := get_lt g2
        rw [List.length_reverse] at l1 l2
        refine ⟨tr_bool (allT_go ?_ (allT_go ?_ (allT_go ?_ allT_nil))), ?_⟩
        · have : (!(la1.take (la1.length - i)).isEmpty) = true := by simp [List.isEmpty_iff_length_eq_zero, ← List.length_eq_zero_iff]; walk_at "lx"
          exact tr_eqB this <| tr_S (ev_slP (by walk_at "ev") (by walk_at "ev") (by walk_at "lx") (by walk_at "lx")) (by simp; walk_at "lx")
        · have : (!(lb1.take (lb1.length - i)).isEmpty) = true := by simp [List.isEmpty_iff_length_eq_zero, ← List.length_eq_zero_iff]; walk_at "lx"
          exact tr_eqB this <| tr_S (ev_slP (by walk_at "ev") (by walk_at "ev") (by walk_at "lx") (by walk_at "lx")) (by simp; walk_at "lx")
        · have : (S [c] == S [c]) = true := S_inj.mpr rfl
          exact tr_eqB this <| tr_cmp (ev_itN (by walk_at "ev") (by walk_at "ev") g1 (by walk_at "lx")) (ev_itN (by walk_at "ev") (by walk_at "ev") g2 (by walk_at "lx")) op_eqS rfl
        · refine x_weakO (x_cons (x_aug (d := .int (-((i + 1 : Nat) : Int))) F (by walk_at "mem") rfl ev_int ?_) x_nil) (by walk_at "sub")
          rw [show (-((i + 1 : Nat) : Int)) = -(i : Int) - 1 by walk_at "lx"]
          exact op_isubI
      · skip
        refine tr_bool (and3_stop (tr_S (ev_slP (by walk_at "ev") (by walk_at "ev") (by walk_at "lx") (by walk_at "lx")) (by simp; walk_at "lx")) (tr_S (ev_slP (by walk_at "ev") (by walk_at "ev") (by walk_at "lx") (by walk_at "lx")) (by simp; walk_at "lx")) ?_)
        intro h1 h2
        simp [← List.length_eq_zero_iff] at h1 h2
        rcases cpre_stop la1.reverse lb1.reverse with h | h | ⟨x, y, h1, h2, h3⟩
        · rw [List.length_reverse] at h; walk_at "lx"
        · rw [List.length_reverse] at h; walk_at "lx"
        · have : (S [x] == S [y]) = false := by
            rw [Bool.eq_false_iff]; intro e; exact h3 (by simpa using S_inj.mp e)
          exact tr_eqB this (tr_cmp (ev_itN (by walk_at "ev") (by walk_at "ev") h1 (by walk_at "lx")) (ev_itN (by walk_at "ev") (by walk_at "ev") h2 (by walk_at "lx")) op_eqS rfl)
    generalize cpre la1.reverse lb1.reverse = q at hpl ⊢
    refine x_cons (x_assign (d := .str (S (la1.take (la1.length - q)))) F (ev_slP (by walk_at "ev") (by walk_at "ev") (by walk_at "lx") (by walk_at "lx")) rfl) ?_
    refine x_cons (x_assign (d := .str (S (lb1.take (lb1.length - q)))) F (ev_slP (by walk_at "ev") (by walk_at "ev") (by walk_at "lx") (by walk_at "lx")) rfl) ?_
    have ha2 : ∀ c ∈ la1.take (la1.length - q), c < 128 := fun c h => ha1 c (List.mem_of_mem_take h)
    have hb2 : ∀ c ∈ lb1.take (lb1.length - q), c < 128 := fun c h => hb1 c (List.mem_of_mem_take h)
    have hla2 : (la1.take (la1.length - q)).length ≤ 40 := by rw [List.length_take]; walk_at "lx"
    have hlb2 : (lb1.take (lb1.length - q)).length ≤ 40 := by rw [List.length_take]; walk_at "lx"
    generalize la1.take (la1.length - q) = la2 at ha2 hla2 ⊢
    generalize lb1.take (lb1.length - q) = lb2 at hb2 hlb2 ⊢
    refine x_weak (σ' := [(PySem.Str.ofString "a", Slot.val (D.str (S la2))), (PySem.Str.ofString "b", Slot.val (D.str (S lb2))), (PySem.Str.ofString "max_cost", Slot.val (D.int m))]) (by walk_at "sub") ?_
    have sA : (S la2).length ≤ 40 := by rw [S_len]; exact hla2
    have sB : (S lb2).length ≤ 40 := by rw [S_len]; exact hlb2
    by_cases h0 : (la2.isEmpty || lb2.isEmpty) = true
    · rw [if_pos h0]
      refine x_stop (x_if (b := la2.isEmpty || lb2.isEmpty) (trOr2 (trNotS (tr_S (by walk_at "ev") (by walk_at "lx"))) (trNotS (tr_S (by walk_at "ev") (by walk_at "lx")))) (fun _ => x_stop (x_ret ?_)) fun h => absurd h0 (by rw [h]; decide))
      rw [show ((2 * (la2.length + lb2.length) : Nat) : Int) = 2 * (((S la2).length : Int) + ((S lb2).length : Int)) by rw [S_len, S_len]; walk_at "lx"]
      walk_at "ev"
    rw [if_neg h0]
    refine x_cons (x_if (b := la2.isEmpty || lb2.isEmpty) (trOr2 (trNotS (tr_S (by walk_at "ev") (by walk_at "lx"))) (trNotS (tr_S (by walk_at "ev") (by walk_at "lx")))) (fun h => absurd h h0) fun _ => x_nil) ?_
    refine x_cons (x_if (b := decide ((40 : Int) < ((S la2).length : Int)) || decide ((40 : Int) < ((S lb2).length : Int))) (trOr2 (by walk_at "tr") (by walk_at "tr")) (fun h => absurd h (by rw [S_len, S_len]; simp; walk_at "lx")) fun _ => x_nil) ?_
    have hxy : ∃ x y : List Nat, (if lb2.length < la2.length then midP lb2 la2 m else midP la2 lb2 m) = midP x y m ∧ ((lb2.length < la2.length ∧ x = lb2 ∧ y = la2) ∨ (¬ lb2.length < la2.length ∧ x = la2 ∧ y = lb2)) := by
      split
      · next h => exact ⟨_, _, rfl, .inl ⟨h, rfl, rfl⟩⟩
      · next h => exact ⟨_, _, rfl, .inr ⟨h, rfl, rfl⟩⟩
    obtain ⟨x, y, exy, hxy⟩ := hxy
    rw [exy]
    refine x_cons (σ₁ := [(PySem.Str.ofString "a", Slot.val (D.str (S x))), (PySem.Str.ofString "b", Slot.val (D.str (S y))), (PySem.Str.ofString "max_cost", Slot.val (D.int m))]) ?_ ?_
    · refine x_if (b := decide (((S lb2).length : Int) < ((S la2).length : Int))) (by walk_at "tr") (fun h => ?_) fun h => ?_
      · rw [S_len, S_len, decide_eq_true_eq] at h
        rcases hxy with ⟨g, rfl, rfl⟩ | ⟨g, _, _⟩
        · refine x_weakO (x_cons (x_tupS F.hh (ev_tuple (by walk_at "evs") (by simp)) (by rfl) (names := [PySem.Str.ofString "a", PySem.Str.ofString "b"]) (bndl_cons (bnd_name F rfl) (bndl_cons (bnd_name F rfl) bndl_nil)) rfl rfl) x_nil) (by walk_at "sub")
        · walk_at "lx"
      · rw [S_len, S_len, decide_eq_false_iff_not] at h
        rcases hxy with ⟨g, rfl, rfl⟩ | ⟨g, rfl, rfl⟩
        · walk_at "lx"
        · exact x_nil
    have hx : ∀ c ∈ x, c < 128 := by rcases hxy with ⟨g, rfl, rfl⟩ | ⟨g, rfl, rfl⟩ <;> assumption
    have hy : ∀ c ∈ y, c < 128 := by rcases hxy with ⟨g, rfl, rfl⟩ | ⟨g, rfl, rfl⟩ <;> assumption
    have hlx : x.length ≤ 40 := by rcases hxy with ⟨g, rfl, rfl⟩ | ⟨g, rfl, rfl⟩ <;> assumption
    have hly : y.length ≤ 40 := by rcases hxy with ⟨g, rfl, rfl⟩ | ⟨g, rfl, rfl⟩ <;> assumption
    have hxl : x.length ≤ y.length := by rcases hxy with ⟨g, rfl, rfl⟩ | ⟨g, rfl, rfl⟩ <;> walk_at "lx"
    clear hxy exy
    have sX : (S x).length ≤ 40 := by rw [S_len]; exact hlx
    have sY : (S y).length ≤ 40 := by rw [S_len]; exact hly
    unfold midP
    by_cases hq : m < (y.length - x.length) * 2
    · rw [if_pos hq]
      refine x_stop (x_if (b := decide ((m : Int) < (((S y).length : Int) - ((S x).length : Int)) * 2)) (by walk_at "tr") (fun _ => x_stop (x_ret (d := .int ((m : Int) + 1)) (by walk_at "ev"))) fun h => absurd h (by rw [S_len, S_len]; simp; walk_at "lx"))
    rw [if_neg hq]
    refine x_cons (x_if (b := decide ((m : Int) < (((S y).length : Int) - ((S x).length : Int)) * 2)) (by walk_at "tr") (fun h => absurd h (by rw [S_len, S_len]; simp; walk_at "lx")) fun _ => x_nil) ?_
    refine x_cons (x_assignF (ds := (rowN 2 x.length).map dN) F ?_ rfl) ?_
    · rw [← rngL_row]
      refine evF_listRng F rfl rfl (e := _) (b := 2 * (((S x).length : Int) + 1)) ?_ ?_ ?_ (by walk_at "lx")
      · walk_at "ev"
      · rw [S_len]; exact smallN2 (by walk_at "lx")
      · rw [S_len]; exact rangeSize2 _
    refine x_cons (x_assign F (by walk_at "ev") rfl) ?_
    refine x_weak (σ' := [(PySem.Str.ofString "a", Slot.val (D.str (S x))), (PySem.Str.ofString "b", Slot.val (D.str (S y))), (PySem.Str.ofString "max_cost", Slot.val (D.int m)), (PySem.Str.ofString "row", Slot.own ((rowN 2 x.length).map dN)), (PySem.Str.ofString "result", Slot.val (D.int 0))]) (by walk_at "sub") ?_
    suffices hst : ∃ o, X1 (W1 w mean mg mb) A (envOfC (PySem.Str.ofString "_levenshtein_distance") _ L 38 (.ref 37)) [(PySem.Str.ofString "a", Slot.val (D.str (S x))), (PySem.Str.ofString "b", Slot.val (D.str (S y))), (PySem.Str.ofString "max_cost", Slot.val (D.int m)), (PySem.Str.ofString "row", Slot.own ((rowN 2 x.length).map dN)), (PySem.Str.ofString "result", Slot.val (D.int 0))] _ o ∧ o = (match outQ x m y 0 (rowN 2 x.length) 0 with | none => Out.ret (.int ((m + 1 : Nat) : Int)) | some o => Out.next [(PySem.Str.ofString "a", Slot.val (D.str (S x))), (PySem.Str.ofString "b", Slot.val (D.str (S y))), (PySem.Str.ofString "max_cost", Slot.val (D.int m)), (PySem.Str.ofString "row", Slot.own (o.1.map dN)), (PySem.Str.ofString "result", Slot.val (dN o.2))]) by
      obtain ⟨o, h, e⟩ := hst
      rw [outP_Q]
      cases hq : outQ x m y 0 (rowN 2 x.length) 0 with
      | none => rw [hq] at e; dsimp only at e; subst e; exact x_stop h
      | some p =>
        rw [hq] at e; dsimp only at e; subst e
        exact x_cons h (x_stop (x_ret (by walk_at "ev")))
    refine ⟨_, x_for (ds := rngL 0 1 y.length) ?_ (iter_rng (b := ((S y).length : Int)) F.hh (by rw [S_len]; exact smallN1 (by walk_at "lx")) (by rw [S_len]; exact rangeSize1 _)) (for_outer (a := x) (lb := y) (m := m) (σ := fun row res => [(PySem.Str.ofString "a", Slot.val (D.str (S x))), (PySem.Str.ofString "b", Slot.val (D.str (S y))), (PySem.Str.ofString "max_cost", Slot.val (D.int m)), (PySem.Str.ofString "row", Slot.own (row.map dN)), (PySem.Str.ofString "result", Slot.val (dN res))]) ?_ y 0 _ 0 rfl (rowN_len _ _)), rfl⟩
    · walk_at "ev"
    intro i row res b hib hrl
    refine ⟨_, asg_name F rfl, ?_⟩
    have hil := get_lt hib
    refine x_cons (x_assign F (ev_itF (l := y) (q := i) (by walk_at "ev") (by walk_at "ev") hib (by walk_at "lx")) rfl) ?_
    refine x_cons (x_assign2 (d := dN (2 * i)) F ?_ rfl rfl) ?_
    · rw [show dN (2 * i) = D.int ((i : Int) * 2) by show D.int _ = D.int _; congr 1; walk_at "lx"]
      walk_at "ev"
    refine x_cons (x_assign (d := dN bigN) F (ev_int (i := 9223372036854775807)) rfl) ?_
    suffices hst : ∃ d', X1 (W1 w mean mg mb) A (envOfC (PySem.Str.ofString "_levenshtein_distance") _ L 38 (.ref 37)) [(PySem.Str.ofString "a", Slot.val (D.str (S x))), (PySem.Str.ofString "b", Slot.val (D.str (S y))), (PySem.Str.ofString "max_cost", Slot.val (D.int m)), (PySem.Str.ofString "row", Slot.own (row.map dN)), (PySem.Str.ofString "result", Slot.val (dN (2 * i))), (PySem.Str.ofString "bchar", Slot.val (D.str (S [b]))), (PySem.Str.ofString "distance", Slot.val (dN (2 * i))), (PySem.Str.ofString "minimum", Slot.val (dN bigN))] _ (.next [(PySem.Str.ofString "a", Slot.val (D.str (S x))), (PySem.Str.ofString "b", Slot.val (D.str (S y))), (PySem.Str.ofString "max_cost", Slot.val (D.int m)), (PySem.Str.ofString "row", Slot.own ((inP b x row (2 * i) (2 * i) bigN).1.map dN)), (PySem.Str.ofString "result", Slot.val (dN (inP b x row (2 * i) (2 * i) bigN).2.1)), (PySem.Str.ofString "bchar", Slot.val (D.str (S [b]))), (PySem.Str.ofString "distance", Slot.val (dN d')), (PySem.Str.ofString "minimum", Slot.val (dN (inP b x row (2 * i) (2 * i) bigN).2.2))]) by
      obtain ⟨d', h⟩ := hst
      refine x_cons (x1_weak (by walk_at "sub") h) ?_
      generalize inP b x row (2 * i) (2 * i) bigN = o
      by_cases hmo : m < o.2.2
      · rw [if_pos hmo]
        exact x_stop (x_if (b := decide ((m : Int) < (o.2.2 : Int))) (by walk_at "tr") (fun _ => x_stop (x_ret (d := .int ((m : Int) + 1)) (by walk_at "ev"))) fun h => absurd h (by simp; walk_at "lx"))
      · rw [if_neg hmo]
        exact x_weakO (x_cons (x_if (b := decide ((m : Int) < (o.2.2 : Int))) (by walk_at "tr") (fun h => absurd h (by simp; walk_at "lx")) (fun _ => x_nil)) x_nil) (by walk_at "sub")
    refine Exists.imp (fun d' h => x_for (ds := rngL 0 1 x.length) ?_ (iter_rng (b := ((S x).length : Int)) F.hh (by rw [S_len]; exact smallN1 (by walk_at "lx")) (by rw [S_len]; exact rangeSize1 _)) h) (for_inner (bc := b) (a := x) (σ := fun row d res mn => [(PySem.Str.ofString "a", Slot.val (D.str (S x))), (PySem.Str.ofString "b", Slot.val (D.str (S y))), (PySem.Str.ofString "max_cost", Slot.val (D.int m)), (PySem.Str.ofString "row", Slot.own (row.map dN)), (PySem.Str.ofString "result", Slot.val (dN res)), (PySem.Str.ofString "bchar", Slot.val (D.str (S [b]))), (PySem.Str.ofString "distance", Slot.val (dN d)), (PySem.Str.ofString "minimum", Slot.val (dN mn))]) ?_ x row [] 0 (2 * i) (2 * i) bigN rfl rfl hrl (Nat.zero_le _))
    · walk_at "ev"
    clear hrl
    intro j row d res mn c r hjc hjr hrl
    have hjl := get_lt hjc
    refine ⟨_, asg_name F rfl, ?_⟩
    have hb8 : b < 128 := mem_get hy hib
    have hc8 : c < 128 := mem_get hx hjc
    refine x_cons (x_assign (d := dN (d + subN b c)) F ?_ rfl) ?_
    · rw [show dN (d + subN b c) = D.int ((d : Int) + (subN b c : Nat)) by show D.int _ = D.int _; congr 1]
      exact ev_bin (by walk_at "ev") (ev_subst w mean mg mb (L := L) F rfl hb8 hc8 (by walk_at "ev") (ev_itF (l := x) (q := j) (by walk_at "ev") (by walk_at "ev") hjc (by walk_at "lx"))) op_add
    generalize d + subN b c = sub
    refine x_cons (x_assign (d := dN r) F (ev_itemO (i := (j : Int)) (xs := row.map dN) F (by walk_at "mem") (by walk_at "ev") (by walk_at "lx") (by rw [Int.toNat_natCast, List.getElem?_map, hjr]; rfl) (by rw [List.length_map]; walk_at "lx") (by decide)) rfl) ?_
    refine x_cons (x_assign (d := dN (min res r + 2)) F ?_ rfl) ?_
    · rw [show dN (min res r + 2) = D.int ((if (r : Int) < (res : Int) then (r : Int) else (res : Int)) + 2) by show D.int _ = D.int _; congr 1; rw [Nat.min_def]; split <;> split <;> walk_at "lx"]
      walk_at "ev"
    generalize min res r + 2 = u
    refine x_cons (x_assign (d := dN (min u sub)) F ?_ rfl) ?_
    · rw [show dN (min u sub) = D.int (if (sub : Int) < (u : Int) then (sub : Int) else (u : Int)) by show D.int _ = D.int _; congr 1; rw [Nat.min_def]; split <;> split <;> walk_at "lx"]
      walk_at "ev"
    generalize min u sub = res'
    refine x_cons (x_setItem (xs := row.map dN) (k := (j : Int)) (d := dN res') F (by walk_at "mem") (by walk_at "ev") (by walk_at "ev") (by walk_at "lx") (by rw [List.length_map]; walk_at "lx") (by rw [List.length_map]; walk_at "lx") (by decide)) ?_
    have es : (row.map dN).set (j : Int).toNat (dN res') = (row.set j res').map dN := by rw [Int.toNat_natCast, List.map_set]
    rw [es]
    by_cases hlt : res' < mn
    · rw [if_pos hlt]
      exact x_weakO (x_cons (x_if (b := decide ((res' : Int) < (mn : Int))) (by walk_at "tr") (fun _ => x_cons (x_assign F (by walk_at "ev") rfl) x_nil) fun h => absurd h (by simp; walk_at "lx")) x_nil) (by walk_at "sub")
    · rw [if_neg hlt]
      exact x_weakO (x_cons (x_if (b := decide ((res' : Int) < (mn : Int))) (by walk_at "tr") (fun h => absurd h (by simp; walk_at "lx")) (fun _ => x_nil)) x_nil) (by walk_at "sub")
end
section
noncomputable abbrev dL (l : List Nat) : D := D.lst (l.map dN)
noncomputable def exchP (o : List Nat) (k : Nat) : List Nat := o.take (k - 1) ++ [o.getD k 0, o.getD (k - 1) 0] ++ o.drop (k + 1)
theorem exchP_len {o : List Nat} {k : Nat} (h1 : 1 ≤ k) (h2 : k < o.length) : (exchP o k).length = o.length := by
  unfold exchP; simp; walk_at "lx"
noncomputable def stepP (o : List Nat) (k : Nat) : List Nat := if o.getD (k - 1) 0 < o.getD k 0 then exchP o k else o
noncomputable def orderP (l : List Nat) (o : List Nat) : List Nat := l.foldl stepP o
theorem getD_some {o : List Nat} {k : Nat} (h : k < o.length) : (o.map dN)[k]? = some (dN (o.getD k 0)) := by
  rw [List.getElem?_map, List.getElem?_eq_getElem h, List.getD_eq_getElem?_getD, List.getElem?_eq_getElem h]; rfl
variable {W : WP} {A : Around} {env : Env} {σ : Sto}
theorem ev_itL {value sl : PySem.Expr} {pos : Pos} {o : List Nat} {k : Nat} (h : Ev W A env σ value (dL o)) (hl : Ev W A env σ sl (dN k)) (hk : k < o.length) (hz : o.length ≤ 1000)
    (hs : ∀ o i, subscripted sl false o i = operate [o, i] (getItem o i) := by intro _ _; rfl) : Ev W A env σ (.Subscript value sl pos) (dN (o.getD k 0)) :=
  ev_itemL h hl (by walk_at "lx") (by rw [Int.toNat_natCast]; exact getD_some hk) (by rw [List.length_map]; walk_at "lx") hs
theorem ev_slUL {value hi : PySem.Expr} {p pos : Pos} {xs : List Nat} {k : Nat} (h : Ev W A env σ value (dL xs)) (hl : Ev W A env σ hi (dN k)) (hk : k ≤ xs.length) (hz : xs.length ≤ 1000) : Ev W A env σ (.Subscript value (.Slice none (some hi) none p) pos) (dL (xs.take k)) := by
  refine ev_sliceL h evp_nil (evp_int hl) (by rw [List.length_map]; walk_at "lx") fun fz vs hv => ?_
  have := pick_upto (j := (k : Int)) hv (by walk_at "lx") (by rw [List.length_map]; walk_at "lx")
  rwa [Int.toNat_natCast, ← List.map_take] at this
theorem ev_slFL {value lo : PySem.Expr} {p pos : Pos} {xs : List Nat} {k : Nat} (h : Ev W A env σ value (dL xs)) (hl : Ev W A env σ lo (dN k)) (hk : k ≤ xs.length) (hz : xs.length ≤ 1000) : Ev W A env σ (.Subscript value (.Slice (some lo) none none p) pos) (dL (xs.drop k)) := by
  refine ev_sliceL h (evp_int hl) evp_nil (by rw [List.length_map]; walk_at "lx") fun fz vs hv => ?_
  have := pick_from (i := (k : Int)) hv (by walk_at "lx") (by rw [List.length_map]; walk_at "lx")
  rwa [Int.toNat_natCast, ← List.map_drop] at this
theorem dsub {e : PySem.Expr} {k j : Nat} (h : Ev W A env σ e (.int ((k : Int) - j))) (hj : j ≤ k) : Ev W A env σ e (dN (k - j)) := by
  rw [show dN (k - j) = D.int ((k : Int) - j) by show D.int _ = D.int _; congr 1; walk_at "lx"]; exact h
theorem dadd1 {e : PySem.Expr} {k : Nat} (h : Ev W A env σ e (.int ((k : Int) + 1))) : Ev W A env σ e (dN (k + 1)) := h
theorem dsub1 {e : PySem.Expr} {k : Nat} (h : Ev W A env σ e (.int ((k : Int) - 1))) (hj : 1 ≤ k) : Ev W A env σ e (dN (k - 1)) := dsub (j := 1) h hj
theorem dadd {e : PySem.Expr} {k j : Nat} (h : Ev W A env σ e (.int ((k : Int) + j))) : Ev W A env σ e (dN (k + j)) := h
variable (w : World) (mean : ExcName → Option Value) (mg mb : PySem.Str → Option Value)
set_option maxHeartbeats 300000
theorem exchanged_ok (o : List Nat) (k : Nat) (h1 : 1 ≤ k) (h2 : k < o.length) (hz : o.length ≤ 100) : CallOk (W1 w mean mg mb) 1 101 [dL o, dN k] (dL (exchP o k)) := by
  refine def_ok (names := [PySem.Str.ofString "order", PySem.Str.ofString "step"]) rfl rfl (all2 fun _ _ => rfl) (by decide) (by walk_at "names") rfl rfl rfl rfl ?_
  · intro A L F
    show X _ _ _ [(PySem.Str.ofString "order", Slot.val (dL o)), (PySem.Str.ofString "step", Slot.val (dN k))] _ _
    refine x_stop (x_ret ?_)
    have e : dL (exchP o k) = .lst (((o.take (k - 1)).map dN ++ [dN (o.getD k 0), dN (o.getD (k - 1) 0)]) ++ (o.drop (k + 1)).map dN) := by unfold exchP dL; simp
    rw [e]
    refine ev_bin (d₁ := .lst ((o.take (k - 1)).map dN ++ [dN (o.getD k 0), dN (o.getD (k - 1) 0)])) (d₂ := dL (o.drop (k + 1))) ?_ (ev_slFL (by walk_at "ev") (dadd1 (by walk_at "ev")) (by walk_at "lx") (by walk_at "lx")) (op_addL (by simp; walk_at "lx"))
    exact ev_bin (ev_slUL (by walk_at "ev") (dsub1 (by walk_at "ev") h1) (by walk_at "lx") (by walk_at "lx")) (evF_list (evs_cons (ev_itL (by walk_at "ev") (by walk_at "ev") h2 (by walk_at "lx")) (evs_cons (ev_itL (by walk_at "ev") (dsub1 (by walk_at "ev") h1) (by walk_at "lx") (by walk_at "lx")) evs_nil)) (by simp)).ev (op_addL (by simp; walk_at "lx"))
theorem stepP_len {o : List Nat} {k : Nat} (h1 : 1 ≤ k) (h2 : k < o.length) : (stepP o k).length = o.length := by
  unfold stepP; split
  · exact exchP_len h1 h2
  · rfl
theorem order_ok (l : List Nat) (hl : ∀ k ∈ l, 1 ≤ k ∧ k ≤ 5) : CallOk (W1 w mean mg mb) 2 108 [dL l] (dL (orderP l [0, 1, 2, 3, 4, 5])) := by
  refine def_ok (names := [PySem.Str.ofString "steps"]) rfl rfl (all1 fun _ => rfl) (by decide) (by walk_at "names") rfl rfl rfl rfl ?_
  · intro A L F
    show X _ _ _ [(PySem.Str.ofString "steps", Slot.val (dL l))] _ _
    refine x_cons (x_assign (d := dL [0, 1, 2, 3, 4, 5]) F ((evF_list (ds := [.int 0, .int 1, .int 2, .int 3, .int 4, .int 5]) (by walk_at "evs") (by decide)).ev) rfl) ?_
    refine x_cons (σ₁ := [(PySem.Str.ofString "order", Slot.val (dL (orderP l [0, 1, 2, 3, 4, 5]))), (PySem.Str.ofString "steps", Slot.val (dL l))]) ?_ (x_stop (x_ret (by walk_at "ev")))
    have ho : [0, 1, 2, 3, 4, 5].length = 6 := rfl
    generalize [0, 1, 2, 3, 4, 5] = o at ho ⊢
    refine x1_weak (σ' := [(PySem.Str.ofString "order", Slot.val (dL o)), (PySem.Str.ofString "steps", Slot.val (dL l))]) (by walk_at "sub") ?_
    refine x_for (by walk_at "ev") (iter_list F.hh) ?_
    generalize dL l = dl
    induction l generalizing o with
    | nil => exact .nil
    | cons k l ih =>
      obtain ⟨h1, h5⟩ := hl k (.head _)
      refine ForRun.next (σ₁ := [(PySem.Str.ofString "order", Slot.val (dL (stepP o k))), (PySem.Str.ofString "steps", Slot.val dl)]) ⟨_, asg_name F rfl, x_weakO (x_cons (σ₁ := [(PySem.Str.ofString "order", Slot.val (dL (stepP o k))), (PySem.Str.ofString "steps", Slot.val dl)]) ?_ x_nil) (by walk_at "sub")⟩ (ih (fun x hx => hl x (.tail _ hx)) (stepP o k) (by rw [stepP_len h1 (by walk_at "lx")]; exact ho))
      unfold stepP
      by_cases hlt : o.getD (k - 1) 0 < o.getD k 0
      · rw [if_pos hlt]
        refine x_if (b := decide ((o.getD (k - 1) 0 : Int) < (o.getD k 0 : Int))) (tr_cmp (ev_itL (by walk_at "ev") (dsub1 (by walk_at "ev") h1) (by walk_at "lx") (by walk_at "lx")) (ev_itL (by walk_at "ev") (by walk_at "ev") (by walk_at "lx") (by walk_at "lx")) op_ltI rfl) (fun _ => ?_) fun h => absurd hlt (by simpa using h)
        exact x_weakO (x_cons (x_assign F (ev_call F rfl rfl (by decide) rfl (by walk_at "evs") (exchanged_ok w mean mg mb o k h1 (by walk_at "lx") (by walk_at "lx")) (by walk_at "lx")) rfl) x_nil) (by walk_at "sub")
      · rw [if_neg hlt]
        refine x_if (b := decide ((o.getD (k - 1) 0 : Int) < (o.getD k 0 : Int))) (tr_cmp (ev_itL (by walk_at "ev") (dsub1 (by walk_at "ev") h1) (by walk_at "lx") (by walk_at "lx")) (ev_itL (by walk_at "ev") (by walk_at "ev") (by walk_at "lx") (by walk_at "lx")) op_ltI rfl) (fun h => absurd hlt (by simpa using h)) fun _ => ?_
        exact x_weak (by walk_at "sub") x_nil
end
section
noncomputable def shortP (n q : Nat) : Nat := (q ^ n - 1) / (q - 1)
theorem bits17 {q : Nat} (h : q ≤ 17) : Builtin.Int.intBits (q : Int) ≤ 5 := by
  have : ∀ q : _root_.Fin 18, Builtin.Int.intBits (q.val : Int) ≤ 5 := by decide +kernel
  exact this ⟨q, by walk_at "lx"⟩
variable (w : World) (mean : ExcName → Option Value) (mg mb : PySem.Str → Option Value)
set_option maxHeartbeats 400000
theorem short_ok (n q : Nat) (h2 : 2 ≤ q) (h17 : q ≤ 17) (hn : n ≤ 20) : CallOk (W1 w mean mg mb) 1 125 [dN n, dN q] (dN (shortP n q)) := by
  refine def_ok (names := [PySem.Str.ofString "size", PySem.Str.ofString "base"]) rfl rfl (all2 fun _ _ => rfl) (by decide) (by walk_at "names") rfl rfl rfl rfl ?_
  · intro A L F
    show X _ _ _ [(PySem.Str.ofString "size", Slot.val (dN n)), (PySem.Str.ofString "base", Slot.val (dN q))] _ _
    refine x_stop (x_ret ?_)
    have e : dN (shortP n q) = D.int (Int.fdiv ((q : Int) ^ (n : Int).toNat - 1) ((q : Int) - 1)) := by
      show D.int _ = D.int _
      congr 1
      have hq : 1 ≤ q ^ n := Nat.one_le_pow _ _ (by walk_at "lx")
      have e1 : ((q : Int) ^ (n : Int).toNat - 1) = ((q ^ n - 1 : Nat) : Int) := by rw [Int.toNat_natCast, Int.ofNat_sub hq]; simp
      have e2 : ((q : Int) - 1) = ((q - 1 : Nat) : Int) := by walk_at "lx"
      rw [e1, e2, Int.fdiv_eq_ediv_of_nonneg _ (by walk_at "lx")]; rfl
    rw [e]
    have hb := bits17 h17
    have hm : (Builtin.Int.intBits (q : Int) : Int) * (n : Int) ≤ 2 ^ 27 := by
      have : Builtin.Int.intBits (q : Int) * n ≤ 5 * 20 := Nat.mul_le_mul hb hn
      walk_at "lx"
    exact ev_bin (ev_bin (ev_bin (by walk_at "ev") (by walk_at "ev") (op_pow (by walk_at "lx") hm)) ev_int op_sub) (ev_bin (by walk_at "ev") ev_int op_sub) (op_div (by walk_at "lx") (PyProof.noPylong_small (by walk_at "lx")))
end
section
theorem mulL {a : Nat} {b : Int} (h : a < 2 ^ 64) : IntMulOk (a : Int) b := IntMulOk.of_left (PySem.intBits_le_iff.mpr (by simpa using h))
theorem mulR {a : Int} {b : Nat} (h : b < 2 ^ 64) : IntMulOk a (b : Int) := IntMulOk.of_right (PySem.intBits_le_iff.mpr (by simpa using h))
theorem shortP_lt {n q : Nat} (hn : n ≤ 5) (h17 : q ≤ 17) : shortP n q < 2 ^ 21 := by
  unfold shortP
  have h1 : q ^ n ≤ 17 ^ 5 := Nat.le_trans (Nat.pow_le_pow_left h17 n) (Nat.pow_le_pow_right (by decide) hn)
  have h2 : (q ^ n - 1) / (q - 1) ≤ q ^ n - 1 := Nat.div_le_self _ _
  have : 17 ^ 5 < 2 ^ 21 := by decide
  walk_at "lx"
theorem pow_lt {i q : Nat} (hi : i ≤ 9) (h17 : q ≤ 17) : q ^ i < 2 ^ 40 := by
  have h1 : q ^ i ≤ 17 ^ 9 := Nat.le_trans (Nat.pow_le_pow_left h17 i) (Nat.pow_le_pow_right (by decide) hi)
  have : 17 ^ 9 < 2 ^ 40 := by decide
  walk_at "lx"
noncomputable def weightGo (q : Nat) : List Nat → Nat → Nat → Nat → Nat
  | [], _, _, w => w
  | k :: l, i, last, w => weightGo q l (i + 1) k (w * (shortP k q * (if last < k then q ^ i else 1)))
theorem powEv {q i : Nat} : ((q : Int) ^ (i : Int).toNat) = ((q ^ i : Nat) : Int) := by rw [Int.toNat_natCast]; simp
theorem pow_hm {q i : Nat} (h17 : q ≤ 17) (hi : i ≤ 20) : (Builtin.Int.intBits (q : Int) : Int) * (i : Int) ≤ 2 ^ 27 := by
  have : Builtin.Int.intBits (q : Int) * i ≤ 5 * 20 := Nat.mul_le_mul (bits17 h17) hi
  walk_at "lx"
section
variable {W : WP} {A : Around} {env : Env} {σ : Sto}
theorem ev_powN {e₁ e₂ : PySem.Expr} {pos : Pos} {q i : Nat} (h₁ : Ev W A env σ e₁ (dN q)) (h₂ : Ev W A env σ e₂ (dN i)) (h17 : q ≤ 17) (hi : i ≤ 20) : Ev W A env σ (.BinOp e₁ .Pow e₂ pos) (dN (q ^ i)) := by
  rw [show dN (q ^ i) = D.int ((q : Int) ^ (i : Int).toNat) by rw [powEv]]
  exact ev_bin h₁ h₂ (op_pow (by walk_at "lx") (pow_hm h17 hi))
theorem ev_mulN {e₁ e₂ : PySem.Expr} {pos : Pos} {a b : Nat} (h₁ : Ev W A env σ e₁ (dN a)) (h₂ : Ev W A env σ e₂ (dN b)) (hm : IntMulOk a b) : Ev W A env σ (.BinOp e₁ .Mult e₂ pos) (dN (a * b)) := by
  rw [show dN (a * b) = D.int ((a : Int) * (b : Int)) by show D.int _ = D.int _; simp]
  exact ev_bin h₁ h₂ (op_mul hm)
theorem ev_addN {e₁ e₂ : PySem.Expr} {pos : Pos} {a b : Nat} (h₁ : Ev W A env σ e₁ (dN a)) (h₂ : Ev W A env σ e₂ (dN b)) : Ev W A env σ (.BinOp e₁ .Add e₂ pos) (dN (a + b)) := by
  rw [show dN (a + b) = D.int ((a : Int) + (b : Int)) by show D.int _ = D.int _; simp]
  exact ev_bin h₁ h₂ op_add
end
variable (w : World) (mean : ExcName → Option Value) (mg mb : PySem.Str → Option Value)
set_option maxHeartbeats 400000
theorem weight_ok (l : List Nat) (q : Nat) (h2 : 2 ≤ q) (h17 : q ≤ 17) (hk : ∀ k ∈ l, k ≤ 5) (hl : l.length ≤ 9) : CallOk (W1 w mean mg mb) 2 132 [dL l, dN q] (dN (weightGo q l 0 9 1)) := by
  refine def_ok (names := [PySem.Str.ofString "row", PySem.Str.ofString "base"]) rfl rfl (all2 fun _ _ => rfl) (by decide) (by walk_at "names") rfl rfl rfl rfl ?_
  · intro A L F
    show X _ _ _ [(PySem.Str.ofString "row", Slot.val (dL l)), (PySem.Str.ofString "base", Slot.val (dN q))] _ _
    refine x_cons (x_tup F.hh (ev_tuple (by walk_at "evs") (by simp)) (by rfl) (bndl_cons (asg_name F rfl) (bndl_cons (asg_name F rfl) bndl_nil)) rfl rfl rfl rfl) ?_
    suffices hst : ∃ last, X1 (W1 w mean mg mb) A (envOfC (PySem.Str.ofString "_law_weight") _ L 132 (.ref 131)) [(PySem.Str.ofString "row", Slot.val (dL l)), (PySem.Str.ofString "base", Slot.val (dN q)), (PySem.Str.ofString "weight", Slot.val (dN 1)), (PySem.Str.ofString "last", Slot.val (dN 9))] _ (.next [(PySem.Str.ofString "row", Slot.val (dL l)), (PySem.Str.ofString "base", Slot.val (dN q)), (PySem.Str.ofString "weight", Slot.val (dN (weightGo q l 0 9 1))), (PySem.Str.ofString "last", Slot.val (dN last))]) by
      obtain ⟨last, h⟩ := hst
      refine x_cons (x1_weak ?_ h) (x_stop (x_ret (by walk_at "ev")))
      refine List.forall_mem_cons.mpr ⟨by walk_at "mem", List.forall_mem_cons.mpr ⟨by walk_at "mem", List.forall_mem_cons.mpr ⟨?_, List.forall_mem_cons.mpr ⟨?_, List.forall_mem_nil _⟩⟩⟩⟩
      · show (PySem.Str.ofString "weight", Slot.val (D.int 1)) ∈ _
        walk_at "mem"
      · show (PySem.Str.ofString "last", Slot.val (D.int 9)) ∈ _
        walk_at "mem"
    suffices hf : ∀ (es : List Nat) (i last wt : Nat), i + es.length ≤ 9 → (∀ k ∈ es, k ≤ 5) → ∃ last', ForRun (fun d σ o => ∃ (i : Int) (dv : D), d = .tup [.int i, dv] ∧ X (W1 w mean mg mb) A (envOfC (PySem.Str.ofString "_law_weight") _ L 132 (.ref 131)) (upd (upd σ (PySem.Str.ofString "place") (.val (.int i))) (PySem.Str.ofString "step") (.val dv)) _ o) (enumL i (es.map dN)) [(PySem.Str.ofString "row", Slot.val (dL l)), (PySem.Str.ofString "base", Slot.val (dN q)), (PySem.Str.ofString "weight", Slot.val (dN wt)), (PySem.Str.ofString "last", Slot.val (dN last))] (.next [(PySem.Str.ofString "row", Slot.val (dL l)), (PySem.Str.ofString "base", Slot.val (dN q)), (PySem.Str.ofString "weight", Slot.val (dN (weightGo q es i last wt))), (PySem.Str.ofString "last", Slot.val (dN last'))]) by
      obtain ⟨last, h⟩ := hf l 0 9 1 (by walk_at "lx") hk
      exact ⟨last, x_forEnum F rfl rfl rfl rfl (ds := l.map dN) (by walk_at "ev") h⟩
    intro es
    induction es with
    | nil => intro i last wt _ _; exact ⟨last, .nil⟩
    | cons k es ih =>
      intro i last wt hi hk
      have hk5 := hk k (.head _)
      rw [List.length_cons] at hi
      obtain ⟨last', h⟩ := ih (i + 1) k (wt * (shortP k q * (if last < k then q ^ i else 1))) (by walk_at "lx") (fun x hx => hk x (.tail _ hx))
      refine ⟨last', .next ⟨(i : Int), dN k, rfl, ?_⟩ h⟩
      have hp : (if last < k then q ^ i else 1) < 2 ^ 40 := by
        split
        · exact pow_lt (by walk_at "lx") h17
        · decide
      have hs := shortP_lt hk5 h17
      have hm : shortP k q * (if last < k then q ^ i else 1) < 2 ^ 64 := by
        have : shortP k q * (if last < k then q ^ i else 1) ≤ 2 ^ 21 * 2 ^ 40 := Nat.mul_le_mul (by walk_at "lx") (by walk_at "lx")
        have h0 : 2 ^ 21 * 2 ^ 40 < 2 ^ 64 := by decide
        walk_at "lx"
      refine x_weakO (x_cons (x_aug (d := dN (wt * (shortP k q * (if last < k then q ^ i else 1)))) (d₁ := dN wt) (d₂ := dN (shortP k q * (if last < k then q ^ i else 1))) F (by walk_at "mem") rfl ?_ ?_) (x_cons (x_assign F (by walk_at "ev") rfl) x_nil)) (by walk_at "sub")
      · refine ev_mulN (ev_call F rfl rfl (by decide) rfl (by walk_at "evs") (short_ok w mean mg mb k q h2 h17 (by walk_at "lx")) (by walk_at "lx")) (ev_if (b := decide ((last : Int) < (k : Int))) (by walk_at "tr") (fun hb => ?_) fun hb => ?_) (mulL (by walk_at "lx"))
        · rw [if_pos (by simpa using hb)]; exact ev_powN (by walk_at "ev") (by walk_at "ev") h17 (by walk_at "lx")
        · rw [if_neg (by simpa using hb)]; exact ev_int (i := 1)
      · rw [show dN (wt * (shortP k q * (if last < k then q ^ i else 1))) = D.int ((wt : Int) * ((shortP k q * (if last < k then q ^ i else 1) : Nat) : Int)) by show D.int _ = D.int _; simp]
        exact op_imulI (mulR hm)
end
section
noncomputable def freshGo (q : Nat) (held : List Nat) (lt : Bool) : Nat → Nat → List Nat → List Nat
  | _, 0, fr => fr
  | lev, n + 1, fr => freshGo q held lt (lev + 1) n (fr.set lev (q ^ (lev - 1) * (held.take (if lt then lev else lev + 1)).sum))
theorem freshGo_len (q : Nat) (held : List Nat) (lt : Bool) : ∀ (n lev : Nat) (fr : List Nat), (freshGo q held lt lev n fr).length = fr.length
  | 0, _, _ => rfl
  | n + 1, lev, fr => by rw [freshGo, freshGo_len q held lt n]; simp
noncomputable def heldGo (q : Nat) : List Nat → List Nat → Nat → List Nat
  | [], held, _ => held
  | k :: l, held, last => heldGo q l (freshGo q held (decide (last < k)) 1 k (List.replicate 6 0)) k
noncomputable def levelsP (q : Nat) (l : List Nat) : Nat := (heldGo q l [1, 0, 0, 0, 0, 0] 9).sum
theorem for_fresh {step : D → Sto → Out → Prop} {q : Nat} {held : List Nat} {lt : Bool} (σ : List Nat → Sto) (h : ∀ (lev : Nat) (fr : List Nat), 1 ≤ lev → lev ≤ 5 → fr.length = 6 → step (.int (lev : Int)) (σ fr) (.next (σ (fr.set lev (q ^ (lev - 1) * (held.take (if lt then lev else lev + 1)).sum))))) :
    ∀ (n lev : Nat) (fr : List Nat), fr.length = 6 → 1 ≤ lev → lev + n ≤ 6 → ForRun step (rngL (lev : Int) 1 n) (σ fr) (.next (σ (freshGo q held lt lev n fr)))
  | 0, lev, fr, _, _, _ => .nil
  | n + 1, lev, fr, h6, h1, hn => by
    rw [rngL, freshGo]
    exact .next (h lev fr h1 (by walk_at "lx") h6) (for_fresh σ h n (lev + 1) _ (by simpa using h6) (by walk_at "lx") (by walk_at "lx"))
theorem sumCast : ∀ l : List Nat, (l.map fun k : Nat => (k : Int)).sum = (l.sum : Nat)
  | [] => rfl
  | a :: l => by rw [List.map_cons, List.sum_cons, sumCast l, List.sum_cons]; simp
theorem cv_sumN {W : WP} {A : Around} {l : List Nat} (hh : A.handled = none) : CallV W A (.builtin "sum") [dL l] (dN l.sum) := by
  have := cv_sum (W := W) (A := A) (ns := l.map fun k : Nat => (k : Int)) hh
  rw [sumCast, List.map_map] at this
  exact this
theorem rangeSizeA (n : Nat) : Builtin.Range.rangeSize 1 ((n : Int) + 1) 1 = (n : Int) := by
  unfold Builtin.Range.rangeSize
  by_cases h : 0 < n
  · rw [if_pos (by decide), if_pos (by walk_at "lx")]; walk_at "lx"
  · rw [if_pos (by decide), if_neg (by walk_at "lx")]; walk_at "lx"
theorem smallA {n : Nat} (h : n ≤ 1000) : Builtin.Range.small 1 ((n : Int) + 1) 1 = true := by
  simp [Builtin.Range.small, rangeSizeA, Builtin.Range.rangeFitsLong]; walk_at "lx"
variable (w : World) (mean : ExcName → Option Value) (mg mb : PySem.Str → Option Value)
set_option maxHeartbeats 400000
theorem levels_ok (l : List Nat) (q : Nat) (h2 : 2 ≤ q) (h17 : q ≤ 17) (hk : ∀ k ∈ l, k ≤ 5) : CallOk (W1 w mean mg mb) 1 139 [dL l, dN q] (dN (levelsP q l)) := by
  refine def_ok (names := [PySem.Str.ofString "row", PySem.Str.ofString "base"]) rfl rfl (all2 fun _ _ => rfl) (by decide) (by walk_at "names") rfl rfl rfl rfl ?_
  · intro A L F
    unfold levelsP
    show X _ _ _ [(PySem.Str.ofString "row", Slot.val (dL l)), (PySem.Str.ofString "base", Slot.val (dN q))] _ _
    refine x_cons (x_tupS (ds := [dL [1, 0, 0, 0, 0, 0], dN 9]) F.hh (ev_tuple (evs_cons (evF_list (ds := [.int 1, .int 0, .int 0, .int 0, .int 0, .int 0]) (by walk_at "evs") (by decide)).ev (evs_cons (ev_int (i := 9)) evs_nil)) (by decide)) (by rfl) (names := [PySem.Str.ofString "held", PySem.Str.ofString "last"]) (bndl_cons (bnd_name F rfl) (bndl_cons (bnd_name F rfl) bndl_nil)) rfl rfl) ?_
    have hh6 : [1, 0, 0, 0, 0, 0].length = 6 := rfl
    generalize [1, 0, 0, 0, 0, 0] = held at hh6 ⊢
    generalize 9 = last
    refine x_weak (σ' := [(PySem.Str.ofString "row", Slot.val (dL l)), (PySem.Str.ofString "base", Slot.val (dN q)), (PySem.Str.ofString "held", Slot.val (dL held)), (PySem.Str.ofString "last", Slot.val (dN last))]) (by walk_at "sub") ?_
    suffices hst : ∃ last', X1 (W1 w mean mg mb) A (envOfC (PySem.Str.ofString "_law_levels") _ L 139 (.ref 138)) [(PySem.Str.ofString "row", Slot.val (dL l)), (PySem.Str.ofString "base", Slot.val (dN q)), (PySem.Str.ofString "held", Slot.val (dL held)), (PySem.Str.ofString "last", Slot.val (dN last))] _ (.next [(PySem.Str.ofString "row", Slot.val (dL l)), (PySem.Str.ofString "base", Slot.val (dN q)), (PySem.Str.ofString "held", Slot.val (dL (heldGo q l held last))), (PySem.Str.ofString "last", Slot.val (dN last'))]) by
      obtain ⟨last', h⟩ := hst
      exact x_cons h (x_stop (x_ret (ev_callB F rfl rfl boot_sum (by decide) (by decide) (evs_cons (by walk_at "ev") evs_nil) (cv_sumN F.hh))))
    suffices hf : ∀ (es held : List Nat) (last : Nat), held.length = 6 → (∀ k ∈ es, k ≤ 5) → ∃ last', ForRun (fun d σ o => ∃ σ₁, Asg (W1 w mean mg mb) A (envOfC (PySem.Str.ofString "_law_levels") _ L 139 (.ref 138)) _ d σ σ₁ ∧ X (W1 w mean mg mb) A (envOfC (PySem.Str.ofString "_law_levels") _ L 139 (.ref 138)) σ₁ _ o) (es.map dN) [(PySem.Str.ofString "row", Slot.val (dL l)), (PySem.Str.ofString "base", Slot.val (dN q)), (PySem.Str.ofString "held", Slot.val (dL held)), (PySem.Str.ofString "last", Slot.val (dN last))] (.next [(PySem.Str.ofString "row", Slot.val (dL l)), (PySem.Str.ofString "base", Slot.val (dN q)), (PySem.Str.ofString "held", Slot.val (dL (heldGo q es held last))), (PySem.Str.ofString "last", Slot.val (dN last'))]) by
      obtain ⟨last', h⟩ := hf l held last hh6 hk
      exact ⟨last', x_for (by walk_at "ev") (iter_list F.hh) h⟩
    clear hh6 held last
    intro es
    induction es with
    | nil => intro held last _ _; exact ⟨last, .nil⟩
    | cons k es ih =>
      intro held last h6 hk
      have hk5 := hk k (.head _)
      obtain ⟨last', h⟩ := ih (freshGo q held (decide (last < k)) 1 k (List.replicate 6 0)) k (by rw [freshGo_len]; rfl) (fun x hx => hk x (.tail _ hx))
      refine ⟨last', .next ⟨_, asg_name F rfl, ?_⟩ h⟩
      refine x_cons (x_assignF (ds := (List.replicate 6 0).map dN) F (show EvF _ _ _ _ _ _ from evF_rep (ds := [.int 0]) (x := 6) (evF_list (by walk_at "evs") (by decide)).ev ev_int (by decide) (by decide) (by decide)) rfl) ?_
      refine x_cons (σ₁ := [(PySem.Str.ofString "row", Slot.val (dL l)), (PySem.Str.ofString "base", Slot.val (dN q)), (PySem.Str.ofString "held", Slot.val (dL held)), (PySem.Str.ofString "last", Slot.val (dN last)), (PySem.Str.ofString "step", Slot.val (dN k)), (PySem.Str.ofString "fresh", Slot.own ((freshGo q held (decide (last < k)) 1 k (List.replicate 6 0)).map dN))]) ?_ ?_
      · refine x1_weak (σ' := [(PySem.Str.ofString "row", Slot.val (dL l)), (PySem.Str.ofString "base", Slot.val (dN q)), (PySem.Str.ofString "held", Slot.val (dL held)), (PySem.Str.ofString "last", Slot.val (dN last)), (PySem.Str.ofString "step", Slot.val (dN k)), (PySem.Str.ofString "fresh", Slot.own ((List.replicate 6 0).map dN))]) (by walk_at "sub") ?_
        refine x_for (by walk_at "ev") (iter_rng F.hh (smallA (by walk_at "lx")) (rangeSizeA k)) ?_
        have h6' : (List.replicate 6 0).length = 6 := rfl
        generalize List.replicate 6 0 = fr at h6' ⊢
        refine for_fresh (q := q) (held := held) (lt := decide (last < k)) (σ := fun fr => [(PySem.Str.ofString "row", Slot.val (dL l)), (PySem.Str.ofString "base", Slot.val (dN q)), (PySem.Str.ofString "held", Slot.val (dL held)), (PySem.Str.ofString "last", Slot.val (dN last)), (PySem.Str.ofString "step", Slot.val (dN k)), (PySem.Str.ofString "fresh", Slot.own (fr.map dN))]) ?_ k 1 fr h6' (by walk_at "lx") (by walk_at "lx")
        intro lev fr h1 h5 h6'
        refine ⟨_, asg_name F rfl, ?_⟩
        have hpw : q ^ (lev - 1) < 2 ^ 64 := Nat.lt_of_lt_of_le (pow_lt (by walk_at "lx") h17) (by decide)
        have es : (fr.map dN).set (lev : Int).toNat (dN (q ^ (lev - 1) * (held.take (if decide (last < k) then lev else lev + 1)).sum)) = (fr.set lev (q ^ (lev - 1) * (held.take (if decide (last < k) then lev else lev + 1)).sum)).map dN := by rw [Int.toNat_natCast, List.map_set]
        rw [← es]
        refine x_weakO (x_cons (x_setItem (k := (lev : Int)) F (by walk_at "mem") ?_ (by walk_at "ev") (by walk_at "lx") (by rw [List.length_map]; walk_at "lx") (by rw [List.length_map]; walk_at "lx") (by decide)) x_nil) (by walk_at "sub")
        refine ev_mulN (ev_powN (by walk_at "ev") (dsub1 (by walk_at "ev") h1) h17 (by walk_at "lx")) (ev_callB F rfl rfl boot_sum (by decide) (by decide) (evs_cons (ev_if (b := decide ((last : Int) < (k : Int))) (by walk_at "tr") (fun hb => ?_) fun hb => ?_) evs_nil) (cv_sumN F.hh)) (mulL hpw)
        · rw [if_pos (by simpa using hb)]; exact ev_slUL (by walk_at "ev") (by walk_at "ev") (by walk_at "lx") (by walk_at "lx")
        · rw [if_neg (by simpa using hb)]; exact ev_slUL (by walk_at "ev") (dadd1 (by walk_at "ev")) (by walk_at "lx") (by walk_at "lx")
      · generalize freshGo q held (decide (last < k)) 1 k (List.replicate 6 0) = fr
        refine x_freeze (x := PySem.Str.ofString "fresh") (ds := fr.map dN) (by walk_at "mem") ?_
        exact x_weakO (x_cons (x_tupS F.hh (ev_tuple (by walk_at "evs") (by simp)) (by rfl) (names := [PySem.Str.ofString "held", PySem.Str.ofString "last"]) (bndl_cons (bnd_name F rfl) (bndl_cons (bnd_name F rfl) bndl_nil)) rfl rfl) x_nil) (by walk_at "sub")
end
section
noncomputable def dR (rs : List (List Nat)) : List D := rs.map dL
noncomputable def shortF : Nat → List Nat → List (List Nat)
  | 0, _ => [[]]
  | f + 1, o =>
    let rows := [1, 2, 3, 4, 5].flatMap fun k => if o.getD k 0 < o.getD (k - 1) 0 then (shortF f (exchP o k)).map (· ++ [k]) else []
    if rows.isEmpty then [[]] else rows
/-- the fuel is enough -/
noncomputable def fuelOk : Nat → List Nat → Bool
  | 0, o => [1, 2, 3, 4, 5].all fun k => !decide (o.getD k 0 < o.getD (k - 1) 0)
  | f + 1, o => [1, 2, 3, 4, 5].all fun k => !decide (o.getD k 0 < o.getD (k - 1) 0) || fuelOk f (exchP o k)
theorem flat_len {α : Type} (g : Nat → List α) (n : Nat) : ∀ l : List Nat, (∀ k ∈ l, (g k).length ≤ n) → (l.flatMap g).length ≤ l.length * n
  | [], _ => by simp
  | a :: l, h => by
    rw [List.flatMap_cons, List.length_append, List.length_cons, Nat.add_mul]
    have := flat_len g n l (fun k hk => h k (.tail _ hk))
    have := h a (.head _)
    walk_at "lx"
theorem shortF_len : ∀ (f : Nat) (o : List Nat), (shortF f o).length ≤ 5 ^ f
  | 0, _ => by simp [shortF]
  | f + 1, o => by
    unfold shortF
    dsimp only
    split
    · exact Nat.one_le_pow _ _ (by decide)
    · have := flat_len (fun k => if o.getD k 0 < o.getD (k - 1) 0 then (shortF f (exchP o k)).map (· ++ [k]) else []) (5 ^ f) [1, 2, 3, 4, 5] (fun k _ => by
        split
        · rw [List.length_map]; exact shortF_len f _
        · simp)
      rw [Nat.pow_succ, Nat.mul_comm]
      exact this
theorem shortF_row : ∀ (f : Nat) (o r : List Nat), r ∈ shortF f o → r.length ≤ f ∧ ∀ k ∈ r, 1 ≤ k ∧ k ≤ 5
  | 0, o, r, h => by simp [shortF] at h; subst h; simp
  | f + 1, o, r, h => by
    unfold shortF at h
    dsimp only at h
    split at h
    · simp at h; subst h; simp
    · obtain ⟨k, hk, hr⟩ := List.mem_flatMap.mp h
      have hk' : 1 ≤ k ∧ k ≤ 5 := by simp at hk; walk_at "lx"
      split at hr
      · obtain ⟨r', hr', rfl⟩ := List.mem_map.mp hr
        obtain ⟨h1, h2⟩ := shortF_row f _ r' hr'
        refine ⟨by simp; walk_at "lx", fun j hj => ?_⟩
        rcases List.mem_append.mp hj with hj | hj
        · exact h2 j hj
        · rw [List.mem_singleton.mp hj]; exact hk'
      · simp at hr
theorem smallB : Builtin.Range.small 1 6 1 = true ∧ Builtin.Range.rangeSize 1 6 1 = ((5 : Nat) : Int) := by decide +kernel
variable (w : World) (mean : ExcName → Option Value) (mg mb : PySem.Str → Option Value)
set_option maxHeartbeats 400000
theorem comp_rows (rs : List (List Nat)) (k : Nat) : (rs.map fun r => some (dL (r ++ [k]))).filterMap id = dR (rs.map (· ++ [k])) := by
  unfold dR
  induction rs with
  | nil => rfl
  | cons r rs ih => rw [List.map_cons, List.map_cons, List.map_cons, ← ih]; rfl
theorem for_flat {step : D → Sto → Out → Prop} {α : Type} (σ : List α → Sto) (g : Nat → List α) (h : ∀ (k : Nat) (pre : List Nat), 1 ≤ k → k ≤ 5 → pre.length ≤ 5 → (∀ x ∈ pre, 1 ≤ x ∧ x ≤ 5) → step (.int (k : Int)) (σ (pre.flatMap g)) (.next (σ (pre.flatMap g ++ g k)))) :
    ∀ (ks pre : List Nat), (∀ k ∈ ks, 1 ≤ k ∧ k ≤ 5) → (∀ x ∈ pre, 1 ≤ x ∧ x ≤ 5) → pre.length + ks.length ≤ 6 → ForRun step (ks.map dN) (σ (pre.flatMap g)) (.next (σ ((pre ++ ks).flatMap g)))
  | [], pre, _, _, _ => by rw [List.append_nil]; exact .nil
  | k :: ks, pre, hk, hp, hl => by
    rw [List.length_cons] at hl
    have ih := for_flat σ g h ks (pre ++ [k]) (fun x hx => hk x (.tail _ hx)) (fun x hx => (List.mem_append.mp hx).elim (hp x) fun h => by rw [List.mem_singleton.mp h]; exact hk k (.head _)) (by simp; walk_at "lx")
    rw [List.append_assoc, List.singleton_append] at ih
    have e : (pre ++ [k]).flatMap g = pre.flatMap g ++ g k := by simp
    rw [e] at ih
    exact .next (h k pre (hk k (.head _)).1 (hk k (.head _)).2 (by walk_at "lx") hp) ih
theorem shortest_body (n : Nat) (o : List Nat) (g : Nat → List (List Nat)) (ho : o.length = 6) (hn : 1 ≤ n)
    (hg : ∀ k, 1 ≤ k → k ≤ 5 → o.getD k 0 < o.getD (k - 1) 0 → CallOk (W1 w mean mg mb) n 113 [dL (exchP o k)] (.lst (dR (g k))) ∧ (g k).length ≤ 1000 ∧ ∀ r ∈ g k, r.length ≤ 10) :
    CallOk (W1 w mean mg mb) (n + 1) 113 [dL o] (.lst (dR (if ([1, 2, 3, 4, 5].flatMap fun k => if o.getD k 0 < o.getD (k - 1) 0 then (g k).map (· ++ [k]) else []).isEmpty then [[]] else [1, 2, 3, 4, 5].flatMap fun k => if o.getD k 0 < o.getD (k - 1) 0 then (g k).map (· ++ [k]) else []))) := by
  have hlen : ∀ k, 1 ≤ k → k ≤ 5 → (if o.getD k 0 < o.getD (k - 1) 0 then (g k).map (· ++ [k]) else []).length ≤ 1000 := by
    intro k h1 h5
    split
    · next h => rw [List.length_map]; exact (hg k h1 h5 h).2.1
    · simp
  refine def_ok (names := [PySem.Str.ofString "order"]) rfl rfl (all1 fun _ => rfl) (by decide) (by walk_at "names") rfl rfl rfl rfl ?_
  · intro A L F
    show X _ _ _ [(PySem.Str.ofString "order", Slot.val (dL o))] _ _
    refine x_cons (x_assignF (ds := dR []) F (evF_list evs_nil (by decide)) rfl) ?_
    refine x_cons (σ₁ := [(PySem.Str.ofString "order", Slot.val (dL o)), (PySem.Str.ofString "rows", Slot.own (dR ([1, 2, 3, 4, 5].flatMap fun k => if o.getD k 0 < o.getD (k - 1) 0 then (g k).map (· ++ [k]) else [])))]) ?_ ?_
    · refine x1_weak (σ' := [(PySem.Str.ofString "order", Slot.val (dL o)), (PySem.Str.ofString "rows", Slot.own (dR []))]) (by walk_at "sub") ?_
      refine x_for (d := .rng 1 6 1) (by walk_at "ev") (iter_rng F.hh smallB.1 smallB.2) ?_
      refine for_flat (σ := fun acc => [(PySem.Str.ofString "order", Slot.val (dL o)), (PySem.Str.ofString "rows", Slot.own (dR acc))]) (fun k => if o.getD k 0 < o.getD (k - 1) 0 then (g k).map (· ++ [k]) else []) ?_ [1, 2, 3, 4, 5] [] (by decide) (by decide) (by decide)
      intro k pre h1 h5 hp hpm
      have hacc : (pre.flatMap fun k => if o.getD k 0 < o.getD (k - 1) 0 then (g k).map (· ++ [k]) else []).length ≤ 50000 := by
        have := flat_len (fun k => if o.getD k 0 < o.getD (k - 1) 0 then (g k).map (· ++ [k]) else []) 1000 pre fun k hk => hlen k (hpm k hk).1 (hpm k hk).2
        walk_at "lx"
      generalize (pre.flatMap fun k => if o.getD k 0 < o.getD (k - 1) 0 then (g k).map (· ++ [k]) else []) = acc at hacc ⊢
      refine ⟨_, asg_cell F rfl (c := L + 1) rfl (Nat.lt_succ_self _), ?_⟩
      by_cases hd : o.getD k 0 < o.getD (k - 1) 0
      · rw [if_pos hd]
        obtain ⟨hc, hl, hr⟩ := hg k h1 h5 hd
        refine x_weakO (σ' := [(PySem.Str.ofString "order", Slot.val (dL o)), (PySem.Str.ofString "rows", Slot.own (dR (acc ++ (g k).map (· ++ [k]))))]) (x_cons (x_if (b := decide ((o.getD k 0 : Int) < (o.getD (k - 1) 0 : Int))) (tr_cmp (ev_itL (by walk_at "ev") (dsub1 (by walk_at "ev") h1) (by walk_at "lx") (by walk_at "lx")) (ev_itL (by walk_at "ev") (by walk_at "ev") (by walk_at "lx") (by walk_at "lx")) op_gtI rfl) (fun _ => ?_) fun h => absurd hd (by simpa using h)) x_nil) (fun p h => h)
        have ea : dR (acc ++ (g k).map (· ++ [k])) = dR acc ++ dR ((g k).map (· ++ [k])) := by unfold dR; rw [List.map_append]
        rw [ea, ← comp_rows]
        refine x_weakO (x_cons (x_augL F (by walk_at "mem") (evF_comp F (cl := [(PySem.Str.ofString "step", L + 1)]) (cap := [(PySem.Str.ofString "step", dN k)]) (ds := dR (g k)) (ev_call F rfl rfl (by decide) rfl (evs_cons (ev_call F rfl rfl (by decide) rfl (by walk_at "evs") (exchanged_ok w mean mg mb o k h1 (by walk_at "lx") (by walk_at "lx")) (by walk_at "lx")) evs_nil) hc (by walk_at "lx")) (iter_list F.hh) rfl (by decide) rfl (by decide) ?_ ?_ ?_) ?_) x_nil) (by walk_at "sub")
        · intro C
          refine ⟨fun x c h => ?_, fun p hp => ?_⟩
          · have h' : List.lookup x [(PySem.Str.ofString "step", L + 1)] = some c := h
            rw [List.lookup_cons] at h'
            split at h'
            · next hx => rw [beq_iff_eq] at hx; subst hx; exact h'
            · cases h'
          · rw [List.mem_singleton.mp hp]
            exact ⟨by walk_at "mem", (fun h => by have h2 : some NameKind.cell = some NameKind.local := h; cases h2), rfl, rfl⟩
        · intro C FC
          refine All2.map dL _ fun r hr' => ?_
          refine ⟨_, asg_name FC rfl, ?_, tst_nil, ?_⟩
          · exact fun p hp => by rw [List.mem_singleton.mp hp]; exact upd_of (x := PySem.Str.ofString "row") (y := PySem.Str.ofString "step") (by decide) (.head _)
          · rw [show dL (r ++ [k]) = .lst (r.map dN ++ [dN k]) by unfold dL; simp]
            have hrl := hr r hr'
            exact ev_bin (ev_name FC (by walk_at "mem") (by decide)) (evF_list (evs_cons (ev_name FC (upd_of (x := PySem.Str.ofString "row") (y := PySem.Str.ofString "step") (by decide) (.head _)) (by decide)) evs_nil) (Nat.le_of_ble_eq_true rfl)).ev (op_addL (by simp; walk_at "lx"))
        · show (List.map dL (g k)).length ≤ _
          rw [List.length_map]; walk_at "lx"
        · rw [comp_rows]; unfold dR; rw [List.length_map, List.length_map, List.length_map]; walk_at "lx"
      · rw [if_neg hd, List.append_nil]
        exact x_weakO (σ' := [(PySem.Str.ofString "order", Slot.val (dL o)), (PySem.Str.ofString "rows", Slot.own (dR acc))]) (x_cons (x_if (b := decide ((o.getD k 0 : Int) < (o.getD (k - 1) 0 : Int))) (tr_cmp (ev_itL (by walk_at "ev") (dsub1 (by walk_at "ev") h1) (by walk_at "lx") (by walk_at "lx")) (ev_itL (by walk_at "ev") (by walk_at "ev") (by walk_at "lx") (by walk_at "lx")) op_gtI rfl) (fun h => absurd (by simpa using h) hd) fun _ => x_nil) x_nil) (by walk_at "sub")
    · refine x_freeze (x := PySem.Str.ofString "rows") (by walk_at "mem") ?_
      have hl2 : ([1, 2, 3, 4, 5].flatMap fun k => if o.getD k 0 < o.getD (k - 1) 0 then (g k).map (· ++ [k]) else []).length ≤ 5000 := by
        exact flat_len (fun k => if o.getD k 0 < o.getD (k - 1) 0 then (g k).map (· ++ [k]) else []) 1000 [1, 2, 3, 4, 5] fun k hk => hlen k (by simp at hk; walk_at "lx") (by simp at hk; walk_at "lx")
      generalize ([1, 2, 3, 4, 5].flatMap fun k => if o.getD k 0 < o.getD (k - 1) 0 then (g k).map (· ++ [k]) else []) = rows at hl2 ⊢
      have hdl : (dR rows).length = rows.length := by unfold dR; rw [List.length_map]
      refine x_stop (x_ret (ev_or (b := !(dR rows).isEmpty) (d₁ := .lst (dR rows)) (by walk_at "ev") (truth_lst (by walk_at "lx")) (fun h => ?_) fun h => ?_))
      · cases rows with
        | nil => cases h
        | cons r rs => rfl
      · cases rows with
        | nil => exact (evF_list (ds := [dL []]) (evs_cons (evF_list (ds := []) evs_nil (by decide)).ev evs_nil) (by decide)).ev
        | cons r rs => cases h
theorem shortest_ok : ∀ (f : Nat) (o : List Nat), f ≤ 5 → o.length = 6 → fuelOk f o = true → CallOk (W1 w mean mg mb) (f + 2) 113 [dL o] (.lst (dR (shortF f o)))
  | 0, o, hf, ho, hu => by
    have h0 : ∀ k, 1 ≤ k → k ≤ 5 → ¬ o.getD k 0 < o.getD (k - 1) 0 := by
      intro k h1 h5
      have := List.all_eq_true.mp hu k (by simp; walk_at "lx")
      simpa using this
    have := shortest_body w mean mg mb 1 o (fun _ => []) ho (by walk_at "lx") fun k h1 h5 hd => absurd hd (h0 k h1 h5)
    have e : ([1, 2, 3, 4, 5].flatMap fun k => if o.getD k 0 < o.getD (k - 1) 0 then (([] : List (List Nat)).map (· ++ [k])) else []) = [] := by
      rw [List.flatMap_eq_nil_iff]; intro k _; split <;> rfl
    rw [e] at this
    exact this
  | f + 1, o, hf, ho, hu => by
    refine shortest_body w mean mg mb (f + 2) o (fun k => shortF f (exchP o k)) ho (by walk_at "lx") fun k h1 h5 hd => ⟨shortest_ok f (exchP o k) (by walk_at "lx") (by rw [exchP_len h1 (by walk_at "lx")]; exact ho) ?_, ?_, ?_⟩
    · have := List.all_eq_true.mp hu k (by simp; walk_at "lx")
      rw [decide_eq_true hd, Bool.not_true, Bool.false_or] at this
      exact this
    · have := shortF_len f (exchP o k)
      have : 5 ^ f ≤ 5 ^ 4 := Nat.pow_le_pow_right (by decide) (by walk_at "lx")
      have : 5 ^ 4 ≤ 1000 := by decide
      walk_at "lx"
    · intro r hr
      have := (shortF_row f _ r hr).1
      walk_at "lx"
end
section
noncomputable def repP (c : Nat) (r l : List Nat) : List Nat := l.flatMap fun k => if k = c then r else [k]
theorem repP_free (c : Nat) (r : List Nat) : ∀ l : List Nat, c ∉ l → repP c r l = l
  | [], _ => rfl
  | k :: l, h => by
    have h1 : ¬ k = c := fun e => h (e ▸ List.mem_cons_self ..)
    have h2 : c ∉ l := fun m => h (List.mem_cons_of_mem _ m)
    show (if k = c then r else [k]) ++ repP c r l = _
    rw [if_neg h1, repP_free c r l h2]; rfl
theorem repP_append (c : Nat) (r a b : List Nat) : repP c r (a ++ b) = repP c r a ++ repP c r b := List.flatMap_append
theorem repP_join (c : Nat) (r : List Nat) : ∀ parts : List PySem.Str, (∀ p ∈ parts, c ∉ p.cps.toList) → (PySem.Str.join (S r) parts).cps.toList = repP c r (PySem.Str.join ⟨#[c]⟩ parts).cps.toList
  | [], _ => rfl
  | [p], h => (repP_free c r _ (h p (List.mem_singleton.mpr rfl))).symm
  | p :: q :: ps, h => by
    have ih := repP_join c r (q :: ps) fun a ha => h a (List.mem_cons_of_mem _ ha)
    show (p ++ S r ++ PySem.Str.join (S r) (q :: ps)).cps.toList = repP c r (p ++ ⟨#[c]⟩ ++ PySem.Str.join ⟨#[c]⟩ (q :: ps)).cps.toList
    simp only [PySem.Str.cps_append, Array.toList_append]
    rw [repP_append, repP_append, ← ih, repP_free c r _ (h p (List.mem_cons_self ..))]
    show p.cps.toList ++ r ++ _ = p.cps.toList ++ repP c r [c] ++ _
    have : repP c r [c] = r := by simp [repP]
    rw [this]
theorem S_toList (x : PySem.Str) (l : List Nat) (h : x.cps.toList = l) : x = S l := by
  obtain ⟨⟨a⟩⟩ := x
  simp at h; subst h; rfl
theorem inRep_S (l : List Nat) (c : Nat) (r : List Nat) : inRep (S l) (S [c]) (S r) = S (repP c r l) := by
  unfold inRep
  have h := StrLaws.found_one (S l) c
  split
  · next he =>
    have he' : (Builtin.Str.occurrences (S l) ⟨#[c]⟩ 0 (S l).length 1).isEmpty = true := he
    rw [he'] at h
    have : c ∉ l := by simpa using h
    rw [repP_free c r l this]
  · refine S_toList _ _ ?_
    have e : Txt.replace (S l) (S [c]) (S r) = PySem.Str.join (S r) (Txt.split (S l) ⟨#[c]⟩) := StrLaws.replace_one (S l) (S r) c
    rw [e, repP_join c r _ (StrLaws.split_free (S l) c), StrLaws.join_split]
theorem repP_len (c : Nat) (r : List Nat) (hr : 1 ≤ r.length) : ∀ l : List Nat, (repP c r l).length ≤ l.length * r.length
  | [] => by simp [repP]
  | k :: l => by
    have ih := repP_len c r hr l
    have e : repP c r (k :: l) = (if k = c then r else [k]) ++ repP c r l := rfl
    rw [e, List.length_append, List.length_cons, Nat.add_mul]
    split
    · walk_at "lx"
    · simp; walk_at "lx"
noncomputable def escP (rows : List (Nat × List Nat)) (l : List Nat) : List Nat := rows.foldl (fun l p => repP p.1 p.2 l) l
noncomputable abbrev rAmp : Nat × List Nat := (38, [38, 97, 109, 112, 59])
noncomputable abbrev rLt : Nat × List Nat := (60, [38, 108, 116, 59])
noncomputable abbrev rGt : Nat × List Nat := (62, [38, 103, 116, 59])
noncomputable abbrev rQuot : Nat × List Nat := (34, [38, 113, 117, 111, 116, 59])
noncomputable abbrev rR13 : Nat × List Nat := (13, [38, 35, 49, 51, 59])
noncomputable abbrev rN10 : Nat × List Nat := (10, [38, 35, 49, 48, 59])
noncomputable abbrev rT09 : Nat × List Nat := (9, [38, 35, 48, 57, 59])
noncomputable abbrev rXD : Nat × List Nat := (13, [38, 35, 120, 68, 59])
noncomputable abbrev rXA : Nat × List Nat := (10, [38, 35, 120, 65, 59])
noncomputable abbrev rX9 : Nat × List Nat := (9, [38, 35, 120, 57, 59])
noncomputable def escRows : Nat → List (Nat × List Nat)
  | 0 => [rAmp, rLt, rGt]
  | 1 => [rAmp, rLt, rGt, rQuot, rR13, rN10, rT09]
  | 2 => [rAmp, rGt, rQuot]
  | 3 => [rAmp, rLt, rGt, rXD]
  | _ => [rAmp, rLt, rQuot, rX9, rXA, rXD]
section
variable {W : WP} {A : Around} {env : Env}
theorem x_rep {n B : Nat} {x cS rS : PySem.Str} {l : List Nat} {p : Nat × List Nat} {k1 k7 k8 : Nat} {p1 p2 p3 p4 p5 p6 p7 p8 p9 p10 p11 : Pos} {rest : List Stmt} {rows : List (Nat × List Nat)} {pl : Sem Bool} (F : FOK n A env) (hx : env.kindOf x = some .local) (hd : (x == ("__debug__" : PySem.Str)) = false)
    (hc : cS = S [p.1]) (hr : rS = S p.2) (hcr : (cS == rS) = false) (hl : l.length ≤ B) (hz : B + (B + 1) * p.2.length ≤ 16777216) (h1 : 1 ≤ p.2.length)
    (next : (repP p.1 p.2 l).length ≤ B * p.2.length → X W A env [(x, Slot.val (.str (S (repP p.1 p.2 l))))] rest (.ret (.str (S (escP rows (repP p.1 p.2 l))))))
    (hsw : swapsWith (.Call (.Attribute (.Name x p5) "replace" p6) [.Constant (.str cS) k7 p7, .Constant (.str rS) k8 p8] [] p9) (some (.Name x p4)) p10.line env = pure false := by rfl)
    (he : eval ((PySem.Expr.Attribute (.Name x p5) "replace" p6).Call [.Constant (.str cS) k7 p7, .Constant (.str rS) k8 p8] [] p9) env = (do let ov ← eval (.Name x p5) env; standAt p6.atName; let (f, first) ← holding [ov] (getMethod ov "replace" pl); callWith p9 f first (backTo p9 (starEach [.Constant (.str cS) k7 p7, .Constant (.str rS) k8 p8] env)) []) := by rfl) :
    X W A env [(x, Slot.val (.str (S l)))] (.If (.Compare (.Constant (.str cS) k1 p1) [.In] [.Name x p2] p3) [.Assign [.Name x p4] (.Call (.Attribute (.Name x p5) "replace" p6) [.Constant (.str cS) k7 p7, .Constant (.str rS) k8 p8] [] p9) p10] [] p11 :: rest) (.ret (.str (S (escP (p :: rows) l)))) := by
  have e := inRep_S l p.1 p.2
  rw [← hc, ← hr] at e
  have hlen : (repP p.1 p.2 l).length ≤ B * p.2.length := Nat.le_trans (repP_len p.1 p.2 h1 l) (Nat.mul_le_mul_right _ hl)
  have hrl : rS.length = p.2.length := by rw [hr, S_len]
  have := x_ifReplace (W := W) (k1 := k1) (p1 := p1) (p2 := p2) (p3 := p3) (p11 := p11) (pl := pl) F (.head _) hx hd hcr (by
    rw [S_len, hrl]
    have : (l.length + 1) * p.2.length ≤ (B + 1) * p.2.length := Nat.mul_le_mul_right _ (by walk_at "lx")
    walk_at "lx") hsw he (σ := [(x, Slot.val (.str (S l)))])
  rw [e] at this
  have e2 : upd [(x, Slot.val (.str (S l)))] x (.val (.str (S (repP p.1 p.2 l)))) = [(x, Slot.val (.str (S (repP p.1 p.2 l))))] := by simp [upd]
  rw [e2] at this
  exact x_cons this (next hlen)
end
variable (w : World) (mean : ExcName → Option Value) (mg mb : PySem.Str → Option Value)
set_option maxHeartbeats 400000
theorem esc0_ok (l : List Nat) (hl : l.length ≤ 5) : CallOk (W1 w mean mg mb) 1 52 [.str (S l)] (.str (S (escP (escRows 0) l))) := by
  refine def_ok (names := [PySem.Str.ofString "text"]) rfl rfl (all1 fun _ => rfl) (by decide) (by walk_at "names") rfl rfl rfl rfl ?_
  · intro A L F
    show X _ _ _ [(PySem.Str.ofString "text", Slot.val (D.str (S l)))] _ _
    refine x_stop (x_try ?_)
    refine x_rep (B := 5) (p := rAmp) F rfl rfl rfl rfl rfl hl (Nat.le_of_ble_eq_true rfl) (Nat.le_of_ble_eq_true rfl) fun hl => ?_
    refine x_rep (B := 25) (p := rLt) F rfl rfl rfl rfl rfl hl (Nat.le_of_ble_eq_true rfl) (Nat.le_of_ble_eq_true rfl) fun hl => ?_
    refine x_rep (B := 100) (p := rGt) F rfl rfl rfl rfl rfl hl (Nat.le_of_ble_eq_true rfl) (Nat.le_of_ble_eq_true rfl) fun hl => ?_
    exact x_stop (x_ret (ev_name F (.head _) (by decide)))
theorem esc1_ok (l : List Nat) (hl : l.length ≤ 5) : CallOk (W1 w mean mg mb) 1 59 [.str (S l)] (.str (S (escP (escRows 1) l))) := by
  refine def_ok (names := [PySem.Str.ofString "text"]) rfl rfl (all1 fun _ => rfl) (by decide) (by walk_at "names") rfl rfl rfl rfl ?_
  · intro A L F
    show X _ _ _ [(PySem.Str.ofString "text", Slot.val (D.str (S l)))] _ _
    refine x_stop (x_try ?_)
    refine x_rep (B := 5) (p := rAmp) F rfl rfl rfl rfl rfl hl (Nat.le_of_ble_eq_true rfl) (Nat.le_of_ble_eq_true rfl) fun hl => ?_
    refine x_rep (B := 25) (p := rLt) F rfl rfl rfl rfl rfl hl (Nat.le_of_ble_eq_true rfl) (Nat.le_of_ble_eq_true rfl) fun hl => ?_
    refine x_rep (B := 100) (p := rGt) F rfl rfl rfl rfl rfl hl (Nat.le_of_ble_eq_true rfl) (Nat.le_of_ble_eq_true rfl) fun hl => ?_
    refine x_rep (B := 400) (p := rQuot) F rfl rfl rfl rfl rfl hl (Nat.le_of_ble_eq_true rfl) (Nat.le_of_ble_eq_true rfl) fun hl => ?_
    refine x_rep (B := 2400) (p := rR13) F rfl rfl rfl rfl rfl hl (Nat.le_of_ble_eq_true rfl) (Nat.le_of_ble_eq_true rfl) fun hl => ?_
    refine x_rep (B := 12000) (p := rN10) F rfl rfl rfl rfl rfl hl (Nat.le_of_ble_eq_true rfl) (Nat.le_of_ble_eq_true rfl) fun hl => ?_
    refine x_rep (B := 60000) (p := rT09) F rfl rfl rfl rfl rfl hl (Nat.le_of_ble_eq_true rfl) (Nat.le_of_ble_eq_true rfl) fun hl => ?_
    exact x_stop (x_ret (ev_name F (.head _) (by decide)))
theorem esc2_ok (l : List Nat) (hl : l.length ≤ 5) : CallOk (W1 w mean mg mb) 1 66 [.str (S l)] (.str (S (escP (escRows 2) l))) := by
  refine def_ok (names := [PySem.Str.ofString "text"]) rfl rfl (all1 fun _ => rfl) (by decide) (by walk_at "names") rfl rfl rfl rfl ?_
  · intro A L F
    show X _ _ _ [(PySem.Str.ofString "text", Slot.val (D.str (S l)))] _ _
    refine x_stop (x_try ?_)
    refine x_rep (B := 5) (p := rAmp) F rfl rfl rfl rfl rfl hl (Nat.le_of_ble_eq_true rfl) (Nat.le_of_ble_eq_true rfl) fun hl => ?_
    refine x_rep (B := 25) (p := rGt) F rfl rfl rfl rfl rfl hl (Nat.le_of_ble_eq_true rfl) (Nat.le_of_ble_eq_true rfl) fun hl => ?_
    refine x_rep (B := 100) (p := rQuot) F rfl rfl rfl rfl rfl hl (Nat.le_of_ble_eq_true rfl) (Nat.le_of_ble_eq_true rfl) fun hl => ?_
    exact x_stop (x_ret (ev_name F (.head _) (by decide)))
theorem esc3_ok (l : List Nat) (hl : l.length ≤ 5) : CallOk (W1 w mean mg mb) 1 73 [.str (S l)] (.str (S (escP (escRows 3) l))) := by
  refine def_ok (names := [PySem.Str.ofString "text"]) rfl rfl (all1 fun _ => rfl) (by decide) (by walk_at "names") rfl rfl rfl rfl ?_
  · intro A L F
    show X _ _ _ [(PySem.Str.ofString "text", Slot.val (D.str (S l)))] _ _
    refine x_stop (x_try ?_)
    refine x_rep (B := 5) (p := rAmp) F rfl rfl rfl rfl rfl hl (Nat.le_of_ble_eq_true rfl) (Nat.le_of_ble_eq_true rfl) fun hl => ?_
    refine x_rep (B := 25) (p := rLt) F rfl rfl rfl rfl rfl hl (Nat.le_of_ble_eq_true rfl) (Nat.le_of_ble_eq_true rfl) fun hl => ?_
    refine x_rep (B := 100) (p := rGt) F rfl rfl rfl rfl rfl hl (Nat.le_of_ble_eq_true rfl) (Nat.le_of_ble_eq_true rfl) fun hl => ?_
    refine x_rep (B := 400) (p := rXD) F rfl rfl rfl rfl rfl hl (Nat.le_of_ble_eq_true rfl) (Nat.le_of_ble_eq_true rfl) fun hl => ?_
    exact x_stop (x_ret (ev_name F (.head _) (by decide)))
theorem esc4_ok (l : List Nat) (hl : l.length ≤ 5) : CallOk (W1 w mean mg mb) 1 80 [.str (S l)] (.str (S (escP (escRows 4) l))) := by
  refine def_ok (names := [PySem.Str.ofString "text"]) rfl rfl (all1 fun _ => rfl) (by decide) (by walk_at "names") rfl rfl rfl rfl ?_
  · intro A L F
    show X _ _ _ [(PySem.Str.ofString "text", Slot.val (D.str (S l)))] _ _
    refine x_stop (x_try ?_)
    refine x_rep (B := 5) (p := rAmp) F rfl rfl rfl rfl rfl hl (Nat.le_of_ble_eq_true rfl) (Nat.le_of_ble_eq_true rfl) fun hl => ?_
    refine x_rep (B := 25) (p := rLt) F rfl rfl rfl rfl rfl hl (Nat.le_of_ble_eq_true rfl) (Nat.le_of_ble_eq_true rfl) fun hl => ?_
    refine x_rep (B := 100) (p := rQuot) F rfl rfl rfl rfl rfl hl (Nat.le_of_ble_eq_true rfl) (Nat.le_of_ble_eq_true rfl) fun hl => ?_
    refine x_rep (B := 600) (p := rX9) F rfl rfl rfl rfl rfl hl (Nat.le_of_ble_eq_true rfl) (Nat.le_of_ble_eq_true rfl) fun hl => ?_
    refine x_rep (B := 3000) (p := rXA) F rfl rfl rfl rfl rfl hl (Nat.le_of_ble_eq_true rfl) (Nat.le_of_ble_eq_true rfl) fun hl => ?_
    refine x_rep (B := 15000) (p := rXD) F rfl rfl rfl rfl rfl hl (Nat.le_of_ble_eq_true rfl) (Nat.le_of_ble_eq_true rfl) fun hl => ?_
    exact x_stop (x_ret (ev_name F (.head _) (by decide)))
end
section
noncomputable def tokT : List (List Nat × Nat) := [([33], 54), ([33, 61], 28), ([37], 24), ([37, 61], 40), ([38], 19), ([38, 61], 41), ([40], 7), ([41], 8), ([42], 16), ([42, 42], 35), ([42, 42, 61], 46), ([42, 61], 38), ([43], 14), ([43, 61], 36), ([44], 12), ([45], 15), ([45, 61], 37), ([45, 62], 51), ([46], 23), ([46, 46, 46], 52), ([47], 17), ([47, 47], 47), ([47, 47, 61], 48), ([47, 61], 39), ([58], 11), ([58, 61], 53), ([59], 13), ([60], 20), ([60, 60], 33), ([60, 60, 61], 44), ([60, 61], 29), ([61], 22), ([61, 61], 27), ([62], 21), ([62, 61], 30), ([62, 62], 34), ([62, 62, 61], 45), ([64], 49), ([64, 61], 50), ([91], 9), ([93], 10), ([94], 32), ([94, 61], 43), ([123], 25), ([124], 18), ([124, 61], 42), ([125], 26), ([126], 31)]
noncomputable def tokLook (x : List Nat) : List (List Nat × Nat) → Option Nat
  | [] => none
  | (a, n) :: r => if a = x then some n else tokLook x r
noncomputable abbrev tokS (T : List (List Nat × Nat)) : List (PySem.Str × Int) := T.map fun p => (S p.1, (p.2 : Int))
theorem S_eq {a b : List Nat} : S a = S b ↔ a = b := by
  constructor
  · intro h; have := congrArg (fun x : PySem.Str => x.cps.toList) h; simpa [S] using this
  · intro h; rw [h]
theorem tab_tok (x : List Nat) : ∀ T : List (List Nat × Nat), tabLook (tokS T) (S x) = (tokLook x T).map fun n : Nat => (n : Int)
  | [] => rfl
  | (a, n) :: r => by
    have ih := tab_tok x r
    show (if S a = S x then some (n : Int) else tabLook (tokS r) (S x)) = (if a = x then some n else tokLook x r).map _
    rw [ih]
    by_cases h : a = x
    · rw [if_pos h, if_pos (by rw [h])]; rfl
    · rw [if_neg h, if_neg fun e => h (S_eq.mp e)]
noncomputable def sizeP (page : List Nat) : Nat := if (tokLook (page.take 3) tokT).isSome then 3 else if (tokLook (page.take 2) tokT).isSome then 2 else 1
/-- a symbol: a token's number or the sign itself -/
inductive Sym where
  | num (n : Nat)
  | txt (l : List Nat)
noncomputable def symOf (x : List Nat) : Sym := match tokLook x tokT with
  | some n => .num n
  | none => .txt x
noncomputable def Sym.d : Sym → D
  | .num n => dN n
  | .txt l => .str (S l)
noncomputable def symGo : Nat → List Nat → List Sym
  | 0, _ => []
  | f + 1, page => if page.isEmpty then [] else symOf (page.take (sizeP page)) :: symGo f (page.drop (sizeP page))
theorem tabOr_sym (x : List Nat) : tabOr (tokS tokT) (S x) (S x) = (symOf x).d := by
  unfold tabOr symOf
  rw [tab_tok]
  cases tokLook x tokT <;> rfl
variable (w : World) (mean : ExcName → Option Value) (mg mb : PySem.Str → Option Value)
theorem hasTok : HasTab (W1 w mean mg mb) 22 (tokS tokT) := by
  intro h hx
  exact kt_tab_in (a := 22) (D := (tokS tokT).map fun p => (p.1, PyData.int p.2)) _ w hx (by kernel_rfl) (by decide +kernel) (by kernel_rfl)
theorem sl_take (l : List Nat) (q : Nat) : Txt.slice (S l) none (some (q : Int)) = S (l.take q) := by
  rcases Nat.le_total q l.length with h | h
  · exact sl_upto l q h
  · rw [sl_over l q h, List.take_of_length_le h]
theorem sl_dropA (l : List Nat) (q : Nat) : Txt.slice (S l) (some (q : Int)) none = S (l.drop q) := by
  rcases Nat.le_total q l.length with h | h
  · exact sl_from l q h
  · rw [sl_fromOver l q h, List.drop_eq_nil_of_le h]
section
variable {W : WP} {A : Around} {env : Env} {σ : Sto}
theorem ev_slT {value hi : PySem.Expr} {p pos : Pos} {l : List Nat} {q : Nat} (h : Ev W A env σ value (.str (S l))) (hu : Ev W A env σ hi (.int (q : Int))) (hz : l.length ≤ 1000) :
    Ev W A env σ (.Subscript value (.Slice none (some hi) none p) pos) (.str (S (l.take q))) := by
  rw [← sl_take l q]; exact ev_sliceS h evp_nil (evp_int hu) (by rw [S_len]; walk_at "lx")
theorem ev_slD {value lo : PySem.Expr} {p pos : Pos} {l : List Nat} {q : Nat} (h : Ev W A env σ value (.str (S l))) (hl : Ev W A env σ lo (.int (q : Int))) (hz : l.length ≤ 1000) :
    Ev W A env σ (.Subscript value (.Slice (some lo) none none p) pos) (.str (S (l.drop q))) := by
  rw [← sl_dropA l q]; exact ev_sliceS h (evp_int hl) evp_nil (by rw [S_len]; walk_at "lx")
theorem tr_and2 {e₁ e₂ : PySem.Expr} {pos : Pos} {b c : Bool} (h₁ : Tr W A env σ e₁ b) (h₂ : b = true → Tr W A env σ e₂ c) : Tr W A env σ (.BoolOp .And [e₁, e₂] pos) (b && c) := by
  have := allT_and (c := c && true) h₁ fun hb => allT_and (h₂ hb) fun _ => allT_nil
  rw [Bool.and_true] at this
  exact tr_bool this
end
theorem size_run {test : Sto → Bool → Prop} {body : Sto → Out → Prop} (l : List Nat) (σ : Nat → Sto) (ht : ∀ q, q ≤ 3 → test (σ q) (decide (1 < q) && !(tokLook (l.take q) tokT).isSome)) (hb : ∀ q, 2 ≤ q → q ≤ 3 → body (σ q) (.next (σ (q - 1)))) :
    WhileRun test body 2 (σ 3) (.next (σ (sizeP l))) := by
  unfold sizeP
  have h3 := ht 3 (by walk_at "lx")
  have h2 := ht 2 (by walk_at "lx")
  have h1 := ht 1 (by walk_at "lx")
  cases e3 : (tokLook (l.take 3) tokT).isSome with
  | true => rw [e3] at h3; rw [if_pos rfl]; exact .stop h3
  | false =>
    rw [e3] at h3
    rw [if_neg (by decide)]
    refine .next h3 (hb 3 (by walk_at "lx") (by walk_at "lx")) ?_
    cases e2 : (tokLook (l.take 2) tokT).isSome with
    | true => rw [e2] at h2; rw [if_pos rfl]; exact .stop h2
    | false =>
      rw [e2] at h2
      rw [if_neg (by decide)]
      exact .next h2 (hb 2 (by walk_at "lx") (by walk_at "lx")) (.stop h1)
set_option maxHeartbeats 400000
theorem symbols_ok (f : Nat) (l : List Nat) (hl : l.length ≤ f) (hf : f ≤ 100) : CallOk (W1 w mean mg mb) 1 87 [.str (S l)] (.lst ((symGo f l).map Sym.d)) := by
  refine def_ok (names := [PySem.Str.ofString "page"]) rfl rfl (all1 fun _ => rfl) (by decide) (by walk_at "names") rfl rfl rfl rfl ?_
  · intro A L F
    show X _ _ _ [(PySem.Str.ofString "page", Slot.val (D.str (S l)))] _ _
    refine x_cons (x_assignF (ds := []) F (evF_list evs_nil (by decide)) rfl) ?_
    refine x_cons (σ₁ := [(PySem.Str.ofString "page", Slot.val (D.str (S []))), (PySem.Str.ofString "symbols", Slot.own ((symGo f l).map Sym.d))]) ?_ (x_freeze (x := PySem.Str.ofString "symbols") (by walk_at "mem") (x_stop (x_ret (by walk_at "ev"))))
    refine x1_weak (σ' := [(PySem.Str.ofString "page", Slot.val (D.str (S l))), (PySem.Str.ofString "symbols", Slot.own [])]) (by walk_at "sub") ?_
    refine x_while (n := f) ?_
    change WhileRun _ _ _ [_, (_, Slot.own (([] : List Sym).map Sym.d))] _
    have e0 : (symGo f l).map Sym.d = ([] ++ symGo f l).map Sym.d := rfl
    rw [e0]
    have ha : ([] : List Sym).length + f ≤ 100 := by simpa using hf
    generalize ([] : List Sym) = acc at ha ⊢
    clear hf e0
    induction f generalizing l acc with
    | zero =>
      have : l = [] := List.eq_nil_of_length_eq_zero (by walk_at "lx")
      subst this
      rw [symGo, List.append_nil]
      exact .stop (tr_S (l := []) (by walk_at "ev") (by decide))
    | succ f ih =>
      cases hem : l.isEmpty with
      | true =>
        have : l = [] := by simpa using hem
        subst this
        rw [show symGo (f + 1) [] = [] from rfl, List.append_nil]
        exact .stop (tr_S (l := []) (by walk_at "ev") (by decide))
      | false =>
        have hne : l ≠ [] := by intro h; subst h; cases hem
        have hpos : 0 < l.length := List.length_pos_iff.mpr hne
        have e1 : symGo (f + 1) l = symOf (l.take (sizeP l)) :: symGo f (l.drop (sizeP l)) := by
          rw [symGo, if_neg (by rw [hem]; decide)]
        rw [e1]
        have hsz : 1 ≤ sizeP l ∧ sizeP l ≤ 3 := by unfold sizeP; split <;> (try split) <;> walk_at "lx"
        have ih' := ih (l.drop (sizeP l)) (by rw [List.length_drop]; walk_at "lx") (acc ++ [symOf (l.take (sizeP l))]) (by simp; walk_at "lx")
        rw [List.append_assoc, List.singleton_append] at ih'
        refine WhileRun.next (tr_eqB (by rw [hem]; rfl) (tr_S (l := l) (by walk_at "ev") (by walk_at "lx"))) ?_ ih'
        have hl1 : l.length ≤ 1000 := by walk_at "lx"
        have hal : acc.length ≤ 1000 := by walk_at "lx"
        clear ih ih'
        refine x_weakO (x_cons (x_assign F (by walk_at "ev") rfl) (x_cons (σ₁ := [(PySem.Str.ofString "page", Slot.val (D.str (S l))), (PySem.Str.ofString "symbols", Slot.own (acc.map Sym.d)), (PySem.Str.ofString "size", Slot.val (D.int (sizeP l : Int)))]) ?_ (x_cons (x_append F (by walk_at "mem") (ev_getTab F (hasTok w mean mg mb) rfl rfl (by decide) (ev_slT (by walk_at "ev") (by walk_at "ev") hl1) (ev_slT (by walk_at "ev") (by walk_at "ev") hl1)) (by rw [List.length_map]; walk_at "lx") (by decide) rfl) (x_cons (x_assign F (ev_slD (by walk_at "ev") (by walk_at "ev") hl1) rfl) x_nil)))) ?_
        · refine x1_weak (σ' := [(PySem.Str.ofString "page", Slot.val (D.str (S l))), (PySem.Str.ofString "symbols", Slot.own (acc.map Sym.d)), (PySem.Str.ofString "size", Slot.val (D.int 3))]) (by walk_at "sub") (x_while (n := 2) ?_)
          refine size_run l (fun q => [(PySem.Str.ofString "page", Slot.val (D.str (S l))), (PySem.Str.ofString "symbols", Slot.own (acc.map Sym.d)), (PySem.Str.ofString "size", Slot.val (D.int (q : Int)))]) ?_ ?_
          · intro q hq
            have e : ((tokLook (l.take q) tokT).map fun n : Nat => (n : Int)).isSome = (tokLook (l.take q) tokT).isSome := by cases tokLook (l.take q) tokT <;> rfl
            have e2 : decide (1 < q) = decide (1 < (q : Int)) := by rw [Bool.eq_iff_iff]; simp; walk_at "lx"
            rw [← e, ← tab_tok, e2]
            exact tr_and2 (by walk_at "tr") fun _ => tr_notInTab F (hasTok w mean mg mb) rfl rfl (by decide) (ev_slT (by walk_at "ev") (by walk_at "ev") hl1)
          · intro q h2 h3
            have e : ((q - 1 : Nat) : Int) = (q : Int) - 1 := by walk_at "lx"
            simp only [e]
            exact x_weakO (x_cons (x_aug F (by walk_at "mem") rfl (ev_int (i := 1)) op_isubI) x_nil) (by walk_at "sub")
        · rw [tabOr_sym, List.map_append, List.map_cons, List.map_nil]
          walk_at "sub"
end
section
noncomputable def idxP (nm : List Nat) : Option Nat := if nm = [97, 109, 112] then some 0 else if nm = [108, 116] then some 1 else if nm = [103, 116] then some 2 else none
noncomputable def stepSym : Sym → List Nat → List Nat → Option (List Nat × List Nat)
  | .num n, st, nm =>
    if n = 19 then some (st, []) else
    if n = 13 then (idxP nm).map fun j => (st ++ [2 + j], nm) else
    if n = 18 ∨ n = 20 ∨ n = 21 then some (st ++ [n - 17], nm) else
    if n = 33 ∨ n = 34 then some (st ++ [n - 30], nm) else none
  | .txt x, st, nm => if nm.length + x.length ≤ 1000 then some (st, nm ++ x) else none
noncomputable def stepsGo : List Sym → List Nat → List Nat → Option (List Nat)
  | [], st, _ => some st
  | y :: ys, st, nm => match stepSym y st nm with
    | some (st', nm') => stepsGo ys st' nm'
    | none => none
theorem stepSym_len {y : Sym} {st nm st' nm' : List Nat} (h : stepSym y st nm = some (st', nm')) : st'.length ≤ st.length + 1 := by
  cases y with
  | num n =>
    simp only [stepSym] at h
    split at h
    · cases h; walk_at "lx"
    · split at h
      · cases hi : idxP nm with
        | none => rw [hi] at h; cases h
        | some j => rw [hi] at h; cases h; simp
      · split at h
        · cases h; simp
        · split at h
          · cases h; simp
          · cases h
  | txt x =>
    simp only [stepSym] at h
    split at h
    · cases h; walk_at "lx"
    · cases h
section
variable {W : WP} {A : Around} {env : Env} {σ : Sto}
theorem tr_to {e : PySem.Expr} {b c : Bool} (t : Tr W A env σ e b) (h : b = c) : Tr W A env σ e c := h ▸ t
theorem ev_index3 {o : PySem.Expr} {apos pos : Pos} {e : PySem.Expr} {nm : List Nat} {j : Nat} {pl : Sem Bool} (ho : EvF W A env σ o [.str (S [97, 109, 112]), .str (S [108, 116]), .str (S [103, 116])]) (h : Ev W A env σ e (.str (S nm))) (hj : idxP nm = some j)
    (hs : starEach [e] env = (false, eval e env) :: starEach [] env := by rfl)
    (hm : eval ((o.Attribute "index" apos).Call [e] [] pos) env = (do let ov ← eval o env; standAt apos.atName; let (f, first) ← holding [ov] (getMethod ov "index" pl); callWith pos f first (backTo pos (starEach [e] env)) []) := by rfl) :
    Ev W A env σ (.Call (.Attribute o "index" apos) [e] [] pos) (dN j) := by
  refine ev_methL (pl := pl) ho PySem.F.slot_list_index PySem.F.type_list_index (evs_cons h evs_nil hs) ?_ (fun v Q E s hq => callWith_method1 (e := e) (rest := []) hq hs rfl) hm
  have key : ∀ (j : Nat), [S [97, 109, 112], S [108, 116], S [103, 116]][j]? = some (S nm) → (∀ m y, m < j → [S [97, 109, 112], S [108, 116], S [103, 116]][m]? = some y → (y == S nm) = false) → CallV W A (.builtin "list.index") [.lst [.str (S [97, 109, 112]), .str (S [108, 116]), .str (S [103, 116])], .str (S nm)] (dN j) :=
    fun j h1 h2 => cv_index (ys := [S [97, 109, 112], S [108, 116], S [103, 116]]) h1 h2 (by decide)
  unfold idxP at hj
  split at hj
  · next hn => subst hn; cases hj; exact key 0 rfl (fun m y hm => absurd hm (by walk_at "lx"))
  · split at hj
    · next hn =>
      subst hn; cases hj
      refine key 1 rfl (fun m y hm e => ?_)
      have : m = 0 := by walk_at "lx"
      subst this; cases e; decide +kernel
    · split at hj
      · next hn =>
        subst hn; cases hj
        refine key 2 rfl (fun m y hm e => ?_)
        have : m = 0 ∨ m = 1 := by walk_at "lx"
        rcases this with rfl | rfl <;> (cases e; decide +kernel)
      · cases hj
end
variable (w : World) (mean : ExcName → Option Value) (mg mb : PySem.Str → Option Value)
set_option maxHeartbeats 400000
theorem steps_ok (f : Nat) (l st : List Nat) (hl : l.length ≤ f) (hf : f ≤ 100) (hst : stepsGo (symGo f l) [] [] = some st) (hn : (symGo f l).length ≤ 100) : CallOk (W1 w mean mg mb) 2 94 [.str (S l)] (dL st) := by
  refine def_ok (names := [PySem.Str.ofString "page"]) rfl rfl (all1 fun _ => rfl) (by decide) (by walk_at "names") rfl rfl rfl rfl ?_
  · intro A L F
    show X _ _ _ [(PySem.Str.ofString "page", Slot.val (D.str (S l)))] _ _
    refine x_cons (x_tupOwn2 (x := PySem.Str.ofString "steps") (y := PySem.Str.ofString "name") (ds := []) F (evF_list evs_nil (by decide)) (ev_str) rfl rfl (by decide) rfl rfl) ?_
    suffices hs : ∃ nm, X1 (W1 w mean mg mb) A (envOfC (PySem.Str.ofString "_law_steps") _ L 94 (.ref 93)) [(PySem.Str.ofString "page", Slot.val (D.str (S l))), (PySem.Str.ofString "steps", Slot.own []), (PySem.Str.ofString "name", Slot.val (D.str (S [])))] _ (.next [(PySem.Str.ofString "page", Slot.val (D.str (S l))), (PySem.Str.ofString "steps", Slot.own (st.map dN)), (PySem.Str.ofString "name", Slot.val (D.str (S nm)))]) by
      obtain ⟨nm, h⟩ := hs
      refine x_cons (x1_weak ?_ h) (x_freeze (x := PySem.Str.ofString "steps") (by walk_at "mem") (x_stop (x_ret (by walk_at "ev"))))
      refine List.forall_mem_cons.mpr ⟨by walk_at "mem", List.forall_mem_cons.mpr ⟨by walk_at "mem", List.forall_mem_cons.mpr ⟨?_, List.forall_mem_nil _⟩⟩⟩
      show (PySem.Str.ofString "name", Slot.val (D.str (PySem.Str.ofString ""))) ∈ _
      walk_at "mem"
    suffices hs : ∀ (ys : List Sym) (s0 n0 : List Nat), stepsGo ys s0 n0 = some st → s0.length + ys.length ≤ 100 → ∃ nm, ForRun (fun d σ o => ∃ σ₁, Asg (W1 w mean mg mb) A (envOfC (PySem.Str.ofString "_law_steps") _ L 94 (.ref 93)) (.Name (PySem.Str.ofString "symbol") _) d σ σ₁ ∧ X (W1 w mean mg mb) A (envOfC (PySem.Str.ofString "_law_steps") _ L 94 (.ref 93)) σ₁ _ o) (ys.map Sym.d) [(PySem.Str.ofString "page", Slot.val (D.str (S l))), (PySem.Str.ofString "steps", Slot.own (s0.map dN)), (PySem.Str.ofString "name", Slot.val (D.str (S n0)))] (.next [(PySem.Str.ofString "page", Slot.val (D.str (S l))), (PySem.Str.ofString "steps", Slot.own (st.map dN)), (PySem.Str.ofString "name", Slot.val (D.str (S nm)))]) by
      obtain ⟨nm, h⟩ := hs (symGo f l) [] [] hst (by simpa using hn)
      exact ⟨nm, x_for (ev_call F rfl rfl (by decide) rfl (by walk_at "evs") (symbols_ok w mean mg mb f l hl hf) (by walk_at "lx")) (iter_list F.hh) h⟩
    intro ys
    clear hst hn
    have hPG : ∃ dp, dp = Slot.val (D.str (S l)) := ⟨_, rfl⟩
    obtain ⟨dp, hdp⟩ := hPG
    rw [← hdp]
    clear hdp hl hf
    induction ys with
    | nil => intro s0 n0 h _; cases h; exact ⟨n0, .nil⟩
    | cons y ys ih =>
      intro s0 n0 h hlen
      rw [List.length_cons] at hlen
      unfold stepsGo at h
      split at h
      · next st' nm' hy =>
        have hl' := stepSym_len hy
        obtain ⟨nm, hr⟩ := ih st' nm' h (by walk_at "lx")
        refine ⟨nm, .next ⟨_, asg_name F rfl, ?_⟩ hr⟩
        have hs0 : (s0.map dN).length ≤ 1000 := by rw [List.length_map]; walk_at "lx"
        clear ih hr
        cases y with
        | txt x =>
          simp only [stepSym] at hy
          split at hy
          · next hxl =>
            cases hy
            rw [← S_append]
            show X _ _ _ (upd _ _ (.val (D.str (S x)))) _ _
            refine x_weakO (x_cons (x_if (b := false) (tr_cmp (by walk_at "ev") (by walk_at "ev") op_eqSI rfl) (fun h => nomatch h) fun _ => x_cons (x_if (b := false) (tr_cmp (by walk_at "ev") (by walk_at "ev") op_eqSI rfl) (fun h => nomatch h) fun _ => x_cons (x_if (b := false) (tr_cmp (by walk_at "ev") (ev_tuple (ds := ([18, 20, 21, 33, 34] : List Int).map D.int) (show Evs _ _ _ _ _ [.int 18, .int 20, .int 21, .int 33, .int 34] by walk_at "evs") (by decide)) op_inST rfl) (fun h => nomatch h) fun _ => x_cons (x_aug F (by walk_at "mem") rfl (by walk_at "ev") (op_iaddS (by rw [S_len, S_len]; walk_at "lx"))) x_nil) x_nil) x_nil) x_nil) (by walk_at "sub")
          · cases hy
        | num k =>
          show X _ _ _ (upd _ _ (.val (dN k))) _ _
          simp only [stepSym] at hy
          split at hy
          · next hk =>
            cases hy; subst hk
            exact x_weakO (x_cons (x_if (b := true) (tr_to (by walk_at "tr") (by decide)) (fun _ => x_cons (x_assign (d := .str (S [])) F ev_str rfl) x_nil) (fun h => nomatch h)) x_nil) (by walk_at "sub")
          · split at hy
            · next hk =>
              subst hk
              cases hj : idxP n0 with
              | none => rw [hj] at hy; cases hy
              | some j =>
                rw [hj] at hy; cases hy
                rw [List.map_append, List.map_cons, List.map_nil]
                exact x_weakO (x_cons (x_if (b := false) (tr_to (by walk_at "tr") (by decide)) (fun h => nomatch h) fun _ => x_cons (x_if (b := true) (tr_to (by walk_at "tr") (by decide)) (fun _ => x_cons (x_append (d := dN (2 + j)) F (by walk_at "mem") (show Ev _ _ _ _ _ (D.int ((2 : Int) + (j : Int))) from ev_bin ev_int (ev_index3 (evF_list (evs_cons ev_str (evs_cons ev_str (evs_cons ev_str evs_nil))) (by decide)) (by walk_at "ev") hj) op_add) (by walk_at "lx") (by decide) rfl) x_nil) (fun h => nomatch h)) x_nil) x_nil) (by walk_at "sub")
            · split at hy
              · next hk =>
                rcases hk with hk | hk | hk <;> (cases hy; subst hk; rw [List.map_append, List.map_cons, List.map_nil])
                · exact x_weakO (x_cons (x_if (b := false) (tr_to (by walk_at "tr") (by decide)) (fun h => nomatch h) fun _ => x_cons (x_if (b := false) (tr_to (by walk_at "tr") (by decide)) (fun h => nomatch h) fun _ => x_cons (x_if (b := true) (tr_to (tr_cmp (by walk_at "ev") (ev_tuple (ds := ([18, 20, 21, 33, 34] : List Int).map D.int) (show Evs _ _ _ _ _ [.int 18, .int 20, .int 21, .int 33, .int 34] by walk_at "evs") (by decide)) op_inIT rfl) (by decide)) (fun _ => x_cons (x_append (d := dN (18 - 17)) F (by walk_at "mem") (ev_if (b := true) (tr_to (by walk_at "tr") (by decide)) (fun _ => show Ev _ _ _ _ _ (D.int (((18 : Nat) : Int) - 17)) from ev_bin (by walk_at "ev") ev_int op_sub) (fun h => nomatch h)) (by walk_at "lx") (by decide) rfl) x_nil) (fun h => nomatch h)) x_nil) x_nil) x_nil) (by walk_at "sub")
                · exact x_weakO (x_cons (x_if (b := false) (tr_to (by walk_at "tr") (by decide)) (fun h => nomatch h) fun _ => x_cons (x_if (b := false) (tr_to (by walk_at "tr") (by decide)) (fun h => nomatch h) fun _ => x_cons (x_if (b := true) (tr_to (tr_cmp (by walk_at "ev") (ev_tuple (ds := ([18, 20, 21, 33, 34] : List Int).map D.int) (show Evs _ _ _ _ _ [.int 18, .int 20, .int 21, .int 33, .int 34] by walk_at "evs") (by decide)) op_inIT rfl) (by decide)) (fun _ => x_cons (x_append (d := dN (20 - 17)) F (by walk_at "mem") (ev_if (b := true) (tr_to (by walk_at "tr") (by decide)) (fun _ => show Ev _ _ _ _ _ (D.int (((20 : Nat) : Int) - 17)) from ev_bin (by walk_at "ev") ev_int op_sub) (fun h => nomatch h)) (by walk_at "lx") (by decide) rfl) x_nil) (fun h => nomatch h)) x_nil) x_nil) x_nil) (by walk_at "sub")
                · exact x_weakO (x_cons (x_if (b := false) (tr_to (by walk_at "tr") (by decide)) (fun h => nomatch h) fun _ => x_cons (x_if (b := false) (tr_to (by walk_at "tr") (by decide)) (fun h => nomatch h) fun _ => x_cons (x_if (b := true) (tr_to (tr_cmp (by walk_at "ev") (ev_tuple (ds := ([18, 20, 21, 33, 34] : List Int).map D.int) (show Evs _ _ _ _ _ [.int 18, .int 20, .int 21, .int 33, .int 34] by walk_at "evs") (by decide)) op_inIT rfl) (by decide)) (fun _ => x_cons (x_append (d := dN (21 - 17)) F (by walk_at "mem") (ev_if (b := true) (tr_to (by walk_at "tr") (by decide)) (fun _ => show Ev _ _ _ _ _ (D.int (((21 : Nat) : Int) - 17)) from ev_bin (by walk_at "ev") ev_int op_sub) (fun h => nomatch h)) (by walk_at "lx") (by decide) rfl) x_nil) (fun h => nomatch h)) x_nil) x_nil) x_nil) (by walk_at "sub")
              · split at hy
                · next hk =>
                  rcases hk with hk | hk <;> (cases hy; subst hk; rw [List.map_append, List.map_cons, List.map_nil])
                  · exact x_weakO (x_cons (x_if (b := false) (tr_to (by walk_at "tr") (by decide)) (fun h => nomatch h) fun _ => x_cons (x_if (b := false) (tr_to (by walk_at "tr") (by decide)) (fun h => nomatch h) fun _ => x_cons (x_if (b := true) (tr_to (tr_cmp (by walk_at "ev") (ev_tuple (ds := ([18, 20, 21, 33, 34] : List Int).map D.int) (show Evs _ _ _ _ _ [.int 18, .int 20, .int 21, .int 33, .int 34] by walk_at "evs") (by decide)) op_inIT rfl) (by decide)) (fun _ => x_cons (x_append (d := dN (33 - 30)) F (by walk_at "mem") (ev_if (b := false) (tr_to (by walk_at "tr") (by decide)) (fun h => nomatch h) (fun _ => show Ev _ _ _ _ _ (D.int (((33 : Nat) : Int) - 30)) from ev_bin (by walk_at "ev") ev_int op_sub)) (by walk_at "lx") (by decide) rfl) x_nil) (fun h => nomatch h)) x_nil) x_nil) x_nil) (by walk_at "sub")
                  · exact x_weakO (x_cons (x_if (b := false) (tr_to (by walk_at "tr") (by decide)) (fun h => nomatch h) fun _ => x_cons (x_if (b := false) (tr_to (by walk_at "tr") (by decide)) (fun h => nomatch h) fun _ => x_cons (x_if (b := true) (tr_to (tr_cmp (by walk_at "ev") (ev_tuple (ds := ([18, 20, 21, 33, 34] : List Int).map D.int) (show Evs _ _ _ _ _ [.int 18, .int 20, .int 21, .int 33, .int 34] by walk_at "evs") (by decide)) op_inIT rfl) (by decide)) (fun _ => x_cons (x_append (d := dN (34 - 30)) F (by walk_at "mem") (ev_if (b := false) (tr_to (by walk_at "tr") (by decide)) (fun h => nomatch h) (fun _ => show Ev _ _ _ _ _ (D.int (((34 : Nat) : Int) - 30)) from ev_bin (by walk_at "ev") ev_int op_sub)) (by walk_at "lx") (by decide) rfl) x_nil) (fun h => nomatch h)) x_nil) x_nil) x_nil) (by walk_at "sub")
                · cases hy
      · cases h
end
section
noncomputable def descGo : Nat → Nat → List Nat
  | _, 0 => []
  | a, n + 1 => a :: descGo (a - 1) n
theorem rngL_desc : ∀ (n a : Nat), n ≤ a + 1 → rngL (a : Int) (-1) n = (descGo a n).map dN
  | 0, _, _ => rfl
  | n + 1, a, h => by
    rw [rngL, descGo, List.map_cons]
    congr 1
    cases n with
    | zero => rfl
    | succ n =>
      rw [← rngL_desc (n + 1) (a - 1) (by walk_at "lx")]
      congr 1
      walk_at "lx"
theorem rngL_up : ∀ (n a : Nat), rngL (a : Int) 1 n = (List.range' a n).map dN
  | 0, _ => rfl
  | n + 1, a => by
    rw [rngL, List.range'_succ, List.map_cons, ← rngL_up n (a + 1)]
    rfl
noncomputable def stairsOf (top : Nat) : List (List Nat) := (List.range' 1 top).map fun v => descGo top (top + 1 - v)
noncomputable def stairsP (top : Nat) : List Nat := (stairsOf top).flatten
noncomputable def wordP (l : List Nat) : List Nat := (apGo 15 (numP l 0) []).map UInt8.toNat
/-- one row -/
noncomputable def rowBad (text : List Nat) (slen q : Nat) (row : List Nat) : Bool := ((levP (wordP row) text (2 * (slen - row.length)) : Int) == ((2 * (slen - row.length) : Nat) : Int)) != decide ((0 : Int) < (levelsP q row : Nat))
noncomputable def agreeGo (text : List Nat) (slen q : Nat) : List (List Nat) → Nat → Nat → Option (Nat × Nat)
  | [], l, r => some (l, r)
  | row :: rows, l, r => if rowBad text slen q row then none else agreeGo text slen q rows (l + weightGo q row 0 9 1) (r + levelsP q row)
noncomputable def prodGo (q : Nat) : Nat → Nat → Nat → Nat
  | _, 0, r => r
  | v, n + 1, r => prodGo q (v + 1) n (r * shortP v q)
noncomputable def agreeP (rows : List (List Nat)) (top q : Nat) : Bool := match agreeGo (wordP (stairsP top)) (stairsP top).length q rows 0 0 with
  | none => false
  | some (l, r) => (l : Int) == (prodGo q 1 (rows.headD []).length r : Nat)
theorem range3 : ∀ top : _root_.Fin 6, ∀ v : _root_.Fin 6, 1 ≤ v.val → v.val ≤ top.val → Builtin.Range.small (top.val : Int) ((v.val : Int) - 1) (-1) = true ∧ Builtin.Range.rangeSize (top.val : Int) ((v.val : Int) - 1) (-1) = ((top.val + 1 - v.val : Nat) : Int) ∧ Builtin.divisionGoesByPylong (((v.val : Int) - 1) - (top.val : Int)) (-1) = false := by decide +kernel
theorem apGo_lt : ∀ (f n : Nat) (acc : List UInt8), (∀ b ∈ acc, b.toNat < 128) → ∀ b ∈ apGo f n acc, b.toNat < 128
  | 0, _, _, h, b, hb => h b hb
  | f + 1, n, acc, h, b, hb => by
    unfold apGo at hb
    split at hb
    · exact h b hb
    · refine apGo_lt f (n / 16) _ (fun c hc => ?_) b hb
      rcases List.mem_cons.mp hc with rfl | hc
      · have : 65 + n % 16 < 256 := by walk_at "lx"
        rw [UInt8.toNat_ofNat']; walk_at "lx"
      · exact h c hc
theorem wordP_ok (l : List Nat) : (∀ c ∈ wordP l, c < 128) ∧ (wordP l).length ≤ 15 := by
  constructor
  · intro c hc
    obtain ⟨b, hb, rfl⟩ := List.mem_map.mp hc
    exact apGo_lt _ _ _ (by simp) b hb
  · unfold wordP; rw [List.length_map]; exact apGo_len 15 _ []
theorem x1_weakO' {W : WP} {A : Around} {env : Env} {σ σ' σ₁ : Sto} {st : Stmt} (h : X1 W A env σ st (.next σ₁)) (hs : ∀ p ∈ σ', p ∈ σ₁) : X1 W A env σ st (.next σ') := fun kp fz₀ fz ad m s Q E H p => h _ _ _ _ _ _ _ _ H fun fz ad m h tk H' => p _ _ _ _ _ (H'.weaken hs)
noncomputable def outOf {α : Type} (d : D) (σf : α → Sto) : Option α → Out
  | none => .ret d
  | some p => .next (σf p)
theorem x_cases {W : WP} {A : Around} {env : Env} {σ : Sto} {α : Type} {st : Stmt} {rest : List Stmt} {o : Option α} {d dd : D} {σf : α → Sto} (h : X1 W A env σ st (outOf d σf o)) (hn : o = none → dd = d) (hs : ∀ p, o = some p → X W A env (σf p) rest (.ret dd)) : X W A env σ (st :: rest) (.ret dd) := by
  cases o with
  | none => rw [hn rfl]; exact x_stop h
  | some p => exact x_cons h (hs p rfl)
theorem agree_loop {step : D → Sto → Out → Prop} (σ : Nat → Nat → Sto) (text : List Nat) (slen q : Nat) (h : ∀ (row : List Nat) (l r : Nat), (row.length ≤ 5 ∧ ∀ k ∈ row, 1 ≤ k ∧ k ≤ 5) → step (dL row) (σ l r) (if rowBad text slen q row then .ret (.bool false) else .next (σ (l + weightGo q row 0 9 1) (r + levelsP q row)))) :
    ∀ (rs : List (List Nat)) (l r : Nat), (∀ x ∈ rs, x.length ≤ 5 ∧ ∀ k ∈ x, 1 ≤ k ∧ k ≤ 5) → ForRun step (dR rs) (σ l r) (outOf (.bool false) (fun p => σ p.1 p.2) (agreeGo text slen q rs l r))
  | [], l, r, _ => .nil
  | row :: rs, l, r, hr => by
    have h1 := h row l r (hr row (.head _))
    unfold agreeGo
    cases hb : rowBad text slen q row with
    | true => rw [hb] at h1; exact .ret h1
    | false => rw [hb] at h1; exact .next h1 (agree_loop σ text slen q h rs _ _ fun x hx => hr x (.tail _ hx))
theorem prod_loop {step : D → Sto → Out → Prop} (σ : Nat → Sto) (q : Nat) (h : ∀ v r : Nat, 1 ≤ v → v ≤ 5 → step (.int (v : Int)) (σ r) (.next (σ (r * shortP v q)))) :
    ∀ (n v r : Nat), v + n ≤ 6 → 1 ≤ v → ForRun step (rngL (v : Int) 1 n) (σ r) (.next (σ (prodGo q v n r)))
  | 0, v, r, _, _ => .nil
  | n + 1, v, r, h6, h1 => by
    rw [rngL, prodGo]
    exact .next (h v r h1 (by walk_at "lx")) (prod_loop σ q h n (v + 1) _ (by walk_at "lx") (by walk_at "lx"))
variable (w : World) (mean : ExcName → Option Value) (mg mb : PySem.Str → Option Value)
set_option maxHeartbeats 400000
theorem agree_ok (rows : List (List Nat)) (top q : Nat) (ht : top = 4 ∨ top = 5) (h2 : 2 ≤ q) (h17 : q ≤ 17) (hr : ∀ r ∈ rows, r.length ≤ 5 ∧ ∀ k ∈ r, 1 ≤ k ∧ k ≤ 5) (hne : rows ≠ []) (hz : rows.length ≤ 1000) : CallOk (W1 w mean mg mb) 4 144 [.lst (dR rows), dN top, dN q] (.bool (agreeP rows top q)) := by
  have hlen : (stairsP top).length = 10 ∨ (stairsP top).length = 15 := by rcases ht with rfl | rfl <;> decide
  have hsk : ∀ k ∈ stairsP top, k < 16 := by rcases ht with rfl | rfl <;> decide
  have hgap : ∀ n : Nat, n ≤ 5 → 2 * ((stairsP top).length - n) ≤ 10000 ∧ n ≤ (stairsP top).length := by walk_at "lx"
  refine def_ok (names := [PySem.Str.ofString "rows", PySem.Str.ofString "top", PySem.Str.ofString "base"]) rfl rfl (all3 fun _ _ _ => rfl) (by decide) (by walk_at "names") rfl rfl rfl rfl ?_
  · intro A L F
    show X _ _ _ [(PySem.Str.ofString "rows", Slot.val (.lst (dR rows))), (PySem.Str.ofString "top", Slot.val (dN top)), (PySem.Str.ofString "base", Slot.val (dN q))] _ _
    have htop5 : top ≤ 5 := by walk_at "lx"
    refine x_cons (x_comp2 F (cl := [(PySem.Str.ofString "top", L + 1)]) (cap := [(PySem.Str.ofString "top", dN top)]) (ds := (List.range' 1 top).map dN) (os := (stairsOf top).map fun l => l.map dN) (by walk_at "ev") ?_ rfl rfl rfl (by decide) rfl (by decide) ?_ ?_ ?_) ?_
    · rw [← rngL_up top 1]
      exact iter_rng F.hh (smallA (by walk_at "lx")) (rangeSizeA top)
    · intro C
      refine ⟨fun x c h => ?_, fun p hp => ?_⟩
      · have h' : List.lookup x [(PySem.Str.ofString "top", L + 1)] = some c := h
        rw [List.lookup_cons] at h'
        split at h'
        · next hx => rw [beq_iff_eq] at hx; subst hx; exact h'
        · cases h'
      · rw [List.mem_singleton.mp hp]
        exact ⟨by walk_at "mem", (fun h => by have h2 : some NameKind.cell = some NameKind.local := h; cases h2), rfl, rfl⟩
    · intro C FC
      unfold stairsOf
      rw [List.map_map]
      refine All2.map dN _ fun v hv => ?_
      have hv' : 1 ≤ v ∧ v ≤ top := by have := List.mem_range'_1.mp hv; walk_at "lx"
      obtain ⟨r1, r2, r3⟩ := range3 ⟨top, by walk_at "lx"⟩ ⟨v, by walk_at "lx"⟩ hv'.1 hv'.2
      refine ⟨_, .rng (top : Int) ((v : Int) - 1) (-1), (descGo top (top + 1 - v)).map dN, asg_name FC rfl, ?_, ?_, ?_, ?_⟩
      · exact fun p hp => by rw [List.mem_singleton.mp hp]; exact upd_of (x := PySem.Str.ofString "level") (y := PySem.Str.ofString "top") (by decide) (.head _)
      · exact ev_callT FC rfl rfl boot_range (by decide) (by decide) (evs_cons (ev_name FC (upd_of (x := PySem.Str.ofString "level") (y := PySem.Str.ofString "top") (by decide) (.head _)) (by decide)) (evs_cons (ev_bin (ev_name FC upd_self (by decide)) ev_int op_sub) (evs_cons (ev_un ev_int op_neg) evs_nil))) (cv_rng3 (by decide) r3)
      · rw [← rngL_desc _ _ (by walk_at "lx")]
        exact iter_rng FC.hh r1 r2
      · refine All2.map dN dN fun k _ => ⟨_, asg_name FC rfl, ?_, ev_name FC upd_self (by decide)⟩
        intro p hp
        have hn : p.1 ≠ PySem.Str.ofString "step" := by
          rcases mem_upd (show (p.1, p.2) ∈ _ from hp) with ⟨h, _⟩ | ⟨_, h⟩
          · rw [h]; decide
          · rw [show p.1 = PySem.Str.ofString "top" from congrArg Prod.fst (List.mem_singleton.mp h)]; decide
        exact upd_of hn hp
    · have e : ((stairsOf top).map fun l => l.map dN).flatten.length = (stairsP top).length := by
        unfold stairsP; rw [← List.map_flatten, List.length_map]
      walk_at "lx"
    have e : ((stairsOf top).map fun l => l.map dN).flatten = (stairsP top).map dN := by
      unfold stairsP; rw [← List.map_flatten]
    rw [e]
    unfold agreeP
    generalize stairsP top = st at hlen hsk hgap ⊢
    have hW := wordP_ok st
    refine x_freeze (x := PySem.Str.ofString "stairs") (by walk_at "mem") ?_
    refine x_weak (σ' := [(PySem.Str.ofString "rows", Slot.val (.lst (dR rows))), (PySem.Str.ofString "base", Slot.val (dN q)), (PySem.Str.ofString "stairs", Slot.val (dL st))]) (by walk_at "sub") ?_
    refine x_cons (x_tupS (ds := [.str (S (wordP st)), .int 0, .int 0]) F.hh (ev_tuple (evs_cons (ev_call F rfl rfl (by decide) rfl (by walk_at "evs") (word_ok w mean mg mb st hsk (by walk_at "lx")) (by walk_at "lx")) (by walk_at "evs")) (Nat.le_of_ble_eq_true rfl)) (by rfl) (names := [PySem.Str.ofString "text", PySem.Str.ofString "left", PySem.Str.ofString "right"]) (bndl_cons (bnd_name F rfl) (bndl_cons (bnd_name F rfl) (bndl_cons (bnd_name F rfl) bndl_nil))) rfl rfl) ?_
    refine x_weak (σ' := [(PySem.Str.ofString "rows", Slot.val (.lst (dR rows))), (PySem.Str.ofString "base", Slot.val (dN q)), (PySem.Str.ofString "stairs", Slot.val (dL st)), (PySem.Str.ofString "text", Slot.val (.str (S (wordP st)))), (PySem.Str.ofString "left", Slot.val (.int 0)), (PySem.Str.ofString "right", Slot.val (.int 0))]) (by walk_at "sub") ?_
    refine x_cases (o := agreeGo (wordP st) st.length q rows 0 0) (d := .bool false) (σf := fun p => [(PySem.Str.ofString "rows", Slot.val (.lst (dR rows))), (PySem.Str.ofString "base", Slot.val (dN q)), (PySem.Str.ofString "stairs", Slot.val (dL st)), (PySem.Str.ofString "text", Slot.val (.str (S (wordP st)))), (PySem.Str.ofString "left", Slot.val (dN p.1)), (PySem.Str.ofString "right", Slot.val (dN p.2))]) ?_ (fun h => by rw [h]) fun p hp => ?_
    · refine x_for (ds := dR rows) (by walk_at "ev") (iter_list F.hh) ?_
      refine agree_loop (fun l r => [(PySem.Str.ofString "rows", Slot.val (.lst (dR rows))), (PySem.Str.ofString "base", Slot.val (dN q)), (PySem.Str.ofString "stairs", Slot.val (dL st)), (PySem.Str.ofString "text", Slot.val (.str (S (wordP st)))), (PySem.Str.ofString "left", Slot.val (dN l)), (PySem.Str.ofString "right", Slot.val (dN r))]) (wordP st) st.length q ?_ rows 0 0 hr
      intro row l r hrow
      refine ⟨_, asg_name F rfl, ?_⟩
      obtain ⟨hl5, hk5⟩ := hrow
      have hg : dN (2 * (st.length - row.length)) = D.int ((2 : Int) * (((st.map dN).length : Int) - ((row.map dN).length : Int))) := by
        show D.int _ = D.int _
        congr 1
        rw [List.length_map, List.length_map]
        have := hgap row.length hl5
        walk_at "lx"
      have hm := hgap row.length hl5
      have hWr := wordP_ok row
      have hst := hlen
      unfold rowBad
      generalize 2 * (st.length - row.length) = m at hg hm ⊢
      cases hb : ((levP (wordP row) (wordP st) m : Int) == ((m : Nat) : Int)) != decide ((0 : Int) < (levelsP q row : Nat)) with
      | true =>
        rw [if_pos rfl]
        refine x_cons (x_tupS (ds := [dN (levelsP q row), dN m]) F.hh (ev_tuple (evs_cons (ev_call F rfl rfl (by decide) rfl (by walk_at "evs") (levels_ok w mean mg mb row q h2 h17 (fun k hk => (hk5 k hk).2)) (by walk_at "lx")) (evs_cons (by rw [hg]; walk_at "ev") evs_nil)) (Nat.le_of_ble_eq_true rfl)) (by rfl) (names := [PySem.Str.ofString "levels", PySem.Str.ofString "gap"]) (bndl_cons (bnd_name F rfl) (bndl_cons (bnd_name F rfl) bndl_nil)) rfl rfl) ?_
        refine x_stop (x_if (b := true) ?_ (fun _ => x_stop (x_ret ev_bool)) (fun h => nomatch h))
        exact tr_to (tr_cmp (ev_cmp (ev_call F rfl rfl (by decide) rfl (evs_cons (ev_call F rfl rfl (by decide) rfl (by walk_at "evs") (word_ok w mean mg mb row (fun k hk => by have := hk5 k hk; walk_at "lx") (by walk_at "lx")) (by walk_at "lx")) (by walk_at "evs")) (lev_ok w mean mg mb (wordP row) (wordP st) m hWr.1 hW.1 (by walk_at "lx") (by walk_at "lx") hm.1) (by walk_at "lx")) (by walk_at "ev") op_eqI rfl) (by walk_at "ev") op_neB rfl) hb
      | false =>
        rw [if_neg (by decide)]
        refine x_cons (x_tupS (ds := [dN (levelsP q row), dN m]) F.hh (ev_tuple (evs_cons (ev_call F rfl rfl (by decide) rfl (by walk_at "evs") (levels_ok w mean mg mb row q h2 h17 (fun k hk => (hk5 k hk).2)) (by walk_at "lx")) (evs_cons (by rw [hg]; walk_at "ev") evs_nil)) (Nat.le_of_ble_eq_true rfl)) (by rfl) (names := [PySem.Str.ofString "levels", PySem.Str.ofString "gap"]) (bndl_cons (bnd_name F rfl) (bndl_cons (bnd_name F rfl) bndl_nil)) rfl rfl) ?_
        refine x_weakO (x_cons (x_if (b := false) ?_ (fun h => nomatch h) (fun _ => x_nil)) (x_cons (x_aug (d := dN (l + weightGo q row 0 9 1)) F (by walk_at "mem") rfl (ev_call F rfl rfl (by decide) rfl (by walk_at "evs") (weight_ok w mean mg mb row q h2 h17 (fun k hk => (hk5 k hk).2) (by walk_at "lx")) (by walk_at "lx")) op_iaddI) (x_cons (x_aug (d := dN (r + levelsP q row)) F (by walk_at "mem") rfl (by walk_at "ev") op_iaddI) x_nil))) (by walk_at "sub")
        exact tr_to (tr_cmp (ev_cmp (ev_call F rfl rfl (by decide) rfl (evs_cons (ev_call F rfl rfl (by decide) rfl (by walk_at "evs") (word_ok w mean mg mb row (fun k hk => by have := hk5 k hk; walk_at "lx") (by walk_at "lx")) (by walk_at "lx")) (by walk_at "evs")) (lev_ok w mean mg mb (wordP row) (wordP st) m hWr.1 hW.1 (by walk_at "lx") (by walk_at "lx") hm.1) (by walk_at "lx")) (by walk_at "ev") op_eqI rfl) (by walk_at "ev") op_neB rfl) hb
    · rw [hp]
      obtain ⟨l, r⟩ := p
      cases rows with
      | nil => exact absurd rfl hne
      | cons r0 rs =>
        have hr0 := (hr r0 (.head _)).1
        show X _ _ _ [_, _, _, _, (_, Slot.val (dN l)), (_, Slot.val (dN r))] _ (.ret (.bool ((l : Int) == (prodGo q 1 r0.length r : Nat))))
        refine x_cons (σ₁ := [(PySem.Str.ofString "left", Slot.val (dN l)), (PySem.Str.ofString "right", Slot.val (dN (prodGo q 1 r0.length r)))]) ?_ (x_stop (x_ret (by walk_at "ev")))
        refine x1_weak (σ' := [(PySem.Str.ofString "rows", Slot.val (.lst (dR (r0 :: rs)))), (PySem.Str.ofString "base", Slot.val (dN q)), (PySem.Str.ofString "left", Slot.val (dN l)), (PySem.Str.ofString "right", Slot.val (dN r))]) (by walk_at "sub") ?_
        refine x1_weakO' (σ₁ := [(PySem.Str.ofString "rows", Slot.val (.lst (dR (r0 :: rs)))), (PySem.Str.ofString "base", Slot.val (dN q)), (PySem.Str.ofString "left", Slot.val (dN l)), (PySem.Str.ofString "right", Slot.val (dN (prodGo q 1 r0.length r)))]) ?_ (by walk_at "sub")
        refine x_for (d := .rng 1 (((r0.map dN).length : Int) + 1) 1) (ds := rngL 1 1 r0.length) (ev_callT F rfl rfl boot_range (by decide) (by decide) (evs_cons ev_int (evs_cons (ev_bin (ev_callB F rfl rfl boot_len (by decide) (by decide) (evs_cons (ev_itemL (xs := dR (r0 :: rs)) (d := dL r0) (by walk_at "ev") ev_int (by decide) rfl (by unfold dR; rw [List.length_map]; walk_at "lx")) evs_nil) (cv_lenL (by rw [List.length_map]; walk_at "lx"))) ev_int op_add) evs_nil)) cv_rng2) (by rw [List.length_map]; exact iter_rng F.hh (smallA (by walk_at "lx")) (rangeSizeA r0.length)) ?_
        refine prod_loop (fun r => [(PySem.Str.ofString "rows", Slot.val (.lst (dR (r0 :: rs)))), (PySem.Str.ofString "base", Slot.val (dN q)), (PySem.Str.ofString "left", Slot.val (dN l)), (PySem.Str.ofString "right", Slot.val (dN r))]) q ?_ r0.length 1 r (by walk_at "lx") (by walk_at "lx")
        intro v r h1 h5
        refine ⟨_, asg_name F rfl, x_weakO (x_cons (x_aug (d := dN (r * shortP v q)) (d₁ := dN r) (d₂ := dN (shortP v q)) F (by walk_at "mem") rfl (ev_call F rfl rfl (by decide) rfl (by walk_at "evs") (short_ok w mean mg mb v q h2 h17 (by walk_at "lx")) (by walk_at "lx")) ?_) x_nil) (by walk_at "sub")⟩
        have hs := shortP_lt (n := v) (by walk_at "lx") h17
        rw [show dN (r * shortP v q) = D.int ((r : Int) * ((shortP v q : Nat) : Int)) by show D.int _ = D.int _; simp]
        exact op_imulI (mulR (by walk_at "lx"))
end
section
noncomputable def drawP (i : Int) : Nat := (i.fmod 1000000).toNat
noncomputable def drawsP (ns : List Int) : List Nat := (ns.take 5).map drawP ++ [12, 13, 16, 10, 18].drop (ns.take 5).length
theorem drawsP_len (ns : List Int) : (drawsP ns).length = 5 := by
  unfold drawsP; simp; walk_at "lx"
noncomputable def signC (k : Nat) : Nat := [124, 38, 60, 62].getD k 0
theorem drawP_eq (i : Int) : dN (drawP i) = D.int (i.fmod (10 ^ (6 : Int).toNat)) := by
  show D.int _ = D.int _
  have h : (10 : Int) ^ (6 : Int).toNat = 1000000 := by decide
  rw [h]
  have : 0 ≤ i.fmod 1000000 := Int.fmod_nonneg_of_pos i (by decide)
  unfold drawP
  congr 1
  walk_at "lx"
section
variable {W : WP} {A : Around} {env : Env} {σ : Sto}
theorem ev_modN {e₁ e₂ : PySem.Expr} {pos : Pos} {a b : Nat} (h₁ : Ev W A env σ e₁ (dN a)) (h₂ : Ev W A env σ e₂ (dN b)) (hb : b ≠ 0) : Ev W A env σ (.BinOp e₁ .Mod e₂ pos) (dN (a % b)) := by
  rw [show dN (a % b) = D.int ((a : Int).fmod (b : Int)) by
    show D.int _ = D.int _
    rw [Int.fmod_eq_emod_of_nonneg _ (by walk_at "lx")]; rfl]
  exact ev_bin h₁ h₂ (op_mod (by walk_at "lx"))
theorem ev_divN {e₁ e₂ : PySem.Expr} {pos : Pos} {a b : Nat} (h₁ : Ev W A env σ e₁ (dN a)) (h₂ : Ev W A env σ e₂ (dN b)) (hb : b ≠ 0) (hz : b < 1073741824) : Ev W A env σ (.BinOp e₁ .FloorDiv e₂ pos) (dN (a / b)) := by
  rw [show dN (a / b) = D.int ((a : Int).fdiv (b : Int)) by
    show D.int _ = D.int _
    rw [Int.fdiv_eq_ediv_of_nonneg _ (by walk_at "lx")]; rfl]
  exact ev_bin h₁ h₂ (op_div (by walk_at "lx") (PyProof.noPylong_small (by walk_at "lx")))
theorem ev_subN {e₁ e₂ : PySem.Expr} {pos : Pos} {a b : Nat} (h₁ : Ev W A env σ e₁ (dN a)) (h₂ : Ev W A env σ e₂ (dN b)) (hb : b ≤ a) : Ev W A env σ (.BinOp e₁ .Sub e₂ pos) (dN (a - b)) := by
  rw [show dN (a - b) = D.int ((a : Int) - (b : Int)) by show D.int _ = D.int _; congr 1; walk_at "lx"]
  exact ev_bin h₁ h₂ op_sub
theorem ev_intN {k : Nat} {n : Nat} {pos : Pos} : Ev W A env σ (.Constant (.int (n : Int)) k pos) (dN n) := ev_int
end
theorem op_neLN {W : WP} {A : Around} {env : Env} {n : Nat} (F : FOK n A env) {a b : List Nat} : Op2 W A (compareOp .NotEq) (dL a) (dL b) (.bool ((a.map fun k : Nat => (k : Int)) != (b.map fun k : Nat => (k : Int)))) := by
  have h := op_neL (W := W) F (a := a.map fun k : Nat => (k : Int)) (b := b.map fun k : Nat => (k : Int))
  rw [List.map_map, List.map_map] at h
  exact h
theorem shortF_ne : ∀ (f : Nat) (o : List Nat), shortF f o ≠ []
  | 0, _ => by simp [shortF]
  | f + 1, o => by
    unfold shortF
    dsimp only
    split
    · simp
    · next h => intro e; rw [e] at h; exact h rfl
theorem caps1 {env : Env} {σ : Sto} {scope : Scope} {x : PySem.Str} {d : D} {L : Addr} (h1 : (x, Slot.val d) ∈ σ) (h2 : env.kindOf x ≠ some .local) (hl : env.cells.lookup x = some L) (h3 : ∀ C, (compEnvC scope [(x, L)] C env).kindOf x = some .cell) (h4 : ∀ C, (compEnvC scope [(x, L)] C env).cells = [(x, L)]) (C : Addr) : Caps env σ (compEnvC scope [(x, L)] C env) [(x, d)] := by
  refine ⟨fun y c h => ?_, fun p hp => ?_⟩
  · rw [h4, List.lookup_cons] at h
    split at h
    · next hx => rw [beq_iff_eq] at hx; subst hx; cases h; exact hl
    · cases h
  · rw [List.mem_singleton.mp hp]
    exact ⟨h1, h2, h3 C, by rw [h4, List.lookup_cons, beq_self_eq_true]; exact hl.symm⟩
theorem some_map {α : Type} (g : α → D) (l : List α) : (l.map fun a => some (g a)).filterMap id = l.map g := by
  induction l with
  | nil => rfl
  | cons a l ih => rw [List.map_cons, List.map_cons, ← ih]; rfl
variable (w : World) (mean : ExcName → Option Value) (mg mb : PySem.Str → Option Value)
set_option maxHeartbeats 400000
/-- the law's own body, in a frame of whichever function object -/
noncomputable def LawRun (W : WP) (k : Nat) (f : Addr) (σ : Sto) (d : D) : Prop :=
  ∃ (fc : Value) (od : Option Addr) (osl : Array (Option Value)) (name qual : PySem.Str) (params : Arguments) (body : List Stmt) (scope : Scope) (dV kV doc pm cdv ct : Value) (an : Option Addr),
    W.K.lookup f = some ⟨fc, od, .func (fnOf name qual params body scope dV kV doc pm an cdv ct), osl⟩ ∧ ∀ A L f' cd', FOK k A (envOfC qual scope L f' cd') → X W A (envOfC qual scope L f' cd') σ body (.ret d)
theorem hands_ok (h : Nat) (hh : h < 5) : ∃ fc od fd osl, (W1 w mean mg mb).K.lookup (52 + 7 * h) = some ⟨fc, od, .func fd, osl⟩ ∧ ∀ l : List Nat, l.length ≤ 5 → CallOk (W1 w mean mg mb) 1 (52 + 7 * h) [.str (S l)] (.str (S (escP (escRows h) l))) := by
  match h, hh with
  | 0, _ => exact ⟨_, _, _, _, rfl, esc0_ok w mean mg mb⟩
  | 1, _ => exact ⟨_, _, _, _, rfl, esc1_ok w mean mg mb⟩
  | 2, _ => exact ⟨_, _, _, _, rfl, esc2_ok w mean mg mb⟩
  | 3, _ => exact ⟨_, _, _, _, rfl, esc3_ok w mean mg mb⟩
  | 4, _ => exact ⟨_, _, _, _, rfl, esc4_ok w mean mg mb⟩
theorem hands_get (h : Nat) (hh : h < 5) : [D.fn 52, D.fn 59, D.fn 66, D.fn 73, D.fn 80][h]? = some (D.fn (52 + 7 * h)) := by
  match h, hh with
  | 0, _ => rfl
  | 1, _ => rfl
  | 2, _ => rfl
  | 3, _ => rfl
  | 4, _ => rfl
noncomputable def moreP (t : Nat) : Nat := 1 - t % 2
noncomputable def baseP (t : Nat) : Nat := t / 2 % 16 + 2
noncomputable def handP (t : Nat) : Nat := t / 32 % 5
noncomputable def signsP (ds : List Nat) (more : Nat) : List Nat := (ds.take (5 - more)).map (· % 4)
noncomputable def pageP (h : Nat) (ks : List Nat) : List Nat := escP (escRows h) (ks.map signC)
theorem law_run (ns : List Int) (hn : ns.length ≤ 63) (st o : List Nat) (hpl : (pageP (handP (drawsP ns).sum) (signsP (drawsP ns) (moreP (drawsP ns).sum))).length ≤ 100)
    (hst : stepsGo (symGo 100 (pageP (handP (drawsP ns).sum) (signsP (drawsP ns) (moreP (drawsP ns).sum)))) [] [] = some st) (hsl : (symGo 100 (pageP (handP (drawsP ns).sum) (signsP (drawsP ns) (moreP (drawsP ns).sum)))).length ≤ 100) (hs4 : ∀ k ∈ st, 1 ≤ k ∧ k ≤ 4) (hs9 : st.length ≤ 1000)
    (ho1 : orderP (st.map (· + moreP (drawsP ns).sum)) [0, 1, 2, 3, 4, 5] = o) (ho2 : orderP ((signsP (drawsP ns) (moreP (drawsP ns).sum)).map fun k => k + 1 + moreP (drawsP ns).sum) [0, 1, 2, 3, 4, 5] = o) (ho6 : o.length = 6)
    (hfu : fuelOk 5 o = true) (hag : agreeP (shortF 5 o) (4 + moreP (drawsP ns).sum) (baseP (drawsP ns).sum) = true) (hrz : (shortF 5 o).length ≤ 1000) :
    LawRun (W1 w mean mg mb) 7 149 [(PySem.Str.ofString "script", Slot.val (.lst (ns.map D.int)))] (.bool true) := by
  refine ⟨_, _, _, _, _, _, _, _, _, _, _, _, _, _, _, rfl, ?_⟩
  · intro A L f' cd' F
    have hnl : (ns.map D.int).length ≤ 1000 := by rw [List.length_map]; walk_at "lx"
    have ht5 : (ns.take 5).length ≤ 5 := by rw [List.length_take]; walk_at "lx"
    refine x_cons (σ₁ := [(PySem.Str.ofString "draws", Slot.val (dL (drawsP ns)))]) (x1_weakO' (x_assign (d := dL (drawsP ns)) F ?_ rfl) (by walk_at "sub")) ?_
    · have ed : dL (drawsP ns) = .lst (((ns.take 5).map fun i => some (dN (drawP i))).filterMap id ++ ([12, 13, 16, 10, 18].drop (ns.take 5).length).map dN) := by
        rw [some_map]
        show D.lst _ = D.lst _
        unfold drawsP
        rw [List.map_append, List.map_map]; rfl
      rw [ed]
      refine ev_bin (evF_comp F (cl := []) (cap := []) (ds := (ns.take 5).map D.int) (by rw [List.map_take]; exact ev_slTL (k := 5) (by walk_at "ev") ev_int hnl) (iter_list F.hh) rfl (by decide) rfl (by decide) ?_ ?_ ?_).ev (ev_slFL (xs := [12, 13, 16, 10, 18]) (k := (ns.take 5).length) (evF_list (show Evs _ _ _ _ _ [.int 12, .int 13, .int 16, .int 10, .int 18] by walk_at "evs") (by decide)).ev ?_ (by simpa using ht5) (by decide)) (op_addL ?_)
      · exact fun C => ⟨fun x c h => by simp [compEnvC] at h, fun p hp => nomatch hp⟩
      · intro C FC
        refine All2.map _ _ fun i _ => ⟨_, asg_name FC rfl, (fun p hp => nomatch hp), tst_nil, ?_⟩
        rw [drawP_eq]
        exact ev_bin (ev_callT FC rfl rfl boot_int (by decide) (by decide) (by walk_at "evs") cv_int) (ev_bin ev_int ev_int (op_pow (by decide) (by decide))) (op_mod (by decide))
      · rw [List.length_map]; walk_at "lx"
      · have e : dN (ns.take 5).length = .int (((ns.map D.int).take 5).length : Int) := by rw [← List.map_take, List.length_map]
        rw [e]
        exact ev_callB F rfl rfl boot_len (by decide) (by decide) (evs_cons (ev_slTL (k := 5) (by walk_at "ev") ev_int hnl) evs_nil) (cv_lenL (by rw [← List.map_take, List.length_map]; walk_at "lx"))
      · rw [some_map, List.length_map, List.length_map, List.length_drop]; simp; walk_at "lx"
    · have hd5 := drawsP_len ns
      generalize drawsP ns = ds at hd5 hpl hst hsl ho1 ho2 hag ⊢
      refine x_cons (x_assign (d := dN ds.sum) F (ev_callB F rfl rfl boot_sum (by decide) (by decide) (by walk_at "evs") (cv_sumN F.hh)) rfl) ?_
      generalize ds.sum = t at hpl hst hsl ho1 ho2 hag ⊢
      have hm1 : moreP t ≤ 1 := by unfold moreP; walk_at "lx"
      have hq : 2 ≤ baseP t ∧ baseP t ≤ 17 := by unfold baseP; walk_at "lx"
      have hh5 : handP t < 5 := by unfold handP; walk_at "lx"
      refine x_cons (x_tup (ds := [dN (moreP t), dN (baseP t)]) F.hh (ev_tuple (evs_cons (ev_subN (a := 1) ev_int (ev_modN (b := 2) (by walk_at "ev") ev_int (by decide)) (by walk_at "lx")) (evs_cons (ev_addN (b := 2) (ev_modN (b := 16) (ev_divN (b := 2) (by walk_at "ev") ev_int (by decide) (by decide)) ev_int (by decide)) ev_int) evs_nil)) (Nat.le_of_ble_eq_true rfl)) (by rfl) (bndl_cons (asg_cell F rfl (c := L + 1) rfl (Nat.lt_succ_self _)) (bndl_cons (asg_name F rfl) bndl_nil)) rfl rfl rfl rfl) ?_
      refine x_cons (x_assign (d := .lst [D.fn 52, D.fn 59, D.fn 66, D.fn 73, D.fn 80]) F (evF_list (show Evs _ _ _ _ _ [D.fn 52, D.fn 59, D.fn 66, D.fn 73, D.fn 80] by walk_at "evs") (by decide)).ev rfl) ?_
      refine x_weak (σ' := [(PySem.Str.ofString "draws", Slot.val (dL ds)), (PySem.Str.ofString "total", Slot.val (dN t)), (PySem.Str.ofString "more", Slot.val (dN (moreP t))), (PySem.Str.ofString "base", Slot.val (dN (baseP t))), (PySem.Str.ofString "hands", Slot.val (.lst [D.fn 52, D.fn 59, D.fn 66, D.fn 73, D.fn 80]))]) (by walk_at "sub") ?_
      have hdl : (ds.map dN).length ≤ 1000 := by rw [List.length_map]; walk_at "lx"
      have hks : (signsP ds (moreP t)).length ≤ 5 := by unfold signsP; rw [List.length_map, List.length_take]; walk_at "lx"
      have e5 : dN (5 - moreP t) = D.int ((5 : Int) - (moreP t : Int)) := by
        show D.int _ = D.int _
        congr 1; walk_at "lx"
      obtain ⟨fc, od, fd, osl, hK, hC⟩ := hands_ok w mean mg mb (handP t) hh5
      refine x_cons (σ₁ := [(PySem.Str.ofString "draws", Slot.val (dL ds)), (PySem.Str.ofString "more", Slot.val (dN (moreP t))), (PySem.Str.ofString "base", Slot.val (dN (baseP t))), (PySem.Str.ofString "page", Slot.val (.str (S (pageP (handP t) (signsP ds (moreP t))))))]) (x1_weakO' (x_assign (d := .str (S (pageP (handP t) (signsP ds (moreP t))))) F (ev_callX F (ev_itemL (i := ((handP t : Nat) : Int)) (by walk_at "ev") (ev_modN (b := 5) (ev_divN (b := 32) (by walk_at "ev") ev_int (by decide) (by decide)) ev_int (by decide)) (by walk_at "lx") (by rw [Int.toNat_natCast]; exact hands_get _ hh5) (Nat.le_of_ble_eq_true rfl)) hK (evs_cons (d := .str (S ((signsP ds (moreP t)).map signC))) (ev_methS1 (by walk_at "ev") PySem.F.slot_str_join PySem.F.type_str_join (evs_cons (d := .lst (((signsP ds (moreP t)).map signC).map (fun c => S [c]) |>.map D.str)) ?_ evs_nil) ?_) evs_nil) (hC _ (by rw [List.length_map]; exact hks)) (by walk_at "lx")) rfl) (by walk_at "sub")) ?_
      · have eo : ((((signsP ds (moreP t)).map signC).map fun c => S [c]).map D.str) = ((ds.take (5 - moreP t)).map fun d => some (D.str (S [signC (d % 4)]))).filterMap id := by
          rw [some_map]
          unfold signsP
          rw [List.map_map, List.map_map, List.map_map]; rfl
        rw [eo]
        refine (evF_comp F (cl := []) (cap := []) (ds := (ds.take (5 - moreP t)).map dN) (by rw [List.map_take]; exact ev_slTL (k := 5 - moreP t) (by walk_at "ev") (by show Ev _ _ _ _ _ (dN (5 - moreP t)); rw [e5]; walk_at "ev") hdl) (iter_list F.hh) rfl (by decide) rfl (by decide) ?_ ?_ ?_).ev
        · exact fun C => ⟨fun x c h => by simp [compEnvC] at h, fun p hp => nomatch hp⟩
        · intro C FC
          refine All2.map _ _ fun d _ => ⟨_, asg_name FC rfl, (fun p hp => nomatch hp), tst_nil, ?_⟩
          have h4 : d % 4 < 4 := Nat.mod_lt _ (by decide)
          exact ev_itF (l := [124, 38, 60, 62]) (q := d % 4) (show Ev _ _ _ _ _ (.str (S [124, 38, 60, 62])) from ev_str) (ev_modN (b := 4) (by walk_at "ev") ev_int (by decide)) (by
            unfold signC
            rw [List.getD_eq_getElem?_getD, List.getElem?_eq_getElem (by simpa using h4)]; rfl) (by decide)
        · rw [List.length_map, List.length_take]; walk_at "lx"
      · have e : S ((signsP ds (moreP t)).map signC) = Txt.join (PySem.Str.ofString "") (((signsP ds (moreP t)).map signC).map fun c => S [c]) := by rw [join_chars]
        rw [e]
        refine cv_join ?_
        rw [sum_ones _ _ (fun a => rfl), List.length_map, List.length_map]
        have h0 : (PySem.Str.ofString "").length = 0 := rfl
        rw [h0]; walk_at "lx"
      · generalize pageP (handP t) (signsP ds (moreP t)) = page at hpl hst hsl ⊢
        refine x_cons (x_assign (d := dL o) F (by
          rw [← ho1]
          refine ev_call F rfl rfl (by decide) rfl (evs_cons (d := dL (st.map (· + moreP t))) ?_ evs_nil) (order_ok w mean mg mb (st.map (· + moreP t)) fun k hk => ?_) (by walk_at "lx")
          · have eo : dL (st.map (· + moreP t)) = .lst ((st.map fun k => some (dN (k + moreP t))).filterMap id) := by
              rw [some_map]
              show D.lst _ = D.lst _
              rw [List.map_map]; rfl
            rw [eo]
            refine (evF_comp F (cl := [(PySem.Str.ofString "more", L + 1)]) (cap := [(PySem.Str.ofString "more", dN (moreP t))]) (ds := st.map dN) (ev_call F rfl rfl (by decide) rfl (by walk_at "evs") (steps_ok w mean mg mb 100 page st hpl (by decide) hst hsl) (by walk_at "lx")) (iter_list F.hh) rfl (by decide) rfl (by decide) ?_ ?_ ?_).ev
            · exact caps1 (by walk_at "mem") (fun h => by have h2 : some NameKind.cell = some NameKind.local := h; cases h2) rfl (fun _ => rfl) (fun _ => rfl)
            · intro C FC
              refine All2.map dN _ fun k _ => ⟨_, asg_name FC rfl, fun p hp => ?_, tst_nil, ?_⟩
              · rw [List.mem_singleton.mp hp]; exact upd_of (x := PySem.Str.ofString "step") (y := PySem.Str.ofString "more") (by decide) (.head _)
              · exact ev_addN (ev_name FC upd_self (by decide)) (ev_name FC (upd_of (x := PySem.Str.ofString "step") (y := PySem.Str.ofString "more") (by decide) (.head _)) (by decide))
            · rw [List.length_map]; walk_at "lx"
          · obtain ⟨k', hk', rfl⟩ := List.mem_map.mp hk
            have := hs4 k' hk'
            walk_at "lx") rfl) ?_
        refine x_cons (σ₁ := [(PySem.Str.ofString "more", Slot.val (dN (moreP t))), (PySem.Str.ofString "base", Slot.val (dN (baseP t))), (PySem.Str.ofString "order", Slot.val (dL o))]) (x1_weakO' (x_if (b := false) (tr_to (tr_cmp (by walk_at "ev") (d₂ := dL o) (by
          rw [← ho2]
          refine ev_call F rfl rfl (by decide) rfl (evs_cons (d := dL ((signsP ds (moreP t)).map fun k => k + 1 + moreP t)) ?_ evs_nil) (order_ok w mean mg mb ((signsP ds (moreP t)).map fun k => k + 1 + moreP t) fun k hk => ?_) (by walk_at "lx")
          · have eo : dL ((signsP ds (moreP t)).map fun k => k + 1 + moreP t) = .lst (((ds.take (5 - moreP t)).map fun d => some (dN (d % 4 + 1 + moreP t))).filterMap id) := by
              rw [some_map]
              show D.lst _ = D.lst _
              unfold signsP
              rw [List.map_map, List.map_map]; rfl
            rw [eo]
            refine (evF_comp F (cl := [(PySem.Str.ofString "more", L + 1)]) (cap := [(PySem.Str.ofString "more", dN (moreP t))]) (ds := (ds.take (5 - moreP t)).map dN) (by rw [List.map_take]; exact ev_slTL (k := 5 - moreP t) (by walk_at "ev") (by show Ev _ _ _ _ _ (dN (5 - moreP t)); rw [e5]; walk_at "ev") hdl) (iter_list F.hh) rfl (by decide) rfl (by decide) ?_ ?_ ?_).ev
            · exact caps1 (by walk_at "mem") (fun h => by have h2 : some NameKind.cell = some NameKind.local := h; cases h2) rfl (fun _ => rfl) (fun _ => rfl)
            · intro C FC
              refine All2.map dN _ fun k _ => ⟨_, asg_name FC rfl, fun p hp => ?_, tst_nil, ?_⟩
              · rw [List.mem_singleton.mp hp]; exact upd_of (x := PySem.Str.ofString "draw") (y := PySem.Str.ofString "more") (by decide) (.head _)
              · exact ev_addN (ev_addN (b := 1) (ev_modN (b := 4) (ev_name FC upd_self (by decide)) ev_int (by decide)) ev_int) (ev_name FC (upd_of (x := PySem.Str.ofString "draw") (y := PySem.Str.ofString "more") (by decide) (.head _)) (by decide))
            · rw [List.length_map, List.length_take]; walk_at "lx"
          · obtain ⟨k', hk', rfl⟩ := List.mem_map.mp hk
            unfold signsP at hk'
            obtain ⟨d', _, rfl⟩ := List.mem_map.mp hk'
            have : d' % 4 < 4 := Nat.mod_lt _ (by decide)
            walk_at "lx") (op_neLN F) rfl) (by simp)) (fun h => nomatch h) (fun _ => x_nil)) (by walk_at "sub")) ?_
        refine x_stop (x_ret ?_)
        rw [← hag]
        have hsh : ∀ r ∈ shortF 5 o, r.length ≤ 5 ∧ ∀ k ∈ r, 1 ≤ k ∧ k ≤ 5 := fun r hr => shortF_row 5 o r hr
        exact ev_call F rfl rfl (by decide) rfl (evs_cons (ev_call F rfl rfl (by decide) rfl (by walk_at "evs") (shortest_ok w mean mg mb 5 o (by walk_at "lx") ho6 hfu) (by walk_at "lx")) (evs_cons (ev_addN (a := 4) ev_int (by walk_at "ev")) (by walk_at "evs"))) (agree_ok w mean mg mb (shortF 5 o) (4 + moreP t) (baseP t) (by walk_at "lx") hq.1 hq.2 hsh (shortF_ne 5 o) hrz) (by walk_at "lx")
end
section
set_option maxHeartbeats 4000000
noncomputable def lay00 : List (List Nat) := [[0, 1, 2, 3, 4, 5]]
noncomputable def lay01 : List (List Nat) := [[0, 1, 2, 4, 3, 5], [0, 1, 3, 2, 4, 5], [0, 2, 1, 3, 4, 5], [1, 0, 2, 3, 4, 5]]
noncomputable def lay02 : List (List Nat) := [[0, 1, 2, 4, 3, 5], [0, 1, 3, 2, 4, 5], [0, 1, 3, 4, 2, 5], [0, 1, 4, 2, 3, 5], [0, 2, 1, 3, 4, 5], [0, 2, 1, 4, 3, 5], [0, 2, 3, 1, 4, 5], [0, 3, 1, 2, 4, 5], [1, 0, 2, 3, 4, 5], [1, 0, 2, 4, 3, 5], [1, 0, 3, 2, 4, 5], [1, 2, 0, 3, 4, 5], [2, 0, 1, 3, 4, 5]]
noncomputable def lay03 : List (List Nat) := [[0, 1, 2, 4, 3, 5], [0, 1, 3, 2, 4, 5], [0, 1, 3, 4, 2, 5], [0, 1, 4, 2, 3, 5], [0, 1, 4, 3, 2, 5], [0, 2, 1, 3, 4, 5], [0, 2, 1, 4, 3, 5], [0, 2, 3, 1, 4, 5], [0, 2, 3, 4, 1, 5], [0, 2, 4, 1, 3, 5], [0, 3, 1, 2, 4, 5], [0, 3, 1, 4, 2, 5], [0, 3, 2, 1, 4, 5], [0, 4, 1, 2, 3, 5], [1, 0, 2, 3, 4, 5], [1, 0, 2, 4, 3, 5], [1, 0, 3, 2, 4, 5], [1, 0, 3, 4, 2, 5], [1, 0, 4, 2, 3, 5], [1, 2, 0, 3, 4, 5], [1, 2, 0, 4, 3, 5], [1, 2, 3, 0, 4, 5], [1, 3, 0, 2, 4, 5], [2, 0, 1, 3, 4, 5], [2, 0, 1, 4, 3, 5], [2, 0, 3, 1, 4, 5], [2, 1, 0, 3, 4, 5], [3, 0, 1, 2, 4, 5]]
noncomputable def lay04 : List (List Nat) := [[0, 1, 2, 4, 3, 5], [0, 1, 3, 2, 4, 5], [0, 1, 3, 4, 2, 5], [0, 1, 4, 2, 3, 5], [0, 1, 4, 3, 2, 5], [0, 2, 1, 3, 4, 5], [0, 2, 1, 4, 3, 5], [0, 2, 3, 1, 4, 5], [0, 2, 3, 4, 1, 5], [0, 2, 4, 1, 3, 5], [0, 2, 4, 3, 1, 5], [0, 3, 1, 2, 4, 5], [0, 3, 1, 4, 2, 5], [0, 3, 2, 1, 4, 5], [0, 3, 2, 4, 1, 5], [0, 3, 4, 1, 2, 5], [0, 4, 1, 2, 3, 5], [0, 4, 1, 3, 2, 5], [0, 4, 2, 1, 3, 5], [1, 0, 2, 3, 4, 5], [1, 0, 2, 4, 3, 5], [1, 0, 3, 2, 4, 5], [1, 0, 3, 4, 2, 5], [1, 0, 4, 2, 3, 5], [1, 0, 4, 3, 2, 5], [1, 2, 0, 3, 4, 5], [1, 2, 0, 4, 3, 5], [1, 2, 3, 0, 4, 5], [1, 2, 3, 4, 0, 5], [1, 2, 4, 0, 3, 5], [1, 3, 0, 2, 4, 5], [1, 3, 0, 4, 2, 5], [1, 3, 2, 0, 4, 5], [1, 4, 0, 2, 3, 5], [2, 0, 1, 3, 4, 5], [2, 0, 1, 4, 3, 5], [2, 0, 3, 1, 4, 5], [2, 0, 3, 4, 1, 5], [2, 0, 4, 1, 3, 5], [2, 1, 0, 3, 4, 5], [2, 1, 0, 4, 3, 5], [2, 1, 3, 0, 4, 5], [2, 3, 0, 1, 4, 5], [3, 0, 1, 2, 4, 5], [3, 0, 1, 4, 2, 5], [3, 0, 2, 1, 4, 5], [3, 1, 0, 2, 4, 5], [4, 0, 1, 2, 3, 5]]
noncomputable def lay05 : List (List Nat) := [[0, 1, 2, 4, 3, 5], [0, 1, 3, 2, 4, 5], [0, 1, 3, 4, 2, 5], [0, 1, 4, 2, 3, 5], [0, 1, 4, 3, 2, 5], [0, 2, 1, 3, 4, 5], [0, 2, 1, 4, 3, 5], [0, 2, 3, 1, 4, 5], [0, 2, 3, 4, 1, 5], [0, 2, 4, 1, 3, 5], [0, 2, 4, 3, 1, 5], [0, 3, 1, 2, 4, 5], [0, 3, 1, 4, 2, 5], [0, 3, 2, 1, 4, 5], [0, 3, 2, 4, 1, 5], [0, 3, 4, 1, 2, 5], [0, 3, 4, 2, 1, 5], [0, 4, 1, 2, 3, 5], [0, 4, 1, 3, 2, 5], [0, 4, 2, 1, 3, 5], [0, 4, 2, 3, 1, 5], [0, 4, 3, 1, 2, 5], [1, 0, 2, 3, 4, 5], [1, 0, 2, 4, 3, 5], [1, 0, 3, 2, 4, 5], [1, 0, 3, 4, 2, 5], [1, 0, 4, 2, 3, 5], [1, 0, 4, 3, 2, 5], [1, 2, 0, 3, 4, 5], [1, 2, 0, 4, 3, 5], [1, 2, 3, 0, 4, 5], [1, 2, 3, 4, 0, 5], [1, 2, 4, 0, 3, 5], [1, 2, 4, 3, 0, 5], [1, 3, 0, 2, 4, 5], [1, 3, 0, 4, 2, 5], [1, 3, 2, 0, 4, 5], [1, 3, 2, 4, 0, 5], [1, 3, 4, 0, 2, 5], [1, 4, 0, 2, 3, 5], [1, 4, 0, 3, 2, 5], [1, 4, 2, 0, 3, 5], [2, 0, 1, 3, 4, 5], [2, 0, 1, 4, 3, 5], [2, 0, 3, 1, 4, 5], [2, 0, 3, 4, 1, 5], [2, 0, 4, 1, 3, 5], [2, 0, 4, 3, 1, 5], [2, 1, 0, 3, 4, 5], [2, 1, 0, 4, 3, 5], [2, 1, 3, 0, 4, 5], [2, 1, 3, 4, 0, 5], [2, 1, 4, 0, 3, 5], [2, 3, 0, 1, 4, 5], [2, 3, 0, 4, 1, 5], [2, 3, 1, 0, 4, 5], [2, 4, 0, 1, 3, 5], [3, 0, 1, 2, 4, 5], [3, 0, 1, 4, 2, 5], [3, 0, 2, 1, 4, 5], [3, 0, 2, 4, 1, 5], [3, 0, 4, 1, 2, 5], [3, 1, 0, 2, 4, 5], [3, 1, 0, 4, 2, 5], [3, 1, 2, 0, 4, 5], [3, 2, 0, 1, 4, 5], [4, 0, 1, 2, 3, 5], [4, 0, 1, 3, 2, 5], [4, 0, 2, 1, 3, 5], [4, 1, 0, 2, 3, 5]]
theorem clo00 : (lay00.all fun o => [1, 2, 3, 4].all fun k => lay01.contains (stepP o (k + 0))) = true := by decide +kernel
theorem clo01 : (lay01.all fun o => [1, 2, 3, 4].all fun k => lay02.contains (stepP o (k + 0))) = true := by decide +kernel
theorem clo02 : (lay02.all fun o => [1, 2, 3, 4].all fun k => lay03.contains (stepP o (k + 0))) = true := by decide +kernel
theorem clo03 : (lay03.all fun o => [1, 2, 3, 4].all fun k => lay04.contains (stepP o (k + 0))) = true := by decide +kernel
theorem clo04 : (lay04.all fun o => [1, 2, 3, 4].all fun k => lay05.contains (stepP o (k + 0))) = true := by decide +kernel
noncomputable def text0 : List Nat := [69, 68, 67, 66, 69, 68, 67, 69, 68, 69]
theorem text0_eq : wordP (stairsP 4) = text0 ∧ (stairsP 4).length = 10 := by decide +kernel
noncomputable def tab0 : List (List Nat × List (List Nat × Bool)) := [([0, 1, 2, 4, 3, 5], [([4], true)]), ([0, 1, 3, 2, 4, 5], [([3], true)]), ([0, 1, 3, 4, 2, 5], [([3, 4], true)]), ([0, 1, 4, 2, 3, 5], [([4, 3], true)]), ([0, 1, 4, 3, 2, 5], [([3, 4, 3], true), ([4, 3, 4], true)]), ([0, 2, 1, 3, 4, 5], [([2], true)]), ([0, 2, 1, 4, 3, 5], [([4, 2], true), ([2, 4], true)]), ([0, 2, 3, 1, 4, 5], [([2, 3], true)]), ([0, 2, 3, 4, 1, 5], [([2, 3, 4], true)]), ([0, 2, 4, 1, 3, 5], [([4, 2, 3], true), ([2, 4, 3], true)]), ([0, 2, 4, 3, 1, 5], [([2, 3, 4, 3], true), ([4, 2, 3, 4], true), ([2, 4, 3, 4], true)]), ([0, 3, 1, 2, 4, 5], [([3, 2], true)]), ([0, 3, 1, 4, 2, 5], [([3, 4, 2], true), ([3, 2, 4], true)]), ([0, 3, 2, 1, 4, 5], [([2, 3, 2], true), ([3, 2, 3], true)]), ([0, 3, 2, 4, 1, 5], [([2, 3, 4, 2], false), ([2, 3, 2, 4], true), ([3, 2, 3, 4], true)]), ([0, 3, 4, 1, 2, 5], [([3, 4, 2, 3], true), ([3, 2, 4, 3], true)]), ([0, 3, 4, 2, 1, 5], [([2, 3, 4, 2, 3], false), ([2, 3, 2, 4, 3], true), ([3, 2, 3, 4, 3], true), ([3, 4, 2, 3, 4], true), ([3, 2, 4, 3, 4], true)]), ([0, 4, 1, 2, 3, 5], [([4, 3, 2], true)]), ([0, 4, 1, 3, 2, 5], [([3, 4, 3, 2], true), ([4, 3, 4, 2], true), ([4, 3, 2, 4], true)]), ([0, 4, 2, 1, 3, 5], [([4, 2, 3, 2], true), ([2, 4, 3, 2], true), ([4, 3, 2, 3], true)]), ([0, 4, 2, 3, 1, 5], [([2, 3, 4, 3, 2], false), ([4, 2, 3, 4, 2], false), ([2, 4, 3, 4, 2], false), ([4, 2, 3, 2, 4], true), ([2, 4, 3, 2, 4], true), ([4, 3, 2, 3, 4], true)]), ([0, 4, 3, 1, 2, 5], [([3, 4, 2, 3, 2], false), ([3, 2, 4, 3, 2], true), ([3, 4, 3, 2, 3], true), ([4, 3, 4, 2, 3], true), ([4, 3, 2, 4, 3], true)]), ([1, 0, 2, 3, 4, 5], [([1], true)]), ([1, 0, 2, 4, 3, 5], [([4, 1], true), ([1, 4], true)]), ([1, 0, 3, 2, 4, 5], [([3, 1], true), ([1, 3], true)]), ([1, 0, 3, 4, 2, 5], [([3, 4, 1], false), ([3, 1, 4], true), ([1, 3, 4], true)]), ([1, 0, 4, 2, 3, 5], [([4, 3, 1], true), ([4, 1, 3], true), ([1, 4, 3], true)]), ([1, 0, 4, 3, 2, 5], [([3, 4, 3, 1], false), ([4, 3, 4, 1], false), ([3, 4, 1, 3], false), ([3, 1, 4, 3], true), ([1, 3, 4, 3], true), ([4, 3, 1, 4], true), ([4, 1, 3, 4], true), ([1, 4, 3, 4], true)]), ([1, 2, 0, 3, 4, 5], [([1, 2], true)]), ([1, 2, 0, 4, 3, 5], [([4, 1, 2], true), ([1, 4, 2], true), ([1, 2, 4], true)]), ([1, 2, 3, 0, 4, 5], [([1, 2, 3], true)]), ([1, 2, 3, 4, 0, 5], [([1, 2, 3, 4], true)]), ([1, 2, 4, 0, 3, 5], [([4, 1, 2, 3], true), ([1, 4, 2, 3], true), ([1, 2, 4, 3], true)]), ([1, 2, 4, 3, 0, 5], [([1, 2, 3, 4, 3], false), ([4, 1, 2, 3, 4], true), ([1, 4, 2, 3, 4], true), ([1, 2, 4, 3, 4], true)]), ([1, 3, 0, 2, 4, 5], [([3, 1, 2], true), ([1, 3, 2], true)]), ([1, 3, 0, 4, 2, 5], [([3, 4, 1, 2], false), ([3, 1, 4, 2], true), ([1, 3, 4, 2], false), ([3, 1, 2, 4], true), ([1, 3, 2, 4], true)]), ([1, 3, 2, 0, 4, 5], [([1, 2, 3, 2], false), ([3, 1, 2, 3], true), ([1, 3, 2, 3], true)]), ([1, 3, 2, 4, 0, 5], [([1, 2, 3, 4, 2], false), ([1, 2, 3, 2, 4], false), ([3, 1, 2, 3, 4], true), ([1, 3, 2, 3, 4], true)]), ([1, 3, 4, 0, 2, 5], [([3, 4, 1, 2, 3], false), ([3, 1, 4, 2, 3], true), ([1, 3, 4, 2, 3], false), ([3, 1, 2, 4, 3], true), ([1, 3, 2, 4, 3], true)]), ([1, 4, 0, 2, 3, 5], [([4, 3, 1, 2], true), ([4, 1, 3, 2], true), ([1, 4, 3, 2], true)]), ([1, 4, 0, 3, 2, 5], [([3, 4, 3, 1, 2], false), ([4, 3, 4, 1, 2], false), ([3, 4, 1, 3, 2], false), ([3, 1, 4, 3, 2], true), ([1, 3, 4, 3, 2], false), ([4, 3, 1, 4, 2], true), ([4, 1, 3, 4, 2], false), ([1, 4, 3, 4, 2], false), ([4, 3, 1, 2, 4], true), ([4, 1, 3, 2, 4], true), ([1, 4, 3, 2, 4], true)]), ([1, 4, 2, 0, 3, 5], [([4, 1, 2, 3, 2], false), ([1, 4, 2, 3, 2], false), ([1, 2, 4, 3, 2], false), ([4, 3, 1, 2, 3], true), ([4, 1, 3, 2, 3], true), ([1, 4, 3, 2, 3], true)]), ([2, 0, 1, 3, 4, 5], [([2, 1], true)]), ([2, 0, 1, 4, 3, 5], [([4, 2, 1], true), ([2, 4, 1], false), ([2, 1, 4], true)]), ([2, 0, 3, 1, 4, 5], [([2, 3, 1], false), ([2, 1, 3], true)]), ([2, 0, 3, 4, 1, 5], [([2, 3, 4, 1], false), ([2, 3, 1, 4], false), ([2, 1, 3, 4], true)]), ([2, 0, 4, 1, 3, 5], [([4, 2, 3, 1], false), ([2, 4, 3, 1], false), ([4, 2, 1, 3], true), ([2, 4, 1, 3], false), ([2, 1, 4, 3], true)]), ([2, 0, 4, 3, 1, 5], [([2, 3, 4, 3, 1], false), ([4, 2, 3, 4, 1], false), ([2, 4, 3, 4, 1], false), ([2, 3, 4, 1, 3], false), ([2, 3, 1, 4, 3], false), ([2, 1, 3, 4, 3], true), ([4, 2, 3, 1, 4], false), ([2, 4, 3, 1, 4], false), ([4, 2, 1, 3, 4], true), ([2, 4, 1, 3, 4], false), ([2, 1, 4, 3, 4], true)]), ([2, 1, 0, 3, 4, 5], [([1, 2, 1], false), ([2, 1, 2], true)]), ([2, 1, 0, 4, 3, 5], [([4, 1, 2, 1], false), ([1, 4, 2, 1], false), ([1, 2, 4, 1], false), ([4, 2, 1, 2], true), ([2, 4, 1, 2], false), ([2, 1, 4, 2], true), ([1, 2, 1, 4], false), ([2, 1, 2, 4], true)]), ([2, 1, 3, 0, 4, 5], [([1, 2, 3, 1], false), ([1, 2, 1, 3], false), ([2, 1, 2, 3], true)]), ([2, 1, 3, 4, 0, 5], [([1, 2, 3, 4, 1], false), ([1, 2, 3, 1, 4], false), ([1, 2, 1, 3, 4], false), ([2, 1, 2, 3, 4], true)]), ([2, 1, 4, 0, 3, 5], [([4, 1, 2, 3, 1], false), ([1, 4, 2, 3, 1], false), ([1, 2, 4, 3, 1], false), ([4, 1, 2, 1, 3], false), ([1, 4, 2, 1, 3], false), ([1, 2, 4, 1, 3], false), ([4, 2, 1, 2, 3], true), ([2, 4, 1, 2, 3], false), ([2, 1, 4, 2, 3], true), ([1, 2, 1, 4, 3], false), ([2, 1, 2, 4, 3], true)]), ([2, 3, 0, 1, 4, 5], [([2, 3, 1, 2], false), ([2, 1, 3, 2], true)]), ([2, 3, 0, 4, 1, 5], [([2, 3, 4, 1, 2], false), ([2, 3, 1, 4, 2], false), ([2, 1, 3, 4, 2], false), ([2, 3, 1, 2, 4], false), ([2, 1, 3, 2, 4], true)]), ([2, 3, 1, 0, 4, 5], [([1, 2, 3, 1, 2], false), ([1, 2, 1, 3, 2], false), ([2, 1, 2, 3, 2], false), ([2, 3, 1, 2, 3], false), ([2, 1, 3, 2, 3], true)]), ([2, 4, 0, 1, 3, 5], [([4, 2, 3, 1, 2], false), ([2, 4, 3, 1, 2], false), ([4, 2, 1, 3, 2], true), ([2, 4, 1, 3, 2], false), ([2, 1, 4, 3, 2], true)]), ([3, 0, 1, 2, 4, 5], [([3, 2, 1], true)]), ([3, 0, 1, 4, 2, 5], [([3, 4, 2, 1], false), ([3, 2, 4, 1], false), ([3, 2, 1, 4], true)]), ([3, 0, 2, 1, 4, 5], [([2, 3, 2, 1], false), ([3, 2, 3, 1], false), ([3, 2, 1, 3], true)]), ([3, 0, 2, 4, 1, 5], [([2, 3, 4, 2, 1], false), ([2, 3, 2, 4, 1], false), ([3, 2, 3, 4, 1], false), ([2, 3, 2, 1, 4], false), ([3, 2, 3, 1, 4], false), ([3, 2, 1, 3, 4], true)]), ([3, 0, 4, 1, 2, 5], [([3, 4, 2, 3, 1], false), ([3, 2, 4, 3, 1], false), ([3, 4, 2, 1, 3], false), ([3, 2, 4, 1, 3], false), ([3, 2, 1, 4, 3], true)]), ([3, 1, 0, 2, 4, 5], [([3, 1, 2, 1], false), ([1, 3, 2, 1], false), ([3, 2, 1, 2], true)]), ([3, 1, 0, 4, 2, 5], [([3, 4, 1, 2, 1], false), ([3, 1, 4, 2, 1], false), ([1, 3, 4, 2, 1], false), ([3, 1, 2, 4, 1], false), ([1, 3, 2, 4, 1], false), ([3, 4, 2, 1, 2], false), ([3, 2, 4, 1, 2], false), ([3, 2, 1, 4, 2], true), ([3, 1, 2, 1, 4], false), ([1, 3, 2, 1, 4], false), ([3, 2, 1, 2, 4], true)]), ([3, 1, 2, 0, 4, 5], [([1, 2, 3, 2, 1], false), ([3, 1, 2, 3, 1], false), ([1, 3, 2, 3, 1], false), ([3, 1, 2, 1, 3], false), ([1, 3, 2, 1, 3], false), ([3, 2, 1, 2, 3], true)]), ([3, 2, 0, 1, 4, 5], [([2, 3, 1, 2, 1], false), ([2, 1, 3, 2, 1], false), ([2, 3, 2, 1, 2], false), ([3, 2, 3, 1, 2], false), ([3, 2, 1, 3, 2], true)]), ([4, 0, 1, 2, 3, 5], [([4, 3, 2, 1], true)]), ([4, 0, 1, 3, 2, 5], [([3, 4, 3, 2, 1], false), ([4, 3, 4, 2, 1], false), ([4, 3, 2, 4, 1], false), ([4, 3, 2, 1, 4], true)]), ([4, 0, 2, 1, 3, 5], [([4, 2, 3, 2, 1], false), ([2, 4, 3, 2, 1], false), ([4, 3, 2, 3, 1], false), ([4, 3, 2, 1, 3], true)]), ([4, 1, 0, 2, 3, 5], [([4, 3, 1, 2, 1], false), ([4, 1, 3, 2, 1], false), ([1, 4, 3, 2, 1], false), ([4, 3, 2, 1, 2], true)])]
noncomputable def lay10 : List (List Nat) := [[0, 1, 2, 3, 4, 5]]
noncomputable def lay11 : List (List Nat) := [[0, 1, 2, 3, 5, 4], [0, 1, 2, 4, 3, 5], [0, 1, 3, 2, 4, 5], [0, 2, 1, 3, 4, 5]]
noncomputable def lay12 : List (List Nat) := [[0, 1, 2, 3, 5, 4], [0, 1, 2, 4, 3, 5], [0, 1, 2, 4, 5, 3], [0, 1, 2, 5, 3, 4], [0, 1, 3, 2, 4, 5], [0, 1, 3, 2, 5, 4], [0, 1, 3, 4, 2, 5], [0, 1, 4, 2, 3, 5], [0, 2, 1, 3, 4, 5], [0, 2, 1, 3, 5, 4], [0, 2, 1, 4, 3, 5], [0, 2, 3, 1, 4, 5], [0, 3, 1, 2, 4, 5]]
noncomputable def lay13 : List (List Nat) := [[0, 1, 2, 3, 5, 4], [0, 1, 2, 4, 3, 5], [0, 1, 2, 4, 5, 3], [0, 1, 2, 5, 3, 4], [0, 1, 2, 5, 4, 3], [0, 1, 3, 2, 4, 5], [0, 1, 3, 2, 5, 4], [0, 1, 3, 4, 2, 5], [0, 1, 3, 4, 5, 2], [0, 1, 3, 5, 2, 4], [0, 1, 4, 2, 3, 5], [0, 1, 4, 2, 5, 3], [0, 1, 4, 3, 2, 5], [0, 1, 5, 2, 3, 4], [0, 2, 1, 3, 4, 5], [0, 2, 1, 3, 5, 4], [0, 2, 1, 4, 3, 5], [0, 2, 1, 4, 5, 3], [0, 2, 1, 5, 3, 4], [0, 2, 3, 1, 4, 5], [0, 2, 3, 1, 5, 4], [0, 2, 3, 4, 1, 5], [0, 2, 4, 1, 3, 5], [0, 3, 1, 2, 4, 5], [0, 3, 1, 2, 5, 4], [0, 3, 1, 4, 2, 5], [0, 3, 2, 1, 4, 5], [0, 4, 1, 2, 3, 5]]
noncomputable def lay14 : List (List Nat) := [[0, 1, 2, 3, 5, 4], [0, 1, 2, 4, 3, 5], [0, 1, 2, 4, 5, 3], [0, 1, 2, 5, 3, 4], [0, 1, 2, 5, 4, 3], [0, 1, 3, 2, 4, 5], [0, 1, 3, 2, 5, 4], [0, 1, 3, 4, 2, 5], [0, 1, 3, 4, 5, 2], [0, 1, 3, 5, 2, 4], [0, 1, 3, 5, 4, 2], [0, 1, 4, 2, 3, 5], [0, 1, 4, 2, 5, 3], [0, 1, 4, 3, 2, 5], [0, 1, 4, 3, 5, 2], [0, 1, 4, 5, 2, 3], [0, 1, 5, 2, 3, 4], [0, 1, 5, 2, 4, 3], [0, 1, 5, 3, 2, 4], [0, 2, 1, 3, 4, 5], [0, 2, 1, 3, 5, 4], [0, 2, 1, 4, 3, 5], [0, 2, 1, 4, 5, 3], [0, 2, 1, 5, 3, 4], [0, 2, 1, 5, 4, 3], [0, 2, 3, 1, 4, 5], [0, 2, 3, 1, 5, 4], [0, 2, 3, 4, 1, 5], [0, 2, 3, 4, 5, 1], [0, 2, 3, 5, 1, 4], [0, 2, 4, 1, 3, 5], [0, 2, 4, 1, 5, 3], [0, 2, 4, 3, 1, 5], [0, 2, 5, 1, 3, 4], [0, 3, 1, 2, 4, 5], [0, 3, 1, 2, 5, 4], [0, 3, 1, 4, 2, 5], [0, 3, 1, 4, 5, 2], [0, 3, 1, 5, 2, 4], [0, 3, 2, 1, 4, 5], [0, 3, 2, 1, 5, 4], [0, 3, 2, 4, 1, 5], [0, 3, 4, 1, 2, 5], [0, 4, 1, 2, 3, 5], [0, 4, 1, 2, 5, 3], [0, 4, 1, 3, 2, 5], [0, 4, 2, 1, 3, 5], [0, 5, 1, 2, 3, 4]]
theorem clo10 : (lay10.all fun o => [1, 2, 3, 4].all fun k => lay11.contains (stepP o (k + 1))) = true := by decide +kernel
theorem clo11 : (lay11.all fun o => [1, 2, 3, 4].all fun k => lay12.contains (stepP o (k + 1))) = true := by decide +kernel
theorem clo12 : (lay12.all fun o => [1, 2, 3, 4].all fun k => lay13.contains (stepP o (k + 1))) = true := by decide +kernel
theorem clo13 : (lay13.all fun o => [1, 2, 3, 4].all fun k => lay14.contains (stepP o (k + 1))) = true := by decide +kernel
noncomputable def text1 : List Nat := [70, 69, 68, 67, 66, 70, 69, 68, 67, 70, 69, 68, 70, 69, 70]
theorem text1_eq : wordP (stairsP 5) = text1 ∧ (stairsP 5).length = 15 := by decide +kernel
noncomputable def tab1 : List (List Nat × List (List Nat × Bool)) := [([0, 1, 2, 3, 5, 4], [([5], true)]), ([0, 1, 2, 4, 3, 5], [([4], true)]), ([0, 1, 2, 4, 5, 3], [([4, 5], true)]), ([0, 1, 2, 5, 3, 4], [([5, 4], true)]), ([0, 1, 2, 5, 4, 3], [([4, 5, 4], true), ([5, 4, 5], true)]), ([0, 1, 3, 2, 4, 5], [([3], true)]), ([0, 1, 3, 2, 5, 4], [([5, 3], true), ([3, 5], true)]), ([0, 1, 3, 4, 2, 5], [([3, 4], true)]), ([0, 1, 3, 4, 5, 2], [([3, 4, 5], true)]), ([0, 1, 3, 5, 2, 4], [([5, 3, 4], true), ([3, 5, 4], true)]), ([0, 1, 3, 5, 4, 2], [([3, 4, 5, 4], true), ([5, 3, 4, 5], true), ([3, 5, 4, 5], true)]), ([0, 1, 4, 2, 3, 5], [([4, 3], true)]), ([0, 1, 4, 2, 5, 3], [([4, 5, 3], true), ([4, 3, 5], true)]), ([0, 1, 4, 3, 2, 5], [([3, 4, 3], true), ([4, 3, 4], true)]), ([0, 1, 4, 3, 5, 2], [([3, 4, 5, 3], true), ([3, 4, 3, 5], true), ([4, 3, 4, 5], true)]), ([0, 1, 4, 5, 2, 3], [([4, 5, 3, 4], true), ([4, 3, 5, 4], true)]), ([0, 1, 5, 2, 3, 4], [([5, 4, 3], true)]), ([0, 1, 5, 2, 4, 3], [([4, 5, 4, 3], true), ([5, 4, 5, 3], true), ([5, 4, 3, 5], true)]), ([0, 1, 5, 3, 2, 4], [([5, 3, 4, 3], true), ([3, 5, 4, 3], true), ([5, 4, 3, 4], true)]), ([0, 2, 1, 3, 4, 5], [([2], true)]), ([0, 2, 1, 3, 5, 4], [([5, 2], true), ([2, 5], true)]), ([0, 2, 1, 4, 3, 5], [([4, 2], true), ([2, 4], true)]), ([0, 2, 1, 4, 5, 3], [([4, 5, 2], true), ([4, 2, 5], true), ([2, 4, 5], true)]), ([0, 2, 1, 5, 3, 4], [([5, 4, 2], true), ([5, 2, 4], true), ([2, 5, 4], true)]), ([0, 2, 1, 5, 4, 3], [([4, 5, 4, 2], true), ([5, 4, 5, 2], true), ([4, 5, 2, 4], true), ([4, 2, 5, 4], true), ([2, 4, 5, 4], true), ([5, 4, 2, 5], true), ([5, 2, 4, 5], true), ([2, 5, 4, 5], true)]), ([0, 2, 3, 1, 4, 5], [([2, 3], true)]), ([0, 2, 3, 1, 5, 4], [([5, 2, 3], true), ([2, 5, 3], true), ([2, 3, 5], true)]), ([0, 2, 3, 4, 1, 5], [([2, 3, 4], true)]), ([0, 2, 3, 4, 5, 1], [([2, 3, 4, 5], true)]), ([0, 2, 3, 5, 1, 4], [([5, 2, 3, 4], true), ([2, 5, 3, 4], true), ([2, 3, 5, 4], true)]), ([0, 2, 4, 1, 3, 5], [([4, 2, 3], true), ([2, 4, 3], true)]), ([0, 2, 4, 1, 5, 3], [([4, 5, 2, 3], true), ([4, 2, 5, 3], true), ([2, 4, 5, 3], true), ([4, 2, 3, 5], true), ([2, 4, 3, 5], true)]), ([0, 2, 4, 3, 1, 5], [([2, 3, 4, 3], true), ([4, 2, 3, 4], true), ([2, 4, 3, 4], true)]), ([0, 2, 5, 1, 3, 4], [([5, 4, 2, 3], true), ([5, 2, 4, 3], true), ([2, 5, 4, 3], true)]), ([0, 3, 1, 2, 4, 5], [([3, 2], true)]), ([0, 3, 1, 2, 5, 4], [([5, 3, 2], true), ([3, 5, 2], true), ([3, 2, 5], true)]), ([0, 3, 1, 4, 2, 5], [([3, 4, 2], true), ([3, 2, 4], true)]), ([0, 3, 1, 4, 5, 2], [([3, 4, 5, 2], false), ([3, 4, 2, 5], true), ([3, 2, 4, 5], true)]), ([0, 3, 1, 5, 2, 4], [([5, 3, 4, 2], true), ([3, 5, 4, 2], true), ([5, 3, 2, 4], true), ([3, 5, 2, 4], true), ([3, 2, 5, 4], true)]), ([0, 3, 2, 1, 4, 5], [([2, 3, 2], true), ([3, 2, 3], true)]), ([0, 3, 2, 1, 5, 4], [([5, 2, 3, 2], true), ([2, 5, 3, 2], true), ([2, 3, 5, 2], false), ([5, 3, 2, 3], true), ([3, 5, 2, 3], true), ([3, 2, 5, 3], true), ([2, 3, 2, 5], true), ([3, 2, 3, 5], true)]), ([0, 3, 2, 4, 1, 5], [([2, 3, 4, 2], false), ([2, 3, 2, 4], true), ([3, 2, 3, 4], true)]), ([0, 3, 4, 1, 2, 5], [([3, 4, 2, 3], true), ([3, 2, 4, 3], true)]), ([0, 4, 1, 2, 3, 5], [([4, 3, 2], true)]), ([0, 4, 1, 2, 5, 3], [([4, 5, 3, 2], true), ([4, 3, 5, 2], true), ([4, 3, 2, 5], true)]), ([0, 4, 1, 3, 2, 5], [([3, 4, 3, 2], true), ([4, 3, 4, 2], true), ([4, 3, 2, 4], true)]), ([0, 4, 2, 1, 3, 5], [([4, 2, 3, 2], true), ([2, 4, 3, 2], true), ([4, 3, 2, 3], true)]), ([0, 5, 1, 2, 3, 4], [([5, 4, 3, 2], true)])]
/-- what is asked of a row of the table, the base apart -/
noncomputable def chkLev (text : List Nat) (slen : Nat) (t : List (List Nat × List (List Nat × Bool))) : Bool := t.all fun p => p.2.all fun rb => Nat.beq (levP (wordP rb.1) text (2 * (slen - rb.1.length))) (2 * (slen - rb.1.length)) == rb.2
noncomputable def sumW (q : Nat) : List (List Nat × Bool) → Nat
  | [] => 0
  | rb :: r => weightGo q rb.1 0 9 1 + sumW q r
noncomputable def sumL (q : Nat) : List (List Nat × Bool) → Nat
  | [] => 0
  | rb :: r => levelsP q rb.1 + sumL q r
noncomputable def chkQ (q : Nat) (t : List (List Nat × List (List Nat × Bool))) : Bool := t.all fun p => (p.2.all fun rb => Nat.blt 0 (levelsP q rb.1) == rb.2) && Nat.beq (sumW q p.2) (prodGo q 1 ((p.2.map (·.1)).headD []).length (sumL q p.2))
noncomputable def chkS (t : List (List Nat × List (List Nat × Bool))) : Bool := t.all fun p => fuelOk 5 p.1 && (shortF 5 p.1 == p.2.map (·.1)) && Nat.ble p.2.length 100
theorem lev0 : chkLev text0 10 tab0 = true := by decide +kernel
theorem lev1 : chkLev text1 15 tab1 = true := by decide +kernel
theorem shs0 : chkS tab0 = true := by decide +kernel
theorem shs1 : chkS tab1 = true := by decide +kernel
theorem q0 : ([2, 3, 4, 5, 6, 7, 8, 9, 10, 11, 12, 13, 14, 15, 16, 17].all fun q => chkQ q tab0) = true := by decide +kernel
theorem q1 : ([2, 3, 4, 5, 6, 7, 8, 9, 10, 11, 12, 13, 14, 15, 16, 17].all fun q => chkQ q tab1) = true := by decide +kernel
end
section
set_option maxHeartbeats 4000000
theorem agree_of (text : List Nat) (slen q : Nat) : ∀ (rs : List (List Nat × Bool)) (l r : Nat), (rs.all fun rb => Nat.beq (levP (wordP rb.1) text (2 * (slen - rb.1.length))) (2 * (slen - rb.1.length)) == rb.2) = true → (rs.all fun rb => Nat.blt 0 (levelsP q rb.1) == rb.2) = true →
    agreeGo text slen q (rs.map (·.1)) l r = some (l + sumW q rs, r + sumL q rs)
  | [], l, r, _, _ => rfl
  | rb :: rs, l, r, h1, h2 => by
    rw [List.all_cons, Bool.and_eq_true] at h1 h2
    have e1 : ((levP (wordP rb.1) text (2 * (slen - rb.1.length)) : Int) == ((2 * (slen - rb.1.length) : Nat) : Int)) = rb.2 := by
      rw [← eq_of_beq h1.1]
      generalize levP (wordP rb.1) text (2 * (slen - rb.1.length)) = a
      generalize 2 * (slen - rb.1.length) = b
      rw [Bool.eq_iff_iff, beq_iff_eq, Nat.beq_eq]
      walk_at "lx"
    have e2 : decide ((0 : Int) < (levelsP q rb.1 : Nat)) = rb.2 := by
      rw [← eq_of_beq h2.1]
      generalize levelsP q rb.1 = a
      rw [Bool.eq_iff_iff, decide_eq_true_eq, Nat.blt_eq]
      walk_at "lx"
    have e : rowBad text slen q rb.1 = false := by
      unfold rowBad
      rw [e1, e2]
      cases rb.2 <;> rfl
    rw [List.map_cons, agreeGo, e, if_neg (by decide), agree_of text slen q rs _ _ h1.2 h2.2]
    show some (l + weightGo q rb.1 0 9 1 + sumW q rs, r + levelsP q rb.1 + sumL q rs) = some (l + (weightGo q rb.1 0 9 1 + sumW q rs), r + (levelsP q rb.1 + sumL q rs))
    rw [Nat.add_assoc, Nat.add_assoc]
theorem order_fact (text : List Nat) (slen top q : Nat) (t : List (List Nat × List (List Nat × Bool))) (ht : wordP (stairsP top) = text ∧ (stairsP top).length = slen) (h1 : chkLev text slen t = true) (h2 : chkS t = true) (h3 : chkQ q t = true) (o : List Nat) (ho : o ∈ t.map (·.1)) :
    fuelOk 5 o = true ∧ (shortF 5 o).length ≤ 1000 ∧ agreeP (shortF 5 o) top q = true := by
  obtain ⟨p, hp, rfl⟩ := List.mem_map.mp ho
  have a1 := List.all_eq_true.mp h1 p hp
  have a2 := List.all_eq_true.mp h2 p hp
  have a3 := List.all_eq_true.mp h3 p hp
  rw [Bool.and_eq_true, Bool.and_eq_true] at a2
  rw [Bool.and_eq_true] at a3
  have e := eq_of_beq a2.1.2
  have hl : p.2.length ≤ 100 := Nat.le_of_ble_eq_true a2.2
  refine ⟨a2.1.1, by rw [e, List.length_map]; walk_at "lx", ?_⟩
  unfold agreeP
  rw [ht.1, ht.2, e, agree_of text slen q p.2 0 0 a1 a3.1]
  show (((0 + sumW q p.2 : Nat) : Int) == (prodGo q 1 ((p.2.map (·.1)).headD []).length (0 + sumL q p.2) : Nat)) = true
  rw [Nat.zero_add, Nat.zero_add, Nat.eq_of_beq_eq_true a3.2]
  exact beq_self_eq_true _
theorem four_tab : ∀ k : _root_.Fin 4, k.val + 1 ∈ [1, 2, 3, 4] := by decide +kernel
theorem clo_mem {more : Nat} {s s' : List (List Nat)} (h : (s.all fun o => [1, 2, 3, 4].all fun k => s'.contains (stepP o (k + more))) = true) {o : List Nat} (ho : o ∈ s) {k : Nat} (hk : k < 4) : stepP o (k + 1 + more) ∈ s' :=
  List.contains_iff_mem.mp (List.all_eq_true.mp (List.all_eq_true.mp h o ho) (k + 1) (four_tab ⟨k, hk⟩))
theorem base_tab : ∀ q : _root_.Fin 18, 2 ≤ q.val → q.val ∈ [2, 3, 4, 5, 6, 7, 8, 9, 10, 11, 12, 13, 14, 15, 16, 17] := by decide +kernel
theorem base_in {q : Nat} (h2 : 2 ≤ q) (h17 : q ≤ 17) {g : Nat → Bool} (h : ([2, 3, 4, 5, 6, 7, 8, 9, 10, 11, 12, 13, 14, 15, 16, 17].all g) = true) : g q = true := List.all_eq_true.mp h q (base_tab ⟨q, Nat.lt_succ_of_le h17⟩ h2)
theorem orders0 (q : Nat) (h2 : 2 ≤ q) (h17 : q ≤ 17) (ks : List Nat) (hl : ks.length = 5) (hk : ∀ k ∈ ks, k < 4) (o : List Nat) (ho : orderP (ks.map fun k => k + 1 + 0) [0, 1, 2, 3, 4, 5] = o) : fuelOk 5 o = true ∧ (shortF 5 o).length ≤ 1000 ∧ agreeP (shortF 5 o) 4 q = true := by
  match ks, hl with
  | [a, b, c, d, e], _ =>
    have ka := hk a (by simp); have kb := hk b (by simp); have kc := hk c (by simp); have kd := hk d (by simp); have ke := hk e (by simp)
    have m0 : [0, 1, 2, 3, 4, 5] ∈ lay00 := .head _
    have m := clo_mem clo04 (clo_mem clo03 (clo_mem clo02 (clo_mem clo01 (clo_mem clo00 m0 ka) kb) kc) kd) ke
    have hm : lay05 = tab0.map (·.1) := by rfl
    rw [hm] at m
    have mo : o ∈ tab0.map (·.1) := by
      rw [← ho]
      simpa only [orderP, List.map_cons, List.map_nil, List.foldl_cons, List.foldl_nil] using m
    exact order_fact text0 10 4 q tab0 text0_eq lev0 shs0 (base_in h2 h17 q0) o mo
theorem orders1 (q : Nat) (h2 : 2 ≤ q) (h17 : q ≤ 17) (ks : List Nat) (hl : ks.length = 4) (hk : ∀ k ∈ ks, k < 4) (o : List Nat) (ho : orderP (ks.map fun k => k + 1 + 1) [0, 1, 2, 3, 4, 5] = o) : fuelOk 5 o = true ∧ (shortF 5 o).length ≤ 1000 ∧ agreeP (shortF 5 o) 5 q = true := by
  match ks, hl with
  | [a, b, c, d], _ =>
    have ka := hk a (by simp); have kb := hk b (by simp); have kc := hk c (by simp); have kd := hk d (by simp)
    have m0 : [0, 1, 2, 3, 4, 5] ∈ lay10 := .head _
    have m := clo_mem clo13 (clo_mem clo12 (clo_mem clo11 (clo_mem clo10 m0 ka) kb) kc) kd
    have hm : lay14 = tab1.map (·.1) := by rfl
    rw [hm] at m
    have mo : o ∈ tab1.map (·.1) := by
      rw [← ho]
      simpa only [orderP, List.map_cons, List.map_nil, List.foldl_cons, List.foldl_nil] using m
    exact order_fact text1 15 5 q tab1 text1_eq lev1 shs1 (base_in h2 h17 q1) o mo
end
section
set_option maxHeartbeats 4000000
theorem escP_append : ∀ (rows : List (Nat × List Nat)) (a b : List Nat), escP rows (a ++ b) = escP rows a ++ escP rows b
  | [], _, _ => rfl
  | p :: rows, a, b => by
    show escP rows (repP p.1 p.2 (a ++ b)) = escP rows (repP p.1 p.2 a) ++ escP rows (repP p.1 p.2 b)
    rw [repP_append, escP_append rows]
theorem escP_nil : ∀ rows : List (Nat × List Nat), escP rows [] = []
  | [] => rfl
  | p :: rows => escP_nil rows
noncomputable def pieceP (h k : Nat) : List Nat := escP (escRows h) [signC k]
noncomputable def pageK (h : Nat) (ks : List Nat) : List Nat := ks.flatMap (pieceP h)
theorem pageP_eq (h : Nat) : ∀ ks : List Nat, pageP h ks = pageK h ks
  | [] => escP_nil _
  | k :: ks => by
    have ih := pageP_eq h ks
    unfold pageP at ih ⊢
    rw [List.map_cons, show signC k :: ks.map signC = [signC k] ++ ks.map signC from rfl, escP_append, ih]
    rfl
noncomputable def isRaw (h k : Nat) : Bool := (h == 2 && k == 2) || (h == 4 && k == 3)
noncomputable def entP : Nat → List Nat
  | 1 => [38, 97, 109, 112, 59]
  | 2 => [38, 108, 116, 59]
  | _ => [38, 103, 116, 59]
theorem piece_tab : ∀ h : _root_.Fin 5, ∀ k : _root_.Fin 4, pieceP h.val k.val = if k.val = 0 then [124] else if isRaw h.val k.val then [signC k.val] else entP k.val := by decide +kernel
noncomputable abbrev alphaP : List Nat := [124, 38, 60, 62, 97, 109, 112, 59, 108, 116, 103]
theorem piece_alpha : ∀ h : _root_.Fin 5, ∀ k : _root_.Fin 4, ((pieceP h.val k.val).all fun c => alphaP.contains c) = true ∧ (pieceP h.val k.val).length ≤ 5 ∧ 1 ≤ (pieceP h.val k.val).length := by decide +kernel
theorem page_alpha (h : Nat) (hh : h < 5) (ks : List Nat) (hk : ∀ k ∈ ks, k < 4) : ∀ c ∈ pageK h ks, c ∈ alphaP := by
  intro c hc
  obtain ⟨k, hk', hc'⟩ := List.mem_flatMap.mp hc
  have := (piece_alpha ⟨h, hh⟩ ⟨k, hk k hk'⟩).1
  exact List.contains_iff_mem.mp (List.all_eq_true.mp this c hc')
theorem page_len (h : Nat) (hh : h < 5) : ∀ ks : List Nat, (∀ k ∈ ks, k < 4) → (pageK h ks).length ≤ 5 * ks.length
  | [], _ => by simp [pageK]
  | k :: ks, hk => by
    have ih := page_len h hh ks fun x hx => hk x (.tail _ hx)
    have := (piece_alpha ⟨h, hh⟩ ⟨k, hk k (.head _)⟩).2.1
    show (pieceP h k ++ pageK h ks).length ≤ _
    rw [List.length_append, List.length_cons]
    dsimp only at this
    walk_at "lx"
theorem tok_mem {x : List Nat} {n : Nat} : ∀ {T : List (List Nat × Nat)}, tokLook x T = some n → (x, n) ∈ T
  | [], h => by cases h
  | (a, k) :: T, h => by
    rw [tokLook] at h
    split at h
    · next e => cases h; subst e; exact .head _
    · exact .tail _ (tok_mem h)
/-- the longer tokens that these letters can make -/
theorem tok_long : (tokT.all fun r => r.1.length == 1 || !(r.1.all fun c => alphaP.contains c) || (r.1 == [60, 60]) || (r.1 == [62, 62])) = true := by decide +kernel
theorem tok3_ {a b c : Nat} (ha : a ∈ alphaP) (hb : b ∈ alphaP) (hc : c ∈ alphaP) : (tokLook [a, b, c] tokT).isSome = false := by
  cases h : tokLook [a, b, c] tokT with
  | none => rfl
  | some n =>
    have := List.all_eq_true.mp tok_long _ (tok_mem h)
    simp only [List.length_cons, List.length_nil, List.all_cons, List.all_nil, List.contains_iff_mem.mpr ha, List.contains_iff_mem.mpr hb, List.contains_iff_mem.mpr hc, Bool.and_true, Bool.not_true, Bool.or_false] at this
    simp only [Bool.or_eq_true, beq_iff_eq, List.cons.injEq, and_false, reduceCtorEq, or_false] at this
    walk_at "lx"
theorem tok2_ {a b : Nat} (ha : a ∈ alphaP) (hb : b ∈ alphaP) : tokLook [a, b] tokT = if a = 60 ∧ b = 60 then some 33 else if a = 62 ∧ b = 62 then some 34 else none := by
  split
  · next e => obtain ⟨rfl, rfl⟩ := e; rfl
  · next e1 =>
    split
    · next e => obtain ⟨rfl, rfl⟩ := e; rfl
    · next e2 =>
      cases h : tokLook [a, b] tokT with
      | none => rfl
      | some n =>
        have := List.all_eq_true.mp tok_long _ (tok_mem h)
        simp only [List.length_cons, List.length_nil, List.all_cons, List.all_nil, List.contains_iff_mem.mpr ha, List.contains_iff_mem.mpr hb, Bool.and_true, Bool.not_true, Bool.or_false] at this
        simp only [Bool.or_eq_true, beq_iff_eq, List.cons.injEq, and_true] at this
        walk_at "lx"
theorem symGo_len : ∀ (f : Nat) (l : List Nat), (symGo f l).length ≤ f
  | 0, _ => by simp [symGo]
  | f + 1, l => by
    unfold symGo
    split
    · simp
    · have := symGo_len f (l.drop (sizeP l))
      rw [List.length_cons]; walk_at "lx"
/-- two signs that are read as one -/
theorem sym_two {f a n : Nat} {r : List Nat} (ha : (a = 60 ∧ n = 33) ∨ (a = 62 ∧ n = 34)) (hr : ∀ c ∈ r, c ∈ alphaP) : symGo (f + 1) (a :: a :: r) = .num n :: symGo f r := by
  have hA : a ∈ alphaP := by rcases ha with ⟨rfl, _⟩ | ⟨rfl, _⟩ <;> decide
  have e2 : tokLook [a, a] tokT = some n := by
    rw [tok2_ hA hA]
    rcases ha with ⟨rfl, rfl⟩ | ⟨rfl, rfl⟩ <;> rfl
  have hs : symOf [a, a] = .num n := by unfold symOf; rw [e2]
  rw [symGo, if_neg (by simp)]
  cases r with
  | nil =>
    have : sizeP [a, a] = 3 := by
      unfold sizeP
      rw [show [a, a].take 3 = [a, a] from rfl, e2]; rfl
    rw [this]
    show symOf [a, a] :: symGo f [] = _
    rw [hs]
  | cons c r =>
    have : sizeP (a :: a :: c :: r) = 2 := by
      unfold sizeP
      rw [show (a :: a :: c :: r).take 3 = [a, a, c] from rfl, show (a :: a :: c :: r).take 2 = [a, a] from rfl, tok3_ hA hA (hr c (.head _)), e2]; rfl
    rw [this]
    show symOf [a, a] :: symGo f (c :: r) = _
    rw [hs]
theorem sym_one {f a : Nat} {r : List Nat} (hA : a ∈ alphaP) (hr : ∀ c ∈ r, c ∈ alphaP) (hn : (a ≠ 60 ∧ a ≠ 62) ∨ r.head? ≠ some a) : symGo (f + 1) (a :: r) = symOf [a] :: symGo f r := by
  rw [symGo, if_neg (by simp)]
  have two : ∀ b, r.head? = some b → b ∈ alphaP → tokLook [a, b] tokT = none := by
    intro b hb hB
    rw [tok2_ hA hB]
    rcases hn with ⟨h1, h2⟩ | h
    · simp [h1, h2]
    · rw [hb] at h
      have hab : a ≠ b := fun e => h (by rw [e])
      rw [if_neg (by walk_at "lx"), if_neg (by walk_at "lx")]
  match r, hr, two with
  | [], _, _ =>
    have hz : sizeP [a] = 3 ∨ sizeP [a] = 2 ∨ sizeP [a] = 1 := by unfold sizeP; split <;> (try split) <;> simp
    rcases hz with h | h | h <;> rw [h] <;> rfl
  | [b], hr, two =>
    have e := two b rfl (hr b (.head _))
    have : sizeP [a, b] = 1 := by
      unfold sizeP
      rw [show [a, b].take 3 = [a, b] from rfl, show [a, b].take 2 = [a, b] from rfl, e]; rfl
    rw [this]; rfl
  | b :: c :: r, hr, two =>
    have e := two b rfl (hr b (.head _))
    have : sizeP (a :: b :: c :: r) = 1 := by
      unfold sizeP
      rw [show (a :: b :: c :: r).take 3 = [a, b, c] from rfl, show (a :: b :: c :: r).take 2 = [a, b] from rfl, tok3_ hA (hr b (.head _)) (hr c (.tail _ (.head _))), e]; rfl
    rw [this]; rfl
theorem tokens1 : symOf [124] = .num 18 ∧ symOf [38] = .num 19 ∧ symOf [60] = .num 20 ∧ symOf [62] = .num 21 ∧ symOf [59] = .num 13 ∧ symOf [97] = .txt [97] ∧ symOf [109] = .txt [109] ∧ symOf [112] = .txt [112] ∧ symOf [108] = .txt [108] ∧ symOf [116] = .txt [116] ∧ symOf [103] = .txt [103] := by
  refine ⟨rfl, rfl, rfl, rfl, rfl, rfl, rfl, rfl, rfl, rfl, rfl⟩
/-- the steps that a page tells -/
noncomputable def ddP (h : Nat) : List Nat → List Nat
  | [] => []
  | [k] => [k + 1]
  | k :: j :: r => if k = j ∧ isRaw h k = true then (k + 1) :: ddP h r else (k + 1) :: ddP h (j :: r)
theorem ent_run (k : Nat) (hk : 1 ≤ k ∧ k < 4) (f : Nat) (r st nm : List Nat) (hr : ∀ c ∈ r, c ∈ alphaP) (hf : (entP k ++ r).length ≤ f) : ∃ f' nm', r.length ≤ f' ∧ stepsGo (symGo f (entP k ++ r)) st nm = stepsGo (symGo f' r) (st ++ [k + 1]) nm' := by
  obtain ⟨t1, t2, t3, t4, t5, t6, t7, t8, t9, t10, t11⟩ := tokens1
  have al : ∀ (l : List Nat), (∀ c ∈ l, c ∈ alphaP) → ∀ c ∈ l ++ r, c ∈ alphaP := fun l hl c hc => (List.mem_append.mp hc).elim (hl c) (hr c)
  have hk' : k = 1 ∨ k = 2 ∨ k = 3 := by walk_at "lx"
  rcases hk' with rfl | rfl | rfl
  · obtain ⟨f', rfl⟩ : ∃ f', f = f' + 5 := ⟨f - 5, by rw [List.length_append] at hf; simp [entP] at hf; walk_at "lx"⟩
    refine ⟨f', [97, 109, 112], by rw [List.length_append] at hf; simp [entP] at hf; walk_at "lx", ?_⟩
    show stepsGo (symGo (f' + 5) (38 :: 97 :: 109 :: 112 :: 59 :: r)) st nm = _
    rw [sym_one (f := f' + 4) (a := 38) (r := 97 :: 109 :: 112 :: 59 :: r) (by decide) (al [97, 109, 112, 59] (by decide)) (.inl (by decide)), sym_one (f := f' + 3) (a := 97) (r := 109 :: 112 :: 59 :: r) (by decide) (al [109, 112, 59] (by decide)) (.inl (by decide)), sym_one (f := f' + 2) (a := 109) (r := 112 :: 59 :: r) (by decide) (al [112, 59] (by decide)) (.inl (by decide)), sym_one (f := f' + 1) (a := 112) (r := 59 :: r) (by decide) (al [59] (by decide)) (.inl (by decide)), sym_one (f := f') (a := 59) (r := r) (by decide) hr (.inl (by decide)), t2, t6, t7, t8, t5]
    rfl
  · obtain ⟨f', rfl⟩ : ∃ f', f = f' + 4 := ⟨f - 4, by rw [List.length_append] at hf; simp [entP] at hf; walk_at "lx"⟩
    refine ⟨f', [108, 116], by rw [List.length_append] at hf; simp [entP] at hf; walk_at "lx", ?_⟩
    show stepsGo (symGo (f' + 4) (38 :: 108 :: 116 :: 59 :: r)) st nm = _
    rw [sym_one (f := f' + 3) (a := 38) (r := 108 :: 116 :: 59 :: r) (by decide) (al [108, 116, 59] (by decide)) (.inl (by decide)), sym_one (f := f' + 2) (a := 108) (r := 116 :: 59 :: r) (by decide) (al [116, 59] (by decide)) (.inl (by decide)), sym_one (f := f' + 1) (a := 116) (r := 59 :: r) (by decide) (al [59] (by decide)) (.inl (by decide)), sym_one (f := f') (a := 59) (r := r) (by decide) hr (.inl (by decide)), t2, t9, t10, t5]
    rfl
  · obtain ⟨f', rfl⟩ : ∃ f', f = f' + 4 := ⟨f - 4, by rw [List.length_append] at hf; simp [entP] at hf; walk_at "lx"⟩
    refine ⟨f', [103, 116], by rw [List.length_append] at hf; simp [entP] at hf; walk_at "lx", ?_⟩
    show stepsGo (symGo (f' + 4) (38 :: 103 :: 116 :: 59 :: r)) st nm = _
    rw [sym_one (f := f' + 3) (a := 38) (r := 103 :: 116 :: 59 :: r) (by decide) (al [103, 116, 59] (by decide)) (.inl (by decide)), sym_one (f := f' + 2) (a := 103) (r := 116 :: 59 :: r) (by decide) (al [116, 59] (by decide)) (.inl (by decide)), sym_one (f := f' + 1) (a := 116) (r := 59 :: r) (by decide) (al [59] (by decide)) (.inl (by decide)), sym_one (f := f') (a := 59) (r := r) (by decide) hr (.inl (by decide)), t2, t11, t10, t5]
    rfl
end
section
set_option maxHeartbeats 4000000
theorem raw_head : ∀ h : _root_.Fin 5, ∀ k : _root_.Fin 4, ∀ j : _root_.Fin 4, isRaw h.val k.val = true → j ≠ k → (pieceP h.val j.val).head? ≠ some (signC k.val) ∧ pieceP h.val j.val ≠ [] := by decide +kernel
theorem raw_sign {h k : Nat} (hr : isRaw h k = true) : k = 2 ∨ k = 3 := by
  unfold isRaw at hr
  simp at hr
  walk_at "lx"
theorem ddP_cons {h k : Nat} {ks : List Nat} (hn : isRaw h k = false) : ddP h (k :: ks) = (k + 1) :: ddP h ks := by
  cases ks with
  | nil => rfl
  | cons j r => rw [ddP, if_neg (by simp [hn])]
theorem stepsGo_num {n : Nat} {ys : List Sym} {st nm : List Nat} {v : Nat} (h : stepSym (.num n) st nm = some (st ++ [v], nm)) : stepsGo (.num n :: ys) st nm = stepsGo ys (st ++ [v]) nm := by
  rw [stepsGo, h]
theorem page_run (h : Nat) (hh : h < 5) : ∀ (n : Nat) (ks : List Nat), ks.length ≤ n → (∀ k ∈ ks, k < 4) → ∀ (f : Nat) (st nm : List Nat), (pageK h ks).length ≤ f → stepsGo (symGo f (pageK h ks)) st nm = some (st ++ ddP h ks)
  | _, [], _, _, f, st, nm, _ => by
    have : symGo f [] = [] := by cases f <;> rfl
    show stepsGo (symGo f []) st nm = _
    rw [this, ddP, List.append_nil]; rfl
  | 0, k :: ks, hn, _, _, _, _, _ => by rw [List.length_cons] at hn; walk_at "lx"
  | n + 1, k :: ks, hn, hk, f, st, nm, hf => by
    rw [List.length_cons] at hn
    have k4 := hk k (.head _)
    have hks : ∀ x ∈ ks, x < 4 := fun x hx => hk x (.tail _ hx)
    have al := page_alpha h hh ks hks
    have hp := piece_tab ⟨h, hh⟩ ⟨k, k4⟩
    dsimp only at hp
    have epage : pageK h (k :: ks) = pieceP h k ++ pageK h ks := rfl
    rw [epage] at hf ⊢
    obtain ⟨t1, t2, t3, t4, t5, t6, t7, t8, t9, t10, t11⟩ := tokens1
    by_cases h0 : k = 0
    · subst h0
      rw [if_pos rfl] at hp
      rw [hp] at hf ⊢
      obtain ⟨f, rfl⟩ : ∃ f', f = f' + 1 := ⟨f - 1, by simp at hf; walk_at "lx"⟩
      show stepsGo (symGo (f + 1) (124 :: pageK h ks)) st nm = _
      rw [sym_one (by decide) al (.inl (by decide)), t1, stepsGo_num (v := 1) rfl, page_run h hh n ks (by walk_at "lx") hks f _ _ (by simp at hf; walk_at "lx"), ddP_cons (by simp [isRaw])]
      simp
    · rw [if_neg h0] at hp
      cases hr : isRaw h k with
      | false =>
        rw [hr, if_neg (by decide)] at hp
        rw [hp] at hf ⊢
        obtain ⟨f', nm', hf', e⟩ := ent_run k (by walk_at "lx") f (pageK h ks) st nm al hf
        rw [e, page_run h hh n ks (by walk_at "lx") hks f' _ _ hf', ddP_cons hr]
        simp
      | true =>
        rw [hr, if_pos rfl] at hp
        rw [hp] at hf ⊢
        obtain ⟨f, rfl⟩ : ∃ f', f = f' + 1 := ⟨f - 1, by simp at hf; walk_at "lx"⟩
        have hf1 : (pageK h ks).length ≤ f := by simp at hf; walk_at "lx"
        have hA : signC k ∈ alphaP ∧ stepSym (symOf [signC k]) st nm = some (st ++ [k + 1], nm) ∧ ∃ m, symOf [signC k] = .num m := by
          rcases raw_sign hr with rfl | rfl
          · exact ⟨by decide, by show stepSym (symOf [60]) st nm = _; rw [t3]; rfl, _, t3⟩
          · exact ⟨by decide, by show stepSym (symOf [62]) st nm = _; rw [t4]; rfl, _, t4⟩
        obtain ⟨hA1, hA2, m, hm⟩ := hA
        show stepsGo (symGo (f + 1) (signC k :: pageK h ks)) st nm = _
        cases ks with
        | nil =>
          have hh0 : pageK h [] = [] := rfl
          rw [sym_one hA1 al (.inr (by rw [hh0]; simp)), hm, stepsGo_num (v := k + 1) (by rw [← hm]; exact hA2), page_run h hh n [] (by walk_at "lx") hks f _ _ hf1]
          simp [ddP]
        | cons j r =>
          have j4 := hk j (.tail _ (.head _))
          by_cases hj : k = j
          · subst hj
            have epr : pageK h (k :: r) = signC k :: pageK h r := by show pieceP h k ++ pageK h r = _; rw [hp]; rfl
            rw [epr] at hf1 ⊢
            have alr : ∀ c ∈ pageK h r, c ∈ alphaP := page_alpha h hh r fun x hx => hks x (.tail _ hx)
            have h2 : ∃ m, ((signC k = 60 ∧ m = 33) ∨ (signC k = 62 ∧ m = 34)) ∧ stepSym (.num m) st nm = some (st ++ [k + 1], nm) := by
              rcases raw_sign hr with rfl | rfl
              · exact ⟨33, .inl ⟨rfl, rfl⟩, rfl⟩
              · exact ⟨34, .inr ⟨rfl, rfl⟩, rfl⟩
            obtain ⟨m, hm1, hm2⟩ := h2
            rw [sym_two hm1 alr, stepsGo_num hm2, page_run h hh n r (by simp at hn; walk_at "lx") (fun x hx => hks x (.tail _ hx)) f _ _ (by simp at hf1; walk_at "lx"), ddP, if_pos ⟨rfl, hr⟩]
            simp
          · obtain ⟨g1, g2⟩ := raw_head ⟨h, hh⟩ ⟨k, k4⟩ ⟨j, j4⟩ hr (fun e => hj (congrArg Fin.val e).symm)
            dsimp only at g1 g2
            have ehd : (pageK h (j :: r)).head? = (pieceP h j).head? := by
              show (pieceP h j ++ pageK h r).head? = _
              cases hpj : pieceP h j with
              | nil => exact absurd hpj g2
              | cons a b => rfl
            rw [sym_one hA1 al (.inr (by rw [ehd]; exact g1)), hm, stepsGo_num (v := k + 1) (by rw [← hm]; exact hA2), page_run h hh n (j :: r) (by walk_at "lx") hks f _ _ hf1, ddP, if_neg (by simp [hj])]
            simp
theorem six {o : List Nat} (h : o.length = 6) : ∃ a b c d e f, o = [a, b, c, d, e, f] := by
  have one : ∀ {n : Nat} {l : List Nat}, l.length = n + 1 → ∃ a r, l = a :: r ∧ r.length = n := by
    intro n l h
    cases l with
    | nil => cases h
    | cons a r => exact ⟨a, r, rfl, Nat.succ.inj h⟩
  obtain ⟨a, r, rfl, q1⟩ := one h
  obtain ⟨b, r, rfl, q2⟩ := one q1
  obtain ⟨c, r, rfl, q3⟩ := one q2
  obtain ⟨d, r, rfl, q4⟩ := one q3
  obtain ⟨e, r, rfl, q5⟩ := one q4
  obtain ⟨f, r, rfl, q6⟩ := one q5
  exact ⟨a, b, c, d, e, f, by rw [List.eq_nil_of_length_eq_zero q6]⟩
theorem stepP_tw {o : List Nat} {k x y : Nat} (h1 : o.getD (k - 1) 0 = x) (h2 : o.getD k 0 = y) (h3 : (exchP o k).getD (k - 1) 0 = y) (h4 : (exchP o k).getD k 0 = x) : stepP (stepP o k) k = stepP o k := by
  unfold stepP
  rw [h1, h2]
  by_cases h : x < y
  · rw [if_pos h, h3, h4, if_neg (Nat.lt_asymm h)]
  · rw [if_neg h, h1, h2, if_neg h]
/-- a step done twice is done once -/
theorem stepP_twice {o : List Nat} {k : Nat} (ho : o.length = 6) (h1 : 1 ≤ k) (h5 : k ≤ 5) : stepP (stepP o k) k = stepP o k := by
  obtain ⟨a, b, c, d, e, f, rfl⟩ : ∃ a b c d e f, o = [a, b, c, d, e, f] := six ho
  have hk : k = 1 ∨ k = 2 ∨ k = 3 ∨ k = 4 ∨ k = 5 := by walk_at "lx"
  rcases hk with rfl | rfl | rfl | rfl | rfl <;> exact stepP_tw rfl rfl rfl rfl
theorem stepP_six {o : List Nat} {k : Nat} (ho : o.length = 6) (h1 : 1 ≤ k) (h5 : k ≤ 5) : (stepP o k).length = 6 := by
  unfold stepP
  split
  · rw [exchP_len h1 (by walk_at "lx")]; exact ho
  · exact ho
theorem dd_order (h more : Nat) (hm : more ≤ 1) : ∀ (n : Nat) (ks : List Nat), ks.length ≤ n → (∀ k ∈ ks, k < 4) → ∀ o : List Nat, o.length = 6 → orderP ((ddP h ks).map (· + more)) o = orderP (ks.map fun k => k + 1 + more) o
  | _, [], _, _, _, _ => rfl
  | _, [k], _, _, _, _ => rfl
  | 0, k :: j :: r, hn, _, _, _ => by simp at hn
  | n + 1, k :: j :: r, hn, hk, o, ho => by
    have k4 := hk k (.head _)
    have o6 := stepP_six ho (k := k + 1 + more) (by walk_at "lx") (by walk_at "lx")
    rw [ddP]
    split
    · next hd =>
      obtain ⟨rfl, _⟩ := hd
      show orderP ((ddP h r).map (· + more)) (stepP o (k + 1 + more)) = orderP (r.map fun k => k + 1 + more) (stepP (stepP o (k + 1 + more)) (k + 1 + more))
      rw [stepP_twice ho (by walk_at "lx") (by walk_at "lx")]
      exact dd_order h more hm n r (by simp at hn; walk_at "lx") (fun x hx => hk x (.tail _ (.tail _ hx))) _ o6
    · show orderP ((ddP h (j :: r)).map (· + more)) (stepP o (k + 1 + more)) = orderP ((j :: r).map fun k => k + 1 + more) (stepP o (k + 1 + more))
      exact dd_order h more hm n (j :: r) (by simp at hn ⊢; walk_at "lx") (fun x hx => hk x (.tail _ hx)) _ o6
theorem dd_range (h : Nat) : ∀ (n : Nat) (ks : List Nat), ks.length ≤ n → (∀ k ∈ ks, k < 4) → (∀ k ∈ ddP h ks, 1 ≤ k ∧ k ≤ 4) ∧ (ddP h ks).length ≤ ks.length
  | _, [], _, _ => ⟨by simp [ddP], by simp [ddP]⟩
  | _, [k], _, hk => by
    have := hk k (.head _)
    exact ⟨by simp [ddP]; walk_at "lx", by simp [ddP]⟩
  | 0, k :: j :: r, hn, _ => by simp at hn
  | n + 1, k :: j :: r, hn, hk => by
    have k4 := hk k (.head _)
    rw [ddP]
    split
    · obtain ⟨a, b⟩ := dd_range h n r (by simp at hn; walk_at "lx") fun x hx => hk x (.tail _ (.tail _ hx))
      refine ⟨fun x hx => ?_, by simp; walk_at "lx"⟩
      rcases List.mem_cons.mp hx with rfl | hx
      · walk_at "lx"
      · exact a x hx
    · obtain ⟨a, b⟩ := dd_range h n (j :: r) (by simp at hn ⊢; walk_at "lx") fun x hx => hk x (.tail _ hx)
      refine ⟨fun x hx => ?_, by simp at b ⊢; walk_at "lx"⟩
      rcases List.mem_cons.mp hx with rfl | hx
      · walk_at "lx"
      · exact a x hx
theorem orderP_six : ∀ (l o : List Nat), (∀ k ∈ l, 1 ≤ k ∧ k ≤ 5) → o.length = 6 → (orderP l o).length = 6
  | [], _, _, h => h
  | k :: l, o, hl, h => orderP_six l (stepP o k) (fun x hx => hl x (.tail _ hx)) (stepP_six h (hl k (.head _)).1 (hl k (.head _)).2)
theorem law_all1 (w : World) (mean : ExcName → Option Value) (mg mb : PySem.Str → Option Value) (ns : List Int) (hn : ns.length ≤ 63) : LawRun (W1 w mean mg mb) 7 149 [(PySem.Str.ofString "script", Slot.val (.lst (ns.map D.int)))] (.bool true) := by
  have hd := drawsP_len ns
  have key : ∀ ds : List Nat, ds.length = 5 → ∃ st o, (pageP (handP ds.sum) (signsP ds (moreP ds.sum))).length ≤ 100 ∧ stepsGo (symGo 100 (pageP (handP ds.sum) (signsP ds (moreP ds.sum)))) [] [] = some st ∧ (∀ k ∈ st, 1 ≤ k ∧ k ≤ 4) ∧ st.length ≤ 1000 ∧ orderP (st.map (· + moreP ds.sum)) [0, 1, 2, 3, 4, 5] = o ∧ orderP ((signsP ds (moreP ds.sum)).map fun k => k + 1 + moreP ds.sum) [0, 1, 2, 3, 4, 5] = o ∧ o.length = 6 ∧ fuelOk 5 o = true ∧ agreeP (shortF 5 o) (4 + moreP ds.sum) (baseP ds.sum) = true ∧ (shortF 5 o).length ≤ 1000 := by
    intro ds hd
    have hm : moreP ds.sum = 0 ∨ moreP ds.sum = 1 := by unfold moreP; walk_at "lx"
    have hh : handP ds.sum < 5 := by unfold handP; walk_at "lx"
    have hq : 2 ≤ baseP ds.sum ∧ baseP ds.sum ≤ 17 := by unfold baseP; walk_at "lx"
    have hk : ∀ k ∈ signsP ds (moreP ds.sum), k < 4 := by
      intro k hk
      obtain ⟨d, _, rfl⟩ := List.mem_map.mp hk
      exact Nat.mod_lt _ (by decide)
    have hl : (signsP ds (moreP ds.sum)).length = 5 - moreP ds.sum := by unfold signsP; rw [List.length_map, List.length_take]; walk_at "lx"
    have hpl := page_len (handP ds.sum) hh _ hk
    have hst := page_run (handP ds.sum) hh _ _ (Nat.le_refl _) hk 100 [] [] (by walk_at "lx")
    obtain ⟨r1, r2⟩ := dd_range (handP ds.sum) _ _ (Nat.le_refl _) hk
    have ho := dd_order (handP ds.sum) (moreP ds.sum) (by walk_at "lx") _ _ (Nat.le_refl _) hk [0, 1, 2, 3, 4, 5] rfl
    have h6 := orderP_six ((signsP ds (moreP ds.sum)).map fun k => k + 1 + moreP ds.sum) [0, 1, 2, 3, 4, 5] (fun k hk' => by
      obtain ⟨j, hj, rfl⟩ := List.mem_map.mp hk'
      have := hk j hj
      walk_at "lx") rfl
    rw [pageP_eq]
    rw [List.nil_append] at hst
    refine ⟨_, _, by walk_at "lx", hst, r1, by walk_at "lx", ho, rfl, h6, ?_⟩
    rcases hm with hm | hm
    · rw [hm] at hl hk ⊢
      obtain ⟨f1, f2, f3⟩ := orders0 (baseP ds.sum) hq.1 hq.2 (signsP ds 0) hl hk _ rfl
      exact ⟨f1, f3, f2⟩
    · rw [hm] at hl hk ⊢
      obtain ⟨f1, f2, f3⟩ := orders1 (baseP ds.sum) hq.1 hq.2 (signsP ds 1) hl hk _ rfl
      exact ⟨f1, f3, f2⟩
  obtain ⟨st, o, k1, k2, k3, k4, k5, k6, k7, k8, k9, k10⟩ := key (drawsP ns) hd
  exact law_run w mean mg mb ns hn st o k1 k2 (symGo_len _ _) k3 k4 k5 k6 k7 k8 k9 k10
end
section
set_option maxHeartbeats 8000000
noncomputable def scopeAt (K : Frag) (a : Addr) : Option (PySem.Str × Scope × List Stmt) := match K.lookup a with
  | some o => (match o.data with
    | .func fd => (match fd.body with
      | .stmts b => some (fd.qualname, fd.scope, b)
      | _ => none)
    | _ => none)
  | none => none
theorem VHs.ofInts {fz : GMap} : ∀ {vs : List Value} {ns : List Int}, IntsAre vs ns → VHs fz vs (ns.map D.int)
  | _, _, .nil => .nil
  | _, _, .cons n t h => .cons (.int n t) (VHs.ofInts h)
/-- from the head's last state to the walk -/
theorem law_join {W : WP} {s₁ : Shared} {h₁ : Heap} {tk₁ : Nat} {aL fa : Addr} {cd : Value} {vs : List Value} {ns : List Int} {m : PySem.Str → Option Value} {co : Obj} {qual : PySem.Str} {scope : Scope} {body : List Stmt} {k : Nat} {y : PySem.Str}
    {Q : Flow → Shared → Prop} {E : Value → Shared → Prop} (hX : ∀ A L f' cd', FOK k A (envOfC qual scope L f' cd') → X W A (envOfC qual scope L f' cd') [(PySem.Str.ofString "script", Slot.val (.lst (ns.map D.int)))] body (.ret (.bool true)))
    (hX0 : ∀ b o, W.X.lookup b = some o → s₁.heap.get? b = some o) (KX : W.K.In s₁.heap) (T : Top W.p W.loose W.mean W.mg W.mb s₁.heap) (hL : s₁.heap.IsList aL vs.toArray) (hI : IntsAre vs ns) (F : Fr s₁.heap s₁.heap.objs.size h₁ m) (hco : h₁.get? (s₁.heap.objs.size + 1) = some co) (hcv : ∃ v, co.data = Data.cell v)
    (hm : m (PySem.Str.ofString "script") = some (.ref aL)) (hkind : scope.kind = .function) (hcells : cellsFrom (s₁.heap.objs.size + 1) scope.names [] = [(y, s₁.heap.objs.size + 1)]) (hsc : ∀ L f' cd', (envOfC qual scope L f' cd').kindOf (PySem.Str.ofString "script") = some .local)
    (hdp : callerA.depth + 1 + k < recursionLimit) (hun : callerA.units + 3 + 16 * k < cLine)
    (hQ : ∀ h tk, (∀ b o, s₁.heap.get? b = some o → h.get? b = some o) → Q (.ret (.bool true)) { s₁ with heap := h, toks := tk }) :
    wpAny W.M (callerA.deeper (envOfC qual scope s₁.heap.objs.size fa cd)) (execs body (envOfC qual scope s₁.heap.objs.size fa cd)) Q E { s₁ with heap := h₁, toks := tk₁ } := by
  obtain ⟨oL, hoL, hcls, nL, hdL⟩ := hL
  have hfr : s₁.heap.get? s₁.heap.objs.size = none := get_fresh _
  have hfr1 : s₁.heap.get? (s₁.heap.objs.size + 1) = none := by
    cases q : s₁.heap.get? (s₁.heap.objs.size + 1) with
    | none => rfl
    | some o => exact absurd (Heap.lt_size q) (by exact Nat.not_lt.mpr (Nat.le_succ _))
  have haL : aL < s₁.heap.objs.size := Heap.lt_size hoL
  have FK : FOK k (callerA.deeper (envOfC qual scope s₁.heap.objs.size fa cd)) (envOfC qual scope s₁.heap.objs.size fa cd) :=
    ⟨rfl, hkind, rfl, rfl, by show callerA.depth + 1 + k < _; exact hdp, by show callerA.units + 3 + 16 * k < _; exact hun⟩
  have cl : ∀ x c, (envOfC qual scope s₁.heap.objs.size fa cd).cells.lookup x = some c → x = y ∧ c = s₁.heap.objs.size + 1 := by
    intro x c h
    have h' : (cellsFrom (s₁.heap.objs.size + 1) scope.names []).lookup x = some c := h
    rw [hcells, List.lookup_cons] at h'
    split at h'
    · next hx => rw [beq_iff_eq] at hx; cases h'; exact ⟨hx, rfl⟩
    · cases h'
  refine hX _ _ _ _ FK (fun b => s₁.heap.get? b) (fun b => if b = aL then some oL else none) (fun b => if b = aL then some oL else none) (fun _ => 0) m _ Q E ?_ ?_
  · refine { wf := ⟨⟨s₁.heap, KX, T, fun _ _ e => e⟩, hX0⟩, kept := F.keep, fzIn := ?_, fz0 := fun _ _ e => e, fzNew := fun _ _ e => .inl e, ns := F.ns, nsK := hfr, nsF := ?_, cells := ?_, cinj := ?_, cfree := ?_, vars := ?_, own := ?_, inj := ?_ }
    · intro b o e
      by_cases hb : b = aL
      · rw [if_pos hb] at e; cases e; subst hb; exact F.keep _ _ hoL
      · rw [if_neg hb] at e; cases e
    · show (if s₁.heap.objs.size = aL then some oL else none) = none
      rw [if_neg (fun e => by have := haL; rw [← e] at this; exact absurd this (Nat.lt_irrefl _))]
    · intro x c h
      obtain ⟨_, rfl⟩ := cl x c h
      obtain ⟨v, hv⟩ := hcv
      exact ⟨v, co, hco, hv⟩
    · intro x z c hx hz
      exact (cl x c hx).1.trans (cl z c hz).1.symm
    · intro x c h _
      obtain ⟨_, rfl⟩ := cl x c h
      refine ⟨hfr1, ?_⟩
      show (if s₁.heap.objs.size + 1 = aL then some oL else none) = none
      rw [if_neg (fun e => by have := haL; rw [← e] at this; exact absurd this (Nat.not_lt.mpr (Nat.le_succ _)))]
    · intro x sl h
      have := List.mem_singleton.mp h
      cases this
      refine ⟨.ref aL, .inl ⟨hsc _ _ _, hm⟩, ?_⟩
      exact .lst (show (if aL = aL then some oL else none) = some oL by rw [if_pos rfl]) hcls hdL (VHs.ofInts hI)
    · intro x es h
      have := List.mem_singleton.mp h
      cases this
    · intro x z es es' h
      have := List.mem_singleton.mp h
      cases this
  · intro v fz h tk Fn hv
    cases hv
    exact hQ h tk Fn.kept
theorem law_fin1 {w : World} {mean : ExcName → Option Value} {mg mb : PySem.Str → Option Value} {s₁ : Shared} {h₁ : Heap} {tk₁ : Nat} {aL fa : Addr} {cd : Value} {vs : List Value} {ns : List Int} {m : PySem.Str → Option Value} {co : Obj} {qual : PySem.Str} {scope : Scope} {body : List Stmt} {y : PySem.Str}
    {Q : Flow → Shared → Prop} {E : Value → Shared → Prop} (KX : (heap1 w.params).In s₁.heap) (T : Top hd.view_336 (looseW hd.view_336 [PySem.Str.ofString "EXACT_TOKEN_TYPES"]) mean mg mb s₁.heap) (hL : s₁.heap.IsList aL vs.toArray) (hI : IntsAre vs ns) (hn : ¬ ((63 : Nat) : Int) < (ns.length : Int))
    (F : Fr s₁.heap s₁.heap.objs.size h₁ m) (hco : h₁.get? (s₁.heap.objs.size + 1) = some co) (hcv : ∃ v, co.data = Data.cell v)
    (hm : m (PySem.Str.ofString "script") = some (.ref aL)) (hsc : scopeAt (heap1 w.params) 149 = some (qual, scope, body)) (hkind : scope.kind = .function) (hcells : cellsFrom (s₁.heap.objs.size + 1) scope.names [] = [(y, s₁.heap.objs.size + 1)]) (hkd : ∀ L f' cd', (envOfC qual scope L f' cd').kindOf (PySem.Str.ofString "script") = some .local)
    (hQ : ∀ h tk, (∀ b o, s₁.heap.get? b = some o → h.get? b = some o) → Q (.ret (.bool true)) { s₁ with heap := h, toks := tk }) :
    wpAny (model pwS w) (callerA.deeper (envOfC qual scope s₁.heap.objs.size fa cd)) (execs body (envOfC qual scope s₁.heap.objs.size fa cd)) Q E { s₁ with heap := h₁, toks := tk₁ } := by
  obtain ⟨fc, od, osl, name, qual', params, body', scope', dV, kV, doc, pm, cdv, ct, an, hK, hX⟩ := law_all1 w mean mg mb ns (by omega)
  have h1 : scopeAt (heap1 w.params) 149 = some (qual', scope', body') := by
    unfold scopeAt
    rw [show List.lookup 149 (heap1 w.params) = _ from hK]
  rw [hsc] at h1
  cases h1
  exact law_join (W := W1 w mean mg mb) hX (fun _ _ e => nomatch e) KX T hL hI F hco hcv hm hkind hcells hkd (by decide) (by decide) hQ
theorem join1 : PySem.Challenge.rw_tp0050_01.Holds := by
  rw [rwE]
  refine hd ?_
  k_fill
  intro w s₀ s₁ mg mb G y fa o pm cd doc dV kV ho hdd hcd hD hmg hg args vals as L hpre hlay hrd hwl hlo
  have KX := heap1_in (InK.keeps w s₀.heap s₁.heap (X.z_facts (K := hd.heap_186) (fun _ => rfl) y).2.1 L.keeps)
  k_behind G ho hdd hcd hD hmg hpre hlay hrd hwl hlo cd
  rename Top _ _ _ _ _ _ => T
  rename IntsAre _ _ => hI
  rename Fr _ _ _ _ => F
  rename News _ _ _ _ => N0
  rename _ = Data.cell _ => hco
  rename Heap.IsList _ _ _ => hL
  rename ¬ _ => hn
  rename _ = #[] => hg
  refine law_fin1 KX T hL hI hn F (N0 _ (.head _)).1 ⟨_, hco⟩ rfl rfl rfl rfl (fun _ _ _ => rfl) fun h tk keep => ?_
  exact ⟨.inl ⟨_, .bool true, [], rfl, fun _ => rfl, .bool _, by wrow_post, fun _ => ⟨.nil, fun _ h => nomatch h⟩⟩, keep, rfl, hg⟩
end
end Mine
theorem PySem.Challenge.cw_tp0050_01_holds : PySem.Challenge.rw_tp0050_01.Holds := by
  exact Mine.join1
