import PyProof.Rows.All
import Wide.All
import OpenK.AllK
import Wide.FinOn
import PySem.Challenge.RW_tp0050_01
open PySem PySem.W PyProof.Rows PySem.Spec PySem.Calls
set_option Elab.async false
set_option linter.all false
set_option maxRecDepth 100000
namespace Mine
section
set_option maxHeartbeats 8000000
open_top hd for PySem.Challenge.rw_tp0050_01
end
section
abbrev GMap := Addr → Option Obj

inductive D where
  | none
  | bool (b : Bool)
  | int (i : Int)
  | str (s : PySem.Str)
  | byt (b : Array UInt8)
  | tup (ds : List D)
  | lst (ds : List D)
  | fn (a : Addr)
  | rng (a b c : Int)

mutual
inductive VH (fz : GMap) : Value → D → Prop
  | none : VH fz .none .none
  | bool (b : Bool) : VH fz (.bool b) (.bool b)
  | int (i : Int) (t : Tok) : VH fz (.int i t) (.int i)
  | str (x : PySem.Str) (t : Tok) : VH fz (.str x t) (.str x)
  | byt (x : Array UInt8) (t : Tok) : VH fz (.bytes x t) (.byt x)
  | tup {a : Addr} {vs : List Value} {n : Nat} {ds : List D} : fz a = some { cls := .type "tuple", data := .seq vs.toArray n } → VHs fz vs ds → VH fz (.ref a) (.tup ds)
  | lst {a : Addr} {o : Obj} {vs : List Value} {n : Nat} {ds : List D} : fz a = some o → o.cls = .type "list" → o.data = .seq vs.toArray n → VHs fz vs ds → VH fz (.ref a) (.lst ds)
  | fn (a : Addr) : VH fz (.ref a) (.fn a)
  | rng {r : Addr} {a b c : Int} {t u v : Tok} : fz r = some { cls := .type "range", data := .fields #[.int a t, .int b u, .int c v] } → VH fz (.ref r) (.rng a b c)
inductive VHs (fz : GMap) : List Value → List D → Prop
  | nil : VHs fz [] []
  | cons {v : Value} {vs : List Value} {d : D} {ds : List D} : VH fz v d → VHs fz vs ds → VHs fz (v :: vs) (d :: ds)
end

mutual
theorem VH.mono {fz fz' : GMap} (hs : ∀ b o, fz b = some o → fz' b = some o) : ∀ {v : Value} {d : D}, VH fz v d → VH fz' v d
  | _, _, .none => .none
  | _, _, .bool b => .bool b
  | _, _, .int i t => .int i t
  | _, _, .str x t => .str x t
  | _, _, .byt x t => .byt x t
  | _, _, .tup h r => .tup (hs _ _ h) (VHs.mono hs r)
  | _, _, .lst h c d r => .lst (hs _ _ h) c d (VHs.mono hs r)
  | _, _, .fn a => .fn a
  | _, _, .rng h => .rng (hs _ _ h)
theorem VHs.mono {fz fz' : GMap} (hs : ∀ b o, fz b = some o → fz' b = some o) : ∀ {vs : List Value} {ds : List D}, VHs fz vs ds → VHs fz' vs ds
  | _, _, .nil => .nil
  | _, _, .cons h r => .cons (VH.mono hs h) (VHs.mono hs r)
end

theorem VHs.length {fz : GMap} : ∀ {vs : List Value} {ds : List D}, VHs fz vs ds → vs.length = ds.length
  | _, _, .nil => rfl
  | _, _, .cons _ r => by rw [List.length_cons, List.length_cons, VHs.length r]
theorem VHs.append {fz : GMap} : ∀ {vs ws : List Value} {ds es : List D}, VHs fz vs ds → VHs fz ws es → VHs fz (vs ++ ws) (ds ++ es)
  | _, _, _, _, .nil, k => k
  | _, _, _, _, .cons h r, k => .cons h (VHs.append r k)
theorem VHs.get {fz : GMap} : ∀ {vs : List Value} {ds : List D} (_ : VHs fz vs ds) {k : Nat} {d : D}, ds[k]? = some d → ∃ v, vs[k]? = some v ∧ VH fz v d
  | _, _, .nil, k, d, h => by simp at h
  | _, _, .cons h r, 0, d, e => by simp at e; subst e; exact ⟨_, by simp, h⟩
  | _, _, .cons h r, k + 1, d, e => by simp at e; obtain ⟨v, hv, hd⟩ := VHs.get r e; exact ⟨v, by simpa using hv, hd⟩
theorem VHs.take {fz : GMap} : ∀ {vs : List Value} {ds : List D} (k : Nat), VHs fz vs ds → VHs fz (vs.take k) (ds.take k)
  | _, _, 0, _ => by simp; exact .nil
  | _, _, k + 1, .nil => by simp; exact .nil
  | _, _, k + 1, .cons h r => by simp; exact .cons h (VHs.take k r)
theorem VHs.drop {fz : GMap} : ∀ {vs : List Value} {ds : List D} (k : Nat), VHs fz vs ds → VHs fz (vs.drop k) (ds.drop k)
  | _, _, 0, h => by simpa using h
  | _, _, k + 1, .nil => by simp; exact .nil
  | _, _, k + 1, .cons h r => by simpa using VHs.drop k r
theorem VHs.set {fz : GMap} : ∀ {vs : List Value} {ds : List D} (k : Nat) {v : Value} {d : D}, VHs fz vs ds → VH fz v d → VHs fz (vs.set k v) (ds.set k d)
  | _, _, _, _, _, .nil, _ => by simp; exact .nil
  | _, _, 0, _, _, .cons h r, x => by simp; exact .cons x r
  | _, _, k + 1, _, _, .cons h r, x => by simp; exact .cons h (VHs.set k r x)

/-- the world that a proof speaks of -/
structure WP where
  prog : Program
  w : World
  K : Frag
  p : Program
  loose : List PySem.Str
  mean : ExcName → Option Value
  mg : PySem.Str → Option Value
  mb : PySem.Str → Option Value

abbrev WP.M (W : WP) : Model := model W.prog W.w

def WF (W : WP) (kp : GMap) : Prop := ∃ hw : Heap, W.K.In hw ∧ Top W.p W.loose W.mean W.mg W.mb hw ∧ ∀ b o, hw.get? b = some o → kp b = some o

theorem WF.mono {W : WP} {kp kp' : GMap} (h : WF W kp) (hs : ∀ b o, kp b = some o → kp' b = some o) : WF W kp' :=
  let ⟨hw, a, b, c⟩ := h; ⟨hw, a, b, fun x o e => hs _ _ (c x o e)⟩

structure Ext (fz : GMap) (s : Shared) (fz' : GMap) (s' : Shared) : Prop where
  keeps : Keeps s s'
  sub : ∀ b o, fz b = some o → fz' b = some o
  inH : ∀ b o, fz' b = some o → s'.heap.get? b = some o
  new : ∀ b o, fz' b = some o → fz b = some o ∨ s.heap.get? b = none

theorem kRfl {s : Shared} : Keeps s s := ⟨s.heap, s.toks, by cases s; rfl, fun _ _ e => e⟩
theorem kTr {s s₁ s₂ : Shared} (h : Keeps s s₁) (k : Keeps s₁ s₂) : Keeps s s₂ := by
  obtain ⟨h1, t1, rfl, k1⟩ := h
  obtain ⟨h2, t2, rfl, k2⟩ := k
  exact ⟨h2, t2, rfl, fun b o e => k2 b o (k1 b o e)⟩
theorem kGet {s s' : Shared} (h : Keeps s s') {b : Addr} {o : Obj} (e : s.heap.get? b = some o) : s'.heap.get? b = some o := by
  obtain ⟨h1, t1, rfl, k1⟩ := h; exact k1 b o e

theorem Ext.refl {fz : GMap} {s : Shared} (h : ∀ b o, fz b = some o → s.heap.get? b = some o) : Ext fz s fz s := ⟨kRfl, fun _ _ e => e, h, fun _ _ e => .inl e⟩
theorem Ext.trans {fz fz₁ fz₂ : GMap} {s s₁ s₂ : Shared} (h : Ext fz s fz₁ s₁) (k : Ext fz₁ s₁ fz₂ s₂) : Ext fz s fz₂ s₂ :=
  ⟨kTr h.keeps k.keeps, fun b o e => k.sub b o (h.sub b o e), k.inH, fun b o e => (k.new b o e).elim (h.new b o) fun hn => .inr (by
    cases q : s.heap.get? b with
    | none => rfl
    | some o' => rw [kGet h.keeps q] at hn; cases hn)⟩
theorem Ext.toks {fz : GMap} {s : Shared} {t : Nat} (h : ∀ b o, fz b = some o → s.heap.get? b = some o) : Ext fz s fz { s with toks := t } :=
  ⟨⟨s.heap, t, rfl, fun _ _ e => e⟩, fun _ _ e => e, h, fun _ _ e => .inl e⟩
theorem Ext.heap {fz : GMap} {s : Shared} {h' : Heap} {t : Nat} (h : ∀ b o, fz b = some o → s.heap.get? b = some o) (k : ∀ b o, s.heap.get? b = some o → h'.get? b = some o) : Ext fz s fz { s with heap := h', toks := t } :=
  ⟨⟨h', t, rfl, k⟩, fun _ _ e => e, fun b o e => k b o (h b o e), fun _ _ e => .inl e⟩

/-- a map with one object more -/
def GMap.add (fz : GMap) (a : Addr) (o : Obj) : GMap := fun b => if b = a then some o else fz b
theorem GMap.add_self {fz : GMap} {a : Addr} {o : Obj} : fz.add a o a = some o := by simp [GMap.add]
theorem GMap.add_of {fz : GMap} {a b : Addr} {o q : Obj} (h : fz a = none) (e : fz b = some q) : fz.add a o b = some q := by
  unfold GMap.add
  by_cases hb : b = a
  · subst hb; rw [h] at e; cases e
  · rw [if_neg hb]; exact e

/-- a new object is frozen -/
theorem Ext.freeze {fz fz' : GMap} {s s' : Shared} {a : Addr} {o : Obj} (h : Ext fz s fz' s') (ha : s.heap.get? a = none) (hn : fz' a = none) (ho : s'.heap.get? a = some o) : Ext fz s (fz'.add a o) s' where
  keeps := h.keeps
  sub := fun b q e => GMap.add_of hn (h.sub b q e)
  inH := fun b q e => by
    unfold GMap.add at e
    by_cases hb : b = a
    · rw [if_pos hb] at e; cases e; subst hb; exact ho
    · rw [if_neg hb] at e; exact h.inH b q e
  new := fun b q e => by
    unfold GMap.add at e
    by_cases hb : b = a
    · subst hb; exact .inr ha
    · rw [if_neg hb] at e; exact h.new b q e

inductive Slot where
  | val (d : D)
  | own (ds : List D)
abbrev Sto := List (PySem.Str × Slot)

def Look (env : Env) (m : PySem.Str → Option Value) (h : Heap) (x : PySem.Str) (v : Value) : Prop :=
  (env.kindOf x = some .local ∧ m x = some v) ∨ ((env.kindOf x = some .cell ∨ (env.kindOf x = some .free ∧ (x == ("__classdict__" : PySem.Str)) = false)) ∧ ∃ c, env.cells.lookup x = some c ∧ h.IsCell c (some v))

def Holds (env : Env) (fz : GMap) (ad : PySem.Str → Addr) (m : PySem.Str → Option Value) (h : Heap) (x : PySem.Str) : Slot → Prop
  | .val d => ∃ v, Look env m h x v ∧ VH fz v d
  | .own ds => env.kindOf x = some .local ∧ m x = some (.ref (ad x)) ∧ ∃ us n, h.get? (ad x) = some { cls := .type "list", data := .seq (List.toArray us) n } ∧ VHs fz us ds

structure Ok (W : WP) (env : Env) (kp fz₀ : GMap) (σ : Sto) (fz : GMap) (ad : PySem.Str → Addr) (m : PySem.Str → Option Value) (s : Shared) : Prop where
  wf : WF W kp
  kept : ∀ b o, kp b = some o → s.heap.get? b = some o
  fzIn : ∀ b o, fz b = some o → s.heap.get? b = some o
  fz0 : ∀ b o, fz₀ b = some o → fz b = some o
  fzNew : ∀ b o, fz b = some o → fz₀ b = some o ∨ kp b = none
  ns : s.heap.Ns env.locals m
  nsK : kp env.locals = none
  nsF : fz env.locals = none
  cells : ∀ x c, env.cells.lookup x = some c → ∃ v, s.heap.IsCell c v
  cinj : ∀ x y c, env.cells.lookup x = some c → env.cells.lookup y = some c → x = y
  cfree : ∀ x c, env.cells.lookup x = some c → env.locals < c → kp c = none ∧ fz c = none
  vars : ∀ x sl, (x, sl) ∈ σ → Holds env fz ad m s.heap x sl
  own : ∀ x ds, (x, Slot.own ds) ∈ σ → kp (ad x) = none ∧ fz (ad x) = none
  inj : ∀ x y ds es, (x, Slot.own ds) ∈ σ → (y, Slot.own es) ∈ σ → ad x = ad y → x = y

theorem IsCell.keeps' {h h' : Heap} {c : Addr} {v : Option Value} (x : h.IsCell c v) (k : ∀ b o, h.get? b = some o → h'.get? b = some o) : h'.IsCell c v := let ⟨o, a, b⟩ := x; ⟨o, k _ _ a, b⟩

theorem Look.keeps {env : Env} {m : PySem.Str → Option Value} {h h' : Heap} {x : PySem.Str} {v : Value} (l : Look env m h x v) (k : ∀ b o, h.get? b = some o → h'.get? b = some o) : Look env m h' x v :=
  l.elim .inl fun ⟨a, c, b, d⟩ => .inr ⟨a, c, b, IsCell.keeps' d k⟩

theorem Ok.ext {W : WP} {env : Env} {kp fz₀ : GMap} {σ : Sto} {fz fz' : GMap} {ad : PySem.Str → Addr} {m : PySem.Str → Option Value} {s s' : Shared} (H : Ok W env kp fz₀ σ fz ad m s) (e : Ext fz s fz' s') : Ok W env kp fz₀ σ fz' ad m s' where
  wf := H.wf
  kept := fun b o h => kGet e.keeps (H.kept b o h)
  fzIn := e.inH
  fz0 := fun b o h => e.sub b o (H.fz0 b o h)
  fzNew := fun b o h => (e.new b o h).elim (H.fzNew b o) fun hn => .inr (by
    cases q : kp b with
    | none => rfl
    | some o' => rw [H.kept b o' q] at hn; cases hn)
  ns := H.ns.keeps fun b o h => kGet e.keeps h
  nsK := H.nsK
  nsF := by
    cases q : fz' env.locals with
    | none => rfl
    | some o => rcases e.new _ _ q with h | h
                · rw [H.nsF] at h; cases h
                · obtain ⟨o', _, _, ho, _⟩ := H.ns; rw [ho] at h; cases h
  cells := fun x c h => let ⟨v, hv⟩ := H.cells x c h; ⟨v, IsCell.keeps' hv fun b o h => kGet e.keeps h⟩
  cinj := H.cinj
  cfree := fun x c h hl => ⟨(H.cfree x c h hl).1, by
    cases q : fz' c with
    | none => rfl
    | some o => rcases e.new _ _ q with h' | h'
                · rw [(H.cfree x c h hl).2] at h'; cases h'
                · obtain ⟨v, ob, g, _⟩ := H.cells x c h; rw [h'] at g; cases g⟩
  vars := fun x sl h => by
    have := H.vars x sl h
    cases sl with
    | val d => obtain ⟨v, a, b⟩ := this; exact ⟨v, a.keeps fun b o h => kGet e.keeps h, b.mono e.sub⟩
    | own ds => obtain ⟨a, b, us, n, c, d⟩ := this; exact ⟨a, b, us, n, kGet e.keeps c, d.mono e.sub⟩
  own := fun x ds h => ⟨(H.own x ds h).1, by
    obtain ⟨_, _, us, n, c, _⟩ := H.vars _ _ h
    cases q : fz' (ad x) with
    | none => rfl
    | some o => rcases e.new _ _ q with h' | h'
                · rw [(H.own x ds h).2] at h'; cases h'
                · rw [c] at h'; cases h'⟩
  inj := H.inj

theorem Ok.refl {W : WP} {env : Env} {kp fz₀ : GMap} {σ : Sto} {fz : GMap} {ad : PySem.Str → Addr} {m : PySem.Str → Option Value} {s : Shared} (H : Ok W env kp fz₀ σ fz ad m s) : Ext fz s fz s := Ext.refl H.fzIn

/-- what a frame is -/
structure FOK (n : Nat) (A : Around) (env : Env) : Prop where
  hh : A.handled = none
  hk : env.scope.kind = .function
  hg : env.globals = mainGlobals
  hb : env.builtins = builtinsNs
  dp : A.depth + n < recursionLimit
  un : A.units + 16 * n < cLine

def Ev (W : WP) (A : Around) (env : Env) (σ : Sto) (e : PySem.Expr) (d : D) : Prop :=
  ∀ (kp fz₀ fz : GMap) (ad : PySem.Str → Addr) (m : PySem.Str → Option Value) (s : Shared) (Q E : Value → Shared → Prop), Ok W env kp fz₀ σ fz ad m s →
    (∀ v fz' s', Ext fz s fz' s' → VH fz' v d → Q v s') → wpAny W.M A (eval e env) Q E s

/-- a list of the call's own: nobody else holds it -/
def EvF (W : WP) (A : Around) (env : Env) (σ : Sto) (e : PySem.Expr) (ds : List D) : Prop :=
  ∀ (kp fz₀ fz : GMap) (ad : PySem.Str → Addr) (m : PySem.Str → Option Value) (s : Shared) (Q E : Value → Shared → Prop), Ok W env kp fz₀ σ fz ad m s →
    (∀ a us n fz' s', Ext fz s fz' s' → s.heap.get? a = none → fz' a = none → s'.heap.get? a = some { cls := .type "list", data := .seq (List.toArray us) n } → VHs fz' us ds → Q (.ref a) s') → wpAny W.M A (eval e env) Q E s

theorem EvF.ev {W : WP} {A : Around} {env : Env} {σ : Sto} {e : PySem.Expr} {ds : List D} (h : EvF W A env σ e ds) : Ev W A env σ e (.lst ds) := by
  intro kp fz₀ fz ad m s Q E H k
  refine h kp fz₀ fz ad m s Q E H fun a us n fz' s' x ha hn ho hd => ?_
  exact k _ _ _ (x.freeze ha hn ho) (.lst (GMap.add_self) rfl rfl (hd.mono fun b q e => GMap.add_of hn e))

section
variable {W : WP} {A : Around} {env : Env} {σ : Sto}

theorem ev_int {i : Int} {k : Nat} {pos : Pos} : Ev W A env σ (.Constant (.int i) k pos) (.int i) := fun kp fz₀ fz ad m s Q E H k => wpAny_Constant_int (k _ _ _ (Ext.toks H.fzIn) (.int _ _))
theorem ev_str {x : PySem.Str} {k : Nat} {pos : Pos} : Ev W A env σ (.Constant (.str x) k pos) (.str x) := fun kp fz₀ fz ad m s Q E H k => wpAny_Constant_str (k _ _ _ (Ext.toks H.fzIn) (.str _ _))
theorem ev_bool {b : Bool} {k : Nat} {pos : Pos} : Ev W A env σ (.Constant (.bool b) k pos) (.bool b) := fun kp fz₀ fz ad m s Q E H k => wpAny_Constant_bool (k _ _ _ H.refl (.bool _))
theorem ev_none {k : Nat} {pos : Pos} : Ev W A env σ (.Constant .none k pos) .none := fun kp fz₀ fz ad m s Q E H k => wpAny_Constant_none (k _ _ _ H.refl .none)
theorem ev_byt {x : List UInt8} {k : Nat} {pos : Pos} : Ev W A env σ (.Constant (.bytes x) k pos) (.byt x.toArray) := fun kp fz₀ fz ad m s Q E H k => PySem.W.Constant_bytes (k _ _ _ (Ext.toks H.fzIn) (.byt _ _))

theorem Look.ev {n : Nat} {x : PySem.Str} {pos : Pos} {m : PySem.Str → Option Value} {s : Shared} {v : Value} {Q E : Value → Shared → Prop} (F : FOK n A env) (l : Look env m s.heap x v) (N : s.heap.Ns env.locals m) (hd : (x == ("__debug__" : PySem.Str)) = false) (h : Q v s) : wpAny W.M A (eval (.Name x pos) env) Q E s := by
  rcases l with ⟨a, b⟩ | ⟨a | a, c, b, d⟩
  · exact wpAny_Name (wpAny_loadName_local F.hk a N b h) hd
  · exact wpAny_Name (wpAny_loadName_cell F.hk a b d h) hd
  · exact wpAny_Name (wpAny_loadName_free F.hk a.1 b d h a.2) hd

theorem ev_name {n : Nat} {x : PySem.Str} {pos : Pos} {d : D} (F : FOK n A env) (hx : (x, Slot.val d) ∈ σ) (hd : (x == ("__debug__" : PySem.Str)) = false) : Ev W A env σ (.Name x pos) d := by
  intro kp fz₀ fz ad m s Q E H k
  obtain ⟨v, l, hv⟩ := H.vars _ _ hx
  exact Look.ev F l H.ns hd (k _ _ _ H.refl hv)

theorem ev_glob {n : Nat} {x : PySem.Str} {pos : Pos} {v : Value} {d : D} (F : FOK n A env) (hx : env.kindOf x = some .globalImplicit) (hv : nsIn W.K mainGlobals x = some (some v)) (hd : (x == ("__debug__" : PySem.Str)) = false)
    (hr : ∀ fz, VH fz v d) : Ev W A env σ (.Name x pos) d := by
  intro kp fz₀ fz ad m s Q E H k
  obtain ⟨hw, X, T, hk⟩ := H.wf
  have kk : ∀ b o, hw.get? b = some o → s.heap.get? b = some o := fun b o e => H.kept _ _ (hk _ _ e)
  exact Name_function_global F.hk hx (loadGlobal_global (env := env) (show s.heap.Ns env.globals W.mg from F.hg ▸ (T.keeps kk).g) (mg_of X T.g hv) (k _ _ _ H.refl (hr _))) hd

theorem bin_add {e₁ e₂ : PySem.Expr} {pos : Pos} {a b : Int} (h₁ : Ev W A env σ e₁ (.int a)) (h₂ : Ev W A env σ e₂ (.int b)) : Ev W A env σ (.BinOp e₁ .Add e₂ pos) (.int (a + b)) := by
  intro kp fz₀ fz ad m s Q E H k
  refine wpAny_BinOp (h₁ _ _ _ _ _ _ _ _ H fun v₁ fz₁ s₁ x₁ hv₁ => h₂ _ _ _ _ _ _ _ _ (H.ext x₁) fun v₂ fz₂ s₂ x₂ hv₂ => ?_)
  cases hv₁; cases hv₂
  exact add_int (k _ _ _ ((x₁.trans x₂).trans (Ext.toks x₂.inH)) (.int _ _))
end
end
section
def FzIn (fz : GMap) (s : Shared) : Prop := ∀ b o, fz b = some o → s.heap.get? b = some o

/-- an operation on two values -/
def Op2 (W : WP) (A : Around) (op : Value → Value → Sem Value) (d₁ d₂ d : D) : Prop :=
  ∀ (fz : GMap) (s : Shared) (v₁ v₂ : Value) (Q E : Value → Shared → Prop), FzIn fz s → VH fz v₁ d₁ → VH fz v₂ d₂ →
    (∀ v fz' s', Ext fz s fz' s' → VH fz' v d → Q v s') → wpAny W.M A (op v₁ v₂) Q E s
def Op1 (W : WP) (A : Around) (op : Value → Sem Value) (d₁ d : D) : Prop :=
  ∀ (fz : GMap) (s : Shared) (v₁ : Value) (Q E : Value → Shared → Prop), FzIn fz s → VH fz v₁ d₁ →
    (∀ v fz' s', Ext fz s fz' s' → VH fz' v d → Q v s') → wpAny W.M A (op v₁) Q E s
/-- a call by values -/
def CallV (W : WP) (A : Around) (f : Value) (ds : List D) (d : D) : Prop :=
  ∀ (fz : GMap) (s : Shared) (vs : List Value) (Q E : Value → Shared → Prop), WF W (fun b => s.heap.get? b) → FzIn fz s → VHs fz vs ds →
    (∀ v fz' s', Ext fz s fz' s' → VH fz' v d → Q v s') → wpAny W.M A (call f vs) Q E s

section
variable {W : WP} {A : Around} {env : Env} {σ : Sto}

theorem Ok.heapWF {kp fz₀ fz : GMap} {ad : PySem.Str → Addr} {m : PySem.Str → Option Value} {s : Shared} (H : Ok W env kp fz₀ σ fz ad m s) : WF W (fun b => s.heap.get? b) := H.wf.mono H.kept

theorem ev_bin {e₁ e₂ : PySem.Expr} {op : Operator} {pos : Pos} {d₁ d₂ d : D} (h₁ : Ev W A env σ e₁ d₁) (h₂ : Ev W A env σ e₂ d₂) (ho : Op2 W A (binaryOp op) d₁ d₂ d) : Ev W A env σ (.BinOp e₁ op e₂ pos) d := by
  intro kp fz₀ fz ad m s Q E H k
  refine wpAny_BinOp (h₁ _ _ _ _ _ _ _ _ H fun v₁ fz₁ s₁ x₁ hv₁ => h₂ _ _ _ _ _ _ _ _ (H.ext x₁) fun v₂ fz₂ s₂ x₂ hv₂ => ?_)
  exact ho _ _ _ _ _ _ x₂.inH (hv₁.mono x₂.sub) hv₂ fun v fz' s' x hv => k _ _ _ ((x₁.trans x₂).trans x) hv
theorem ev_cmp {e₁ e₂ : PySem.Expr} {op : CmpOp} {pos : Pos} {d₁ d₂ d : D} (h₁ : Ev W A env σ e₁ d₁) (h₂ : Ev W A env σ e₂ d₂) (ho : Op2 W A (compareOp op) d₁ d₂ d) (hm : behindInMarks op e₂ = false) : Ev W A env σ (.Compare e₁ [op] [e₂] pos) d := by
  intro kp fz₀ fz ad m s Q E H k
  refine wpAny_Compare1 (h₁ _ _ _ _ _ _ _ _ H fun v₁ fz₁ s₁ x₁ hv₁ => h₂ _ _ _ _ _ _ _ _ (H.ext x₁) fun v₂ fz₂ s₂ x₂ hv₂ => ?_) hm
  exact ho _ _ _ _ _ _ x₂.inH (hv₁.mono x₂.sub) hv₂ fun v fz' s' x hv => k _ _ _ ((x₁.trans x₂).trans x) hv
theorem ev_un {e₁ : PySem.Expr} {op : UnaryOp} {pos : Pos} {d₁ d : D} (h₁ : Ev W A env σ e₁ d₁) (ho : Op1 W A (unaryOp op) d₁ d) : Ev W A env σ (.UnaryOp op e₁ pos) d := by
  intro kp fz₀ fz ad m s Q E H k
  refine wpAny_UnaryOp (h₁ _ _ _ _ _ _ _ _ H fun v₁ fz₁ s₁ x₁ hv₁ => ?_)
  exact ho _ _ _ _ _ x₁.inH hv₁ fun v fz' s' x hv => k _ _ _ (x₁.trans x) hv

/-- a test's truth -/
def Tr (W : WP) (A : Around) (env : Env) (σ : Sto) (e : PySem.Expr) (b : Bool) : Prop :=
  ∀ (kp fz₀ fz : GMap) (ad : PySem.Str → Addr) (m : PySem.Str → Option Value) (s : Shared) (Q : Bool → Shared → Prop) (E : Value → Shared → Prop), Ok W env kp fz₀ σ fz ad m s →
    (∀ fz' s', Ext fz s fz' s' → Q b s') → wpAny W.M A (isTrue e env (eval e env)) Q E s
/-- a value's truth -/
def Truth (W : WP) (A : Around) (d : D) (b : Bool) : Prop :=
  ∀ (fz : GMap) (s : Shared) (v : Value) (Q : Bool → Shared → Prop) (E : Value → Shared → Prop), FzIn fz s → VH fz v d →
    (∀ fz' s', Ext fz s fz' s' → Q b s') → wpAny W.M A (truthy v) Q E s

theorem truth_bool {b : Bool} : Truth W A (.bool b) b := by
  intro fz s v Q E hf hv k; cases hv; exact wpAny_truthy_bool (k _ _ (Ext.refl hf))

theorem tr_val {e : PySem.Expr} {d : D} {b : Bool} (h : Ev W A env σ e d) (t : Truth W A d b) (he : isTrue e env (eval e env) = (do let v ← eval e env; standAt e.pos; holding [v] (truthy v)) := by rfl) : Tr W A env σ e b := by
  intro kp fz₀ fz ad m s Q E H k
  refine wpAny_isTrue_value (h _ _ _ _ _ _ _ _ H fun v fz₁ s₁ x₁ hv => ?_) he
  exact t _ _ _ _ _ x₁.inH hv fun fz' s' x => k _ _ (x₁.trans x)
theorem tr_not {e : PySem.Expr} {pos : Pos} {b : Bool} (h : Tr W A env σ e b) : Tr W A env σ (.UnaryOp .Not e pos) (!b) := by
  intro kp fz₀ fz ad m s Q E H k
  exact wpAny_isTrue_Not (h _ _ _ _ _ _ _ _ H fun fz' s' x => k _ _ x)
theorem tr_cmp {e₁ e₂ : PySem.Expr} {op : CmpOp} {pos : Pos} {d₁ d₂ : D} {b : Bool} (h₁ : Ev W A env σ e₁ d₁) (h₂ : Ev W A env σ e₂ d₂) (ho : Op2 W A (compareOp op) d₁ d₂ (.bool b)) (hm : behindInMarks op e₂ = false) : Tr W A env σ (.Compare e₁ [op] [e₂] pos) b := by
  intro kp fz₀ fz ad m s Q E H k
  refine wpAny_isTrue_Compare1 (h₁ _ _ _ _ _ _ _ _ H fun v₁ fz₁ s₁ x₁ hv₁ => h₂ _ _ _ _ _ _ _ _ (H.ext x₁) fun v₂ fz₂ s₂ x₂ hv₂ => ?_) hm
  refine ho _ _ _ _ _ _ x₂.inH (hv₁.mono x₂.sub) hv₂ fun v fz' s' x hv => ?_
  exact truth_bool _ _ _ _ _ x.inH hv fun fz'' s'' x' => k _ _ (((x₁.trans x₂).trans x).trans x')

/-- the tests of a BoolOp -/
def AllT (W : WP) (A : Around) (env : Env) (σ : Sto) (op : BoolOp) (es : List PySem.Expr) (b : Bool) : Prop :=
  ∀ (kp fz₀ fz : GMap) (ad : PySem.Str → Addr) (m : PySem.Str → Option Value) (s : Shared) (Q : Bool → Shared → Prop) (E : Value → Shared → Prop), Ok W env kp fz₀ σ fz ad m s →
    (∀ fz' s', Ext fz s fz' s' → Q b s') → wpAny W.M A (allTrue op es env) Q E s
theorem tr_bool {op : BoolOp} {es : List PySem.Expr} {pos : Pos} {b : Bool} (h : AllT W A env σ op es b) : Tr W A env σ (.BoolOp op es pos) b := by
  intro kp fz₀ fz ad m s Q E H k
  exact wpAny_isTrue_BoolOp (h _ _ _ _ _ _ _ _ H k)
theorem allT_nil {op : BoolOp} : AllT W A env σ op [] (op == .And) := by
  intro kp fz₀ fz ad m s Q E H k
  exact wpAny_pure (k _ _ H.refl)
theorem allT_and {e : PySem.Expr} {es : List PySem.Expr} {b c : Bool} (h : Tr W A env σ e b) (r : b = true → AllT W A env σ .And es c) : AllT W A env σ .And (e :: es) (b && c) := by
  intro kp fz₀ fz ad m s Q E H k
  show wpAny _ A (do match BoolOp.And, ← isTrue e env (eval e env) with
    | .And, false => pure false
    | .Or, true => pure true
    | _, _ => allTrue .And es env) Q E s
  refine wpAny_bind (h _ _ _ _ _ _ _ _ H fun fz' s' x => ?_)
  cases b with
  | false => exact wpAny_pure (k _ _ x)
  | true => exact r rfl _ _ _ _ _ _ _ _ (H.ext x) fun fz'' s'' x' => k _ _ (x.trans x')
theorem allT_or {e : PySem.Expr} {es : List PySem.Expr} {b c : Bool} (h : Tr W A env σ e b) (r : b = false → AllT W A env σ .Or es c) : AllT W A env σ .Or (e :: es) (b || c) := by
  intro kp fz₀ fz ad m s Q E H k
  show wpAny _ A (do match BoolOp.Or, ← isTrue e env (eval e env) with
    | .And, false => pure false
    | .Or, true => pure true
    | _, _ => allTrue .Or es env) Q E s
  refine wpAny_bind (h _ _ _ _ _ _ _ _ H fun fz' s' x => ?_)
  cases b with
  | true => exact wpAny_pure (k _ _ x)
  | false => exact r rfl _ _ _ _ _ _ _ _ (H.ext x) fun fz'' s'' x' => k _ _ (x.trans x')

theorem ev_if {t e₁ e₂ : PySem.Expr} {pos : Pos} {b : Bool} {d : D} (h : Tr W A env σ t b) (h₁ : b = true → Ev W A env σ e₁ d) (h₂ : b = false → Ev W A env σ e₂ d) : Ev W A env σ (.IfExp t e₁ e₂ pos) d := by
  intro kp fz₀ fz ad m s Q E H k
  refine wpAny_IfExp (h _ _ _ _ _ _ _ _ H fun fz' s' x => ?_)
  cases b with
  | true => exact h₁ rfl _ _ _ _ _ _ _ _ (H.ext x) fun v fz'' s'' x' hv => k _ _ _ (x.trans x') hv
  | false => exact h₂ rfl _ _ _ _ _ _ _ _ (H.ext x) fun v fz'' s'' x' hv => k _ _ _ (x.trans x') hv
theorem ev_or {e₁ e₂ : PySem.Expr} {pos : Pos} {b : Bool} {d₁ d : D} (h : Ev W A env σ e₁ d₁) (t : Truth W A d₁ b) (h₁ : b = true → d = d₁) (h₂ : b = false → Ev W A env σ e₂ d) : Ev W A env σ (.BoolOp .Or [e₁, e₂] pos) d := by
  intro kp fz₀ fz ad m s Q E H k
  refine wpAny_Or2 (h _ _ _ _ _ _ _ _ H fun v fz₁ s₁ x hv => t _ _ _ _ _ x.inH hv fun fz₂ s₂ x₂ => ?_)
  cases b with
  | true => exact k _ _ _ (x.trans x₂) (h₁ rfl ▸ hv.mono x₂.sub)
  | false => exact h₂ rfl _ _ _ _ _ _ _ _ ((H.ext x).ext x₂) fun v' fz'' s'' x' hv' => k _ _ _ ((x.trans x₂).trans x') hv'

/-- arguments, items of a display -/
def Evs (W : WP) (A : Around) (env : Env) (σ : Sto) (es : List PySem.Expr) (ds : List D) : Prop :=
  ∀ (pos : Pos) (kp fz₀ fz : GMap) (ad : PySem.Str → Addr) (m : PySem.Str → Option Value) (s : Shared) (Q : List Value → Shared → Prop) (E : Value → Shared → Prop), Ok W env kp fz₀ σ fz ad m s →
    (∀ vs fz' s', Ext fz s fz' s' → VHs fz' vs ds → Q vs s') → wpAny W.M A (spliced (backTo pos (starEach es env))) Q E s
theorem evs_nil : Evs W A env σ [] [] := fun pos kp fz₀ fz ad m s Q E H k => spliced_nil (k _ _ _ H.refl .nil)
theorem evs_cons {e : PySem.Expr} {es : List PySem.Expr} {d : D} {ds : List D} (h : Ev W A env σ e d) (r : Evs W A env σ es ds) (he : starEach (e :: es) env = (false, eval e env) :: starEach es env := by rfl) : Evs W A env σ (e :: es) (d :: ds) := by
  intro pos kp fz₀ fz ad m s Q E H k
  rw [he]
  refine spliced_cons (h _ _ _ _ _ _ _ _ H fun v fz₁ s₁ x hv => ?_)
  exact r pos _ _ _ _ _ _ _ _ (H.ext x) fun vs fz₂ s₂ x₂ hvs => k _ _ _ (x.trans x₂) (.cons (hv.mono x₂.sub) hvs)

theorem get_push {h : Heap} {o : Obj} {b : Addr} {q : Obj} (e : h.get? b = some q) : (h.push o).get? b = some q := Heap.get?_push_of_some _ e
theorem get_fresh (h : Heap) : h.get? h.objs.size = none := by
  cases q : h.get? h.objs.size with
  | none => rfl
  | some o => exact absurd (Heap.lt_size q) (Nat.lt_irrefl _)
theorem Ext.push {fz : GMap} {s : Shared} {o : Obj} {t : Nat} (h : FzIn fz s) : Ext fz s fz { s with heap := s.heap.push o, toks := t } := Ext.heap h fun _ _ e => get_push e

theorem Ext.fresh {fz fz' : GMap} {s s' : Shared} (x : Ext fz s fz' s') {a : Addr} (hs : s'.heap.get? a = none) : s.heap.get? a = none ∧ fz' a = none := by
  constructor
  · cases q : s.heap.get? a with
    | none => rfl
    | some o => rw [kGet x.keeps q] at hs; cases hs
  · cases q : fz' a with
    | none => rfl
    | some o => rw [x.inH _ _ q] at hs; cases hs

theorem evF_list {es : List PySem.Expr} {pos : Pos} {ds : List D} (h : Evs W A env σ es ds) (hl : ds.length ≤ 1000) : EvF W A env σ (.List es pos) ds := by
  intro kp fz₀ fz ad m s Q E H k
  refine wpAny_List_spliced (h pos _ _ _ _ _ _ _ _ H fun vs fz₁ s₁ x hv => ⟨?_, ?_⟩)
  · rw [hv.length, PySem.sizeLine_eq]; omega
  · have f := x.fresh (get_fresh s₁.heap)
    exact k _ _ _ _ _ (x.trans (Ext.push (t := s₁.toks) x.inH)) f.1 f.2 (Heap.get?_push_size _ rfl) hv
theorem ev_tuple {es : List PySem.Expr} {n : Nat} {pos : Pos} {ds : List D} (h : Evs W A env σ es ds) (hl : ds.length ≤ 1000) : Ev W A env σ (.Tuple es n pos) (.tup ds) := by
  intro kp fz₀ fz ad m s Q E H k
  refine wpAny_Tuple_spliced (h pos _ _ _ _ _ _ _ _ H fun vs fz₁ s₁ x hv => ⟨?_, ?_⟩)
  · rw [hv.length, PySem.sizeLine_eq]; omega
  · have f := x.fresh (get_fresh s₁.heap)
    exact k _ _ _ ((x.trans (Ext.push (t := s₁.toks) x.inH)).freeze f.1 f.2 (Heap.get?_push_size _ rfl)) (.tup GMap.add_self (hv.mono fun b q e => GMap.add_of f.2 e))

-- ints
theorem op_add {a b : Int} : Op2 W A (binaryOp .Add) (.int a) (.int b) (.int (a + b)) := by
  intro fz s v₁ v₂ Q E hf h₁ h₂ k; cases h₁; cases h₂; exact add_int (k _ _ _ (Ext.toks hf) (.int _ _))
theorem op_sub {a b : Int} : Op2 W A (binaryOp .Sub) (.int a) (.int b) (.int (a - b)) := by
  intro fz s v₁ v₂ Q E hf h₁ h₂ k; cases h₁; cases h₂; exact sub_int (k _ _ _ (Ext.toks hf) (.int _ _))
theorem op_mul {a b : Int} (hm : IntMulOk a b) : Op2 W A (binaryOp .Mult) (.int a) (.int b) (.int (a * b)) := by
  intro fz s v₁ v₂ Q E hf h₁ h₂ k; cases h₁; cases h₂; exact mul_int (k _ _ _ (Ext.toks hf) (.int _ _)) hm
theorem op_mod {a b : Int} (hb : b ≠ 0) : Op2 W A (binaryOp .Mod) (.int a) (.int b) (.int (a.fmod b)) := by
  intro fz s v₁ v₂ Q E hf h₁ h₂ k; cases h₁; cases h₂; exact mod_int' hb (k _ _ _ (Ext.toks hf) (.int _ _))
theorem op_div {a b : Int} (hb : b ≠ 0) (hp : Builtin.divisionGoesByPylong a b = false) : Op2 W A (binaryOp .FloorDiv) (.int a) (.int b) (.int (a.fdiv b)) := by
  intro fz s v₁ v₂ Q E hf h₁ h₂ k; cases h₁; cases h₂; exact floordiv_int hb (k _ _ _ (Ext.toks hf) (.int _ _)) (.inl hp)
theorem op_pow {a n : Int} (h0 : 0 ≤ n) (hz : (Builtin.Int.intBits a : Int) * n ≤ 2 ^ 27) : Op2 W A (binaryOp .Pow) (.int a) (.int n) (.int (a ^ n.toNat)) := by
  intro fz s v₁ v₂ Q E hf h₁ h₂ k; cases h₁; cases h₂; exact pow_int h0 hz (k _ _ _ (Ext.toks hf) (.int _ _))
theorem op_shl {a n : Int} (h0 : 0 ≤ n) (h1 : n ≤ 1000000) (ha : a.natAbs < 2 ^ 64) : Op2 W A (binaryOp .LShift) (.int a) (.int n) (.int (a * 2 ^ n.toNat)) := by
  intro fz s v₁ v₂ Q E hf h₁ h₂ k; cases h₁; cases h₂; exact lshift_int_small h0 h1 ha (k _ _ _ (Ext.toks hf) (.int _ _))
theorem op_shr {a n : Int} (h0 : 0 ≤ n) : Op2 W A (binaryOp .RShift) (.int a) (.int n) (.int (a.fdiv (2 ^ n.toNat))) := by
  intro fz s v₁ v₂ Q E hf h₁ h₂ k; cases h₁; cases h₂; exact rshift_int h0 (k _ _ _ (Ext.toks hf) (.int _ _))
theorem op_band {a b : Int} : Op2 W A (binaryOp .BitAnd) (.int a) (.int b) (.int (Builtin.bitAnd a b)) := by
  intro fz s v₁ v₂ Q E hf h₁ h₂ k; cases h₁; cases h₂; exact and_int (k _ _ _ (Ext.toks hf) (.int _ _))
theorem op_neg {a : Int} : Op1 W A (unaryOp .USub) (.int a) (.int (-a)) := by
  intro fz s v₁ Q E hf h₁ k; cases h₁; exact neg_int (k _ _ _ (Ext.toks hf) (.int _ _))
theorem op_eqI {a b : Int} : Op2 W A (compareOp .Eq) (.int a) (.int b) (.bool (a == b)) := by
  intro fz s v₁ v₂ Q E hf h₁ h₂ k; cases h₁; cases h₂; exact eq_int (k _ _ _ (Ext.refl hf) (.bool _))
theorem op_neI {a b : Int} : Op2 W A (compareOp .NotEq) (.int a) (.int b) (.bool (a != b)) := by
  intro fz s v₁ v₂ Q E hf h₁ h₂ k; cases h₁; cases h₂; exact ne_int (k _ _ _ (Ext.refl hf) (.bool _))
theorem op_ltI {a b : Int} : Op2 W A (compareOp .Lt) (.int a) (.int b) (.bool (decide (a < b))) := by
  intro fz s v₁ v₂ Q E hf h₁ h₂ k; cases h₁; cases h₂; exact lt_int (k _ _ _ (Ext.refl hf) (.bool _))
theorem op_gtI {a b : Int} : Op2 W A (compareOp .Gt) (.int a) (.int b) (.bool (decide (b < a))) := by
  intro fz s v₁ v₂ Q E hf h₁ h₂ k; cases h₁; cases h₂; exact gt_int (k _ _ _ (Ext.refl hf) (.bool _))
theorem op_leI {a b : Int} : Op2 W A (compareOp .LtE) (.int a) (.int b) (.bool (decide (a ≤ b))) := by
  intro fz s v₁ v₂ Q E hf h₁ h₂ k; cases h₁; cases h₂; exact le_int (k _ _ _ (Ext.refl hf) (.bool _))
theorem op_eqS {x y : PySem.Str} : Op2 W A (compareOp .Eq) (.str x) (.str y) (.bool (x == y)) := by
  intro fz s v₁ v₂ Q E hf h₁ h₂ k; cases h₁; cases h₂; exact eq_str (k _ _ _ (Ext.refl hf) (.bool _))
theorem op_inS {x y : PySem.Str} : Op2 W A (compareOp .In) (.str y) (.str x) (.bool !(Builtin.Str.occurrences x y 0 x.length 1).isEmpty) := by
  intro fz s v₁ v₂ Q E hf h₁ h₂ k; cases h₁; cases h₂; exact in_str (k _ _ _ (Ext.refl hf) (.bool _))
theorem op_addS {x y : PySem.Str} (hz : x.length + y.length ≤ 16777216) : Op2 W A (binaryOp .Add) (.str x) (.str y) (.str (x ++ y)) := by
  intro fz s v₁ v₂ Q E hf h₁ h₂ k; cases h₁; cases h₂
  exact SB.add (fun t' c => k _ _ _ (Ext.toks hf) (.str _ _)) (by rw [PySem.sizeLine_eq]; exact hz)
theorem op_addB {x y : Array UInt8} (hz : x.size + y.size ≤ 16777216) : Op2 W A (binaryOp .Add) (.byt x) (.byt y) (.byt (x ++ y)) := by
  intro fz s v₁ v₂ Q E hf h₁ h₂ k; cases h₁; cases h₂
  exact KBy.add_bytes hz (fun t' c => k _ _ _ (Ext.toks hf) (.byt _ _))

theorem VH.isList {fz : GMap} {s : Shared} {v : Value} {ds : List D} (hf : FzIn fz s) (h : VH fz v (.lst ds)) : ∃ a vs, v = .ref a ∧ s.heap.IsList a (List.toArray vs) ∧ VHs fz vs ds := by
  cases h with
  | lst e c d r => exact ⟨_, _, rfl, ⟨_, hf _ _ e, c, _, d⟩, r⟩

/-- a new list is made -/
theorem newL {fz : GMap} {s : Shared} {t : Nat} {us : List Value} {ds : List D} {Q : Value → Shared → Prop} (hf : FzIn fz s) (hd : VHs fz us ds) (k : ∀ v fz' s', Ext fz s fz' s' → VH fz' v (.lst ds) → Q v s') :
    Q (.ref s.heap.objs.size) { s with heap := s.heap.push { cls := .type "list", data := .seq us.toArray }, toks := t } := by
  have f := (Ext.refl hf).fresh (get_fresh s.heap)
  exact k _ _ _ ((Ext.push (t := t) hf).freeze f.1 f.2 (Heap.get?_push_size _ rfl)) (.lst GMap.add_self rfl rfl (hd.mono fun b q e => GMap.add_of f.2 e))

theorem op_addL {xs ys : List D} (hz : xs.length + ys.length ≤ 10000) : Op2 W A (binaryOp .Add) (.lst xs) (.lst ys) (.lst (xs ++ ys)) := by
  intro fz s v₁ v₂ Q E hf h₁ h₂ k
  obtain ⟨a, vs, rfl, l₁, r₁⟩ := h₁.isList hf
  obtain ⟨b, ws, rfl, l₂, r₂⟩ := h₂.isList hf
  obtain ⟨⟨c1, d1, da1, s1⟩, o1, hc1, n1, hd1⟩ := l₁
  obtain ⟨⟨c2, d2, da2, s2⟩, o2, hc2, n2, hd2⟩ := l₂
  simp only at hc1 hd1 hc2 hd2
  subst hc1 hd1 hc2 hd2
  refine concat_meets ⟨_, o1, rfl⟩ ⟨_, o2, rfl⟩ noFill_list_add seq_list_add PySem.F.slot_list_add PySem.F.entry_list_add (PySem.F.args_list_add_2 _ _)
    (list_addW a b vs.toArray ws.toArray n1 n2 d1 d2 s1 s2 (by rw [List.size_toArray, List.size_toArray, r₁.length, r₂.length, PySem.sizeLine_eq]; omega)) ⟨o1, o2, ?_⟩
  rw [List.append_toArray]
  exact newL hf (r₁.append r₂) k
end
end
section
inductive Out where
  | next (σ : Sto)
  | ret (d : D)

structure Fin (kp fz₀ fz : GMap) (s : Shared) : Prop where
  kept : ∀ b o, kp b = some o → s.heap.get? b = some o
  fzIn : FzIn fz s
  fz0 : ∀ b o, fz₀ b = some o → fz b = some o
  fzNew : ∀ b o, fz b = some o → fz₀ b = some o ∨ kp b = none

theorem Ok.fin {W : WP} {env : Env} {kp fz₀ fz : GMap} {σ : Sto} {ad : PySem.Str → Addr} {m : PySem.Str → Option Value} {s : Shared} (H : Ok W env kp fz₀ σ fz ad m s) : Fin kp fz₀ fz s := ⟨H.kept, H.fzIn, H.fz0, H.fzNew⟩

def Post (W : WP) (env : Env) (kp fz₀ : GMap) (s : Shared) (Q : Flow → Shared → Prop) : Out → Prop
  | .next σ => ∀ fz ad m h tk, Ok W env kp fz₀ σ fz ad m { s with heap := h, toks := tk } → Q .next { s with heap := h, toks := tk }
  | .ret d => ∀ v fz h tk, Fin kp fz₀ fz { s with heap := h, toks := tk } → VH fz v d → Q (.ret v) { s with heap := h, toks := tk }

theorem Post.moved {W : WP} {env : Env} {kp fz₀ : GMap} {s : Shared} {Q : Flow → Shared → Prop} {o : Out} {h : Heap} {tk : Nat} (p : Post W env kp fz₀ s Q o) : Post W env kp fz₀ { s with heap := h, toks := tk } Q o := by
  cases o with
  | next σ => exact p
  | ret d => exact p
theorem Post.keeps {W : WP} {env : Env} {kp fz₀ : GMap} {s s' : Shared} {Q : Flow → Shared → Prop} {o : Out} (k : Keeps s s') (p : Post W env kp fz₀ s Q o) : Post W env kp fz₀ s' Q o := by
  obtain ⟨h, tk, rfl, _⟩ := k; exact p.moved

def X (W : WP) (A : Around) (env : Env) (σ : Sto) (ss : List Stmt) (o : Out) : Prop :=
  ∀ (kp fz₀ fz : GMap) (ad : PySem.Str → Addr) (m : PySem.Str → Option Value) (s : Shared) (Q : Flow → Shared → Prop) (E : Value → Shared → Prop), Ok W env kp fz₀ σ fz ad m s →
    Post W env kp fz₀ s Q o → wpAny W.M A (execs ss env) Q E s
def X1 (W : WP) (A : Around) (env : Env) (σ : Sto) (st : Stmt) (o : Out) : Prop :=
  ∀ (kp fz₀ fz : GMap) (ad : PySem.Str → Addr) (m : PySem.Str → Option Value) (s : Shared) (Q : Flow → Shared → Prop) (E : Value → Shared → Prop), Ok W env kp fz₀ σ fz ad m s →
    Post W env kp fz₀ s Q o → wpAny W.M A (exec st env) Q E s

section
variable {W : WP} {A : Around} {env : Env} {σ σ' : Sto}

theorem Ok.weaken {kp fz₀ fz : GMap} {ad : PySem.Str → Addr} {m : PySem.Str → Option Value} {s : Shared} (H : Ok W env kp fz₀ σ fz ad m s) (hs : ∀ p ∈ σ', p ∈ σ) : Ok W env kp fz₀ σ' fz ad m s :=
  { H with vars := fun x sl h => H.vars x sl (hs _ h), own := fun x ds h => H.own x ds (hs _ h), inj := fun x y ds es h h' => H.inj x y ds es (hs _ h) (hs _ h') }

theorem x_weak {ss : List Stmt} {o : Out} (hs : ∀ p ∈ σ', p ∈ σ) (h : X W A env σ' ss o) : X W A env σ ss o := fun kp fz₀ fz ad m s Q E H p => h _ _ _ _ _ _ _ _ (H.weaken hs) p
theorem x_weakO {ss : List Stmt} {σ₁ : Sto} (h : X W A env σ ss (.next σ₁)) (hs : ∀ p ∈ σ', p ∈ σ₁) : X W A env σ ss (.next σ') := fun kp fz₀ fz ad m s Q E H p => h _ _ _ _ _ _ _ _ H fun fz ad m h tk H' => p _ _ _ _ _ (H'.weaken hs)
theorem x1_weak {ss : Stmt} {o : Out} (hs : ∀ p ∈ σ', p ∈ σ) (h : X1 W A env σ' ss o) : X1 W A env σ ss o := fun kp fz₀ fz ad m s Q E H p => h _ _ _ _ _ _ _ _ (H.weaken hs) p

theorem x_nil : X W A env σ [] (.next σ) := fun kp fz₀ fz ad m s Q E H p => wpAny_execs_nil (p _ _ _ s.heap s.toks H)
theorem x_cons {st : Stmt} {rest : List Stmt} {σ₁ : Sto} {o : Out} (h : X1 W A env σ st (.next σ₁)) (r : X W A env σ₁ rest o) : X W A env σ (st :: rest) o := by
  intro kp fz₀ fz ad m s Q E H p
  refine wpAny_execs_cons (h _ _ _ _ _ _ _ _ H fun fz ad m h tk H' => ?_)
  exact r _ _ _ _ _ _ _ _ H' p.moved
theorem x_stop {st : Stmt} {rest : List Stmt} {d : D} (h : X1 W A env σ st (.ret d)) : X W A env σ (st :: rest) (.ret d) := by
  intro kp fz₀ fz ad m s Q E H p
  exact wpAny_execs_cons (h _ _ _ _ _ _ _ _ H fun v fz h tk F hv => p v fz h tk F hv)

theorem x_if {t : PySem.Expr} {body orelse : List Stmt} {pos : Pos} {b : Bool} {o : Out} (h : Tr W A env σ t b) (h₁ : b = true → X W A env σ body o) (h₂ : b = false → X W A env σ orelse o) : X1 W A env σ (.If t body orelse pos) o := by
  intro kp fz₀ fz ad m s Q E H p
  refine wpAny_If (h _ _ _ _ _ _ _ _ H fun fz' s' x => ?_)
  cases b with
  | true => exact h₁ rfl _ _ _ _ _ _ _ _ (H.ext x) (p.keeps x.keeps)
  | false => exact h₂ rfl _ _ _ _ _ _ _ _ (H.ext x) (p.keeps x.keeps)
theorem x_ret {e : PySem.Expr} {pos : Pos} {d : D} (h : Ev W A env σ e d) : X1 W A env σ (.Return (some e) pos) (.ret d) := by
  intro kp fz₀ fz ad m s Q E H p
  refine wpAny_Return_some (h _ _ _ _ _ _ _ _ H fun v fz' s' x hv => ?_)
  obtain ⟨h', tk, e', _⟩ := id x.keeps
  have F := (H.ext x).fin
  subst e'
  exact p v fz' h' tk F hv

/-- the store with x told anew -/
def upd (σ : Sto) (x : PySem.Str) (sl : Slot) : Sto := (x, sl) :: σ.filter fun p => !decide (p.1 = x)
theorem mem_upd {x y : PySem.Str} {sl t : Slot} (h : (y, t) ∈ upd σ x sl) : (y = x ∧ t = sl) ∨ (y ≠ x ∧ (y, t) ∈ σ) := by
  rcases List.mem_cons.mp h with e | h
  · exact .inl ⟨congrArg Prod.fst e, congrArg Prod.snd e⟩
  · have := List.mem_filter.mp h
    exact .inr ⟨by simpa using this.2, this.1⟩
theorem upd_self {x : PySem.Str} {sl : Slot} : (x, sl) ∈ upd σ x sl := .head _
theorem upd_of {x y : PySem.Str} {sl t : Slot} (hn : y ≠ x) (h : (y, t) ∈ σ) : (y, t) ∈ upd σ x sl := .tail _ (List.mem_filter.mpr ⟨h, by simpa using hn⟩)

theorem Look.sameBut {m m' : PySem.Str → Option Value} {h h' : Heap} {x y : PySem.Str} {v : Value} (l : Look env m h y v) (hn : y ≠ x) (hm : ∀ z, z ≠ x → m' z = m z) (hc : ∀ c, env.cells.lookup y = some c → h'.get? c = h.get? c) : Look env m' h' y v := by
  rcases l with ⟨a, b⟩ | ⟨a, c, b, o, d, e⟩
  · exact .inl ⟨a, (hm y hn).trans b⟩
  · exact .inr ⟨a, c, b, o, (hc c b).trans d, e⟩

/-- one object, of the frame's own, is another one now -/
theorem Ok.changed {kp fz₀ fz : GMap} {ad : PySem.Str → Addr} {m m' : PySem.Str → Option Value} {s : Shared} {a : Addr} {h' : Heap} {tk : Nat} (H : Ok W env kp fz₀ σ fz ad m s)
    (hs : Heap.SameBut a s.heap h') (hk : kp a = none) (hf : fz a = none) (hn : h'.Ns env.locals m') (hcell : ∀ x c, env.cells.lookup x = some c → ∃ v, h'.IsCell c v)
    (hv : ∀ x sl, (x, sl) ∈ σ' → Holds env fz ad m' h' x sl) (ho : ∀ x ds, (x, Slot.own ds) ∈ σ' → ∃ es, (x, Slot.own es) ∈ σ) : Ok W env kp fz₀ σ' fz ad m' { s with heap := h', toks := tk } where
  wf := H.wf
  kept := fun b o e => (hs.2 b (fun q => by subst q; rw [hk] at e; cases e)).trans (H.kept b o e)
  fzIn := fun b o e => (hs.2 b (fun q => by subst q; rw [hf] at e; cases e)).trans (H.fzIn b o e)
  fz0 := H.fz0
  fzNew := H.fzNew
  ns := hn
  nsK := H.nsK
  nsF := H.nsF
  cells := hcell
  cinj := H.cinj
  cfree := H.cfree
  vars := hv
  own := fun x ds h => let ⟨es, h'⟩ := ho x ds h; H.own x es h'
  inj := fun x y ds es h h' e => let ⟨ds', h1⟩ := ho x ds h; let ⟨es', h2⟩ := ho y es h'; H.inj x y ds' es' h1 h2 e

theorem Ok.objOwn {kp fz₀ fz : GMap} {ad : PySem.Str → Addr} {m : PySem.Str → Option Value} {s : Shared} (H : Ok W env kp fz₀ σ fz ad m s) {x : PySem.Str} {ds : List D} (h : (x, Slot.own ds) ∈ σ) : ∃ us n, s.heap.get? (ad x) = some { cls := .type "list", data := .seq (List.toArray us) n } ∧ VHs fz us ds := (H.vars _ _ h).2.2

theorem Ok.ownNotLoc {kp fz₀ fz : GMap} {ad : PySem.Str → Addr} {m : PySem.Str → Option Value} {s : Shared} (H : Ok W env kp fz₀ σ fz ad m s) {x : PySem.Str} {ds : List D} (h : (x, Slot.own ds) ∈ σ) : ad x ≠ env.locals := by
  intro e
  obtain ⟨us, n, g, _⟩ := H.objOwn h
  obtain ⟨o, es, ep, ho, hd, _⟩ := H.ns
  rw [e, ho] at g
  rw [Option.some.inj g] at hd
  cases hd
theorem Ok.cellNotLoc {kp fz₀ fz : GMap} {ad : PySem.Str → Addr} {m : PySem.Str → Option Value} {s : Shared} (H : Ok W env kp fz₀ σ fz ad m s) {x : PySem.Str} {c : Addr} (h : env.cells.lookup x = some c) : c ≠ env.locals := by
  intro e
  obtain ⟨v, o', g, hd'⟩ := H.cells _ _ h
  obtain ⟨o, es, ep, ho, hd, _⟩ := H.ns
  rw [e, ho] at g
  rw [Option.some.inj g, hd'] at hd
  cases hd
theorem Ok.ownNotCell {kp fz₀ fz : GMap} {ad : PySem.Str → Addr} {m : PySem.Str → Option Value} {s : Shared} (H : Ok W env kp fz₀ σ fz ad m s) {x y : PySem.Str} {ds : List D} {c : Addr} (h : (x, Slot.own ds) ∈ σ) (h' : env.cells.lookup y = some c) : ad x ≠ c := by
  intro e
  obtain ⟨us, n, g, _⟩ := H.objOwn h
  obtain ⟨v, o', g', hd'⟩ := H.cells _ _ h'
  rw [e, g'] at g
  rw [Option.some.inj g] at hd'
  cases hd'

/-- a name is stored -/
theorem wp_store {n : Nat} {x : PySem.Str} {v : Value} {d : D} {kp fz₀ fz : GMap} {ad : PySem.Str → Addr} {m : PySem.Str → Option Value} {s : Shared} {Q : Unit → Shared → Prop} {E : Value → Shared → Prop} (F : FOK n A env) (H : Ok W env kp fz₀ σ fz ad m s)
    (hx : env.kindOf x = some .local ∨ (env.kindOf x = some .cell ∧ ∃ c, env.cells.lookup x = some c ∧ kp c = none ∧ fz c = none)) (hv : VH fz v d)
    (k : ∀ m' h' tk, Ok W env kp fz₀ (upd σ x (.val d)) fz ad m' { s with heap := h', toks := tk } → Q () { s with heap := h', toks := tk }) : wpAny W.M A (storeName env x v) Q E s := by
  rcases hx with hx | ⟨hx, c, hc, hck, hcf⟩
  · refine wpAny_storeName_local hx H.ns (fun h' hn hs => k (fun y => if y = x then some v else m y) _ _ ?_) (by show (env.scope.kind == .class || (env.scope.kind == .module && env.locals != env.globals)) = false; rw [F.hk]; rfl)
    refine H.changed hs H.nsK H.nsF hn (fun y c h => ?_) (fun y sl h => ?_) (fun y ds h => ?_)
    · obtain ⟨v', o, g, q⟩ := H.cells y c h
      exact ⟨v', o, (hs.2 c (H.cellNotLoc h)).trans g, q⟩
    · rcases mem_upd h with ⟨rfl, rfl⟩ | ⟨hn', h⟩
      · exact ⟨v, .inl ⟨hx, by simp⟩, hv⟩
      · have hl := H.vars _ _ h
        cases sl with
        | val d' => obtain ⟨v', l, hv'⟩ := hl; exact ⟨v', Look.sameBut l hn' (fun z hz => by simp [hz]) (fun c hc => hs.2 c (H.cellNotLoc hc)), hv'⟩
        | own ds => obtain ⟨a, b, us, n, g, q⟩ := hl; exact ⟨a, by simp [hn', b], us, n, (hs.2 _ (H.ownNotLoc h)).trans g, q⟩
    · rcases mem_upd h with ⟨_, e⟩ | ⟨_, h⟩
      · cases e
      · exact ⟨ds, h⟩
  · obtain ⟨v₀, hv₀⟩ := H.cells _ _ hc
    refine wpAny_storeName_cell F.hk hx hc hv₀ (fun h' hc' hs => k m h' s.toks ?_)
    refine H.changed hs hck hcf (H.ns.sameBut hs (H.cellNotLoc hc).symm) (fun y c' h => ?_) (fun y sl h => ?_) (fun y ds h => ?_)
    · by_cases e : c' = c
      · subst e; exact ⟨_, hc'⟩
      · obtain ⟨v', o, g, q⟩ := H.cells y c' h
        exact ⟨v', o, (hs.2 c' e).trans g, q⟩
    · rcases mem_upd h with ⟨rfl, rfl⟩ | ⟨hn', h⟩
      · exact ⟨v, .inr ⟨.inl hx, c, hc, hc'⟩, hv⟩
      · have hl := H.vars _ _ h
        cases sl with
        | val d' => obtain ⟨v', l, hv'⟩ := hl; exact ⟨v', Look.sameBut l hn' (fun z hz => rfl) (fun c' hc'' => hs.2 c' fun e => hn' (H.cinj _ _ _ hc'' (e ▸ hc))), hv'⟩
        | own ds => obtain ⟨a, b, us, n, g, q⟩ := hl; exact ⟨a, b, us, n, (hs.2 _ (H.ownNotCell h hc)).trans g, q⟩
    · rcases mem_upd h with ⟨_, e⟩ | ⟨_, h⟩
      · cases e
      · exact ⟨ds, h⟩

/-- names that may be stored -/
def Stor (env : Env) (x : PySem.Str) : Prop := env.kindOf x = some .local

theorem x_assign {n : Nat} {x : PySem.Str} {e : PySem.Expr} {px pos : Pos} {d : D} (F : FOK n A env) (h : Ev W A env σ e d) (hx : env.kindOf x = some .local) (hsw : swapsWith e (some (.Name x px)) pos.line env = pure false := by rfl) :
    X1 W A env σ (.Assign [.Name x px] e pos) (.next (upd σ x (.val d))) := by
  intro kp fz₀ fz ad m s Q E H p
  refine wpAny_Assign_Name (h _ _ _ _ _ _ _ _ H fun v fz' s' x' hv => ?_) hsw
  refine wp_store F (H.ext x') (.inl hx) hv fun m' h' tk H' => ?_
  obtain ⟨h'', tk'', e', _⟩ := id x'.keeps
  subst e'
  exact p _ _ _ _ _ H'

/-- a fresh list under a name -/
theorem Ok.setOwn {kp fz₀ fz : GMap} {ad : PySem.Str → Addr} {m : PySem.Str → Option Value} {s : Shared} {x : PySem.Str} {a : Addr} {us : List Value} {nn : Nat} {ds : List D} {h' : Heap} {tk : Nat} (H : Ok W env kp fz₀ σ fz ad m s)
    (hx : env.kindOf x = some .local) (hn : h'.Ns env.locals (fun y => if y = x then some (.ref a) else m y)) (hs : Heap.SameBut env.locals s.heap h') (hk : kp a = none) (hf : fz a = none)
    (hg : s.heap.get? a = some { cls := .type "list", data := .seq us.toArray nn }) (hd : VHs fz us ds) (hnew : ∀ y es, (y, Slot.own es) ∈ σ → ad y ≠ a) : Ok W env kp fz₀ (upd σ x (.own ds)) fz (fun y => if y = x then a else ad y) (fun y => if y = x then some (.ref a) else m y) { s with heap := h', toks := tk } where
  wf := H.wf
  kept := fun b o e => (hs.2 b (fun q => by subst q; rw [H.nsK] at e; cases e)).trans (H.kept b o e)
  fzIn := fun b o e => (hs.2 b (fun q => by subst q; rw [H.nsF] at e; cases e)).trans (H.fzIn b o e)
  fz0 := H.fz0
  fzNew := H.fzNew
  ns := hn
  nsK := H.nsK
  nsF := H.nsF
  cells := fun y c h => by
    obtain ⟨v', o, g, q⟩ := H.cells y c h
    exact ⟨v', o, (hs.2 c (H.cellNotLoc h)).trans g, q⟩
  cinj := H.cinj
  cfree := H.cfree
  vars := fun y sl h => by
    have hal : a ≠ env.locals := by
      intro e
      obtain ⟨o, es, ep, ho, hd, _⟩ := H.ns
      rw [e, ho] at hg
      rw [Option.some.inj hg] at hd
      cases hd
    rcases mem_upd h with ⟨rfl, rfl⟩ | ⟨hn', h⟩
    · exact ⟨hx, by simp, us, nn, by simpa using (hs.2 a hal).trans hg, hd⟩
    · have hl := H.vars _ _ h
      cases sl with
      | val d' => obtain ⟨v', l, hv'⟩ := hl; exact ⟨v', Look.sameBut l hn' (fun z hz => by simp [hz]) (fun c hc => hs.2 c (H.cellNotLoc hc)), hv'⟩
      | own es => obtain ⟨a', b, us, n, g, q⟩ := hl; exact ⟨a', by simp [hn', b], us, n, by simpa [hn'] using (hs.2 _ (H.ownNotLoc h)).trans g, q⟩
  own := fun y es h => by
    rcases mem_upd h with ⟨rfl, e⟩ | ⟨hn', h⟩
    · simp [hk, hf]
    · simpa [hn'] using H.own y es h
  inj := fun y z es es' h h' e => by
    rcases mem_upd h with ⟨e1, _⟩ | ⟨hn1, h1⟩ <;> rcases mem_upd h' with ⟨e2, _⟩ | ⟨hn2, h2⟩
    · exact e1.trans e2.symm
    · simp [e1, hn2] at e; exact absurd e.symm (hnew _ _ h2)
    · simp [e2, hn1] at e; exact absurd e (hnew _ _ h1)
    · simp [hn1, hn2] at e; exact H.inj _ _ _ _ h1 h2 e

theorem wp_storeOwn {n : Nat} {x : PySem.Str} {a : Addr} {us : List Value} {nn : Nat} {ds : List D} {kp fz₀ fz : GMap} {ad : PySem.Str → Addr} {m : PySem.Str → Option Value} {s : Shared} {Q : Unit → Shared → Prop} {E : Value → Shared → Prop} (F : FOK n A env) (H : Ok W env kp fz₀ σ fz ad m s)
    (hx : env.kindOf x = some .local) (hk : kp a = none) (hf : fz a = none) (hg : s.heap.get? a = some { cls := .type "list", data := .seq us.toArray nn }) (hd : VHs fz us ds) (hnew : ∀ y es, (y, Slot.own es) ∈ σ → ad y ≠ a)
    (k : ∀ ad' m' h' tk, Ok W env kp fz₀ (upd σ x (.own ds)) fz ad' m' { s with heap := h', toks := tk } → Q () { s with heap := h', toks := tk }) : wpAny W.M A (storeName env x (.ref a)) Q E s := by
  refine wpAny_storeName_local hx H.ns (fun h' hn hs => k (fun y => if y = x then a else ad y) (fun y => if y = x then some (.ref a) else m y) _ _ ?_) (by show (env.scope.kind == .class || (env.scope.kind == .module && env.locals != env.globals)) = false; rw [F.hk]; rfl)
  exact H.setOwn hx hn hs hk hf hg hd hnew

theorem Ok.newAddr {kp fz₀ fz fz' : GMap} {ad : PySem.Str → Addr} {m : PySem.Str → Option Value} {s s' : Shared} {a : Addr} (H : Ok W env kp fz₀ σ fz ad m s) (x : Ext fz s fz' s') (ha : s.heap.get? a = none) : kp a = none ∧ ∀ y es, (y, Slot.own es) ∈ σ → ad y ≠ a := by
  constructor
  · cases q : kp a with
    | none => rfl
    | some o => rw [H.kept _ _ q] at ha; cases ha
  · intro y es h e
    obtain ⟨us, n, g, _⟩ := H.objOwn h
    rw [e, ha] at g; cases g

theorem x_assignF {n : Nat} {x : PySem.Str} {e : PySem.Expr} {px pos : Pos} {ds : List D} (F : FOK n A env) (h : EvF W A env σ e ds) (hx : env.kindOf x = some .local) (hsw : swapsWith e (some (.Name x px)) pos.line env = pure false := by rfl) :
    X1 W A env σ (.Assign [.Name x px] e pos) (.next (upd σ x (.own ds))) := by
  intro kp fz₀ fz ad m s Q E H p
  refine wpAny_Assign_Name (h _ _ _ _ _ _ _ _ H fun a us nn fz' s' x' ha hn hg hd => ?_) hsw
  have N := H.newAddr x' ha
  refine wp_storeOwn F (H.ext x') hx N.1 hn hg hd N.2 fun ad' m' h' tk H' => ?_
  obtain ⟨h'', tk'', e', _⟩ := id x'.keeps
  subst e'
  exact p _ _ _ _ _ H'

/-- an own list is frozen -/
theorem Ok.freeze {kp fz₀ fz : GMap} {ad : PySem.Str → Addr} {m : PySem.Str → Option Value} {s : Shared} {x : PySem.Str} {ds : List D} (H : Ok W env kp fz₀ σ fz ad m s) (hm : (x, Slot.own ds) ∈ σ) : ∃ fz', Ok W env kp fz₀ (upd σ x (.val (.lst ds))) fz' ad m s := by
  obtain ⟨hx, hmx, us, n, g, hd⟩ := H.vars _ _ hm
  obtain ⟨hk, hf⟩ := H.own _ _ hm
  refine ⟨fz.add (ad x) { cls := .type "list", data := .seq us.toArray n }, ?_⟩
  have sub : ∀ b o, fz b = some o → fz.add (ad x) { cls := .type "list", data := .seq us.toArray n } b = some o := fun b o e => GMap.add_of hf e
  have only : ∀ b o, fz.add (ad x) { cls := .type "list", data := .seq us.toArray n } b = some o → (b = ad x ∧ o = { cls := .type "list", data := .seq us.toArray n }) ∨ fz b = some o := by
    intro b o e
    unfold GMap.add at e
    by_cases hb : b = ad x
    · rw [if_pos hb] at e; exact .inl ⟨hb, (Option.some.inj e).symm⟩
    · rw [if_neg hb] at e; exact .inr e
  refine { H with fzIn := ?_, fz0 := fun b o e => sub b o (H.fz0 b o e), fzNew := ?_, nsF := ?_, vars := ?_, own := ?_, inj := ?_, cfree := fun y c h hl => ⟨(H.cfree y c h hl).1, by unfold GMap.add; rw [if_neg (fun e => H.ownNotCell hm h e.symm)]; exact (H.cfree y c h hl).2⟩ }
  · intro b o e
    rcases only b o e with ⟨rfl, rfl⟩ | e
    · exact g
    · exact H.fzIn b o e
  · intro b o e
    rcases only b o e with ⟨rfl, rfl⟩ | e
    · exact .inr hk
    · exact H.fzNew b o e
  · show fz.add _ _ env.locals = none
    unfold GMap.add; rw [if_neg (H.ownNotLoc hm).symm]; exact H.nsF
  · intro y sl h
    rcases mem_upd h with ⟨rfl, rfl⟩ | ⟨hn', h⟩
    · exact ⟨.ref (ad y), .inl ⟨hx, hmx⟩, .lst GMap.add_self rfl rfl (hd.mono sub)⟩
    · have hl := H.vars _ _ h
      cases sl with
      | val d' => obtain ⟨v', l, hv'⟩ := hl; exact ⟨v', l, hv'.mono sub⟩
      | own es => obtain ⟨a', b, us, n, g, q⟩ := hl; exact ⟨a', b, us, n, g, q.mono sub⟩
  · intro y es h
    rcases mem_upd h with ⟨_, e⟩ | ⟨hn', h⟩
    · cases e
    · refine ⟨(H.own y es h).1, ?_⟩
      show fz.add _ _ (ad y) = none
      unfold GMap.add; rw [if_neg fun e => hn' (H.inj _ _ _ _ h hm e)]; exact (H.own y es h).2
  · intro y z es es' h h' e
    rcases mem_upd h with ⟨_, q⟩ | ⟨_, h⟩
    · cases q
    · rcases mem_upd h' with ⟨_, q⟩ | ⟨_, h'⟩
      · cases q
      · exact H.inj _ _ _ _ h h' e
theorem x_freeze {x : PySem.Str} {ds : List D} {ss : List Stmt} {o : Out} (hm : (x, Slot.own ds) ∈ σ) (h : X W A env (upd σ x (.val (.lst ds))) ss o) : X W A env σ ss o := by
  intro kp fz₀ fz ad m s Q E H p
  obtain ⟨fz', H'⟩ := H.freeze hm
  exact h _ _ _ _ _ _ _ _ H' p
theorem x1_freeze {x : PySem.Str} {ds : List D} {st : Stmt} {o : Out} (hm : (x, Slot.own ds) ∈ σ) (h : X1 W A env (upd σ x (.val (.lst ds))) st o) : X1 W A env σ st o := by
  intro kp fz₀ fz ad m s Q E H p
  obtain ⟨fz', H'⟩ := H.freeze hm
  exact h _ _ _ _ _ _ _ _ H' p

/-- an own list is turned in place -/
theorem Ok.turnOwn {kp fz₀ fz : GMap} {ad : PySem.Str → Addr} {m : PySem.Str → Option Value} {s : Shared} {x : PySem.Str} {ds es : List D} {us : List Value} {nn : Nat} {h' : Heap} {tk : Nat} (H : Ok W env kp fz₀ σ fz ad m s) (hm : (x, Slot.own ds) ∈ σ)
    (hs : Heap.SameBut (ad x) s.heap h') (hg : h'.get? (ad x) = some { cls := .type "list", data := .seq us.toArray nn }) (hd : VHs fz us es) : Ok W env kp fz₀ (upd σ x (.own es)) fz ad m { s with heap := h', toks := tk } := by
  obtain ⟨hx, hmx, us₀, n₀, g, _⟩ := H.vars _ _ hm
  refine H.changed hs (H.own _ _ hm).1 (H.own _ _ hm).2 (H.ns.sameBut hs (H.ownNotLoc hm).symm) (fun y c h => ?_) (fun y sl h => ?_) (fun y ds' h => ?_)
  · obtain ⟨v', o, g, q⟩ := H.cells y c h
    exact ⟨v', o, (hs.2 c (H.ownNotCell hm h).symm).trans g, q⟩
  · rcases mem_upd h with ⟨rfl, rfl⟩ | ⟨hn', h⟩
    · exact ⟨hx, hmx, us, nn, hg, hd⟩
    · have hl := H.vars _ _ h
      cases sl with
      | val d' => obtain ⟨v', l, hv'⟩ := hl; exact ⟨v', Look.sameBut (x := x) l hn' (fun z hz => rfl) (fun c' hc'' => hs.2 c' (H.ownNotCell hm hc'').symm), hv'⟩
      | own ds' => obtain ⟨a, b, us, n, g, q⟩ := hl; exact ⟨a, b, us, n, (hs.2 _ fun e => hn' (H.inj _ _ _ _ h hm e)).trans g, q⟩
  · rcases mem_upd h with ⟨rfl, _⟩ | ⟨_, h⟩
    · exact ⟨ds, hm⟩
    · exact ⟨ds', h⟩
end
end
section
section
variable {W : WP} {A : Around} {env : Env} {σ σ' : Sto}

inductive WhileRun (test : Sto → Bool → Prop) (body : Sto → Out → Prop) : Nat → Sto → Out → Prop
  | stop {n : Nat} {σ : Sto} : test σ false → WhileRun test body n σ (.next σ)
  | next {n : Nat} {σ σ₁ : Sto} {o : Out} : test σ true → body σ (.next σ₁) → WhileRun test body n σ₁ o → WhileRun test body (n + 1) σ o
  | ret {n : Nat} {σ : Sto} {d : D} : test σ true → body σ (.ret d) → WhileRun test body n σ (.ret d)
  | weak {n : Nat} {σ σ' : Sto} {o : Out} : (∀ p ∈ σ', p ∈ σ) → WhileRun test body n σ' o → WhileRun test body (n + 1) σ o

theorem x_while {test : PySem.Expr} {body : List Stmt} {pos : Pos} {n : Nat} {o : Out} (h : WhileRun (fun σ b => Tr W A env σ test b) (fun σ o => X W A env σ body o) n σ o) : X1 W A env σ (.While test body [] pos) o := by
  intro kp fz₀ fz ad m s Q E H p
  refine wpAny_While (codeAny_whileLoop (fun k s' => ∃ n σ₁ fz₁ ad₁ m₁ h₁ tk₁, s' = { s with heap := h₁, toks := tk₁ } ∧ k = n ∧ Ok W env kp fz₀ σ₁ fz₁ ad₁ m₁ s' ∧ WhileRun (fun σ b => Tr W A env σ test b) (fun σ o => X W A env σ body o) n σ₁ o) ?_ n ⟨n, σ, fz, ad, m, s.heap, s.toks, rfl, rfl, H, h⟩)
  rintro k s' ⟨n₁, σ₁, fz₁, ad₁, m₁, h₁, tk₁, rfl, rfl, H₁, r⟩
  induction k generalizing σ₁ fz₁ ad₁ m₁ h₁ tk₁ with
  | zero =>
    cases r with
    | stop t =>
      refine t _ _ _ _ _ _ _ _ H₁ fun fz' s' x => ?_
      obtain ⟨h', tk', e, _⟩ := id x.keeps
      have H₂ := H₁.ext x
      subst e
      exact wpAny_execs_nil (p _ _ _ _ _ H₂)
    | ret t b =>
      refine t _ _ _ _ _ _ _ _ H₁ fun fz' s' x => ?_
      obtain ⟨h', tk', e, _⟩ := id x.keeps
      have H₂ := H₁.ext x
      subst e
      exact b _ _ _ _ _ _ _ _ H₂ fun v fz h tk F hv => p v fz h tk F hv
  | succ k ih =>
    cases r with
    | stop t =>
      refine t _ _ _ _ _ _ _ _ H₁ fun fz' s' x => ?_
      obtain ⟨h', tk', e, _⟩ := id x.keeps
      have H₂ := H₁.ext x
      subst e
      exact wpAny_execs_nil (p _ _ _ _ _ H₂)
    | ret t b =>
      refine t _ _ _ _ _ _ _ _ H₁ fun fz' s' x => ?_
      obtain ⟨h', tk', e, _⟩ := id x.keeps
      have H₂ := H₁.ext x
      subst e
      exact b _ _ _ _ _ _ _ _ H₂ fun v fz h tk F hv => p v fz h tk F hv
    | next t b r' =>
      refine t _ _ _ _ _ _ _ _ H₁ fun fz' s' x => ?_
      obtain ⟨h', tk', e, _⟩ := id x.keeps
      have H₂ := H₁.ext x
      subst e
      exact b _ _ _ _ _ _ _ _ H₂ fun fz ad m h tk H₃ => ⟨k, Nat.lt_succ_self _, k, _, fz, ad, m, h, tk, rfl, rfl, H₃, r'⟩
    | weak hs r' =>
      refine wpAny_mono (ih _ _ _ _ _ _ (H₁.weaken hs) r') (fun b s₂ hb => ?_) fun _ _ e => e
      cases b with
      | false => exact hb
      | true =>
        refine wpAny_mono hb (fun f s₃ hf => ?_) fun _ _ e => e
        cases f with
        | next => obtain ⟨m, hm, r⟩ := hf; exact ⟨m, Nat.lt_succ_of_lt hm, r⟩
        | cont => obtain ⟨m, hm, r⟩ := hf; exact ⟨m, Nat.lt_succ_of_lt hm, r⟩
        | brk => exact hf
        | ret v => exact hf

structure IterOk (W : WP) (A : Around) (I : Addr) (fp wr : List Addr) (n : Nat) (P : Nat → Value → Prop) (St : Nat → Heap → Prop) (fz : GMap) (ds : List D) : Prop where
  walks : Walks W.prog W.w A I fp wr n P St
  len : n = ds.length
  wr : ∀ b ∈ wr, b = I
  fp : ∀ b ∈ fp, b = I ∨ ∃ o, fz b = some o
  item : ∀ i v, i < n → P i v → ∃ d, ds[i]? = some d ∧ VH fz v d
  has : ∀ i h, St i h → ∃ o, h.get? I = some o

/-- what a for goes over -/
def Iter (W : WP) (A : Around) (d : D) (ds : List D) : Prop :=
  ∀ (fz : GMap) (s : Shared) (v : Value) (Q E : Value → Shared → Prop), FzIn fz s → VH fz v d →
    (∀ I fp wr n P St h' tk', s.heap.get? I = none → (∀ b o, s.heap.get? b = some o → h'.get? b = some o) → IterOk W A I fp wr n P St fz ds → St 0 h' → Q (.ref I) { s with heap := h', toks := tk' }) →
    wpAny W.M A (pyIter v) Q E s

def Asg (W : WP) (A : Around) (env : Env) (t : PySem.Expr) (d : D) (σ σ₁ : Sto) : Prop :=
  ∀ (kp fz₀ fz : GMap) (ad : PySem.Str → Addr) (m : PySem.Str → Option Value) (s : Shared) (v : Value) (Q : Unit → Shared → Prop) (E : Value → Shared → Prop), Ok W env kp fz₀ σ fz ad m s → VH fz v d →
    (∀ fz' ad' m' h' tk', Ok W env kp fz₀ σ₁ fz' ad' m' { s with heap := h', toks := tk' } → Q () { s with heap := h', toks := tk' }) → wpAny W.M A (assign t env v) Q E s

theorem asg_name {n : Nat} {x : PySem.Str} {px : Pos} {d : D} (F : FOK n A env) (hx : env.kindOf x = some .local) : Asg W A env (.Name x px) d σ (upd σ x (.val d)) := by
  intro kp fz₀ fz ad m s v Q E H hv k
  exact wpAny_assign_Name (wp_store F H (.inl hx) hv fun m' h' tk H' => k _ _ _ _ _ H')

inductive ForRun (step : D → Sto → Out → Prop) : List D → Sto → Out → Prop
  | nil {σ : Sto} : ForRun step [] σ (.next σ)
  | next {d : D} {ds : List D} {σ σ₁ : Sto} {o : Out} : step d σ (.next σ₁) → ForRun step ds σ₁ o → ForRun step (d :: ds) σ o
  | ret {d r : D} {ds : List D} {σ : Sto} : step d σ (.ret r) → ForRun step (d :: ds) σ (.ret r)

theorem Ok.addKp {kp fz₀ fz : GMap} {ad : PySem.Str → Addr} {m : PySem.Str → Option Value} {s s' : Shared} {I : Addr} {o : Obj} (H : Ok W env kp fz₀ σ fz ad m s) (x : Ext fz s fz s') (hI : s.heap.get? I = none) (ho : s'.heap.get? I = some o) : Ok W env (kp.add I o) fz σ fz ad m s' := by
  have H' := H.ext x
  have hkI : kp I = none := by
    cases q : kp I with
    | none => rfl
    | some o => rw [H.kept _ _ q] at hI; cases hI
  have hn : ∀ b q, s.heap.get? b = some q → b ≠ I := fun b q e h => by rw [h, hI] at e; cases e
  refine { H' with wf := H.wf.mono fun b q e => GMap.add_of hkI e, kept := ?_, fz0 := fun _ _ e => e, fzNew := fun _ _ e => .inl e, nsK := ?_, own := ?_, cfree := fun x c h hl => ⟨by unfold GMap.add; rw [if_neg (fun e => by obtain ⟨v, ob, g, _⟩ := H.cells x c h; rw [e, hI] at g; cases g)]; exact (H.cfree x c h hl).1, (H.cfree x c h hl).2⟩ }
  · intro b q e
    unfold GMap.add at e
    by_cases hb : b = I
    · rw [if_pos hb] at e; cases e; subst hb; exact ho
    · rw [if_neg hb] at e; exact H'.kept b q e
  · obtain ⟨ol, _, _, hl, _⟩ := H.ns
    show kp.add I o env.locals = none
    unfold GMap.add; rw [if_neg (hn _ _ hl)]; exact H.nsK
  · intro y es h
    obtain ⟨us, n, g, _⟩ := H.objOwn h
    refine ⟨?_, (H'.own y es h).2⟩
    show kp.add I o (ad y) = none
    unfold GMap.add; rw [if_neg (hn _ _ g)]; exact (H.own y es h).1

/-- the iterator went one item on -/
theorem Ok.swapKp {kp fz₀ fz : GMap} {ad : PySem.Str → Addr} {m : PySem.Str → Option Value} {s : Shared} {I : Addr} {o o' : Obj} {h' : Heap} {tk : Nat} (H : Ok W env (kp.add I o) fz₀ σ fz ad m s) (hwf : WF W kp) (hk : kp I = none) (hf0 : fz₀ I = none)
    (hc : ∀ x c, env.cells.lookup x = some c → c ≠ I) (keep : ∀ b q, b ≠ I → s.heap.get? b = some q → h'.get? b = some q) (ho : h'.get? I = some o') :
    Ok W env (kp.add I o') fz₀ σ fz ad m { s with heap := h', toks := tk } := by
  have addI : ∀ b, b ≠ I → ∀ q : Obj, kp.add I q b = kp b := fun b hb q => by unfold GMap.add; rw [if_neg hb]
  have none_of : ∀ b, kp.add I o b = none → b ≠ I ∧ kp.add I o' b = none := fun b e => by
    have hb : b ≠ I := fun h => by rw [h, GMap.add_self] at e; cases e
    exact ⟨hb, by rw [addI b hb]; rw [addI b hb] at e; exact e⟩
  have hfI : fz I = none := by
    cases q : fz I with
    | none => rfl
    | some q' => rcases H.fzNew _ _ q with h | h
                 · rw [hf0] at h; cases h
                 · rw [GMap.add_self] at h; cases h
  have nef : ∀ b q, fz b = some q → b ≠ I := fun b q e h => by rw [h, hfI] at e; cases e
  have hl := none_of _ H.nsK
  refine { wf := hwf.mono fun b q e => GMap.add_of hk e, kept := ?_, fzIn := fun b q e => keep b q (nef b q e) (H.fzIn b q e), fz0 := H.fz0, fzNew := ?_, ns := H.ns.at' fun q e => keep _ _ hl.1 e, nsK := hl.2, nsF := H.nsF, cells := ?_, cinj := H.cinj, cfree := fun x c h hl => ⟨(none_of _ (H.cfree x c h hl).1).2, (H.cfree x c h hl).2⟩, vars := ?_, own := ?_, inj := H.inj }
  · intro b q e
    by_cases hb : b = I
    · subst hb; rw [GMap.add_self] at e; cases e; exact ho
    · exact keep b q hb (H.kept b q (by rw [addI b hb] at e ⊢; exact e))
  · intro b q e
    exact (H.fzNew b q e).imp id fun h => (none_of b h).2
  · intro x c h
    obtain ⟨v, ob, g, q⟩ := H.cells x c h
    exact ⟨v, ob, keep _ _ (hc x c h) g, q⟩
  · intro x sl h
    have hl := H.vars x sl h
    cases sl with
    | val d =>
      obtain ⟨v, l, hv⟩ := hl
      refine ⟨v, ?_, hv⟩
      rcases l with ⟨a, b⟩ | ⟨a, c, b, ob, g, q⟩
      · exact .inl ⟨a, b⟩
      · exact .inr ⟨a, c, b, ob, keep _ _ (hc x c b) g, q⟩
    | own ds =>
      obtain ⟨a, b, us, n, g, q⟩ := hl
      exact ⟨a, b, us, n, keep _ _ (none_of _ (H.own x ds h).1).1 g, q⟩
  · intro x ds h
    exact ⟨(none_of _ (H.own x ds h).1).2, (H.own x ds h).2⟩

/-- the iterator is forgotten -/
theorem Ok.dropKp {kp fz₀ fz₁ fz : GMap} {ad : PySem.Str → Addr} {m : PySem.Str → Option Value} {s : Shared} {I : Addr} {o : Obj} (H : Ok W env (kp.add I o) fz₁ σ fz ad m s) (hwf : WF W kp) (hk : kp I = none)
    (h0 : ∀ b q, fz₀ b = some q → fz₁ b = some q) (hn : ∀ b q, fz₁ b = some q → fz₀ b = some q ∨ kp b = none) : Ok W env kp fz₀ σ fz ad m s := by
  have none_of : ∀ b, kp.add I o b = none → kp b = none := fun b e => by
    unfold GMap.add at e
    by_cases hb : b = I
    · rw [hb]; exact hk
    · rw [if_neg hb] at e; exact e
  refine { H with wf := hwf, kept := fun b q e => H.kept b q (GMap.add_of hk e), fz0 := fun b q e => H.fz0 b q (h0 b q e), fzNew := ?_, nsK := none_of _ H.nsK, own := fun x ds h => ⟨none_of _ (H.own x ds h).1, (H.own x ds h).2⟩, cfree := fun x c h hl => ⟨none_of _ (H.cfree x c h hl).1, (H.cfree x c h hl).2⟩ }
  intro b q e
  rcases H.fzNew b q e with h | h
  · exact hn b q h
  · exact .inr (none_of _ h)

theorem Fin.dropKp {kp fz₀ fz₁ fz : GMap} {s : Shared} {I : Addr} {o : Obj} (H : Fin (kp.add I o) fz₁ fz s) (hk : kp I = none)
    (h0 : ∀ b q, fz₀ b = some q → fz₁ b = some q) (hn : ∀ b q, fz₁ b = some q → fz₀ b = some q ∨ kp b = none) : Fin kp fz₀ fz s := by
  refine ⟨fun b q e => H.kept b q (GMap.add_of hk e), H.fzIn, fun b q e => H.fz0 b q (h0 b q e), ?_⟩
  intro b q e
  rcases H.fzNew b q e with h | h
  · exact hn b q h
  · right
    unfold GMap.add at h
    by_cases hb : b = I
    · rw [hb]; exact hk
    · rw [if_neg hb] at h; exact h

theorem x_for {t iter : PySem.Expr} {body : List Stmt} {pos : Pos} {d : D} {ds : List D} {o : Out} (he : Ev W A env σ iter d) (hi : Iter W A d ds)
    (h : ForRun (fun d σ o => ∃ σ₁, Asg W A env t d σ σ₁ ∧ X W A env σ₁ body o) ds σ o) (hs : ∀ x, foldedSetIterable iter env x = pure x := by intro _; rfl) (ht : ∀ it v, letOwnedTupleGo t it v = pure () := by intro _ _; rfl) :
    X1 W A env σ (.For t iter body [] pos) o := by
  intro kp fz₀ fz ad m s Q E H p
  refine wpAny_For (he _ _ _ _ _ _ _ _ H fun v fz₁ s₁ x₁ hv => hi _ _ _ _ _ x₁.inH hv fun I fp wr n P St h₂ tk₂ hI hk₂ K st₀ => ?_) hs
  have H₁ := H.ext x₁
  obtain ⟨h₁, tk₁, e₁, _⟩ := id x₁.keeps
  subst e₁
  dsimp only at hI hk₂ H₁ x₁
  have x₂ : Ext fz₁ { s with heap := h₁, toks := tk₁ } fz₁ { s with heap := h₂, toks := tk₂ } := Ext.heap (s := { s with heap := h₁, toks := tk₁ }) x₁.inH hk₂
  have hkI : kp I = none := by
    cases q : kp I with
    | none => rfl
    | some o => have := H₁.kept _ _ q; rw [hI] at this; cases this
  have hfI : fz₁ I = none := by
    cases q : fz₁ I with
    | none => rfl
    | some o => have := x₁.inH _ _ q; rw [hI] at this; cases this
  have hcI : ∀ x c, env.cells.lookup x = some c → c ≠ I := by
    intro x c hc e
    obtain ⟨_, ob, g, _⟩ := H₁.cells x c hc
    rw [e, hI] at g; cases g
  have wI : I ∈ wr ∨ wr = [] ∨ True := .inr (.inr trivial)
  obtain ⟨oI₀, hoI₀⟩ := K.has _ _ st₀
  refine codeAny_forLoop (fun k s' => ∃ i σi fz' ad' m' h' tk' oI, s' = { s with heap := h', toks := tk' } ∧ i ≤ n ∧ k = n + 1 - i ∧ St i h' ∧ h'.get? I = some oI ∧ Ok W env (kp.add I oI) fz₁ σi fz' ad' m' s' ∧
      ForRun (fun d σ o => ∃ σ₁, Asg W A env t d σ σ₁ ∧ X W A env σ₁ body o) (ds.drop i) σi o) ?_ (n + 1) ⟨0, σ, fz₁, ad, m, h₂, tk₂, oI₀, rfl, Nat.zero_le _, rfl, st₀, hoI₀, H₁.addKp x₂ hI hoI₀, h⟩ (fun v => ht _ v)
  rintro k s' ⟨i, σi, fz', ad', m', h', tk', oI, rfl, hin, rfl, st, hoI, H', r⟩
  by_cases hlt : i < n
  · refine K.walks.item i _ _ _ hlt st fun v h₃ tk₃ hP st₃ keep₃ => ?_
    obtain ⟨dv, hdv, hvv⟩ := K.item i v hlt hP
    obtain ⟨oI₃, hoI₃⟩ := K.has _ _ st₃
    have H₃ : Ok W env (kp.add I oI₃) fz₁ σi fz' ad' m' { s with heap := h₃, toks := tk₃ } :=
      H'.swapKp (tk := tk₃) H.wf hkI hfI hcI (fun b q hb e => keep₃ b q (fun hw => hb (K.wr b hw)) e) hoI₃
    have hdrop : ds.drop i = dv :: ds.drop (i + 1) := by
      have hlt' : i < ds.length := by rw [← K.len]; exact hlt
      rw [List.drop_eq_getElem_cons hlt']
      rw [List.getElem?_eq_getElem hlt'] at hdv
      rw [Option.some.inj hdv]
    have carry : ∀ {σ₂ fz₂ ad₂ m₂ h₄ tk₄}, Ok W env (kp.add I oI₃) fz₁ σ₂ fz₂ ad₂ m₂ { s with heap := h₄, toks := tk₄ } → St (i + 1) h₄ ∧ h₄.get? I = some oI₃ := by
      intro σ₂ fz₂ ad₂ m₂ h₄ tk₄ H₄
      refine ⟨K.walks.frame _ _ _ st₃ fun b hb q e => ?_, H₄.kept _ _ GMap.add_self⟩
      rcases K.fp b hb with rfl | ⟨q', hq'⟩
      · rw [hoI₃] at e; cases e; exact H₄.kept _ _ GMap.add_self
      · have e1 : h₃.get? b = some q' := H₃.fzIn _ _ (H₃.fz0 _ _ hq')
        rw [e1] at e; cases e
        exact H₄.fzIn _ _ (H₄.fz0 _ _ hq')
    rw [hdrop] at r
    cases r with
    | next hstep r' =>
      obtain ⟨σ₁, ha, hb⟩ := hstep
      refine ha _ _ _ _ _ _ _ _ _ H₃ (hvv.mono H₃.fz0) fun fz₄ ad₄ m₄ h₄ tk₄ H₄ => ?_
      refine hb _ _ _ _ _ _ _ _ H₄ fun fz₅ ad₅ m₅ h₅ tk₅ H₅ => ?_
      exact ⟨n + 1 - (i + 1), by omega, i + 1, _, fz₅, ad₅, m₅, h₅, tk₅, oI₃, rfl, hlt, rfl, (carry H₅).1, (carry H₅).2, H₅, r'⟩
    | ret hstep =>
      obtain ⟨σ₁, ha, hb⟩ := hstep
      refine ha _ _ _ _ _ _ _ _ _ H₃ (hvv.mono H₃.fz0) fun fz₄ ad₄ m₄ h₄ tk₄ H₄ => ?_
      refine hb _ _ _ _ _ _ _ _ H₄ fun v fz₅ h₅ tk₅ F₅ hv₅ => ?_
      exact p v fz₅ h₅ tk₅ (F₅.dropKp hkI H₁.fz0 H₁.fzNew) hv₅
  · have hin' : i = n := by omega
    subst hin'
    refine K.walks.done _ _ _ st fun h₃ tk₃ keep₃ => ?_
    rw [List.drop_eq_nil_of_le (by rw [← K.len]; exact Nat.le_refl _)] at r
    cases r with
    | nil =>
      refine wpAny_execs_nil ?_
      have H₃ := H'.dropKp H.wf hkI H₁.fz0 H₁.fzNew
      have hne : ∀ b q, kp b = some q → b ≠ I := fun b q e hb => by rw [hb, hkI] at e; cases e
      -- the iterator alone may be gone
      have hfI' : fz' I = none := by
        cases q : fz' I with
        | none => rfl
        | some q' => rcases H'.fzNew _ _ q with h | h
                     · rw [hfI] at h; cases h
                     · rw [GMap.add_self] at h; cases h
      have keepI : ∀ b q, b ≠ I → h'.get? b = some q → h₃.get? b = some q := fun b q hb e => keep₃ b q (fun hw => hb (K.wr b hw)) e
      have neL : env.locals ≠ I := fun e => by have := H'.nsK; rw [e, GMap.add_self] at this; cases this
      refine p fz' ad' m' h₃ tk₃ { H₃ with kept := fun b q e => keepI b q (hne b q e) (H₃.kept b q e), fzIn := fun b q e => keepI b q (fun hb => by rw [hb, hfI'] at e; cases e) (H₃.fzIn b q e), ns := H₃.ns.at' fun q e => keepI _ _ neL e, cells := ?_, vars := ?_ }
      · intro x c hc
        obtain ⟨v, ob, g, q⟩ := H₃.cells x c hc
        exact ⟨v, ob, keepI _ _ (hcI x c hc) g, q⟩
      · intro x sl hx
        have hl := H₃.vars x sl hx
        cases sl with
        | val d =>
          obtain ⟨v, l, hv⟩ := hl
          refine ⟨v, ?_, hv⟩
          rcases l with ⟨a, b⟩ | ⟨a, c, b, ob, g, q⟩
          · exact .inl ⟨a, b⟩
          · exact .inr ⟨a, c, b, ob, keepI _ _ (hcI x c b) g, q⟩
        | own es =>
          obtain ⟨a, b, us, nn, g, q⟩ := hl
          exact ⟨a, b, us, nn, keepI _ _ (fun e => by have := (H'.own x es hx).1; rw [e, GMap.add_self] at this; cases this) g, q⟩

theorem iter_list {ds : List D} (hh : A.handled = none) : Iter W A (.lst ds) ds := by
  intro fz s v Q E hf hv k
  cases hv with
  | @lst a o vs n _ e c d r =>
    have hl : s.heap.IsList a vs.toArray := ⟨_, hf _ _ e, c, n, d⟩
    have hne : a ≠ s.heap.objs.size := Nat.ne_of_lt (Heap.lt_size (hf _ _ e))
    refine wpAny_pyIter_list hl ?_
    refine k _ _ _ _ _ _ _ s.toks (get_fresh _) (fun b o e => get_push e) ⟨Walks.list hh s.heap.objs.size a hne vs.toArray, by simp [r.length], fun b hb => List.mem_singleton.mp hb, ?_, ?_, ?_⟩ ⟨⟨_, Heap.get?_push_size _ rfl, rfl, rfl⟩, hl.push _⟩
    · intro b hb
      rcases List.mem_cons.mp hb with h | h
      · exact .inl h
      · rw [List.mem_singleton.mp h]; exact .inr ⟨o, e⟩
    · intro i v hi hv
      have hv' : vs[i]? = some v := by simpa using hv
      have hi' : i < ds.length := by rw [← r.length]; simpa using hi
      obtain ⟨v', h1, h2⟩ := r.get (List.getElem?_eq_getElem hi')
      rw [hv'] at h1; cases h1
      exact ⟨_, List.getElem?_eq_getElem hi', h2⟩
    · intro i h st
      obtain ⟨⟨oI, ho, _⟩, _⟩ := st
      exact ⟨oI, ho⟩

/-- the ints of a range -/
def rngL (a c : Int) : Nat → List D
  | 0 => []
  | n + 1 => .int a :: rngL (a + c) c n
theorem rngL_length (c : Int) : ∀ (n : Nat) (a : Int), (rngL a c n).length = n
  | 0, _ => rfl
  | n + 1, a => by rw [rngL, List.length_cons, rngL_length c n]
theorem rngL_get (c : Int) : ∀ (n : Nat) (a : Int) (i : Nat), i < n → (rngL a c n)[i]? = some (.int (a + i * c))
  | 0, _, _, h => absurd h (Nat.not_lt_zero _)
  | n + 1, a, 0, _ => by simp [rngL]
  | n + 1, a, i + 1, h => by
    rw [rngL, List.getElem?_cons_succ, rngL_get c n (a + c) i (Nat.lt_of_succ_lt_succ h)]
    congr 2
    rw [Int.natCast_succ, Int.add_mul]
    omega

theorem iter_rng {a b c : Int} {n : Nat} (hh : A.handled = none) (hs : Builtin.Range.small a b c = true) (hn : Builtin.Range.rangeSize a b c = (n : Int)) : Iter W A (.rng a b c) (rngL a c n) := by
  intro fz s v Q E hf hv k
  cases hv with
  | @rng r _ _ _ t u x e =>
    have hr : IsRange s.heap r a b c t u x := by first | exact ⟨_, hf _ _ e, rfl, rfl⟩ | exact hf _ _ e
    refine wpAny_pyIter_range hr hs ?_
    have W0 := Walks.range (prog := W.prog) (w := W.w) hh s.heap.objs.size a c n
    rw [hn]
    refine k _ _ _ _ _ _ _ s.toks (get_fresh _) (fun b o e => get_push e) ⟨W0, by rw [rngL_length], fun b hb => List.mem_singleton.mp hb, fun b hb => .inl (List.mem_singleton.mp hb), ?_, ?_⟩ ?_
    · rintro i v hi ⟨t, rfl⟩
      exact ⟨_, rngL_get c n a i hi, .int _ _⟩
    · intro i h st
      exact ⟨_, st⟩
    · refine (Heap.get?_push_size _ rfl).trans ?_
      simp
end
end
section
/-- a def, called with room for k frames -/
def CallOk (W : WP) (k : Nat) (f : Addr) (ds : List D) (d : D) : Prop :=
  ∀ A : Around, A.handled = none → A.depth + k < recursionLimit → A.units + 16 * k < cLine → CallV W A (.ref f) ds d

theorem CallOk.mono {W : WP} {k k' : Nat} {f : Addr} {ds : List D} {d : D} (h : CallOk W k f ds d) (hk : k ≤ k') : CallOk W k' f ds d :=
  fun A hh hd hu => h A hh (by omega) (by omega)

theorem bindL_notin {kof : PySem.Str → Option NameKind} : ∀ (names : List PySem.Str) (vs : List Value) (m : PySem.Str → Option Value) (x : PySem.Str), x ∉ names → bindL kof (names.zip vs) m x = m x
  | [], _, _, _, _ => by simp [bindL]
  | _ :: _, [], _, _, _ => by simp [bindL]
  | n :: ns, v :: vs, m, x, h => by
    have h1 : x ≠ n := fun e => h (by simp [e])
    have h2 : x ∉ ns := fun e => h (by simp [e])
    rw [List.zip_cons_cons, bindL, bindL_notin ns vs _ x h2]
    by_cases q : kof n = some .local
    · simp [q, h1]
    · simp [q]
theorem bindC_notin {kof : PySem.Str → Option NameKind} : ∀ (names : List PySem.Str) (vs : List Value) (m : PySem.Str → Option Value) (x : PySem.Str), x ∉ names → bindC kof (names.zip vs) m x = m x
  | [], _, _, _, _ => by simp [bindC]
  | _ :: _, [], _, _, _ => by simp [bindC]
  | n :: ns, v :: vs, m, x, h => by
    have h1 : x ≠ n := fun e => h (by simp [e])
    have h2 : x ∉ ns := fun e => h (by simp [e])
    rw [List.zip_cons_cons, bindC, bindC_notin ns vs _ x h2]
    by_cases q : kof n = some .local
    · simp [q]
    · simp [q, h1]
theorem bind_get {kof : PySem.Str → Option NameKind} {fz : GMap} : ∀ (names : List PySem.Str) (vs : List Value) (ds : List D) (m cm : PySem.Str → Option Value) (x : PySem.Str) (sl : Slot), names.Nodup → VHs fz vs ds → (x, sl) ∈ names.zip (ds.map Slot.val) →
    ∃ v d, sl = .val d ∧ VH fz v d ∧ (kof x = some .local → bindL kof (names.zip vs) m x = some v) ∧ (kof x ≠ some .local → bindC kof (names.zip vs) cm x = some v)
  | [], _, _, _, _, _, _, _, _, h => by simp at h
  | _ :: _, _, [], _, _, _, _, _, _, h => by simp at h
  | n :: ns, _, d :: ds, m, cm, x, sl, hn, .cons (v := v) (vs := vs) hv r, h => by
    rw [List.nodup_cons] at hn
    rw [List.map_cons, List.zip_cons_cons] at h
    rcases List.mem_cons.mp h with e | h
    · cases e
      refine ⟨v, d, rfl, hv, fun q => ?_, fun q => ?_⟩
      · rw [List.zip_cons_cons, bindL, bindL_notin _ _ _ _ hn.1]; simp [q]
      · rw [List.zip_cons_cons, bindC, bindC_notin _ _ _ _ hn.1]; simp [q]
    · rw [List.zip_cons_cons, bindL, bindC]
      exact bind_get ns vs ds _ _ x sl hn.2 r h

theorem def_ok {W : WP} {k : Nat} {f : Addr} {fc : Value} {od : Option Addr} {osl : Array (Option Value)} {name qual : PySem.Str} {params : Arguments} {body : List Stmt} {scope : Scope} {dV kV doc pm cdv ct : Value} {an : Option Addr} {ds : List D} {d : D} {names : List PySem.Str}
    (hK : W.K.lookup f = some ⟨fc, od, .func (fnOf name qual params body scope dV kV doc pm an cdv ct), osl⟩) (hcd : codeIn W.K cdv qual = true)
    (hb : ∀ vs : List Value, vs.length = ds.length → bindArgs (fnOf name qual params body scope dV kV doc pm an cdv ct) ⟨vs, []⟩ = pure (names.zip vs))
    (hn : names.Nodup) (hkind : ∀ (n : Nat), ∀ x ∈ names, scope.names.lookup x = some .local ∨ (scope.names.lookup x = some .cell ∧ ((cellsFrom n scope.names []).lookup x).isSome = true)) (hl : names.length = ds.length)
    (hk : scope.kind = .function) (hco : scope.isCoroutine = false) (hgen : scope.isGenerator = false)
    (h : ∀ A L, FOK k A (envOfC qual scope L f cdv) → X W A (envOfC qual scope L f cdv) (names.zip (ds.map Slot.val)) body (.ret d)) : CallOk W (k + 1) f ds d := by
  intro A hh hd hu fz s vs Q E hwf hf hvs kont
  obtain ⟨hw, Xk, T, hkk⟩ := hwf
  have ho := (Xk.keeps hkk) _ _ hK
  have hcdR : s.heap.CodeRec cdv qual := codeRec_of (Xk.keeps hkk) hcd
  have hvl := hvs.length
  refine wpAny_call (codeAny_call_function (fd := fnOf name qual params body scope dV kV doc pm an cdv ct) (by omega) ho rfl hco hgen rfl hcdR ?_)
  refine (BindsTo.of_eq (s := s) (hb vs hvl)) _ _ _ _ ?_
  refine wpAny_newFunctionEnv_cells hk ?_ ?_
  · intro x hx
    have : x.1 ∈ names := (List.of_mem_zip hx).1
    exact hkind _ _ this
  · intro env henv s₁ C
    have henv' : env = envOfC qual scope s.heap.objs.size f cdv := henv
    subst henv'
    obtain ⟨h₁, tk₁, e₁⟩ := C.toInCall.same
    have kp₁ : ∀ b o, s.heap.get? b = some o → s₁.heap.get? b = some o := C.toInCall.keep
    refine ⟨(T.keeps fun b o e => kp₁ b o (hkk b o e)).nolimit, ?_⟩
    have hL : s.heap.get? s.heap.objs.size = none := get_fresh _
    have F : FOK k (A.deeper (envOfC qual scope s.heap.objs.size f cdv)) (envOfC qual scope s.heap.objs.size f cdv) :=
      ⟨hh, hk, rfl, rfl, by show A.depth + 1 + k < _; omega, by show A.units + 3 + 16 * k < _; omega⟩
    refine codeAny_func (h _ _ F (fun b => s.heap.get? b) fz fz (fun _ => 0) (bindL (envOfC qual scope s.heap.objs.size f cdv).kindOf (names.zip vs) fun _ => none) s₁ _ _ ?_ ?_)
    · refine { wf := ⟨hw, Xk, T, hkk⟩, kept := kp₁, fzIn := fun b o e => kp₁ b o (hf b o e), fz0 := fun _ _ e => e, fzNew := fun _ _ e => .inl e, ns := C.toInCall.ns, nsK := hL, nsF := ?_, cells := ?_, cinj := ?_, cfree := ?_, vars := ?_, own := ?_, inj := ?_ }
      · show fz s.heap.objs.size = none
        cases q : fz s.heap.objs.size with
        | none => rfl
        | some o => rw [hf _ _ q] at hL; cases hL
      · intro x c hc
        exact ⟨_, C.cell x c hc⟩
      · intro x y c hx hy
        exact name_of_addr C.apart (mem_of_lookup hx) (mem_of_lookup hy)
      · intro x c hc hl
        have hn : s.heap.get? c = none := by
          cases q : s.heap.get? c with
          | none => rfl
          | some o => exact absurd (Heap.lt_size q) (Nat.not_lt.mpr (Nat.le_of_lt hl))
        refine ⟨hn, ?_⟩
        cases q : fz c with
        | none => rfl
        | some o => rw [hf _ _ q] at hn; cases hn
      · intro x sl hx
        obtain ⟨v, d', rfl, hv, h1, h2⟩ := bind_get (kof := (envOfC qual scope s.heap.objs.size f cdv).kindOf) names vs ds (fun _ => none) (fun _ => none) x sl hn hvs hx
        refine ⟨v, ?_, hv⟩
        rcases hkind (s.heap.objs.size + 1) x (List.of_mem_zip hx).1 with a | ⟨a, b⟩
        · exact .inl ⟨a, h1 a⟩
        · obtain ⟨c, hc⟩ := Option.isSome_iff_exists.mp b
          refine .inr ⟨.inl a, c, hc, ?_⟩
          have := C.cell x c hc
          rw [h2 (by show scope.names.lookup x ≠ _; rw [a]; decide)] at this
          exact this
      · intro x es hx
        obtain ⟨v, d', e, _⟩ := bind_get (kof := (envOfC qual scope s.heap.objs.size f cdv).kindOf) names vs ds (fun _ => none) (fun _ => none) x _ hn hvs hx
        cases e
      · intro x y es es' hx
        obtain ⟨v, d', e, _⟩ := bind_get (kof := (envOfC qual scope s.heap.objs.size f cdv).kindOf) names vs ds (fun _ => none) (fun _ => none) x _ hn hvs hx
        cases e
    · intro v fz' h' tk' Fn hv
      have e₂ : ({ s₁ with heap := h', toks := tk' } : Shared) = { s with heap := h', toks := tk' } := by rw [e₁]
      rw [e₂] at Fn ⊢
      exact kont v fz' _ ⟨⟨h', tk', rfl, Fn.kept⟩, Fn.fz0, Fn.fzIn, Fn.fzNew⟩ hv

section
variable {W : WP} {A : Around} {env : Env} {σ σ' : Sto}

/-- a def's name, called -/
theorem ev_call {n k : Nat} {x : PySem.Str} {p pos : Pos} {es : List PySem.Expr} {f : Addr} {ds : List D} {d : D} {fc : Value} {od : Option Addr} {osl : Array (Option Value)} {fd : FuncData} (F : FOK n A env) (hx : env.kindOf x = some .globalImplicit) (hv : nsIn W.K mainGlobals x = some (some (.ref f)))
    (hd : (x == ("__debug__" : PySem.Str)) = false) (hK : W.K.lookup f = some ⟨fc, od, .func fd, osl⟩) (ha : Evs W A env σ es ds) (hc : CallOk W k f ds d) (hk : k ≤ n) (hne : backTo pos (starEach es env) = (match backTo pos (starEach es env) with | (_, t) :: r => (false, t) :: r | [] => []) := by rfl) (hne' : es ≠ [] := by exact List.cons_ne_nil _ _)
    (hs : ∀ e rest, es = e :: rest → starEach es env = (false, eval e env) :: starEach rest env := by (intro e rest h; cases h; rfl)) :
    Ev W A env σ (.Call (.Name x p) es [] pos) d := by
  intro kp fz₀ fz ad m s Q E H kont
  obtain ⟨hw, Xk, T, hkk⟩ := H.wf
  have kk : ∀ b o, hw.get? b = some o → s.heap.get? b = some o := fun b o e => H.kept _ _ (hkk _ _ e)
  refine Call_Name rfl (Name_function_global F.hk hx (loadGlobal_global (env := env) (show s.heap.Ns env.globals W.mg from F.hg ▸ (T.keeps kk).g) (mg_of Xk T.g hv) ?_) hd)
  cases es with
  | nil => exact absurd rfl hne'
  | cons e rest =>
    have hst := hs e rest rfl
    refine callWith_function (o := ⟨fc, od, .func fd, osl⟩) (fd := fd) ?_
    have ha' := ha pos
    rw [hst] at ha' ⊢
    refine evalArgs_plain (ha' _ _ _ _ _ _ _ _ H fun vs fz' s' x' hvs => ⟨⟨?_, rfl⟩, ?_⟩)
    · exact kGet x'.keeps ((Xk.keeps kk) _ _ hK)
    · rw [List.nil_append]
      have hh := F.hh; have hdp := F.dp; have hun := F.un
      exact hc A F.hh (by omega) (by omega) _ _ _ _ _ (H.ext x').heapWF x'.inH hvs fun v fz'' s'' x'' hv' => kont _ _ _ (x'.trans x'') hv'

/-- a built-in function's name, called -/
theorem ev_callB {n : Nat} {x : PySem.Str} {id : String} {p pos : Pos} {e : PySem.Expr} {rest : List PySem.Expr} {ds : List D} {d : D} (F : FOK n A env) (hx : env.kindOf x = some .globalImplicit) (hv : nsIn W.K mainGlobals x = some none) (hb : bootBuiltins x = some (.builtin id)) (hnn : x ≠ "__name__")
    (hd : (x == ("__debug__" : PySem.Str)) = false) (ha : Evs W A env σ (e :: rest) ds) (hc : CallV W A (.builtin id) ds d)
    (hs : starEach (e :: rest) env = (false, eval e env) :: starEach rest env := by rfl) (hs2 : ((backTo pos (starEach rest env)).any fun x => x.1) = false := by rfl) :
    Ev W A env σ (.Call (.Name x p) (e :: rest) [] pos) d := by
  intro kp fz₀ fz ad m s Q E H kont
  obtain ⟨hw, Xk, T, hkk⟩ := H.wf
  have kk : ∀ b o, hw.get? b = some o → s.heap.get? b = some o := fun b o e => H.kept _ _ (hkk _ _ e)
  refine Call_Name rfl (Name_function_global F.hk hx (loadGlobal_builtin (env := env) (show s.heap.Ns env.globals W.mg from F.hg ▸ (T.keeps kk).g) (mg_none_of Xk T.g hv) (show s.heap.Ns env.builtins W.mb from F.hb ▸ (T.keeps kk).b) ((T.builtins x hnn).trans hb) ?_) hd)
  refine callWith_method1 (first := []) ?_ hs hs2
  refine ha pos _ _ _ _ _ _ _ _ H fun vs fz' s' x' hvs => ?_
  rw [List.nil_append]
  exact hc _ _ _ _ _ (H.ext x').heapWF x'.inH hvs fun v fz'' s'' x'' hv' => kont _ _ _ (x'.trans x'') hv'
/-- a built-in type's name, called -/
theorem ev_callT {n : Nat} {x : PySem.Str} {T' : String} {p pos : Pos} {e : PySem.Expr} {rest : List PySem.Expr} {ds : List D} {d : D} (F : FOK n A env) (hx : env.kindOf x = some .globalImplicit) (hv : nsIn W.K mainGlobals x = some none) (hb : bootBuiltins x = some (.type T')) (hnn : x ≠ "__name__")
    (hd : (x == ("__debug__" : PySem.Str)) = false) (ha : Evs W A env σ (e :: rest) ds) (hc : CallV W A (.type T') ds d)
    (hs : starEach (e :: rest) env = (false, eval e env) :: starEach rest env := by rfl) (hs2 : ((backTo pos (starEach rest env)).any fun x => x.1) = false := by rfl) :
    Ev W A env σ (.Call (.Name x p) (e :: rest) [] pos) d := by
  intro kp fz₀ fz ad m s Q E H kont
  obtain ⟨hw, Xk, T, hkk⟩ := H.wf
  have kk : ∀ b o, hw.get? b = some o → s.heap.get? b = some o := fun b o e => H.kept _ _ (hkk _ _ e)
  refine Call_Name rfl (Name_function_global F.hk hx (loadGlobal_builtin (env := env) (show s.heap.Ns env.globals W.mg from F.hg ▸ (T.keeps kk).g) (mg_none_of Xk T.g hv) (show s.heap.Ns env.builtins W.mb from F.hb ▸ (T.keeps kk).b) ((T.builtins x hnn).trans hb) ?_) hd)
  refine PyProof.Rows.callWith_type1 ?_ hs hs2
  refine ha pos _ _ _ _ _ _ _ _ H fun vs fz' s' x' hvs => ?_
  exact hc _ _ _ _ _ (H.ext x').heapWF x'.inH hvs fun v fz'' s'' x'' hv' => kont _ _ _ (x'.trans x'') hv'

-- the built-ins
theorem cv_min {a b : Int} (hh : A.handled = none) : CallV W A (.builtin "min") [.int a, .int b] (.int (if b < a then b else a)) := by
  intro fz s vs Q E hw hf hvs k
  cases hvs with | cons h1 r => cases r with | cons h2 r => cases r; cases h1; cases h2
                                                            refine min_two_ints hh fun h' tk hk => ?_
                                                            by_cases c : b < a
                                                            · rw [if_pos c] at k ⊢; exact k _ _ _ (Ext.heap hf hk) (.int _ _)
                                                            · rw [if_neg c] at k ⊢; exact k _ _ _ (Ext.heap hf hk) (.int _ _)
theorem cv_max {a b : Int} (hh : A.handled = none) : CallV W A (.builtin "max") [.int a, .int b] (.int (if b > a then b else a)) := by
  intro fz s vs Q E hw hf hvs k
  cases hvs with | cons h1 r => cases r with | cons h2 r => cases r; cases h1; cases h2
                                                            refine max_two_ints hh fun h' tk hk => ?_
                                                            by_cases c : b > a
                                                            · rw [if_pos c] at k ⊢; exact k _ _ _ (Ext.heap hf hk) (.int _ _)
                                                            · rw [if_neg c] at k ⊢; exact k _ _ _ (Ext.heap hf hk) (.int _ _)
theorem cv_abs {a : Int} : CallV W A (.builtin "abs") [.int a] (.int (if a < 0 then -a else a)) := by
  intro fz s vs Q E hw hf hvs k
  cases hvs with | cons h1 r => cases r; cases h1; exact call_abs_int fun u tk => k _ _ _ (Ext.toks hf) (.int _ _)
theorem cv_int {a : Int} : CallV W A (.type "int") [.int a] (.int a) := by
  intro fz s vs Q E hw hf hvs k
  cases hvs with | cons h1 r => cases r; cases h1; exact call_int_int (k _ _ _ (Ext.refl hf) (.int _ _))
theorem cv_chr {a : Int} (h0 : 0 ≤ a) (h1 : a ≤ 1114111) : CallV W A (.builtin "chr") [.int a] (.str ⟨#[a.toNat]⟩) := by
  intro fz s vs Q E hw hf hvs k
  cases hvs with | cons h1' r => cases r; cases h1'; exact P.chr_of_int (by simp; omega) (k _ _ _ (Ext.toks hf) (.str _ _))
theorem cv_lenS {x : PySem.Str} (h : x.length < 2 ^ 62) : CallV W A (.builtin "len") [.str x] (.int x.length) := by
  intro fz s vs Q E hw hf hvs k
  cases hvs with | cons h1' r => cases r; cases h1'; exact P.len_str (by omega) (k _ _ _ (Ext.toks hf) (.int _ _))
theorem cv_lenL {xs : List D} (h : xs.length < 2 ^ 62) : CallV W A (.builtin "len") [.lst xs] (.int xs.length) := by
  intro fz s vs Q E hw hf hvs k
  cases hvs with
  | cons h1' r =>
    cases r
    obtain ⟨a, us, rfl, l, r⟩ := h1'.isList hf
    have := r.length
    refine PyProof.Rows.len_list l (by rw [List.size_toArray]; omega) ?_
    rw [List.size_toArray, this]
    exact k _ _ _ (Ext.toks hf) (.int _ _)
theorem newR {fz : GMap} {s : Shared} {tk : Nat} {a b c : Int} {t u v : Tok} {Q : Value → Shared → Prop} (hf : FzIn fz s) (k : ∀ v fz' s', Ext fz s fz' s' → VH fz' v (.rng a b c) → Q v s') :
    Q (.ref s.heap.objs.size) { s with heap := s.heap.push { cls := .type "range", data := .fields #[.int a t, .int b u, .int c v] }, toks := tk } := by
  have f := (Ext.refl hf).fresh (get_fresh s.heap)
  exact k _ _ _ ((Ext.push (t := tk) hf).freeze f.1 f.2 (Heap.get?_push_size _ rfl)) (.rng GMap.add_self)
theorem cv_rng1 {b : Int} : CallV W A (.type "range") [.int b] (.rng 0 b 1) := by
  intro fz s vs Q E hw hf hvs k
  cases hvs with | cons h1' r => cases r; cases h1'; exact call_range_1 (newR hf k)
theorem cv_rng2 {a b : Int} : CallV W A (.type "range") [.int a, .int b] (.rng a b 1) := by
  intro fz s vs Q E hw hf hvs k
  cases hvs with | cons h1' r => cases r with | cons h2 r => cases r; cases h1'; cases h2; exact call_range_2 (newR hf k)
theorem cv_rng3 {a b c : Int} (hc : c ≠ 0) (hp : Builtin.divisionGoesByPylong (b - a) c = false) : CallV W A (.type "range") [.int a, .int b, .int c] (.rng a b c) := by
  intro fz s vs Q E hw hf hvs k
  cases hvs with | cons h1' r => cases r with | cons h2 r => cases r with | cons h3 r => cases r; cases h1'; cases h2; cases h3; exact call_range_3 hc (newR hf k) (.inl hp)
end
end
section
section
variable {W : WP} {A : Around} {env : Env} {σ σ' : Sto}

/-- a bound of a slice -/
def EvP (W : WP) (A : Around) (env : Env) (σ : Sto) (e : Option PySem.Expr) (l : Option Int) : Prop :=
  ∀ (kp fz₀ fz : GMap) (ad : PySem.Str → Addr) (m : PySem.Str → Option Value) (s : Shared) (Q E : Value → Shared → Prop), Ok W env kp fz₀ σ fz ad m s →
    (∀ v fz' s', Ext fz s fz' s' → IsPart v l → Q v s') → wpAny W.M A (evalPart e env) Q E s
theorem evp_nil : EvP W A env σ none none := fun kp fz₀ fz ad m s Q E H k => wpAny_pure (k _ _ _ H.refl .none)
theorem evp_int {e : PySem.Expr} {i : Int} (h : Ev W A env σ e (.int i)) : EvP W A env σ (some e) (some i) := fun kp fz₀ fz ad m s Q E H k =>
  h _ _ _ _ _ _ _ _ H fun v fz' s' x hv => by cases hv; exact k _ _ _ x (.int _ _)
theorem evp_none {e : PySem.Expr} (h : Ev W A env σ e .none) : EvP W A env σ (some e) none := fun kp fz₀ fz ad m s Q E H k =>
  h _ _ _ _ _ _ _ _ H fun v fz' s' x hv => by cases hv; exact k _ _ _ x .none

theorem part_moved {v : Value} {l : Option Int} (h : IsPart v l) : IsPart v l := h

theorem ev_sliceL {value : PySem.Expr} {lo hi : Option PySem.Expr} {p pos : Pos} {xs : List D} {l u : Option Int} {ys : List D} (h : Ev W A env σ value (.lst xs)) (hl : EvP W A env σ lo l) (hu : EvP W A env σ hi u) (hz : xs.length ≤ 100000)
    (hy : ∀ (fz : GMap) (vs : List Value), VHs fz vs xs → VHs fz (slicePick vs.toArray l u none).toList ys) : Ev W A env σ (.Subscript value (.Slice lo hi none p) pos) (.lst ys) := by
  intro kp fz₀ fz ad m s Q E H k
  refine Subscript_ (h _ _ _ _ _ _ _ _ H fun v fz₁ s₁ x₁ hv => ?_)
  obtain ⟨a, vs, rfl, hL, hr⟩ := hv.isList x₁.inH
  refine wpAny_Slice (hl _ _ _ _ _ _ _ _ (H.ext x₁) fun vl fz₂ s₂ x₂ hpl => hu _ _ _ _ _ _ _ _ ((H.ext x₁).ext x₂) fun vu fz₃ s₃ x₃ hpu => ?_)
  refine wpAny_pure ?_
  have hL₃ : s₃.heap.IsList a vs.toArray := (hL.at fun o e => kGet x₂.keeps e).at fun o e => kGet x₃.keeps e
  have hL₄ := hL₃.push { cls := .type "slice", data := .fields #[vl, vu, .none] }
  refine tail_any (T := "list") (s := { s₃ with heap := s₃.heap.push { cls := .type "slice", data := .fields #[vl, vu, .none] } }) hL₄.typeIs list_getitem_lookup ?_ rfl
  refine wpAny_getItem_list_slice hL₄ (Heap.IsSliceOf.new ..) hpl hpu .none (by simp) ?_ (by rw [List.size_toArray, hr.length, PySem.sizeLine_eq]; omega)
  have x₄ := ((x₁.trans x₂).trans x₃).trans (Ext.push (t := s₃.toks) (o := { cls := .type "slice", data := .fields #[vl, vu, .none] }) x₃.inH)
  have hd : VHs fz₃ (slicePick vs.toArray l u none).toList ys := hy _ _ ((hr.mono x₂.sub).mono x₃.sub)
  have := newL (t := s₃.toks) (us := (slicePick vs.toArray l u none).toList) (Q := Q) x₄.inH hd fun v fz' s' x hv => k _ _ _ (x₄.trans x) hv
  simpa using this

theorem pick_from {fz : GMap} {vs : List Value} {xs : List D} {i : Int} (hv : VHs fz vs xs) (h0 : 0 ≤ i) (h1 : i ≤ xs.length) : VHs fz (slicePick vs.toArray (some i) none none).toList (xs.drop i.toNat) := by
  obtain ⟨n, rfl⟩ : ∃ n : Nat, i = n := ⟨i.toNat, by omega⟩
  have hl := hv.length
  rw [slicePick_from vs.toArray n (by simp; omega)]
  simpa using hv.drop n
theorem pick_upto {fz : GMap} {vs : List Value} {xs : List D} {j : Int} (hv : VHs fz vs xs) (h0 : 0 ≤ j) (h1 : j ≤ xs.length) : VHs fz (slicePick vs.toArray none (some j) none).toList (xs.take j.toNat) := by
  obtain ⟨n, rfl⟩ : ∃ n : Nat, j = n := ⟨j.toNat, by omega⟩
  have hl := hv.length
  rw [slicePick_upto vs.toArray n (by simp; omega)]
  simpa using hv.take n

/-- an item -/
theorem ev_item {value slice : PySem.Expr} {pos : Pos} {d₁ d₂ d : D} (h₁ : Ev W A env σ value d₁) (h₂ : Ev W A env σ slice d₂)
    (ho : ∀ (fz : GMap) (s : Shared) (v₁ v₂ : Value) (Q E : Value → Shared → Prop), FzIn fz s → VH fz v₁ d₁ → VH fz v₂ d₂ → (∀ v fz' s', Ext fz s fz' s' → VH fz' v d → Q v s') → ∃ T id, s.TypeIs v₁ T ∧ typeLookup (.type T) "__getitem__" = pure (some (.builtin id)) ∧ wpAny W.M A (getItem v₁ v₂) Q E s)
    (hs : ∀ o i, subscripted slice false o i = operate [o, i] (getItem o i) := by intro _ _; rfl) : Ev W A env σ (.Subscript value slice pos) d := by
  intro kp fz₀ fz ad m s Q E H k
  refine Subscript_ (h₁ _ _ _ _ _ _ _ _ H fun v₁ fz₁ s₁ x₁ hv₁ => h₂ _ _ _ _ _ _ _ _ (H.ext x₁) fun v₂ fz₂ s₂ x₂ hv₂ => ?_)
  obtain ⟨T, id, hT, hl, hw⟩ := ho fz₂ s₂ v₁ v₂ Q E x₂.inH (hv₁.mono x₂.sub) hv₂ fun v fz' s' x hv => k _ _ _ ((x₁.trans x₂).trans x) hv
  exact tail_any hT hl hw (hs _ _)
theorem ev_itemL {value slice : PySem.Expr} {pos : Pos} {xs : List D} {i : Int} {d : D} (h₁ : Ev W A env σ value (.lst xs)) (h₂ : Ev W A env σ slice (.int i)) (h0 : 0 ≤ i) (hx : xs[i.toNat]? = some d) (hz : xs.length < 2 ^ 62)
    (hs : ∀ o i, subscripted slice false o i = operate [o, i] (getItem o i) := by intro _ _; rfl) : Ev W A env σ (.Subscript value slice pos) d := by
  refine ev_item h₁ h₂ (fun fz s v₁ v₂ Q E hf hv₁ hv₂ k => ?_) hs
  obtain ⟨a, vs, rfl, hL, hr⟩ := hv₁.isList hf
  cases hv₂
  obtain ⟨v, h3, h4⟩ := hr.get hx
  have hlt : i.toNat < xs.length := by
    rcases Nat.lt_or_ge i.toNat xs.length with h | h
    · exact h
    · rw [List.getElem?_eq_none h] at hx; cases hx
  exact ⟨"list", _, hL.typeIs, list_getitem_lookup, wpAny_getItem_list hL h0 (by omega) (by simpa using h3) (k _ _ _ (Ext.refl hf) h4)⟩
theorem ev_itemS {value slice : PySem.Expr} {pos : Pos} {x : PySem.Str} {i : Int} (h₁ : Ev W A env σ value (.str x)) (h₂ : Ev W A env σ slice (.int i)) (hr : fitsSsize i = true) (hin : (Txt.charAt x i).isSome = true)
    (hs : ∀ o i, subscripted slice false o i = operate [o, i] (getItem o i) := by intro _ _; rfl) : Ev W A env σ (.Subscript value slice pos) (.str (Txt.item x i)) := by
  refine ev_item h₁ h₂ (fun fz s v₁ v₂ Q E hf hv₁ hv₂ k => ?_) hs
  cases hv₁; cases hv₂
  exact ⟨"str", _, typeIs_str _ _ _, PySem.F.slot_str_getitem.lookup, SB.getItem hr hin (k _ _ _ (Ext.toks hf) (.str _ _))⟩

/-- an item of a list of the frame's own -/
theorem ev_itemO {n : Nat} {x : PySem.Str} {px pos : Pos} {slice : PySem.Expr} {xs : List D} {i : Int} {d : D} (F : FOK n A env) (hm : (x, Slot.own xs) ∈ σ) (h₂ : Ev W A env σ slice (.int i)) (h0 : 0 ≤ i) (hx : xs[i.toNat]? = some d) (hz : xs.length < 2 ^ 62) (hd : (x == ("__debug__" : PySem.Str)) = false)
    (hs : ∀ o i, subscripted slice false o i = operate [o, i] (getItem o i) := by intro _ _; rfl) : Ev W A env σ (.Subscript (.Name x px) slice pos) d := by
  intro kp fz₀ fz ad m s Q E H k
  obtain ⟨hxl, hxm, _⟩ := H.vars _ _ hm
  refine Subscript_ (wpAny_Name (wpAny_loadName_local F.hk hxl H.ns hxm (h₂ _ _ _ _ _ _ _ _ H fun v₂ fz₂ s₂ x₂ hv₂ => ?_)) hd)
  cases hv₂
  obtain ⟨us, nn, g, hr⟩ := (H.ext x₂).objOwn hm
  have hL : s₂.heap.IsList (ad x) us.toArray := ⟨_, g, rfl, nn, rfl⟩
  obtain ⟨v, h3, h4⟩ := hr.get hx
  have hlt : i.toNat < xs.length := by
    rcases Nat.lt_or_ge i.toNat xs.length with h | h
    · exact h
    · rw [List.getElem?_eq_none h] at hx; cases hx
  exact tail_any hL.typeIs list_getitem_lookup (wpAny_getItem_list hL h0 (by omega) (by simpa using h3) (k _ _ _ x₂ h4)) (hs _ _)

theorem ev_sliceS {value : PySem.Expr} {lo hi : Option PySem.Expr} {p pos : Pos} {x : PySem.Str} {l u : Option Int} (h : Ev W A env σ value (.str x)) (hl : EvP W A env σ lo l) (hu : EvP W A env σ hi u) (hz : x.length ≤ 16777216) : Ev W A env σ (.Subscript value (.Slice lo hi none p) pos) (.str (Txt.slice x l u)) := by
  intro kp fz₀ fz ad m s Q E H k
  refine Subscript_ (h _ _ _ _ _ _ _ _ H fun v fz₁ s₁ x₁ hv => ?_)
  cases hv
  refine wpAny_Slice (hl _ _ _ _ _ _ _ _ (H.ext x₁) fun vl fz₂ s₂ x₂ hpl => hu _ _ _ _ _ _ _ _ ((H.ext x₁).ext x₂) fun vu fz₃ s₃ x₃ hpu => ?_)
  refine wpAny_pure ?_
  have KP : KeptH (fun h' => ∀ b o, s₃.heap.get? b = some o → h'.get? b = some o) := fun h ob hh b o e => get_push (hh b o e)
  have fin : ∀ (y : PySem.Str) (h' : Heap) (t' : Tok) (kk : Nat), (∀ b o, s₃.heap.get? b = some o → h'.get? b = some o) → y = Txt.slice x l u → Q (.str y t') { s₃ with heap := h', toks := kk } := by
    intro y h' t' kk hk e
    subst e
    exact k _ _ _ (((x₁.trans x₂).trans x₃).trans (Ext.heap x₃.inH hk)) (.str _ _)
  have hzz : x.length ≤ sizeLine := by rw [PySem.sizeLine_eq]; exact hz
  have it : ItemOn W.M A E (.str x (by assumption)) (.ref s₃.heap.objs.size) Q { s₃ with heap := s₃.heap.push { cls := .type "slice", data := .fields #[vl, vu, .none] } } := by
    cases hpl <;> cases hpu
    · exact SBH.sliceItem_nn KP (fun _ _ e => e) (fun h' t' kk hk => fin _ h' t' kk hk rfl) hzz
    · exact SBH.sliceItem_ns KP (fun _ _ e => e) (fun h' t' kk hk => fin _ h' t' kk hk rfl) hzz
    · exact SBH.sliceItem_sn KP (fun _ _ e => e) (fun h' t' kk hk => fin _ h' t' kk hk rfl) hzz
    · exact SBH.sliceItem_ss KP (fun _ _ e => e) (fun h' t' kk hk => fin _ h' t' kk hk rfl) hzz
  obtain ⟨T, id, hl', hT', hw'⟩ := it
  exact tail_any hT' hl' hw' rfl

theorem ev_sliceB {value : PySem.Expr} {lo hi : Option PySem.Expr} {p pos : Pos} {x : Array UInt8} {l u : Option Int} (h : Ev W A env σ value (.byt x)) (hl : EvP W A env σ lo l) (hu : EvP W A env σ hi u) (hne : KBy.whole x l u = false) (hz : (KBy.picked x l u).size ≤ 16777216) : Ev W A env σ (.Subscript value (.Slice lo hi none p) pos) (.byt (KBy.picked x l u)) := by
  intro kp fz₀ fz ad m s Q E H k
  refine Subscript_ (h _ _ _ _ _ _ _ _ H fun v fz₁ s₁ x₁ hv => ?_)
  cases hv
  refine wpAny_Slice (hl _ _ _ _ _ _ _ _ (H.ext x₁) fun vl fz₂ s₂ x₂ hpl => hu _ _ _ _ _ _ _ _ ((H.ext x₁).ext x₂) fun vu fz₃ s₃ x₃ hpu => ?_)
  refine wpAny_pure ?_
  refine tail_any (typeIs_bytes _ _ _) FB.slot_bytes_getitem.lookup (getItem_meets (typeIs_bytes _ _ _) (by decide) FB.slot_bytes_getitem FB.entry_bytes_getitem (FB.args_bytes_getitem_2 _ _) (KBy.meets_slice x _ _ hpl hpu hne)
    ⟨Heap.IsSliceOf.new _ _ _ _, by rw [PySem.sizeLine_eq]; exact hz, ?_⟩) rfl
  exact k _ _ _ ((((x₁.trans x₂).trans x₃).trans (Ext.push (t := s₃.toks) x₃.inH)).trans (Ext.toks fun b o e => get_push (x₃.inH b o e))) (.byt _ _)

/-- a str's method -/
theorem ev_methS {o : PySem.Expr} {name : PySem.Str} {id : String} {apos pos : Pos} {es : List PySem.Expr} {x : PySem.Str} {ds : List D} {d : D} {pl : Sem Bool} (h : Ev W A env σ o (.str x)) (slot : PySem.Slot "str" name id) (ty : typeOf (.builtin id) = pure (.type "method_descriptor")) (ha : Evs W A env σ es ds)
    (hc : CallV W A (.builtin id) (.str x :: ds) d)
    (he : ∀ v : Value, ∀ Q E s, wpAny W.M A (spliced (backTo pos (starEach es env))) (fun vs s₁ => wpAny W.M A (call (.builtin id) (v :: vs)) Q E s₁) E s → wpAny W.M A (callWith pos (.builtin id) [v] (backTo pos (starEach es env)) []) Q E s)
    (hm : eval ((o.Attribute name apos).Call es [] pos) env = (do let ov ← eval o env; standAt apos.atName; let (f, first) ← holding [ov] (getMethod ov name pl); callWith pos f first (backTo pos (starEach es env)) []) := by rfl) :
    Ev W A env σ (.Call (.Attribute o name apos) es [] pos) d := by
  intro kp fz₀ fz ad m s Q E H k
  refine MethodCall_ (pl := pl) (h _ _ _ _ _ _ _ _ H fun v fz₁ s₁ x₁ hv => ?_) hm
  cases hv
  refine getMethod_builtin (typeIs_str _ _ _) PySem.F.plainAttrs_str slot ty (fun a e => nomatch e) ?_
  refine he _ _ _ _ (ha pos _ _ _ _ _ _ _ _ (H.ext x₁) fun vs fz₂ s₂ x₂ hvs => ?_)
  exact hc _ _ _ _ _ ((H.ext x₁).ext x₂).heapWF x₂.inH (.cons (.str _ _) hvs) fun v' fz' s' x' hv' => k _ _ _ ((x₁.trans x₂).trans x') hv'

theorem cv_lower {x : PySem.Str} (h : Builtin.Str.tooLong (Txt.lower x).length = false) : CallV W A (.builtin "str.lower") [.str x] (.str (Txt.lower x)) := by
  intro fz s vs Q E hw hf hvs k
  cases hvs with | cons h1 r => cases r; cases h1; exact SC.lower h (k _ _ _ (Ext.toks hf) (.str _ _))

theorem VHs.strs {fz : GMap} : ∀ {vs : List Value} {ys : List PySem.Str}, VHs fz vs (ys.map D.str) → StrsAre vs ys
  | _, [], .nil => .nil
  | _, y :: ys, .cons (.str _ t) r => .cons y t (VHs.strs r)
theorem VHs.ints {fz : GMap} : ∀ {vs : List Value} {ns : List Int}, VHs fz vs (ns.map D.int) → IntsAre vs ns
  | _, [], .nil => .nil
  | _, n :: ns, .cons (.int _ t) r => .cons n t (VHs.ints r)
theorem cv_join {x : PySem.Str} {ys : List PySem.Str} (hok : (ys.map (·.length)).sum + ys.length * x.length ≤ 16777216) : CallV W A (.builtin "str.join") [.str x, .lst (ys.map D.str)] (.str (Txt.join x ys)) := by
  intro fz s vs Q E hw hf hvs k
  cases hvs with
  | cons h1 r =>
    cases r with
    | cons h2 r =>
      cases r; cases h1
      obtain ⟨a, us, rfl, hL, hr⟩ := h2.isList hf
      exact PyProof.Rows.join_list hL (by simpa using hr.strs) hok fun t' kk => k _ _ _ (Ext.toks hf) (.str _ _)

end
end
section
section
variable {W : WP} {A : Around} {env : Env} {σ σ' : Sto}

theorem Evs.mk1 {e : PySem.Expr} {d : D} (h : Ev W A env σ e d) (hs : starEach [e] env = [(false, eval e env)]) : Evs W A env σ [e] [d] := evs_cons h evs_nil hs
theorem sameUpd {h : Heap} {a : Addr} {f : Obj → Obj} : Heap.SameBut a h (h.update a f) := Heap.SameBut.update ..

/-- x.append(e) -/
theorem x_append {n : Nat} {x : PySem.Str} {px apos cpos pos : Pos} {e : PySem.Expr} {xs : List D} {d : D} (F : FOK n A env) (hm : (x, Slot.own xs) ∈ σ) {pl : Sem Bool} (h : Ev W A env σ e d) (hz : xs.length ≤ 100000) (hd : (x == ("__debug__" : PySem.Str)) = false)
    (hi : interactive env = false) (hsw : swapsWith (.Call (.Attribute (.Name x px) "append" apos) [e] [] cpos) none pos.line env = pure false := by rfl)
    (hs : starEach [e] env = [(false, eval e env)] := by rfl)
    (hme : eval (((PySem.Expr.Name x px).Attribute "append" apos).Call [e] [] cpos) env = (do let ov ← eval (.Name x px) env; standAt apos.atName; let (f, first) ← holding [ov] (getMethod ov "append" pl); callWith cpos f first (backTo cpos (starEach [e] env)) []) := by rfl) :
    X1 W A env σ (.Expr (.Call (.Attribute (.Name x px) "append" apos) [e] [] cpos) pos) (.next (upd σ x (.own (xs ++ [d])))) := by
  intro kp fz₀ fz ad m s Q E H p
  obtain ⟨hxl, hxm, _⟩ := H.vars _ _ hm
  obtain ⟨us₀, n₀, g₀, _⟩ := H.objOwn hm
  refine wpAny_Expr (MethodCall_ (pl := pl) (wpAny_Name (wpAny_loadName_local F.hk hxl H.ns hxm ?_) hd) hme) hi hsw
  refine getMethod_builtin (T := "list") ⟨_, g₀, rfl⟩ PySem.F.plainAttrs_list PySem.F.slot_list_append PySem.F.type_list_append (fun a e => by cases e; exact ⟨_, g₀, rfl⟩) ?_
  refine callWith_method1 (e := e) (rest := []) ?_ hs rfl
  have hs' := Evs.mk1 (W := W) (A := A) (env := env) (σ := σ) h hs
  refine hs' cpos _ _ _ _ _ _ _ _ H fun vs fz₁ s₁ x₁ hvs => ?_
  cases hvs with
  | @cons v _ _ _ hv r =>
    cases r
    have H₁ := H.ext x₁
    obtain ⟨us, nn, g, hr⟩ := H₁.objOwn hm
    refine wpAny_list_append_plain ⟨_, g⟩ (fun h' hp hsb => ?_) (by rw [List.size_toArray, hr.length, PySem.sizeLine_eq]; omega)
    obtain ⟨n', g'⟩ := hp
    rw [List.push_toArray] at g'
    obtain ⟨h'', tk'', e', _⟩ := id x₁.keeps
    subst e'
    exact p _ _ _ h' tk'' (H₁.turnOwn hm hsb g' (hr.append (.cons hv .nil)))

/-- x[i] = e -/
theorem x_setItem {n : Nat} {x : PySem.Str} {px sp pos : Pos} {i e : PySem.Expr} {xs : List D} {k : Int} {d : D} (F : FOK n A env) (hm : (x, Slot.own xs) ∈ σ) (h : Ev W A env σ e d) (hi : Ev W A env σ i (.int k)) (h0 : 0 ≤ k) (h1 : k < xs.length) (hz : xs.length < 2 ^ 62) (hd : (x == ("__debug__" : PySem.Str)) = false)
    (hsw : swapsWith e (some (.Subscript (.Name x px) i sp)) pos.line env = pure false := by rfl) :
    X1 W A env σ (.Assign [.Subscript (.Name x px) i sp] e pos) (.next (upd σ x (.own (xs.set k.toNat d)))) := by
  intro kp fz₀ fz ad m s Q E H p
  refine wpAny_Assign_Subscript (h _ _ _ _ _ _ _ _ H fun v fz₁ s₁ x₁ hv => ?_) hsw
  have H₁ := H.ext x₁
  obtain ⟨hxl, hxm, _⟩ := H₁.vars _ _ hm
  refine wpAny_Name (wpAny_loadName_local F.hk hxl H₁.ns hxm ?_) hd
  refine hi _ _ _ _ _ _ _ _ H₁ fun vi fz₂ s₂ x₂ hvi => ?_
  cases hvi
  have H₂ := H₁.ext x₂
  obtain ⟨us, nn, g, hr⟩ := H₂.objOwn hm
  have hl := hr.length
  refine ki_setAt g h0 (by omega) (by rw [List.size_toArray]; omega) ?_
  obtain ⟨h', tk', e', _⟩ := id (kTr x₁.keeps x₂.keeps)
  subst e'
  refine p _ _ _ _ tk' (H₂.turnOwn hm sameUpd ?_ (hr.set k.toNat (hv.mono x₂.sub)) (nn := nn))
  refine (Heap.get?_update_self _ g ?_).trans ?_
  · simp [Obj.mapSeq, Obj.isFreed]
  · simp [Obj.mapSeq]

/-- a name, an operation in place -/
theorem x_aug {n : Nat} {x : PySem.Str} {px pos : Pos} {op : Operator} {e : PySem.Expr} {d₁ d₂ d : D} (F : FOK n A env) (hm : (x, Slot.val d₁) ∈ σ) (hx : env.kindOf x = some .local) (h : Ev W A env σ e d₂) (ho : Op2 W A (inplaceOp op) d₁ d₂ d) :
    X1 W A env σ (.AugAssign (.Name x px) op e pos) (.next (upd σ x (.val d))) := by
  intro kp fz₀ fz ad m s Q E H p
  obtain ⟨v, l, hv⟩ := H.vars _ _ hm
  have hml : m x = some v := by
    rcases l with ⟨_, b⟩ | ⟨a | a, _⟩
    · exact b
    · rw [hx] at a; cases a
    · rw [hx] at a; cases a.1
  refine wpAny_AugAssign_Name (wpAny_loadName_local F.hk hx H.ns hml (h _ _ _ _ _ _ _ _ H fun v₂ fz₂ s₂ x₂ hv₂ => ?_))
  refine ho _ _ _ _ _ _ x₂.inH (hv.mono x₂.sub) hv₂ fun v₃ fz₃ s₃ x₃ hv₃ => ?_
  refine wp_store F ((H.ext x₂).ext x₃) (.inl hx) hv₃ fun m' h' tk H' => ?_
  obtain ⟨h'', tk'', e', _⟩ := id (kTr x₂.keeps x₃.keeps)
  subst e'
  exact p _ _ _ _ _ H'
theorem op_iaddI {a b : Int} : Op2 W A (inplaceOp .Add) (.int a) (.int b) (.int (a + b)) := by
  intro fz s v₁ v₂ Q E hf h₁ h₂ k; cases h₁; cases h₂; exact iadd_int (k _ _ _ (Ext.toks hf) (.int _ _))
theorem op_isubI {a b : Int} : Op2 W A (inplaceOp .Sub) (.int a) (.int b) (.int (a - b)) := by
  intro fz s v₁ v₂ Q E hf h₁ h₂ k; cases h₁; cases h₂; exact AutoIntOps.isub_0 (k _ _ _ (Ext.toks hf) (.int _ _))
theorem op_imulI {a b : Int} (hm : IntMulOk a b) : Op2 W A (inplaceOp .Mult) (.int a) (.int b) (.int (a * b)) := by
  intro fz s v₁ v₂ Q E hf h₁ h₂ k; cases h₁; cases h₂; exact imul_int (k _ _ _ (Ext.toks hf) (.int _ _)) hm
theorem op_iaddS {x y : PySem.Str} (hz : x.length + y.length ≤ 16777216) : Op2 W A (inplaceOp .Add) (.str x) (.str y) (.str (x ++ y)) := by
  intro fz s v₁ v₂ Q E hf h₁ h₂ k; cases h₁; cases h₂
  exact SB.iadd (fun t' c => k _ _ _ (Ext.toks hf) (.str _ _)) (by rw [PySem.sizeLine_eq]; exact hz)

/-- x[i] += e, of an own list of ints -/
theorem x_augItem {n : Nat} {x y : PySem.Str} {px py sp pos : Pos} {op : Operator} {e : PySem.Expr} {xs : List D} {k : Int} {d₁ d₂ d : D} (F : FOK n A env) (hm : (x, Slot.own xs) ∈ σ) (hy : (y, Slot.val (.int k)) ∈ σ) (h0 : 0 ≤ k) (hx : xs[k.toNat]? = some d₁) (h : Ev W A env σ e d₂) (ho : Op2 W A (inplaceOp op) d₁ d₂ d) (hz : xs.length < 2 ^ 62)
    (hd : (x == ("__debug__" : PySem.Str)) = false) (hd' : (y == ("__debug__" : PySem.Str)) = false) :
    X1 W A env σ (.AugAssign (.Subscript (.Name x px) (.Name y py) sp) op e pos) (.next (upd σ x (.own (xs.set k.toNat d)))) := by
  intro kp fz₀ fz ad m s Q E H p
  obtain ⟨hxl, hxm, _⟩ := H.vars _ _ hm
  have hlt : k.toNat < xs.length := by
    rcases Nat.lt_or_ge k.toNat xs.length with h | h
    · exact h
    · rw [List.getElem?_eq_none h] at hx; cases hx
  refine wpAny_AugAssign_Subscript (wpAny_Name (wpAny_loadName_local F.hk hxl H.ns hxm ?_) hd)
  obtain ⟨vy, ly, hvy⟩ := H.vars _ _ hy
  refine Look.ev F ly H.ns hd' ?_
  cases hvy
  obtain ⟨us, nn, g, hr⟩ := H.objOwn hm
  have hL : s.heap.IsList (ad x) us.toArray := ⟨_, g, rfl, nn, rfl⟩
  obtain ⟨v₁, h3, h4⟩ := hr.get hx
  refine wpAny_getItem_list hL h0 (by omega) (by simpa using h3) ?_
  refine h _ _ _ _ _ _ _ _ H fun v₂ fz₂ s₂ x₂ hv₂ => ?_
  refine ho _ _ _ _ _ _ x₂.inH (h4.mono x₂.sub) hv₂ fun v₃ fz₃ s₃ x₃ hv₃ => ?_
  have H₃ := (H.ext x₂).ext x₃
  obtain ⟨us', nn', g', hr'⟩ := H₃.objOwn hm
  have hl := hr'.length
  refine ki_setAt g' h0 (by omega) (by rw [List.size_toArray]; omega) ?_
  obtain ⟨h', tk', e', _⟩ := id (kTr x₂.keeps x₃.keeps)
  subst e'
  refine p _ _ _ _ tk' (H₃.turnOwn hm sameUpd ?_ (hr'.set k.toNat hv₃) (nn := nn'))
  refine (Heap.get?_update_self _ g' ?_).trans ?_
  · simp [Obj.mapSeq, Obj.isFreed]
  · simp [Obj.mapSeq]

/-- truths -/
theorem truth_int {i : Int} : Truth W A (.int i) (i != 0) := by
  intro fz s v Q E hf hv k; cases hv; exact truthy_int (k _ _ (Ext.refl hf))
theorem truth_str {x : PySem.Str} (hz : x.length < 2 ^ 62) : Truth W A (.str x) ((x.length : Int) != 0) := by
  intro fz s v Q E hf hv k; cases hv; exact P.truthy_str (by omega) (k _ _ (Ext.toks hf))
theorem truth_lst {xs : List D} (hz : xs.length < 2 ^ 62) : Truth W A (.lst xs) (!xs.isEmpty) := by
  intro fz s v Q E hf hv k
  obtain ⟨a, us, rfl, l, r⟩ := hv.isList hf
  have hl := r.length
  refine wpAny_truthy_list l (by rw [List.size_toArray]; omega) ?_
  have e : us.toArray.isEmpty = xs.isEmpty := by
    cases us <;> cases xs <;> simp_all
  rw [e]
  exact k _ _ (Ext.toks hf)

/-- sums, the least one -/
theorem intsToks : ∀ {us : List Value} {ns : List Int}, IntsAre us ns → ∃ l : List (Int × Tok), us = l.map (fun p => Value.int p.1 p.2) ∧ l.map (·.1) = ns
  | _, _, .nil => ⟨[], rfl, rfl⟩
  | _, _, .cons n t h => by obtain ⟨l, e1, e2⟩ := intsToks h; exact ⟨(n, t) :: l, by rw [e1]; rfl, by rw [List.map_cons, e2]⟩
theorem cv_sum {ns : List Int} (hh : A.handled = none) : CallV W A (.builtin "sum") [.lst (ns.map D.int)] (.int ns.sum) := by
  intro fz s vs Q E hw hf hvs k
  cases hvs with
  | cons h1 r =>
    cases r
    obtain ⟨a, us, rfl, l, r⟩ := h1.isList hf
    obtain ⟨xs, e1, e2⟩ := intsToks r.ints
    subst e1
    have hl : s.heap.IsList a (intItems xs.toArray) := by simpa [intItems] using l
    refine sum_intListG hh hl fun h' tk t' hk => ?_
    have e3 : preSum (numAt xs.toArray) xs.toArray.size = ns.sum := by
      have : numAt xs.toArray = fun i => ns.getD i 0 := by
        funext i
        rw [← e2]
        simp only [numAt]
        cases h : xs[i]? <;> simp [h]
      rw [this, preSum_getD, List.size_toArray, ← e2, List.take_of_length_le (by simp)]
    rw [e3]
    exact k _ _ _ (Ext.heap hf hk) (.int _ _)
end
end
section
section
variable {W : WP} {A : Around} {env : Env} {σ σ' : Sto}

/-- a comprehension's tests -/
def Tst (W : WP) (A : Around) (env : Env) (σ : Sto) (ifs : List PySem.Expr) (b : Bool) : Prop :=
  ∀ (kp fz₀ fz : GMap) (ad : PySem.Str → Addr) (m : PySem.Str → Option Value) (s : Shared) (Q : Bool → Shared → Prop) (E : Value → Shared → Prop), Ok W env kp fz₀ σ fz ad m s →
    (∀ fz' s', Ext fz s fz' s' → Q b s') → wpAny W.M A (forIn ifs true fun c r => if r = true then do let ok ← isTrue c env (eval c env); pure (ForInStep.yield ok) else pure (ForInStep.yield r)) Q E s
theorem tst_nil : Tst W A env σ [] true := fun kp fz₀ fz ad m s Q E H k => wpAny_pure (k _ _ H.refl)
theorem tst_one {c : PySem.Expr} {b : Bool} (h : Tr W A env σ c b) : Tst W A env σ [c] b := by
  intro kp fz₀ fz ad m s Q E H k
  simp only [List.forIn_cons, List.forIn_nil, if_true]
  refine wpAny_bind (wpAny_bind (h _ _ _ _ _ _ _ _ H fun fz' s' x => wpAny_pure ?_))
  exact wpAny_pure (k _ _ x)

/-- one item of a comprehension, what it gives -/
def CStep (W : WP) (A : Around) (env : Env) (t : PySem.Expr) (cap : Sto) (ifs : List PySem.Expr) (elt : PySem.Expr) (d : D) : Option D → Prop
  | none => ∃ σ₁, Asg W A env t d cap σ₁ ∧ (∀ p ∈ cap, p ∈ σ₁) ∧ Tst W A env σ₁ ifs false
  | some e => ∃ σ₁, Asg W A env t d cap σ₁ ∧ (∀ p ∈ cap, p ∈ σ₁) ∧ Tst W A env σ₁ ifs true ∧ Ev W A env σ₁ elt e

inductive All2 {α β : Type} (R : α → β → Prop) : List α → List β → Prop
  | nil : All2 R [] []
  | cons {a : α} {b : β} {as : List α} {bs : List β} : R a b → All2 R as bs → All2 R (a :: as) (b :: bs)
theorem All2.get {α β : Type} {R : α → β → Prop} : ∀ {as : List α} {bs : List β} (_ : All2 R as bs) {i : Nat} {a : α}, as[i]? = some a → ∃ b, bs[i]? = some b ∧ R a b
  | _, _, .nil, i, a, h => by simp at h
  | _, _, .cons h r, 0, a, e => by simp at e; subst e; exact ⟨_, by simp, h⟩
  | _, _, .cons h r, i + 1, a, e => by simp at e; obtain ⟨b, hb, hr⟩ := All2.get r e; exact ⟨b, by simpa using hb, hr⟩
theorem All2.length {α β : Type} {R : α → β → Prop} : ∀ {as : List α} {bs : List β}, All2 R as bs → as.length = bs.length
  | _, _, .nil => rfl
  | _, _, .cons _ r => by rw [List.length_cons, List.length_cons, All2.length r]
theorem All2.map {α β γ : Type} {R : α → β → Prop} (f : γ → α) (g : γ → β) : ∀ {l : List γ}, (∀ c ∈ l, R (f c) (g c)) → All2 R (l.map f) (l.map g)
  | [], _ => .nil
  | c :: l, h => .cons (h c (.head _)) (All2.map f g fun c' hc => h c' (.tail _ hc))

/-- what the comprehension's end knows -/
structure CEnd (fz₁ : GMap) (s₁ : Shared) (outs : List D) (a C : Addr) (us : List Value) (nn : Nat) (m : PySem.Str → Option Value) (fz : GMap) (s' : Shared) : Prop where
  keeps : Keeps s₁ s'
  aNew : s₁.heap.get? a = none
  cNew : s₁.heap.get? C = none
  ne : a ≠ C
  ns : s'.heap.Ns C m
  get : s'.heap.get? a = some { cls := .type "list", data := .seq us.toArray nn }
  vals : VHs fz us outs
  sub : ∀ b o, fz₁ b = some o → fz b = some o
  inH : FzIn fz s'
  aF : fz a = none
  cF : fz C = none
  new : ∀ b o, fz b = some o → fz₁ b = some o ∨ s₁.heap.get? b = none

theorem add_comm {kp : GMap} {I J : Addr} {o q : Obj} (h : I ≠ J) : (kp.add I o).add J q = (kp.add J q).add I o := by
  funext b
  unfold GMap.add
  by_cases h1 : b = J
  · by_cases h2 : b = I
    · exact absurd (h2.symm.trans h1) h
    · simp [h1, h2, Ne.symm h]
  · by_cases h2 : b = I
    · simp [h1, h2]
      intro e; exact absurd e h
    · simp [h1, h2]

/-- the captured cells -/
structure Caps (env : Env) (σ : Sto) (cenv : Env) (cap : List (PySem.Str × D)) : Prop where
  cells : ∀ x c, cenv.cells.lookup x = some c → env.cells.lookup x = some c
  caps : ∀ p ∈ cap, (p.1, Slot.val p.2) ∈ σ ∧ env.kindOf p.1 ≠ some .local ∧ cenv.kindOf p.1 = some .cell ∧ cenv.cells.lookup p.1 = env.cells.lookup p.1

theorem Keeps.of {s : Shared} {h : Heap} {tk : Nat} (k : ∀ b o, s.heap.get? b = some o → h.get? b = some o) : Keeps s { s with heap := h, toks := tk } := ⟨h, tk, rfl, k⟩

theorem Ok.rebase {kp fz₀ fz : GMap} {ad : PySem.Str → Addr} {m : PySem.Str → Option Value} {s : Shared} (H : Ok W env kp fz₀ σ fz ad m s) : Ok W env kp fz σ fz ad m s := { H with fz0 := fun _ _ e => e, fzNew := fun _ _ e => .inl e }
theorem Ok.unbase {kp fz₀ fz₁ fz : GMap} {ad : PySem.Str → Addr} {m : PySem.Str → Option Value} {s : Shared} (H : Ok W env kp fz₁ σ fz ad m s) (h0 : ∀ b o, fz₀ b = some o → fz₁ b = some o) (hn : ∀ b o, fz₁ b = some o → fz₀ b = some o ∨ kp b = none) : Ok W env kp fz₀ σ fz ad m s :=
  { H with fz0 := fun b o e => H.fz0 b o (h0 b o e), fzNew := fun b o e => (H.fzNew b o e).elim (hn b o) .inr }

set_option maxHeartbeats 1000000 in
theorem comp_core {n : Nat} {elt iter t : PySem.Expr} {ifs : List PySem.Expr} {scope : Scope} {cl : List (PySem.Str × Addr)} {pos : Pos} {ds : List D} {os : List (Option D)} {cap : List (PySem.Str × D)} {RR : Value → Addr → Result → Shared → Prop} {E : Value → Shared → Prop}
    {kp₀ fz₀ fz₁ : GMap} {ad : PySem.Str → Addr} {m : PySem.Str → Option Value} {s₁ : Shared} {I : Addr} {fp wr : List Addr} {nn : Nat} {P : Nat → Value → Prop} {St : Nat → Heap → Prop} {h₂ : Heap} {tk₂ : Nat}
    (F : FOK n A env) (H : Ok W env kp₀ fz₀ σ fz₁ ad m s₁) (hI : s₁.heap.get? I = none) (hk₂ : ∀ b o, s₁.heap.get? b = some o → h₂.get? b = some o) (K : IterOk W A I fp wr nn P St fz₁ ds) (st₀ : St 0 h₂)
    (hcell : ∀ y ∈ scope.names, y.2 ≠ .cell) (hkind : scope.kind = .function) (hcaps : ∀ C, Caps env σ (compEnvC scope cl C env) cap)
    (hstep : ∀ C, FOK n A (compEnvC scope cl C env) → All2 (fun d o => CStep W A (compEnvC scope cl C env) t (cap.map fun p => (p.1, Slot.val p.2)) ifs elt d o) ds os) (hz : ds.length ≤ 100000) (ht : ∀ it v, letOwnedTupleGo t it v = pure ())
    (hRR : ∀ a C us k m' fz h tk, CEnd fz₁ s₁ (os.filterMap id) a C us k m' fz { s₁ with heap := h, toks := tk } → RR (.ref a) C (.ok .next) { s₁ with heap := h, toks := tk }) :
    wpAny W.M A (newList []) (fun acc s₃ => wpAny W.M A (newFunctionEnv scope env.globals cl [] env.qual none .none (some env)) (fun cenv s₄ =>
      codeAny W.M A (.compStart (.ListComp elt [⟨t, iter, ifs, 0⟩] scope pos) 0 (.ref I) acc { cenv with scope := relabel scope env }) (RR acc cenv.locals) s₄) E s₃) E { s₁ with heap := h₂, toks := tk₂ } := by
  refine wpAny_newObj_type (wpAny_newFunctionEnv hcell (by intro y hy; simp at hy) (fun h₃ hns₃ hsb₃ => ?_) hkind)
  dsimp only at hns₃ hsb₃ ⊢
  -- the addresses
  have hC : (h₂.push { cls := .type "list", dict := none, data := .seq ([] : List Value).toArray }).objs.size = h₂.objs.size + 1 := by rw [Heap.size_push]
  have lt2 : ∀ b o, h₂.get? b = some o → b < h₂.objs.size := fun b o e => Heap.lt_size e
  have lt1 : ∀ b o, s₁.heap.get? b = some o → b < h₂.objs.size := fun b o e => lt2 b o (hk₂ b o e)
  generalize hCC : (h₂.push { cls := .type "list", dict := none, data := .seq ([] : List Value).toArray }).objs.size = C at *
  generalize hDD : h₂.objs.size = Dd at *
  have hDC : Dd ≠ C := by rw [hC]; exact Nat.ne_of_lt (Nat.lt_succ_self _)
  have none1 : ∀ b, Dd ≤ b → s₁.heap.get? b = none := fun b hb => by
    cases q : s₁.heap.get? b with
    | none => rfl
    | some o => exact absurd (lt1 b o q) (Nat.not_lt.mpr hb)
  have hD1 : s₁.heap.get? Dd = none := none1 _ (Nat.le_refl _)
  have hC1 : s₁.heap.get? C = none := none1 _ (by rw [hC]; exact Nat.le_succ _)
  obtain ⟨oI, hoI⟩ := K.has _ _ st₀
  have hIlt : I < Dd := lt2 _ _ hoI
  have hID : I ≠ Dd := Nat.ne_of_lt hIlt
  have hIC : I ≠ C := Nat.ne_of_lt (by rw [hC]; exact Nat.lt_succ_of_lt hIlt)
  have old : ∀ b o, h₂.get? b = some o → h₃.get? b = some o := fun b o e => hsb₃.extBut b o (Nat.ne_of_lt (by rw [hC]; exact Nat.lt_succ_of_lt (lt2 b o e))) (Heap.get?_push_of_some _ (Heap.get?_push_of_some _ e))
  have hacc : h₃.get? Dd = some { cls := .type "list", data := .seq ([] : List Value).toArray 0 } := by
    refine hsb₃.extBut _ _ hDC (Heap.get?_push_of_some _ ?_)
    rw [← hDD]; exact Heap.get?_push_size _ rfl
  have st₃ : St 0 h₃ := K.walks.frame _ _ _ st₀ fun b _ o e => old b o e
  have keep₃ : ∀ b o, s₁.heap.get? b = some o → h₃.get? b = some o := fun b o e => old b o (hk₂ b o e)
  have kI : ∀ kk : GMap, (∀ b o, kk b = some o → s₁.heap.get? b = some o) → kk I = none ∧ kk Dd = none ∧ kk C = none := fun kk hk => by
    refine ⟨?_, ?_, ?_⟩
    · cases q : kk I with
      | none => rfl
      | some o => have := hk _ _ q; rw [hI] at this; cases this
    · cases q : kk Dd with
      | none => rfl
      | some o => have := hk _ _ q; rw [hD1] at this; cases this
    · cases q : kk C with
      | none => rfl
      | some o => have := hk _ _ q; rw [hC1] at this; cases this
  obtain ⟨fI, fD, fC⟩ := kI fz₁ H.fzIn
  have hcE : ∀ (c : Env), c = compEnvC scope cl C env → True := fun _ _ => trivial
  have FC : FOK n A (compEnvC scope cl C env) := ⟨F.hh, hkind, F.hg, F.hb, F.dp, F.un⟩
  have hst := hstep C FC
  have hcp := hcaps C
  have hwf₁ : WF W (fun b => s₁.heap.get? b) := H.heapWF
  -- the first state
  have cellsOut : ∀ x c, (compEnvC scope cl C env).cells.lookup x = some c → ∃ v, s₁.heap.IsCell c v := fun x c h => H.cells x c (hcp.cells x c h)
  have cne : ∀ x c, (compEnvC scope cl C env).cells.lookup x = some c → c ≠ I ∧ c ≠ Dd := fun x c h => by
    obtain ⟨v, o, g, _⟩ := cellsOut x c h
    exact ⟨(fun e => by rw [e, hI] at g; cases g), (fun e => by rw [e, hD1] at g; cases g)⟩
  have H₃ : Ok W (compEnvC scope cl C env) ((GMap.add (fun b => s₁.heap.get? b) I oI).add Dd { cls := .type "list", data := .seq ([] : List Value).toArray 0 }) fz₁ (cap.map fun p => (p.1, Slot.val p.2)) fz₁ (fun _ => 0) (fun x => List.lookup x ([] : List (PySem.Str × Value)).reverse) { s₁ with heap := h₃, toks := tk₂ + ([] : List (PySem.Str × Value)).length } := by
    refine { wf := hwf₁.mono fun b o e => GMap.add_of (by unfold GMap.add; rw [if_neg hID.symm]; exact hD1) (GMap.add_of hI e), kept := ?_, fzIn := fun b o e => keep₃ b o (H.fzIn b o e), fz0 := fun _ _ e => e, fzNew := fun _ _ e => .inl e, ns := hns₃, nsK := ?_, nsF := fC, cells := ?_, cinj := ?_, cfree := ?_, vars := ?_, own := ?_, inj := ?_ }
    · intro b o e
      unfold GMap.add at e
      by_cases h1 : b = Dd
      · rw [if_pos h1] at e; cases e; rw [h1]; exact hacc
      · rw [if_neg h1] at e
        by_cases h2 : b = I
        · rw [if_pos h2] at e; cases e; rw [h2]; exact old _ _ hoI
        · rw [if_neg h2] at e; exact keep₃ b o e
    · show GMap.add _ _ _ C = none
      unfold GMap.add; rw [if_neg hDC.symm, if_neg hIC.symm]; exact hC1
    · intro x c h
      obtain ⟨v, o, g, q⟩ := cellsOut x c h
      exact ⟨v, o, keep₃ _ _ g, q⟩
    · intro x y c hx hy
      exact H.cinj x y c (hcp.cells x c hx) (hcp.cells y c hy)
    · intro x c hx hl
      obtain ⟨v, o, g, _⟩ := cellsOut x c hx
      have g1 : c < C := Nat.lt_trans (lt1 _ _ g) (by rw [hC]; exact Nat.lt_succ_self _)
      exact absurd g1 (Nat.not_lt.mpr (Nat.le_of_lt hl))
    · intro x sl hx
      obtain ⟨p, hp, e⟩ := List.mem_map.mp hx
      cases e
      obtain ⟨h1, h2, h3, h4⟩ := hcp.caps p hp
      obtain ⟨v, l, hv⟩ := H.vars _ _ h1
      refine ⟨v, ?_, hv⟩
      rcases l with ⟨a, _⟩ | ⟨_, c, b, o, g, q⟩
      · exact absurd a h2
      · exact .inr ⟨.inl h3, c, h4.trans b, o, keep₃ _ _ g, q⟩
    · intro x es hx
      obtain ⟨p, _, e⟩ := List.mem_map.mp hx
      cases e
    · intro x y es es' hx
      obtain ⟨p, _, e⟩ := List.mem_map.mp hx
      cases e
  have loop : ∀ s₃ : Shared, s₃ = { s₁ with heap := h₃, toks := tk₂ + ([] : List (PySem.Str × Value)).length } →
      codeAny W.M A (.compLoop (.ListComp elt [⟨t, iter, ifs, 0⟩] scope pos) 0 (.ref I) (.ref Dd) (compEnvC scope cl C env)) (RR (.ref Dd) C) s₃ := by
    rintro s₃ rfl
    refine codeAny_compLoop_tests (fun k s' => ∃ i fz' ad' m' h' tk' oI us c, s' = { s₁ with heap := h', toks := tk' } ∧ i ≤ nn ∧ k = nn + 1 - i ∧ St i h' ∧ us.length ≤ i ∧
        Ok W (compEnvC scope cl C env) ((GMap.add (fun b => s₁.heap.get? b) I oI).add Dd { cls := .type "list", data := .seq (List.toArray us) c }) fz₁ (cap.map fun p => (p.1, Slot.val p.2)) fz' ad' m' s' ∧ VHs fz' us ((os.take i).filterMap id)) ?_ (nn + 1)
      ⟨0, fz₁, fun _ => 0, _, h₃, _, oI, [], 0, rfl, Nat.zero_le _, rfl, st₃, Nat.le_refl _, H₃, by simp; exact .nil⟩ (fun v => ht _ v)
    rintro k s' ⟨i, fz', ad', m', h', tk', oI', us, c, rfl, hin, rfl, st, hul, H', hV⟩
    have hgI : h'.get? I = some oI' := H'.kept _ _ (by unfold GMap.add; rw [if_neg hID, if_pos rfl])
    have hgD : h'.get? Dd = some { cls := .type "list", data := .seq us.toArray c } := H'.kept _ _ GMap.add_self
    by_cases hlt : i < nn
    · refine K.walks.item i _ _ _ hlt st fun v h₄ tk₄ hP st₄ keep₄ => ?_
      obtain ⟨dv, hdv, hvv⟩ := K.item i v hlt hP
      obtain ⟨oI₄, hoI₄⟩ := K.has _ _ st₄
      have keep₄' : ∀ b q, b ≠ I → h'.get? b = some q → h₄.get? b = some q := fun b q hb e => keep₄ b q (fun hw => hb (K.wr b hw)) e
      have H₄ : Ok W (compEnvC scope cl C env) ((GMap.add (fun b => s₁.heap.get? b) I oI₄).add Dd { cls := .type "list", data := .seq us.toArray c }) fz₁ (cap.map fun p => (p.1, Slot.val p.2)) fz' ad' m' { s₁ with heap := h₄, toks := tk₄ } := by
        rw [add_comm hID] at H' ⊢
        have hwfD : WF W (GMap.add (fun b => s₁.heap.get? b) Dd { cls := .type "list", data := .seq us.toArray c }) := hwf₁.mono fun b o e => GMap.add_of hD1 e
        exact H'.swapKp (tk := tk₄) hwfD (by unfold GMap.add; rw [if_neg hID]; exact hI) fI (fun x c h => (cne x c h).1) keep₄' hoI₄
      obtain ⟨ov, hov, hcs⟩ := hst.get hdv
      have htake : os.take (i + 1) = os.take i ++ [ov] := by rw [List.take_add_one, hov]; rfl
      have stays : ∀ {σ₂ fz₂ ad₂ m₂ h₅ tk₅ us' c'}, Ok W (compEnvC scope cl C env) ((GMap.add (fun b => s₁.heap.get? b) I oI₄).add Dd { cls := .type "list", data := .seq (List.toArray us') c' }) fz₁ σ₂ fz₂ ad₂ m₂ { s₁ with heap := h₅, toks := tk₅ } → St (i + 1) h₅ := by
        intro σ₂ fz₂ ad₂ m₂ h₅ tk₅ us' c' H₅
        refine K.walks.frame _ _ _ st₄ fun b hb q e => ?_
        rcases K.fp b hb with rfl | ⟨q', hq'⟩
        · rw [hoI₄] at e; cases e; exact H₅.kept _ _ (by unfold GMap.add; rw [if_neg hID, if_pos rfl])
        · have e1 : h₄.get? b = some q' := H₄.fzIn _ _ (H₄.fz0 _ _ hq')
          rw [e1] at e; cases e
          exact H₅.fzIn _ _ (H₅.fz0 _ _ hq')
      cases ov with
      | none =>
        obtain ⟨σ₁, ha, hsub, htst⟩ := hcs
        refine ha _ _ _ _ _ _ _ _ _ H₄.rebase (hvv.mono H₄.fz0) fun fz₅ ad₅ m₅ h₅ tk₅ H₅ => ?_
        refine htst _ _ _ _ _ _ _ _ H₅ fun fz₆ s₆ x₆ => ?_
        simp only [Bool.false_eq_true, if_false]
        have H₆ := (H₅.ext x₆)
        have H₇ := (H₆.unbase H₄.fz0 H₄.fzNew).weaken hsub
        obtain ⟨h₇, tk₇, e₇, _⟩ := id x₆.keeps
        subst e₇
        refine ⟨nn + 1 - (i + 1), by omega, i + 1, fz₆, ad₅, m₅, h₇, tk₇, oI₄, us, c, rfl, hlt, rfl, stays H₇, by omega, H₇, ?_⟩
        rw [htake, List.filterMap_append]
        simpa using hV.mono H₆.fz0
      | some e =>
        obtain ⟨σ₁, ha, hsub, htst, hel⟩ := hcs
        refine ha _ _ _ _ _ _ _ _ _ H₄.rebase (hvv.mono H₄.fz0) fun fz₅ ad₅ m₅ h₅ tk₅ H₅ => ?_
        refine htst _ _ _ _ _ _ _ _ H₅ fun fz₆ s₆ x₆ => ?_
        simp only [if_true]
        have H₆ := H₅.ext x₆
        obtain ⟨h₇, tk₇, e₇, _⟩ := id x₆.keeps
        subst e₇
        refine hel _ _ _ _ _ _ _ _ H₆ fun y fz₈ s₈ x₈ hy => ?_
        have H₈ := H₆.ext x₈
        obtain ⟨h₉, tk₉, e₉, _⟩ := id x₈.keeps
        subst e₉
        have H₉ := (H₈.unbase H₄.fz0 H₄.fzNew).weaken hsub
        have hl : us.length ≤ 100000 := by rw [K.len] at hin; omega
        refine wpAny_list_append_plain ⟨c, H₉.kept _ _ GMap.add_self⟩ (fun ha' hp hsb => ?_) (by rw [List.size_toArray, PySem.sizeLine_eq]; omega)
        obtain ⟨c', g'⟩ := hp
        rw [List.push_toArray] at g'
        have hwfI : WF W (GMap.add (fun b => s₁.heap.get? b) I oI₄) := hwf₁.mono fun b o e => GMap.add_of hI e
        have HA := H₉.swapKp (tk := tk₉) hwfI (by unfold GMap.add; rw [if_neg hID.symm]; exact hD1) fD (fun x c h => (cne x c h).2) (fun b q hb e => (hsb.2 b hb).trans e) g'
        refine ⟨nn + 1 - (i + 1), by omega, i + 1, fz₈, ad₅, m₅, ha', tk₉, oI₄, us ++ [y], c', rfl, hlt, rfl, stays HA, by simp; omega, HA, ?_⟩
        rw [htake, List.filterMap_append]
        have h1 := (hV.mono H₈.fz0).append (VHs.cons hy VHs.nil)
        simpa using h1
    · have hin' : i = nn := by omega
      subst hin'
      refine K.walks.done _ _ _ st fun h₅ tk₅ keep₅ => ?_
      have keep₅' : ∀ b q, b ≠ I → h'.get? b = some q → h₅.get? b = some q := fun b q hb e => keep₅ b q (fun hw => hb (K.wr b hw)) e
      have dom : ∀ b, (((GMap.add (fun b => s₁.heap.get? b) I oI').add Dd { cls := .type "list", data := .seq us.toArray c }) b = none) → b ≠ I ∧ b ≠ Dd ∧ s₁.heap.get? b = none := by
        intro b e
        unfold GMap.add at e
        by_cases h1 : b = Dd
        · rw [if_pos h1] at e; cases e
        · rw [if_neg h1] at e
          by_cases h2 : b = I
          · rw [if_pos h2] at e; cases e
          · rw [if_neg h2] at e; exact ⟨h2, h1, e⟩
      have offF : ∀ b, b = I ∨ b = Dd → fz' b = none := by
        intro b hb
        cases q : fz' b with
        | none => rfl
        | some o =>
          rcases H'.fzNew b o q with h | h
          · rcases hb with rfl | rfl
            · rw [fI] at h; cases h
            · rw [fD] at h; cases h
          · obtain ⟨h1, h2, _⟩ := dom b h
            rcases hb with rfl | rfl
            · exact absurd rfl h1
            · exact absurd rfl h2
      have hos : (os.take i).filterMap id = os.filterMap id := by
        rw [List.take_of_length_le]
        have := hst.length
        rw [← this, ← K.len]; exact Nat.le_refl _
      rw [hos] at hV
      refine hRR Dd C us c m' fz' h₅ tk₅ ⟨Keeps.of fun b o e => keep₅' b o (fun hb => by rw [hb, hI] at e; cases e) (H'.kept b o ?_), hD1, hC1, hDC, ?_, keep₅' _ _ hID.symm hgD, hV, H'.fz0, ?_, offF _ (.inr rfl), H'.nsF, ?_⟩
      · have hb1 : b ≠ I := fun hb => by rw [hb, hI] at e; cases e
        have hb2 : b ≠ Dd := fun hb => by rw [hb, hD1] at e; cases e
        unfold GMap.add; rw [if_neg hb2, if_neg hb1]; exact e
      · exact H'.ns.at' fun q e => keep₅' _ _ hIC.symm e
      · intro b o e
        exact keep₅' b o (fun hb => by rw [offF b (.inl hb)] at e; cases e) (H'.fzIn b o e)
      · intro b o e
        exact (H'.fzNew b o e).imp id fun h => (dom b h).2.2
  exact codeAny_compStart_list (loop _ rfl) (K.walks.self 0 _ _ _ st₃ (loop _ rfl))
end
end
section
section
variable {W : WP} {A : Around} {env : Env} {σ σ' : Sto}

theorem evF_comp {n : Nat} {elt iter t : PySem.Expr} {ifs : List PySem.Expr} {scope : Scope} {cl : List (PySem.Str × Addr)} {pos : Pos} {d : D} {ds : List D} {os : List (Option D)} {cap : List (PySem.Str × D)}
    (F : FOK n A env) (he : Ev W A env σ iter d) (hi : Iter W A d ds) (hclos : closureFor scope env = pure cl) (hcell : ∀ y ∈ scope.names, y.2 ≠ .cell) (hkind : scope.kind = .function) (hnames : ∀ y ∈ scope.names, y.2 = .local → scope.names.lookup y.1 = some .local)
    (hcaps : ∀ C, Caps env σ (compEnvC scope cl C env) cap)
    (hstep : ∀ C, FOK n A (compEnvC scope cl C env) → All2 (fun d o => CStep W A (compEnvC scope cl C env) t (cap.map fun p => (p.1, Slot.val p.2)) ifs elt d o) ds os) (hz : ds.length ≤ 100000)
    (hs : ∀ x, foldedSetIterable iter env x = pure x := by intro _; rfl) (ht : ∀ it v, letOwnedTupleGo t it v = pure () := by intro _ _; rfl) :
    EvF W A env σ (.ListComp elt [⟨t, iter, ifs, 0⟩] scope pos) (os.filterMap id) := by
  intro kp fz₀ fz ad m s Q E H k
  rw [eval_ListComp]
  refine wpAny_comprehension_free (use := none) rfl hs hclos hkind hnames (he _ _ _ _ _ _ _ _ H fun v fz₁ s₁ x₁ hv => hi _ _ _ _ _ x₁.inH hv fun I fp wr nn P St h₂ tk₂ hI hk₂ K st₀ => ?_)
  refine comp_core (RR := fun acc C => compPost W.M A E none Q acc C) F (H.ext x₁) hI hk₂ K st₀ hcell hkind hcaps hstep hz ht ?_
  intro a C us c m' fz' h tk X
  refine ⟨m', X.ns, fun h' hs' => ?_⟩
  have x₂ : Ext fz₁ s₁ fz' { s₁ with heap := h', toks := tk } := by
    refine ⟨⟨h', tk, rfl, fun b o e => ?_⟩, X.sub, fun b o e => ?_, X.new⟩
    · exact hs'.extBut b o (fun q => by rw [q, X.cNew] at e; cases e) (kGet X.keeps e)
    · exact hs'.extBut b o (fun q => by rw [q, X.cF] at e; cases e) (X.inH b o e)
  have ha : s.heap.get? a = none := by
    cases q : s.heap.get? a with
    | none => rfl
    | some o => have := kGet x₁.keeps q; rw [X.aNew] at this; cases this
  exact k a us c fz' _ (x₁.trans x₂) ha X.aF (hs'.extBut _ _ X.ne X.get) X.vals

/-- y = [comprehension], the store exchanged -/
theorem x_comp {n : Nat} {y : PySem.Str} {py spos : Pos} {elt iter t : PySem.Expr} {ifs : List PySem.Expr} {scope : Scope} {cl : List (PySem.Str × Addr)} {pos : Pos} {d : D} {ds : List D} {os : List (Option D)} {cap : List (PySem.Str × D)}
    (F : FOK n A env) (he : Ev W A env σ iter d) (hi : Iter W A d ds) (hy : env.kindOf y = some .local) (hsw : swapsWith (.ListComp elt [⟨t, iter, ifs, 0⟩] scope pos) (some (.Name y py)) spos.line env = pure true)
    (hclos : closureFor scope env = pure cl) (hcell : ∀ y ∈ scope.names, y.2 ≠ .cell) (hkind : scope.kind = .function) (hnames : ∀ y ∈ scope.names, y.2 = .local → scope.names.lookup y.1 = some .local)
    (hcaps : ∀ C, Caps env σ (compEnvC scope cl C env) cap)
    (hstep : ∀ C, FOK n A (compEnvC scope cl C env) → All2 (fun d o => CStep W A (compEnvC scope cl C env) t (cap.map fun p => (p.1, Slot.val p.2)) ifs elt d o) ds os) (hz : ds.length ≤ 100000)
    (hs : ∀ x, foldedSetIterable iter env x = pure x := by intro _; rfl) (ht : ∀ it v, letOwnedTupleGo t it v = pure () := by intro _ _; rfl) :
    X1 W A env σ (.Assign [.Name y py] (.ListComp elt [⟨t, iter, ifs, 0⟩] scope pos) spos) (.next (upd σ y (.own (os.filterMap id)))) := by
  intro kp fz₀ fz ad m s Q E H p
  rw [exec_Assign_Name_used _ _ _ _ hsw]
  refine wpAny_bind (wpAny_standAt (wpAny_bind ?_))
  show wpAny _ A (do let _ ← comprehension (.ListComp elt [⟨t, iter, ifs, 0⟩] scope pos) scope env _ (newList []) false (eval iter env) (some (assign (.Name y py) env))) _ _ s
  refine wpAny_bind (wpAny_mono (wpAny_comprehension_free (use := some (assign (.Name y py) env)) (Q := fun _ s' => Q .next s') rfl hs hclos hkind hnames
    (he _ _ _ _ _ _ _ _ H fun v fz₁ s₁ x₁ hv => hi _ _ _ _ _ x₁.inH hv fun I fp wr nn P St h₂ tk₂ hI hk₂ K st₀ => ?_)) (fun _ s' hq => wpAny_pure (wpAny_pure hq)) fun _ _ e => e)
  refine comp_core (RR := fun acc C => compPost W.M A E (some (assign (.Name y py) env)) (fun _ s' => Q .next s') acc C) F (H.ext x₁) hI hk₂ K st₀ hcell hkind hcaps hstep hz ht ?_
  intro a C us c m' fz' h tk X
  have H₁ := H.ext x₁
  have x₂ : Ext fz₁ s₁ fz' { s₁ with heap := h, toks := tk } := ⟨X.keeps, X.sub, X.inH, X.new⟩
  have H₂ := H₁.ext x₂
  have N := H₁.newAddr x₂ X.aNew
  have hLC : env.locals ≠ C := fun e => by obtain ⟨o, _, _, ho, _⟩ := H₁.ns; rw [e, X.cNew] at ho; cases ho
  show wpAny _ A (assign (.Name y py) env (.ref a)) _ _ _
  refine wpAny_assign_Name (wpAny_storeName_local hy H₂.ns (fun h' hn hs' => ?_) (by show (env.scope.kind == .class || (env.scope.kind == .module && env.locals != env.globals)) = false; rw [F.hk]; rfl))
  refine ⟨m', X.ns.sameBut hs' (Ne.symm hLC), fun h₃ hs₃ => ?_⟩
  have H₃ := H₂.setOwn (tk := tk + 1) hy hn hs' N.1 X.aF X.get X.vals N.2
  have hkC : ∀ b o, kp b = some o → b ≠ C := fun b o e q => by have := H₁.kept b o e; rw [q, X.cNew] at this; cases this
  obtain ⟨h₁, tk₁, e₁, _⟩ := id x₁.keeps
  subst e₁
  -- the comprehension's own dict may have turned: nothing that we know speaks of it
  have keepC : ∀ b q, b ≠ C → h'.get? b = some q → h₃.get? b = some q := fun b q hb e => hs₃.extBut b q hb e
  have cellC : ∀ x c, env.cells.lookup x = some c → c ≠ C := fun x c h e => by
    obtain ⟨_, o, g, _⟩ := H₁.cells x c h
    rw [e, X.cNew] at g; cases g
  refine p fz' (fun z => if z = y then a else ad z) (fun z => if z = y then some (.ref a) else m z) h₃ (tk + 1) ?_
  refine { H₃ with kept := fun b o e => keepC b o (hkC b o e) (H₃.kept b o e), fzIn := fun b o e => keepC b o (fun q => by rw [q, X.cF] at e; cases e) (H₃.fzIn b o e), ns := H₃.ns.at' fun o e => keepC _ _ hLC e, cells := ?_, vars := ?_ }
  · intro x cc hc
    obtain ⟨v, o, g, q⟩ := H₃.cells x cc hc
    exact ⟨v, o, keepC _ _ (cellC x cc hc) g, q⟩
  · intro x sl hx
    have hl := H₃.vars x sl hx
    cases sl with
    | val d =>
      obtain ⟨v, l, hv⟩ := hl
      refine ⟨v, ?_, hv⟩
      rcases l with ⟨a, b⟩ | ⟨a, cc, b, o, g, q⟩
      · exact .inl ⟨a, b⟩
      · exact .inr ⟨a, cc, b, o, keepC _ _ (cellC x cc b) g, q⟩
    | own es =>
      obtain ⟨a', b, us', nn', g, q⟩ := hl
      refine ⟨a', b, us', nn', keepC _ _ ?_ g, q⟩
      intro e
      rcases mem_upd hx with ⟨rfl, _⟩ | ⟨hn', hx'⟩
      · simp at e; exact X.ne e
      · simp [hn'] at e
        obtain ⟨_, _, g', _⟩ := H₁.objOwn hx'
        rw [e, X.cNew] at g'; cases g'

/-- names bound one by one -/
def BndL (W : WP) (A : Around) (env : Env) (fs : List (Value → Sem Unit)) (ds : List D) (σ σ₁ : Sto) : Prop :=
  ∀ (kp fz₀ fz : GMap) (ad : PySem.Str → Addr) (m : PySem.Str → Option Value) (s : Shared) (vs : List Value) (Q : Unit → Shared → Prop) (E : Value → Shared → Prop), Ok W env kp fz₀ σ fz ad m s → VHs fz vs ds →
    (∀ fz' ad' m' h' tk', Ok W env kp fz₀ σ₁ fz' ad' m' { s with heap := h', toks := tk' } → Q () { s with heap := h', toks := tk' }) → wpAny W.M A (assignInOrder fs vs) Q E s
def Bnd (W : WP) (A : Around) (env : Env) (f : Value → Sem Unit) (d : D) (σ σ₁ : Sto) : Prop :=
  ∀ (kp fz₀ fz : GMap) (ad : PySem.Str → Addr) (m : PySem.Str → Option Value) (s : Shared) (v : Value) (Q : Unit → Shared → Prop) (E : Value → Shared → Prop), Ok W env kp fz₀ σ fz ad m s → VH fz v d →
    (∀ fz' ad' m' h' tk', Ok W env kp fz₀ σ₁ fz' ad' m' { s with heap := h', toks := tk' } → Q () { s with heap := h', toks := tk' }) → wpAny W.M A (f v) Q E s
theorem bnd_asg {t : PySem.Expr} {d : D} {σ₁ : Sto} (h : Asg W A env t d σ σ₁) : Bnd W A env (assign t env) d σ σ₁ := h
theorem bnd_name {n : Nat} {x : PySem.Str} {d : D} (F : FOK n A env) (hx : env.kindOf x = some .local) : Bnd W A env (fun v => bindName env x v) d σ (upd σ x (.val d)) := by
  intro kp fz₀ fz ad m s v Q E H hv k
  exact wpAny_bindName (wp_store F H (.inl hx) hv fun m' h' tk H' => k _ _ _ _ _ H')
theorem bndl_nil {fs : List (Value → Sem Unit)} : BndL W A env fs [] σ σ := by
  intro kp fz₀ fz ad m s vs Q E H hv k
  cases hv
  have : assignInOrder fs [] = pure () := by cases fs <;> rfl
  rw [this]
  exact wpAny_pure (k _ _ _ s.heap s.toks H)
theorem bndl_cons {f : Value → Sem Unit} {fs : List (Value → Sem Unit)} {d : D} {ds : List D} {σ₁ σ₂ : Sto} (h : Bnd W A env f d σ σ₁) (r : BndL W A env fs ds σ₁ σ₂) : BndL W A env (f :: fs) (d :: ds) σ σ₂ := by
  intro kp fz₀ fz ad m s vs Q E H hv k
  cases hv with
  | @cons v vs _ _ hv hr =>
    show wpAny _ A (do holding vs (f v); assignInOrder fs vs) _ _ s
    refine wpAny_bind (wpAny_holding (h _ _ _ _ _ _ _ _ _ H.rebase hv fun fz' ad' m' h' tk' H' => ?_))
    refine r _ _ _ _ _ _ _ _ _ (H'.unbase H.fz0 H.fzNew) (hr.mono H'.fz0) fun fz'' ad'' m'' h'' tk'' H'' => k _ _ _ _ _ H''

theorem VH.isTup {fz : GMap} {s : Shared} {v : Value} {ds : List D} (hf : FzIn fz s) (h : VH fz v (.tup ds)) : ∃ a vs, v = .ref a ∧ s.heap.IsTuple a (List.toArray vs) ∧ VHs fz vs ds := by
  cases h with
  | tup e r => exact ⟨_, _, rfl, ⟨_, hf _ _ e, rfl, _, rfl⟩, r⟩

/-- targets = a tuple, stored in order -/
theorem x_tup {ts : List PySem.Expr} {k : Nat} {tp pos : Pos} {e : PySem.Expr} {ds : List D} {σ₁ : Sto} (hh : A.handled = none) (h : Ev W A env σ e (.tup ds)) (hl : ts.length = ds.length) (hb : BndL W A env ((assignEach ts env).map (·.2)) ds σ σ₁)
    (hs : swapsWithSole [.Tuple ts k tp] e pos.line env = pure false) (hw : swappedStores [.Tuple ts k tp] e env = pure none) (hln : (assignEach ts env).length = ts.length) (hst : (assignEach ts env).findIdx? (·.1) = none) :
    X1 W A env σ (.Assign [.Tuple ts k tp] e pos) (.next σ₁) := by
  intro kp fz₀ fz ad m s Q E H p
  refine wpAny_Assign_stores (h _ _ _ _ _ _ _ _ H fun v fz₁ s₁ x₁ hv => ?_) hs hw
  obtain ⟨a, vs, rfl, hT, hr⟩ := hv.isTup x₁.inH
  show wpAny _ A (do standAt tp; unpack (.ref a) (assignEach ts env)) _ _ s₁
  refine wpAny_bind (wpAny_standAt (wpAny_unpack_tuple hh hT (by rw [hln, List.size_toArray, hr.length]; exact hl) hst fun h' he => ?_))
  have x₂ : Ext fz₁ s₁ fz₁ { s₁ with heap := h', toks := s₁.toks } := Ext.heap x₁.inH fun b o e => he b o (Nat.ne_of_lt (Heap.lt_size e)) e
  refine hb _ _ _ _ _ _ _ _ _ ((H.ext x₁).ext x₂) hr fun fz' ad' m' h'' tk' H' => ?_
  obtain ⟨h₁, tk₁, e₁, _⟩ := id x₁.keeps
  subst e₁
  exact p _ _ _ _ _ H'
/-- names = a tuple display, stored from the last to the first -/
theorem x_tupS {ts : List PySem.Expr} {k : Nat} {tp pos : Pos} {e : PySem.Expr} {ds : List D} {names : List PySem.Str} {σ₁ : Sto} (hh : A.handled = none) (h : Ev W A env σ e (.tup ds)) (hl : names.length = ds.length) (hb : BndL W A env (names.reverse.map fun n => fun v => bindName env n v) ds.reverse σ σ₁)
    (hs : swapsWithSole [.Tuple ts k tp] e pos.line env = pure false) (hw : swappedStores [.Tuple ts k tp] e env = pure (some names)) :
    X1 W A env σ (.Assign [.Tuple ts k tp] e pos) (.next σ₁) := by
  intro kp fz₀ fz ad m s Q E H p
  rw [exec_Assign_arm]
  refine wpAny_bind (wpAny_standAt ?_)
  rw [hs]
  refine wpAny_bind (wpAny_pure ?_)
  rw [if_neg (by decide)]
  refine wpAny_bind (h _ _ _ _ _ _ _ _ H fun v fz₁ s₁ x₁ hv => ?_)
  obtain ⟨a, vs, rfl, hT, hr⟩ := hv.isTup x₁.inH
  rw [hw]
  refine wpAny_bind (wpAny_pure ?_)
  show wpAny _ A (do rule "assign.swapped-stores"; let items ← unpackItems (.ref a) names.length none; assignInOrder (names.reverse.map fun n => bindName env n) items.reverse; pure Flow.next) _ _ s₁
  refine wpAny_bind (wpAny_rule (wpAny_bind ?_))
  have hsz : names.length = vs.toArray.size := by rw [List.size_toArray, hr.length, hl]
  rw [hsz]
  refine wpAny_unpackItems_tuple hh hT fun h' he => ?_
  have x₂ : Ext fz₁ s₁ fz₁ { s₁ with heap := h', toks := s₁.toks } := Ext.heap x₁.inH fun b o e => he b o (Nat.ne_of_lt (Heap.lt_size e)) e
  have rev : ∀ {vs : List Value} {ds : List D}, VHs fz₁ vs ds → VHs fz₁ vs.reverse ds.reverse := by
    intro vs ds h
    induction vs generalizing ds with
    | nil => cases h; exact .nil
    | cons v vs ih => cases h with | cons h r => rw [List.reverse_cons, List.reverse_cons]; exact (ih r).append (.cons h .nil)
  refine wpAny_bind (hb _ _ _ _ _ _ _ _ _ ((H.ext x₁).ext x₂) (rev hr) fun fz' ad' m' h'' tk' H' => wpAny_pure ?_)
  obtain ⟨h₁, tk₁, e₁, _⟩ := id x₁.keeps
  subst e₁
  exact p _ _ _ _ _ H'

/-- x = y = e -/
theorem x_assign2 {n : Nat} {x y : PySem.Str} {px py pos : Pos} {e : PySem.Expr} {d : D} (F : FOK n A env) (h : Ev W A env σ e d) (hx : env.kindOf x = some .local) (hy : env.kindOf y = some .local) :
    X1 W A env σ (.Assign [.Name x px, .Name y py] e pos) (.next (upd (upd σ x (.val d)) y (.val d))) := by
  intro kp fz₀ fz ad m s Q E H p
  refine wpAny_Assign_two (h _ _ _ _ _ _ _ _ H fun v fz₁ s₁ x₁ hv => ?_) rfl
  have H₁ := H.ext x₁
  refine wpAny_assign_Name (wp_store F H₁.rebase (.inl hx) hv fun m' h' tk H' => ?_)
  refine wpAny_assign_Name (wp_store F (H'.unbase H₁.fz0 H₁.fzNew) (.inl hy) (hv.mono H'.fz0) fun m'' h'' tk'' H'' => ?_)
  obtain ⟨h₁, tk₁, e₁, _⟩ := id x₁.keeps
  subst e₁
  exact p _ _ _ _ _ H''

/-- a cell stored -/
theorem asg_cell {n : Nat} {x : PySem.Str} {px : Pos} {d : D} {c : Addr} (F : FOK n A env) (hx : env.kindOf x = some .cell) (hc : env.cells.lookup x = some c) (hl : env.locals < c) : Asg W A env (.Name x px) d σ (upd σ x (.val d)) := by
  intro kp fz₀ fz ad m s v Q E H hv k
  exact wpAny_assign_Name (wp_store F H (.inr ⟨hx, c, hc, H.cfree _ _ hc hl⟩) hv fun m' h' tk H' => k _ _ _ _ _ H')

/-- going over a text, over bytes -/
theorem iter_str {x : PySem.Str} (hh : A.handled = none) (ha : (x.cps.all fun c => decide (c < 128)) = true) : Iter W A (.str x) (x.cps.toList.map fun c => .str ⟨#[c]⟩) := by
  intro fz s v Q E hf hv k
  cases hv with
  | str _ t =>
    refine wpAny_pyIter_ascii ha ?_
    refine k _ _ _ _ _ _ _ s.toks (get_fresh _) (fun b o e => get_push e) ⟨Walks.strAscii hh s.heap.objs.size x t, by simp, fun b hb => List.mem_singleton.mp hb, fun b hb => .inl (List.mem_singleton.mp hb), ?_, ?_⟩ ⟨_, Heap.get?_push_size _ rfl, rfl, rfl⟩
    · rintro i v hi ⟨c, u, hc, rfl⟩
      exact ⟨.str ⟨#[c]⟩, by simp [hc], .str _ _⟩
    · rintro i h ⟨o, ho, _⟩
      exact ⟨o, ho⟩
theorem iter_byt {x : Array UInt8} (hh : A.handled = none) : Iter W A (.byt x) (x.toList.map fun c => .int (c.toNat : Int)) := by
  intro fz s v Q E hf hv k
  cases hv with
  | byt _ t =>
    refine KBw.pyIter_bytes ?_
    refine k _ _ _ _ _ _ _ s.toks (get_fresh _) (fun b o e => get_push e) ⟨KBw.walks hh s.heap.objs.size x t, by simp, fun b hb => List.mem_singleton.mp hb, fun b hb => .inl (List.mem_singleton.mp hb), ?_, ?_⟩ ⟨_, Heap.get?_push_size _ rfl, rfl, rfl⟩
    · rintro i v hi ⟨c, u, hc, rfl⟩
      exact ⟨.int (c.toNat : Int), by simp [hc], .int _ _⟩
    · rintro i h ⟨o, ho, _⟩
      exact ⟨o, ho⟩

theorem VHs.ofGet {fz : GMap} : ∀ {vs : List Value} {ds : List D}, vs.length = ds.length → (∀ (i : Nat) (v : Value) (d : D), vs[i]? = some v → ds[i]? = some d → VH fz v d) → VHs fz vs ds
  | [], [], _, _ => .nil
  | v :: vs, d :: ds, hl, h => .cons (h 0 v d rfl rfl) (VHs.ofGet (by simpa using hl) fun i v d h1 h2 => h (i + 1) v d (by simpa using h1) (by simpa using h2))
/-- list(range(..)), a list of the call's own -/
theorem evF_listRng {n : Nat} {p pos : Pos} {e : PySem.Expr} {a b c : Int} {k : Nat} (F : FOK n A env) (hx : env.kindOf "list" = some .globalImplicit) (hv : nsIn W.K mainGlobals "list" = some none)
    (h : Ev W A env σ e (.rng a b c)) (hsm : Builtin.Range.small a b c = true) (hn : Builtin.Range.rangeSize a b c = (k : Int)) (hz : k ≤ 2 ^ 24) (hs : starEach [e] env = [(false, eval e env)] := by rfl) :
    EvF W A env σ (.Call (.Name "list" p) [e] [] pos) (rngL a c k) := by
  intro kp fz₀ fz ad m s Q E H kont
  obtain ⟨hw, Xk, T, hkk⟩ := H.wf
  have kk : ∀ b o, hw.get? b = some o → s.heap.get? b = some o := fun b o e => H.kept _ _ (hkk _ _ e)
  refine Call_Name rfl (Name_function_global F.hk hx (loadGlobal_builtin (env := env) (show s.heap.Ns env.globals W.mg from F.hg ▸ (T.keeps kk).g) (mg_none_of Xk T.g hv) (show s.heap.Ns env.builtins W.mb from F.hb ▸ (T.keeps kk).b) ((T.builtins _ (by decide)).trans boot_list) ?_) (by decide))
  refine PyProof.Rows.callWith_type1 (e := e) (rest := []) ?_ hs rfl
  refine Evs.mk1 h hs pos _ _ _ _ _ _ _ _ H fun vs fz₁ s₁ x₁ hvs => ?_
  cases hvs with
  | @cons v _ _ _ hv r =>
    cases r
    cases hv with
    | @rng r _ _ _ t u x e =>
      have hr : IsRange s₁.heap r a b c t u x := x₁.inH _ _ e
      refine call_list_range F.hh hr hsm hn hz fun h' tk acc' c' hk hg hit => ?_
      have f := x₁.fresh (get_fresh s₁.heap)
      refine kont _ acc'.toList c' fz₁ _ (x₁.trans (Ext.heap x₁.inH hk)) f.1 f.2 (by simpa using hg) ?_
      refine VHs.ofGet (by rw [rngL_length, Array.length_toList]; exact hit.1) fun i v d h1 h2 => ?_
      have hi : i < k := by
        rcases Nat.lt_or_ge i k with h | h
        · exact h
        · rw [List.getElem?_eq_none (by rw [rngL_length]; exact h)] at h2; cases h2
      rw [rngL_get c k a i hi] at h2
      cases h2
      obtain ⟨t', rfl⟩ := hit.2 i v (by simpa using h1)
      exact .int _ _
end
end
section
section
variable {W : WP} {A : Around} {env : Env} {σ σ' : Sto}

theorem ev_methS0 {o : PySem.Expr} {name : PySem.Str} {id : String} {apos pos : Pos} {x : PySem.Str} {d : D} {pl : Sem Bool} (h : Ev W A env σ o (.str x)) (slot : PySem.Slot "str" name id) (ty : typeOf (.builtin id) = pure (.type "method_descriptor"))
    (hc : CallV W A (.builtin id) [.str x] d)
    (hm : eval ((o.Attribute name apos).Call [] [] pos) env = (do let ov ← eval o env; standAt apos.atName; let (f, first) ← holding [ov] (getMethod ov name pl); callWith pos f first (backTo pos (starEach [] env)) []) := by rfl) :
    Ev W A env σ (.Call (.Attribute o name apos) [] [] pos) d := by
  intro kp fz₀ fz ad m s Q E H k
  refine MethodCall_ (pl := pl) (h _ _ _ _ _ _ _ _ H fun v fz₁ s₁ x₁ hv => ?_) hm
  cases hv
  refine getMethod_builtin (typeIs_str _ _ _) PySem.F.plainAttrs_str slot ty (fun a e => nomatch e) ?_
  refine callWith_method0 ?_
  exact hc _ _ _ _ _ (H.ext x₁).heapWF x₁.inH (.cons (.str _ _) .nil) fun v' fz' s' x' hv' => k _ _ _ (x₁.trans x') hv'
theorem ev_methS1 {o e : PySem.Expr} {rest : List PySem.Expr} {name : PySem.Str} {id : String} {apos pos : Pos} {x : PySem.Str} {ds : List D} {d : D} {pl : Sem Bool} (h : Ev W A env σ o (.str x)) (slot : PySem.Slot "str" name id) (ty : typeOf (.builtin id) = pure (.type "method_descriptor")) (ha : Evs W A env σ (e :: rest) ds)
    (hc : CallV W A (.builtin id) (.str x :: ds) d)
    (hm : eval ((o.Attribute name apos).Call (e :: rest) [] pos) env = (do let ov ← eval o env; standAt apos.atName; let (f, first) ← holding [ov] (getMethod ov name pl); callWith pos f first (backTo pos (starEach (e :: rest) env)) []) := by rfl)
    (hs : starEach (e :: rest) env = (false, eval e env) :: starEach rest env := by rfl) (hs2 : ((backTo pos (starEach rest env)).any fun x => x.1) = false := by rfl) :
    Ev W A env σ (.Call (.Attribute o name apos) (e :: rest) [] pos) d := by
  intro kp fz₀ fz ad m s Q E H k
  refine MethodCall_ (pl := pl) (h _ _ _ _ _ _ _ _ H fun v fz₁ s₁ x₁ hv => ?_) hm
  cases hv
  refine getMethod_builtin (typeIs_str _ _ _) PySem.F.plainAttrs_str slot ty (fun a e => nomatch e) ?_
  refine callWith_method1 (ha pos _ _ _ _ _ _ _ _ (H.ext x₁) fun vs fz₂ s₂ x₂ hvs => ?_) hs hs2
  exact hc _ _ _ _ _ ((H.ext x₁).ext x₂).heapWF x₂.inH (.cons (.str _ _) hvs) fun v' fz' s' x' hv' => k _ _ _ ((x₁.trans x₂).trans x') hv'

theorem lower_fits (z : PySem.Str) (hz : z.length ≤ 1000) : Builtin.Str.tooLong (Txt.lower z).length = false := by
  have := PyProof.Rows.len_lower z
  simp [Builtin.Str.tooLong, PySem.sizeLine_eq]; omega
end
end
section
variable {W : WP} {A : Around} {env : Env} {σ σ' : Sto}

theorem Ok.swapMany {kp kp' fz₀ fz : GMap} {ad : PySem.Str → Addr} {m : PySem.Str → Option Value} {s : Shared} {B : List Addr} {h' : Heap} {tk : Nat} (H : Ok W env kp fz₀ σ fz ad m s) (hwf : WF W kp') (hk : ∀ b ∈ B, ∃ o, kp b = some o) (hf0 : ∀ b ∈ B, fz₀ b = none)
    (hout : ∀ b, b ∉ B → kp' b = kp b) (hc : ∀ x c, env.cells.lookup x = some c → c ∉ B) (keep : ∀ b q, b ∉ B → s.heap.get? b = some q → h'.get? b = some q) (ho : ∀ b ∈ B, ∀ q, kp' b = some q → h'.get? b = some q) :
    Ok W env kp' fz₀ σ fz ad m { s with heap := h', toks := tk } := by
  have none_of : ∀ b, kp b = none → b ∉ B ∧ kp' b = none := fun b e => by
    have hb : b ∉ B := fun h => by obtain ⟨o, g⟩ := hk b h; rw [e] at g; cases g
    exact ⟨hb, by rw [hout b hb]; exact e⟩
  have hfI : ∀ b ∈ B, fz b = none := fun b hb => by
    cases q : fz b with
    | none => rfl
    | some q' => rcases H.fzNew _ _ q with h | h
                 · rw [hf0 b hb] at h; cases h
                 · exact absurd hb (none_of b h).1
  have nef : ∀ b q, fz b = some q → b ∉ B := fun b q e h => by rw [hfI b h] at e; cases e
  have hl := none_of _ H.nsK
  refine { wf := hwf, kept := ?_, fzIn := fun b q e => keep b q (nef b q e) (H.fzIn b q e), fz0 := H.fz0, fzNew := ?_, ns := H.ns.at' fun q e => keep _ _ hl.1 e, nsK := hl.2, nsF := H.nsF, cells := ?_, cinj := H.cinj, cfree := fun x c h hl => ⟨(none_of _ (H.cfree x c h hl).1).2, (H.cfree x c h hl).2⟩, vars := ?_, own := ?_, inj := H.inj }
  · intro b q e
    by_cases hb : b ∈ B
    · exact ho b hb q e
    · exact keep b q hb (H.kept b q (by rw [← hout b hb]; exact e))
  · intro b q e
    exact (H.fzNew b q e).imp id fun h => (none_of b h).2
  · intro x c h
    obtain ⟨v, ob, g, q⟩ := H.cells x c h
    exact ⟨v, ob, keep _ _ (hc x c h) g, q⟩
  · intro x sl h
    have hl := H.vars x sl h
    cases sl with
    | val d =>
      obtain ⟨v, l, hv⟩ := hl
      refine ⟨v, ?_, hv⟩
      rcases l with ⟨a, b⟩ | ⟨a, c, b, ob, g, q⟩
      · exact .inl ⟨a, b⟩
      · exact .inr ⟨a, c, b, ob, keep _ _ (hc x c b) g, q⟩
    | own ds =>
      obtain ⟨a, b, us, n, g, q⟩ := hl
      exact ⟨a, b, us, n, keep _ _ (none_of _ (H.own x ds h).1).1 g, q⟩
  · intro x ds h
    exact ⟨(none_of _ (H.own x ds h).1).2, (H.own x ds h).2⟩

/-- the pairs of an enumerate -/
def enumL : Nat → List D → List D
  | _, [] => []
  | i, d :: ds => .tup [.int (i : Int), d] :: enumL (i + 1) ds

theorem x_forEnum {n : Nat} {xi xv : PySem.Str} {pi pv pt p1 p2 pos : Pos} {k : Nat} {arg : PySem.Expr} {body : List Stmt} {ds : List D} {o : Out} (F : FOK n A env) (hx : env.kindOf "enumerate" = some .globalImplicit) (hv : nsIn W.K mainGlobals "enumerate" = some none)
    (hxi : env.kindOf xi = some .local) (hxv : env.kindOf xv = some .local) (he : Ev W A env σ arg (.lst ds))
    (h : ForRun (fun d σ o => ∃ (i : Int) (dv : D), d = .tup [.int i, dv] ∧ X W A env (upd (upd σ xi (.val (.int i))) xv (.val dv)) body o) (enumL 0 ds) σ o)
    (hs : starEach [arg] env = [(false, eval arg env)] := by rfl) (hfs : ∀ x, foldedSetIterable (.Call (.Name "enumerate" p1) [arg] [] p2) env x = pure x := by intro _; rfl) :
    X1 W A env σ (.For (.Tuple [.Name xi pi, .Name xv pv] k pt) (.Call (.Name "enumerate" p1) [arg] [] p2) body [] pos) o := by
  intro kp fz₀ fz ad m s Q E H p
  refine wpAny_For ?_ hfs
  obtain ⟨hw, Xk, T, hkk⟩ := id H.wf
  have kk : ∀ b o, hw.get? b = some o → s.heap.get? b = some o := fun b o e => H.kept _ _ (hkk _ _ e)
  refine Call_Name rfl (Name_function_global F.hk hx (loadGlobal_builtin (env := env) (show s.heap.Ns env.globals W.mg from F.hg ▸ (T.keeps kk).g) (mg_none_of Xk T.g hv) (show s.heap.Ns env.builtins W.mb from F.hb ▸ (T.keeps kk).b) ((T.builtins "enumerate" (by decide)).trans boot_enumerate) ?_) (by decide))
  refine PyProof.Rows.callWith_type1 ?_ hs rfl
  refine (Evs.mk1 he hs) p2 _ _ _ _ _ _ _ _ H fun vs fz₁ s₁ x₁ hvs => ?_
  cases hvs with
  | @cons v _ _ _ hv1 hr =>
  cases hr
  obtain ⟨l, us, rfl, hL, hr⟩ := hv1.isList x₁.inH
  have hlfz : ∃ q, fz₁ l = some q := by cases hv1 with | lst e _ _ _ => exact ⟨_, e⟩
  refine call_enumerate_list hL fun h₂ hE hI hsz hk₂ => ?_
  have hI0 : s₁.heap.get? s₁.heap.objs.size = none := get_fresh _
  have hE0 : s₁.heap.get? (s₁.heap.objs.size + 1) = none := by
    cases q : s₁.heap.get? (s₁.heap.objs.size + 1) with
    | none => rfl
    | some q' => exact absurd (Heap.lt_size q) (Nat.not_lt.mpr (Nat.le_succ _))
  have hei : s₁.heap.objs.size + 1 ≠ s₁.heap.objs.size := Nat.succ_ne_self _
  generalize s₁.heap.objs.size + 1 = e at hE hE0 hei ⊢
  generalize s₁.heap.objs.size = it at hE hI hI0 hei ⊢
  refine wpAny_pyIter_enum hE ?_
  have H₁ := H.ext x₁
  obtain ⟨h₁, tk₁, e₁, _⟩ := id x₁.keeps
  subst e₁
  dsimp only at hI hE hk₂ H₁ x₁ hL hI0 hE0 hsz
  have x₂ : Ext fz₁ { s with heap := h₁, toks := tk₁ } fz₁ { s with heap := h₂, toks := tk₁ } := Ext.heap (s := { s with heap := h₁, toks := tk₁ }) x₁.inH hk₂
  have hkI : ∀ b, h₁.get? b = none → kp b = none := fun b hb => by
    cases q : kp b with
    | none => rfl
    | some o => have := H₁.kept _ _ q; rw [show ({ s with heap := h₁, toks := tk₁ } : Shared).heap = h₁ from rfl, hb] at this; cases this
  have hfI : ∀ b, h₁.get? b = none → fz₁ b = none := fun b hb => by
    cases q : fz₁ b with
    | none => rfl
    | some o => have := x₁.inH _ _ q; rw [show ({ s with heap := h₁, toks := tk₁ } : Shared).heap = h₁ from rfl, hb] at this; cases this
  have hcI : ∀ b, h₁.get? b = none → ∀ x c, env.cells.lookup x = some c → c ≠ b := by
    intro b hb x c hc e
    obtain ⟨_, ob, g, _⟩ := H₁.cells x c hc
    rw [e, show ({ s with heap := h₁, toks := tk₁ } : Shared).heap = h₁ from rfl, hb] at g; cases g
  obtain ⟨lq, hlq⟩ := hlfz
  have hlne : l ≠ e ∧ l ≠ it := ⟨fun q => (by rw [q, hfI e hE0] at hlq; cases hlq), fun q => (by rw [q, hfI it hI0] at hlq; cases hlq)⟩
  have heL : e ≠ env.locals := fun q => by obtain ⟨ol, _, _, hl, _⟩ := H₁.ns; rw [← q, show ({ s with heap := h₁, toks := tk₁ } : Shared).heap = h₁ from rfl, hE0] at hl; cases hl
  have hiL : it ≠ env.locals := fun q => by obtain ⟨ol, _, _, hl, _⟩ := H₁.ns; rw [← q, show ({ s with heap := h₁, toks := tk₁ } : Shared).heap = h₁ from rfl, hI0] at hl; cases hl
  obtain ⟨oi, hoi, hIt⟩ := id hI
  have Hb : ∀ {oi oe : Obj}, h₂.get? it = some oi → h₂.get? e = some oe → Ok W env ((kp.add it oi).add e oe) fz₁ σ fz₁ ad m { s with heap := h₂, toks := tk₁ } := by
    intro oi oe g1 g2
    have H₂ := H₁.rebase.ext x₂
    refine { H₂ with wf := H.wf.mono fun b q g => ?_, kept := ?_, nsK := ?_, own := ?_, fzNew := fun _ _ g => .inl g, fz0 := fun _ _ g => g, cfree := fun x c h hl => ⟨(by unfold GMap.add; rw [if_neg (hcI e hE0 x c h), if_neg (hcI it hI0 x c h)]; exact (H.cfree x c h hl).1), (H₂.cfree x c h hl).2⟩ }
    · have n1 : b ≠ it := fun q' => by rw [q', hkI it hI0] at g; cases g
      have n2 : b ≠ e := fun q' => by rw [q', hkI e hE0] at g; cases g
      unfold GMap.add; rw [if_neg n2, if_neg n1]; exact g
    · intro b q g
      unfold GMap.add at g
      by_cases n2 : b = e
      · rw [if_pos n2] at g; cases g; rw [n2]; exact g2
      · rw [if_neg n2] at g
        by_cases n1 : b = it
        · rw [if_pos n1] at g; cases g; rw [n1]; exact g1
        · rw [if_neg n1] at g; exact H₂.kept b q g
    · show ((kp.add it oi).add e oe) env.locals = none
      unfold GMap.add; rw [if_neg (Ne.symm heL), if_neg (Ne.symm hiL)]; exact H.nsK
    · intro y es hy
      obtain ⟨us, nn, g, _⟩ := H₁.objOwn hy
      have n1 : ad y ≠ it := fun q' => by rw [q', show ({ s with heap := h₁, toks := tk₁ } : Shared).heap = h₁ from rfl, hI0] at g; cases g
      have n2 : ad y ≠ e := fun q' => by rw [q', show ({ s with heap := h₁, toks := tk₁ } : Shared).heap = h₁ from rfl, hE0] at g; cases g
      refine ⟨?_, (H₂.own y es hy).2⟩
      show ((kp.add it oi).add e oe) (ad y) = none
      unfold GMap.add; rw [if_neg n2, if_neg n1]; exact (H.own y es hy).1
  have hul : us.length = ds.length := hr.length
  have dropKp2 : ∀ {b : Addr} {oi oe : Obj}, ((kp.add it oi).add e oe) b = none → kp b = none := by
    intro b oi oe g
    unfold GMap.add at g
    by_cases n2 : b = e
    · rw [n2]; exact hkI e hE0
    · rw [if_neg n2] at g
      by_cases n1 : b = it
      · rw [n1]; exact hkI it hI0
      · rw [if_neg n1] at g; exact g
  have addKp2 : ∀ {b : Addr} {oi oe q : Obj}, kp b = some q → ((kp.add it oi).add e oe) b = some q := by
    intro b oi oe q g
    have n1 : b ≠ it := fun q' => by rw [q', hkI it hI0] at g; cases g
    have n2 : b ≠ e := fun q' => by rw [q', hkI e hE0] at g; cases g
    unfold GMap.add; rw [if_neg n2, if_neg n1]; exact g
  refine codeAny_forLoop_any (fun k s' => ∃ i σi fz' ad' m' h' tk' oi old, s' = { s with heap := h', toks := tk' } ∧ i ≤ ds.length ∧ k = ds.length + 1 - i ∧ IsEnum h' e it ((i : Nat) : Int) old ∧ h'.get? it = some oi ∧ h'.IsListIter it l i ∧ Ok W env ((kp.add it oi).add e { cls := .type "enumerate", dict := none, data := .fields #[.none, .bool false, .ref it, rawInt ((i : Nat) : Int), .none, old], slots := #[] }) fz₁ σi fz' ad' m' s' ∧
      ForRun (fun d σ o => ∃ (i : Int) (dv : D), d = .tup [.int i, dv] ∧ X W A env (upd (upd σ xi (.val (.int i))) xv (.val dv)) body o) (enumL i (ds.drop i)) σi o) ?_ (ds.length + 1) ⟨0, σ, fz₁, ad, m, h₂, tk₁, oi, .none, rfl, Nat.zero_le _, rfl, hE, hoi, hI, Hb hoi hE, h⟩
  rintro k s' ⟨i, σi, fz', ad', m', h', tk', oi, old, rfl, hin, rfl, hE', hoi', hI', H', r⟩
  have hL' : h'.IsList l us.toArray := by
    obtain ⟨ql, gl, cl, nl, dl⟩ := hL
    have e1 : h₁.get? l = some lq := x₁.inH _ _ hlq
    rw [e1] at gl; cases gl
    exact ⟨lq, H'.fzIn _ _ (H'.fz0 _ _ hlq), cl, nl, dl⟩
  by_cases hlt : i < ds.length
  · obtain ⟨v, hvi, hvv⟩ := hr.get (List.getElem?_eq_getElem hlt)
    have hvi' : us.toArray[i]? = some v := by simpa using hvi
    have heH : e < h'.objs.size := Heap.lt_size hE'
    have hitH : it < h'.objs.size := Heap.lt_size hoi'
    refine wpAny_pyNext_enum_item hE' hI' hL' hvi' hei fun h₃ heo hit₃ ht₃ hz₃ hk₃ => ?_
    refine wpAny_letOwnedTupleGo_enum heo fun h₄ he₄ hs₄ => ?_
    replace hs₄ : Heap.SameBut e h₃ h₄ := hs₄
    have ht₄ : h₄.IsTuple h'.objs.size #[.int i tk', v] := ⟨_, (hs₄.2 _ (Nat.ne_of_gt heH)).trans ht₃, rfl, _, rfl⟩
    have hz₄ : h₄.objs.size = h'.objs.size + 1 := hs₄.1.trans hz₃
    refine wpAny_assign_Tuple F.hh ht₄ rfl rfl fun h₅ hx₅ => ?_
    replace hx₅ : Heap.ExtBut h₄.objs.size h₄ h₅ := hx₅
    have old₅ : ∀ b o, b < h'.objs.size → h₄.get? b = some o → h₅.get? b = some o := fun b o hb x => hx₅ b o (by rw [hz₄]; exact Nat.ne_of_lt (Nat.lt_succ_of_lt hb)) x
    have hE₅ : IsEnum h₅ e it (((i + 1 : Nat) : Nat) : Int) v := by
      have : ((i + 1 : Nat) : Int) = (i : Int) + 1 := by push_cast; rfl
      rw [this]; exact old₅ e _ heH he₄
    have hI₅ : h₅.IsListIter it l (i + 1) := by
      obtain ⟨o3, g3, q3⟩ := hit₃
      exact ⟨o3, old₅ it _ hitH ((hs₄.2 _ (Ne.symm hei)).trans g3), q3⟩
    obtain ⟨oi₅, hoi₅, _⟩ := id hI₅
    have H₅ : Ok W env ((kp.add it oi₅).add e { cls := .type "enumerate", dict := none, data := .fields #[.none, .bool false, .ref it, rawInt ((i + 1 : Nat) : Int), .none, v], slots := #[] }) fz₁ σi fz' ad' m' { s with heap := h₅, toks := tk' + 1 } := by
      refine H'.swapMany (B := [e, it]) (H.wf.mono fun b q g => addKp2 g) ?_ ?_ ?_ ?_ ?_ ?_
      · intro b hb
        rcases List.mem_cons.mp hb with h | h
        · rw [h]; exact ⟨_, GMap.add_self⟩
        · rw [List.mem_singleton.mp h]; exact ⟨oi, by unfold GMap.add; rw [if_neg (Ne.symm hei), if_pos rfl]⟩
      · intro b hb
        rcases List.mem_cons.mp hb with h | h
        · rw [h]; exact hfI e hE0
        · rw [List.mem_singleton.mp h]; exact hfI it hI0
      · intro b hb
        have n2 : b ≠ e := fun q => hb (by rw [q]; exact .head _)
        have n1 : b ≠ it := fun q => hb (by rw [q]; exact .tail _ (.head _))
        unfold GMap.add; rw [if_neg n2, if_neg n1, if_neg n2, if_neg n1]
      · intro x c hc hb
        rcases List.mem_cons.mp hb with h | h
        · exact hcI e hE0 x c hc h
        · exact hcI it hI0 x c hc (List.mem_singleton.mp h)
      · intro b q hb g
        have n2 : b ≠ e := fun q => hb (by rw [q]; exact .head _)
        have n1 : b ≠ it := fun q => hb (by rw [q]; exact .tail _ (.head _))
        exact old₅ b q (Heap.lt_size g) ((hs₄.2 b n2).trans (hk₃ b q n2 n1 g))
      · intro b hb q g
        rcases List.mem_cons.mp hb with h | h
        · rw [h] at g ⊢; rw [GMap.add_self] at g; cases g; exact hE₅
        · have := List.mem_singleton.mp h
          rw [this] at g ⊢
          unfold GMap.add at g; rw [if_neg (Ne.symm hei), if_pos rfl] at g; cases g; exact hoi₅
    rw [List.drop_eq_getElem_cons hlt, enumL] at r
    have store : ∀ (Q : Unit → Shared → Prop) (E : Value → Shared → Prop), (∀ fz'' ad'' m'' h'' tk'', Ok W env ((kp.add it oi₅).add e { cls := .type "enumerate", dict := none, data := .fields #[.none, .bool false, .ref it, rawInt ((i + 1 : Nat) : Int), .none, v], slots := #[] }) fz₁ (upd (upd σi xi (.val (.int i))) xv (.val ds[i])) fz'' ad'' m'' { s with heap := h'', toks := tk'' } → Q () { s with heap := h'', toks := tk'' }) → wpAny W.M A (assignInOrder [assign (.Name xi pi) env, assign (.Name xv pv) env] [.int i tk', v]) Q E { s with heap := h₅, toks := tk' + 1 } := by
      intro Q E kont
      exact (bndl_cons (bnd_asg (asg_name F hxi)) (bndl_cons (bnd_asg (asg_name F hxv)) bndl_nil)) _ _ _ _ _ _ _ _ _ H₅ (.cons (.int _ _) (.cons (hvv.mono H₅.fz0) .nil)) fun fz'' ad'' m'' h'' tk'' H'' => kont fz'' ad'' m'' h'' tk'' H''
    have back : ∀ {σ₂ fz₂ ad₂ m₂ h₆ tk₆}, Ok W env ((kp.add it oi₅).add e { cls := .type "enumerate", dict := none, data := .fields #[.none, .bool false, .ref it, rawInt ((i + 1 : Nat) : Int), .none, v], slots := #[] }) fz₁ σ₂ fz₂ ad₂ m₂ { s with heap := h₆, toks := tk₆ } → IsEnum h₆ e it ((i + 1 : Nat) : Int) v ∧ h₆.get? it = some oi₅ ∧ h₆.IsListIter it l (i + 1) := by
      intro σ₂ fz₂ ad₂ m₂ h₆ tk₆ H₆
      have g1 : h₆.get? it = some oi₅ := H₆.kept _ _ (by unfold GMap.add; rw [if_neg (Ne.symm hei), if_pos rfl])
      refine ⟨H₆.kept _ _ GMap.add_self, g1, ?_⟩
      obtain ⟨o3, g3, q3⟩ := hI₅
      rw [hoi₅] at g3; cases g3
      exact ⟨_, g1, q3⟩
    cases r with
    | next hstep r' =>
      obtain ⟨i', dv, e', hb⟩ := hstep
      cases e'
      refine store _ _ fun fz₆ ad₆ m₆ h₆ tk₆ H₆ => ?_
      refine hb _ _ _ _ _ _ _ _ H₆ fun fz₇ ad₇ m₇ h₇ tk₇ H₇ => ?_
      obtain ⟨b1, b2, b3⟩ := back H₇
      exact ⟨ds.length + 1 - (i + 1), by omega, i + 1, _, fz₇, ad₇, m₇, h₇, tk₇, oi₅, v, rfl, hlt, rfl, b1, b2, b3, H₇, r'⟩
    | ret hstep =>
      obtain ⟨i', dv, e', hb⟩ := hstep
      cases e'
      refine store _ _ fun fz₆ ad₆ m₆ h₆ tk₆ H₆ => ?_
      refine hb _ _ _ _ _ _ _ _ H₆ fun v fz₇ h₇ tk₇ F₇ hv₇ => ?_
      refine p v fz₇ h₇ tk₇ ⟨fun b q g => F₇.kept b q (addKp2 g), F₇.fzIn, fun b q g => F₇.fz0 b q (H₁.fz0 b q g), fun b q g => ?_⟩ hv₇
      rcases F₇.fzNew b q g with h | h
      · exact H₁.fzNew b q h
      · exact .inr (dropKp2 h)
  · have hin' : i = ds.length := by omega
    subst hin'
    have hvi' : us.toArray[ds.length]? = none := by simp [hul]
    refine wpAny_pyNext_enum_end F.hh hE' hI' hL' hvi' fun h₃ he₃ => wpAny_execs_nil ?_
    rw [List.drop_length, enumL] at r
    cases r with
    | nil =>
      replace he₃ : Heap.ExtBut it h' h₃ := he₃
      have nk : ∀ b q, kp b = some q → b ≠ it := fun b q g hb => by rw [hb, hkI it hI0] at g; cases g
      have H₃ : Ok W env ((kp.add e { cls := .type "enumerate", dict := none, data := .fields #[.none, .bool false, .ref it, rawInt ((ds.length : Nat) : Int), .none, old], slots := #[] })) fz₁ σi fz' ad' m' { s with heap := h₃, toks := tk' } := by
        refine H'.swapMany (B := [it]) (H.wf.mono fun b q g => ?_) ?_ ?_ ?_ ?_ ?_ ?_
        · have n2 : b ≠ e := fun q' => by rw [q', hkI e hE0] at g; cases g
          unfold GMap.add; rw [if_neg n2]; exact g
        · intro b hb
          rw [List.mem_singleton.mp hb]; exact ⟨oi, by unfold GMap.add; rw [if_neg (Ne.symm hei), if_pos rfl]⟩
        · intro b hb
          rw [List.mem_singleton.mp hb]; exact hfI it hI0
        · intro b hb
          have n1 : b ≠ it := fun q => hb (by rw [q]; exact .head _)
          unfold GMap.add; rw [if_neg n1]
        · intro x c hc hb
          exact hcI it hI0 x c hc (List.mem_singleton.mp hb)
        · intro b q hb g
          exact he₃ b q (fun q => hb (by rw [q]; exact .head _)) g
        · intro b hb q g
          rw [List.mem_singleton.mp hb] at g
          unfold GMap.add at g; rw [if_neg (Ne.symm hei), hkI it hI0] at g; cases g
      refine p fz' ad' m' h₃ tk' ?_
      exact H₃.dropKp H.wf (hkI e hE0) H₁.fz0 H₁.fzNew
end
section
variable {W : WP} {A : Around} {env : Env} {σ σ' : Sto}
theorem VHs.rep {fz : GMap} {vs : List Value} {ds : List D} (h : VHs fz vs ds) : ∀ n : Nat, VHs fz (List.replicate n vs).flatten (List.replicate n ds).flatten
  | 0 => .nil
  | n + 1 => by
    rw [List.replicate_succ, List.flatten_cons, List.replicate_succ, List.flatten_cons]
    exact VHs.append h (VHs.rep h n)
theorem evF_rep {e₁ e₂ : PySem.Expr} {pos : Pos} {ds : List D} {x : Int} (h₁ : Ev W A env σ e₁ (.lst ds)) (h₂ : Ev W A env σ e₂ (.int x)) (h0 : 0 ≤ x) (hx : x ≤ 256) (hsz : ds.length * x.toNat ≤ 256) : EvF W A env σ (.BinOp e₁ .Mult e₂ pos) (List.replicate x.toNat ds).flatten := by
  intro kp fz₀ fz ad m s Q E H k
  refine wpAny_BinOp (h₁ _ _ _ _ _ _ _ _ H fun v₁ fz₁ s₁ x₁ hv₁ => h₂ _ _ _ _ _ _ _ _ (H.ext x₁) fun v₂ fz₂ s₂ x₂ hv₂ => ?_)
  cases hv₂ with
  | int _ u =>
  obtain ⟨l, vs, rfl, hl, hr⟩ := (hv₁.mono x₂.sub).isList x₂.inH
  obtain ⟨⟨cls, d, data, sl⟩, ho, hcl, k', hd⟩ := id hl
  simp only at hcl hd
  subst hcl hd
  have hsz2 : vs.length * x.toNat ≤ 256 := by rw [hr.length]; exact hsz
  have hsz3 : (vs.length : Int) * (x.toNat : Int) ≤ 256 := by have := Int.ofNat_le.mpr hsz2; simpa using this
  have hsz' : vs.toArray.size * x.toNat ≤ 256 := by simpa [hr.length] using hsz
  refine wpAny_binaryOp_repeat_ref (T := "list") (U := "int") (by decide) ⟨_, ho, rfl⟩ (fun s' => typeIs_int s' x u) noFill_list_mul F.fills_int_mul F.slot_int_rmul repeat_list F.slot_int_index.lookup
    (call_meets F.slot_int_rmul (typeIs_int s₂ x u) F.entry_int_rmul (F.args_int_rmul_2 _ _) (lm_int_rmul_list_any x u l vs.toArray k' d sl)
      ⟨ho, rfl, ⟨_, ho, rfl⟩, call_meets F.slot_list_mul ⟨_, ho, rfl⟩ F.entry_list_mul (F.args_list_mul_2 _ _)
        (lm_list_mul_any l vs.toArray k' d sl x u (by simp [Builtin.List.listFitsIndex]; omega) (by omega) (by simp [Builtin.List.listTooLong, sizeLine]; omega))
        ⟨ho, ?_⟩⟩)
  rw [listMul_foldl_if]
  have f := (x₁.trans x₂).fresh (get_fresh s₂.heap)
  exact k _ _ _ _ _ ((x₁.trans x₂).trans (Ext.push (t := s₂.toks) x₂.inH)) f.1 f.2 (Heap.get?_push_size _ rfl) (VHs.rep hr _)
end
section
variable {W : WP} {A : Around} {env : Env} {σ σ' : Sto}
theorem seq_list_iadd : seqSlot? (.type "list") (dunderI "add") = pure (some (.builtin "list.__iadd__")) := by
  unfold seqSlot?
  rw [F.slot_list_iadd.lookup, pure_bind]
  rw [if_neg (by decide +kernel)]
theorem wpAny_iadd_list {prog : Program} {w : World} {A : Around} {E : Value → Shared → Prop} {s : Shared} {a b : Addr} {xs ys : Array Value} {n k : Nat} {Q : Value → Shared → Prop} (ha : s.heap.get? a = some { cls := .type "list", dict := none, data := .seq xs n, slots := #[] }) (hb : s.heap.get? b = some { cls := .type "list", dict := none, data := .seq ys k, slots := #[] }) (hz : xs.size + ys.size ≤ 100000)
    (hQ : Q (.ref a) { s with heap := s.heap.update a (Obj.mapSeq fun x => x ++ ys), toks := s.toks }) : wpAny (model prog w) A (inplaceOp .Add (.ref a) (.ref b)) Q E s := by
  have hTa : s.TypeIs (.ref a) "list" := ⟨_, ha, rfl⟩
  have hTb : s.TypeIs (.ref b) "list" := ⟨_, hb, rfl⟩
  unfold inplaceOp
  refine wpAny_holding ?_
  have hfi : fillsInplaceSlot (.type "list") "add" (Operator.Add == .Add) = pure false := by
    unfold fillsInplaceSlot
    show (typeLookup (.type "list") (dunderI "add") >>= fun fi => pure (fi.isSome && !isSeqSlot fi)) = pure false
    rw [F.slot_list_iadd.lookup]
    show (pure (!isSeqSlot (some (Value.builtin "list.__iadd__"))) : Sem Bool) = pure false
    rw [show isSeqSlot (some (Value.builtin "list.__iadd__")) = true by decide +kernel]; rfl
  refine wpAny_bind (wpAny_typeOf hTa (wpAny_bind (wpAny_of_eq hfi ?_)))
  show wpAny _ A (if false = true then _ else _) Q E s
  rw [if_neg Bool.false_ne_true]
  refine wpAny_bind (wpAny_binaryOp1_none (nm := "add") hTa hTb noFill_list_add ?_)
  refine wpAny_bind (wpAny_of_eq seq_list_iadd ?_)
  refine wpAny_bind (wpAny_rule ?_)
  refine call_meets F.slot_list_iadd hTa F.entry_list_iadd (F.args_list_iadd_2 _ _) (AutoSeq1.list___iadd___list_list_0 a xs n b ys k (by simp [Builtin.List.listTooLong, sizeLine]; omega) (by rw [sizeLine_eq]; omega) (by rw [sizeLine_eq]; omega)) ⟨ha, hb, hQ⟩
/-- x += e, both lists, x the frame's own, e's fresh -/
theorem x_augL {n : Nat} {x : PySem.Str} {px pos : Pos} {e : PySem.Expr} {xs ys : List D} (F : FOK n A env) (hm : (x, Slot.own xs) ∈ σ) (h : EvF W A env σ e ys) (hz : xs.length + ys.length ≤ 100000) :
    X1 W A env σ (.AugAssign (.Name x px) .Add e pos) (.next (upd σ x (.own (xs ++ ys)))) := by
  intro kp fz₀ fz ad m s Q E H p
  obtain ⟨hxl, hxm, _⟩ := H.vars _ _ hm
  refine wpAny_AugAssign_Name (wpAny_loadName_local F.hk hxl H.ns hxm (h _ _ _ _ _ _ _ _ H fun b ws k' fz₂ s₂ x₂ hb0 hbf hb hv₂ => ?_))
  have H₂ := H.ext x₂
  have hal := H₂.ownNotLoc hm
  obtain ⟨_, hxm2, us, nn, g, hr⟩ := H₂.vars _ _ hm
  refine wpAny_iadd_list g hb (by simp [hr.length, hv₂.length]; omega) ?_
  obtain ⟨h'', tk'', e', _⟩ := id x₂.keeps
  subst e'
  have hsb := sameUpd (h := h'') (a := ad x) (f := Obj.mapSeq fun x => x ++ ws.toArray)
  obtain ⟨nn', hg'⟩ : ∃ nn', (h''.update (ad x) (Obj.mapSeq fun x => x ++ ws.toArray)).get? (ad x) = some { cls := .type "list", data := .seq (us ++ ws).toArray nn' } := by
    refine ⟨if (us.toArray ++ ws.toArray).size == us.toArray.size then nn else nn + 1, (Heap.get?_update_self _ g ?_).trans ?_⟩
    · simp [Obj.mapSeq, Obj.isFreed]
    · rw [← List.append_toArray]; rfl
  have H₃ := H₂.turnOwn (h' := h''.update (ad x) (Obj.mapSeq fun x => x ++ ws.toArray)) (tk := tk'') hm hsb hg' (VHs.append hr hv₂)
  refine wpAny_storeName_local hxl H₃.ns (fun h₄ hn₄ hs₄ => ?_) (by show (env.scope.kind == .class || (env.scope.kind == .module && env.locals != env.globals)) = false; rw [F.hk]; rfl)
  replace hs₄ : Heap.SameBut env.locals (h''.update (ad x) (Obj.mapSeq fun x => x ++ ws.toArray)) h₄ := hs₄
  have em : (fun y => if y = x then some (Value.ref (ad x)) else m y) = m := by
    funext y
    by_cases hy : y = x
    · rw [if_pos hy, hy, hxm]
    · rw [if_neg hy]
  rw [em] at hn₄
  refine p _ _ _ h₄ (tk'' + 1) (H₃.changed (a := env.locals) (tk := tk'' + 1) hs₄ H₃.nsK H₃.nsF hn₄ (fun y c hc => ?_) (fun y sl hy => ?_) fun y ds hy => ⟨ds, hy⟩)
  · obtain ⟨v, o, g1, q⟩ := H₃.cells y c hc
    exact ⟨v, o, (hs₄.2 c (H₃.cellNotLoc hc)).trans g1, q⟩
  · have hl := H₃.vars y sl hy
    cases sl with
    | val d =>
      obtain ⟨v, l, hv⟩ := hl
      refine ⟨v, ?_, hv⟩
      rcases l with ⟨a, b⟩ | ⟨a, c, b, ob, g1, q⟩
      · exact .inl ⟨a, b⟩
      · exact .inr ⟨a, c, b, ob, (hs₄.2 c (H₃.cellNotLoc b)).trans g1, q⟩
    | own es =>
      obtain ⟨a, b, us, n, g1, q⟩ := hl
      exact ⟨a, b, us, n, (hs₄.2 _ (H₃.ownNotLoc hy)).trans g1, q⟩
end
section
abbrev comp2 (elt t1 i1 t2 i2 : PySem.Expr) (scope : Scope) (pos : Pos) : PySem.Expr := .ListComp elt [⟨t1, i1, [], 0⟩, ⟨t2, i2, [], 0⟩] scope pos
theorem compTurn_two0 (elt t1 i1 t2 i2 : PySem.Expr) (scope : Scope) (pos : Pos) (it acc : Value) (env : Env) :
    compTurn (comp2 elt t1 i1 t2 i2 scope pos) 0 it acc env = (do
      standAt i1.pos
      match ← pyNext it with
      | none => pure (.done .next)
      | some v =>
        letOwnedTupleGo t1 it v
        assign t1 env v
        let x ← eval i2 env
        standAt i2.pos
        let x ← foldedSetIterable i2 env x
        let _ ← runOwn (.compStart (comp2 elt t1 i1 t2 i2 scope pos) 1 (← holding [x] (pyIter x)) acc env) env
        again (.compLoop (comp2 elt t1 i1 t2 i2 scope pos) 0 it acc env)) := by rfl
theorem compTurn_two1 (elt t1 i1 t2 i2 : PySem.Expr) (scope : Scope) (pos : Pos) (it acc : Value) (env : Env) :
    compTurn (comp2 elt t1 i1 t2 i2 scope pos) 1 it acc env = (do
      standAt i2.pos
      match ← pyNext it with
      | none => pure (.done .next)
      | some v =>
        letOwnedTupleGo t2 it v
        assign t2 env v
        (do let _ ← call (.builtin "list.append") [acc, ← eval elt env])
        again (.compLoop (comp2 elt t1 i1 t2 i2 scope pos) 1 it acc env)) := by rfl
section
variable {prog : Program} {w : World} {A : Around} {E : Value → Shared → Prop} {R : Result → Shared → Prop} {s : Shared}
theorem codeAny_loop2_in {elt t1 i1 t2 i2 : PySem.Expr} {scope : Scope} {pos : Pos} {it acc : Value} {env : Env} (I : Nat → Shared → Prop)
    (turn : ∀ n s, I n s → wpAny (model prog w) A (pyNext it) (fun r s₁ => match r with
      | none => R (.ok .next) s₁
      | some v => wpAny (model prog w) A (assign t2 env v) (fun _ s₂ =>
          wpAny (model prog w) A (eval elt env) (fun x s₄ =>
              wpAny (model prog w) A (call (.builtin "list.append") [acc, x]) (fun _ s₅ => ∃ m, m < n ∧ I m s₅) (notedBy (model prog w) A env fun e s' => R (.error e) s') s₄) (notedBy (model prog w) A env fun e s' => R (.error e) s') s₂) (notedBy (model prog w) A env fun e s' => R (.error e) s') s₁) (notedBy (model prog w) A env fun e s' => R (.error e) s') s)
    (n : Nat) (h : I n s) (ht : ∀ v, letOwnedTupleGo t2 it v = pure ()) :
    codeAny (model prog w) A (.compLoop (comp2 elt t1 i1 t2 i2 scope pos) 1 it acc env) R s := by
  refine codeAny_loop rfl I (fun n s hI => ?_) n h
  show wpAny _ A ((compTurn (comp2 elt t1 i1 t2 i2 scope pos) 1 it acc env).onRaise (fun x => do noteFrame x env; theTreesLotGoes x)) _ _ s
  refine wpAny_noted ?_
  rw [compTurn_two1]
  refine wpAny_bind (wpAny_standAt (wpAny_bind (wpAny_mono (turn n s hI) (fun r s₁ h₁ => ?_) fun _ _ h' => h')))
  cases r with
  | none => exact wpAny_pure h₁
  | some v =>
    refine wpAny_bind (wpAny_of_eq (ht v) ?_)
    refine wpAny_bind (wpAny_mono h₁ (fun _ s₂ h₂ => ?_) fun _ _ h' => h')
    exact wpAny_bind (wpAny_bind (wpAny_mono h₂ (fun x s₄ h₄ => wpAny_bind (wpAny_mono h₄ (fun _ s₅ h₅ => wpAny_pure (wpAny_pure ⟨rfl, h₅⟩)) fun _ _ h' => h')) fun _ _ h' => h'))
theorem codeAny_loop2_out {elt t1 i1 t2 i2 : PySem.Expr} {scope : Scope} {pos : Pos} {it acc : Value} {env : Env} (I : Nat → Shared → Prop)
    (turn : ∀ n s, I n s → wpAny (model prog w) A (pyNext it) (fun r s₁ => match r with
      | none => R (.ok .next) s₁
      | some v => wpAny (model prog w) A (assign t1 env v) (fun _ s₂ =>
          wpAny (model prog w) A (eval i2 env) (fun x s₃ => wpAny (model prog w) A (pyIter x) (fun it2 s₄ =>
            codeAny (model prog w) A (.compStart (comp2 elt t1 i1 t2 i2 scope pos) 1 it2 acc env) (fun r s' => match r with | .ok f => ∃ m, m < n ∧ I m s' | .error e => cameBackBy (model prog w) A env (notedBy (model prog w) A env fun e s' => R (.error e) s') e s') s₄)
            (notedBy (model prog w) A env fun e s' => R (.error e) s') s₃) (notedBy (model prog w) A env fun e s' => R (.error e) s') s₂) (notedBy (model prog w) A env fun e s' => R (.error e) s') s₁) (notedBy (model prog w) A env fun e s' => R (.error e) s') s)
    (n : Nat) (h : I n s) (ht : ∀ v, letOwnedTupleGo t1 it v = pure ()) (hs : ∀ x, foldedSetIterable i2 env x = pure x) :
    codeAny (model prog w) A (.compLoop (comp2 elt t1 i1 t2 i2 scope pos) 0 it acc env) R s := by
  refine codeAny_loop rfl I (fun n s hI => ?_) n h
  show wpAny _ A ((compTurn (comp2 elt t1 i1 t2 i2 scope pos) 0 it acc env).onRaise (fun x => do noteFrame x env; theTreesLotGoes x)) _ _ s
  refine wpAny_noted ?_
  rw [compTurn_two0]
  refine wpAny_bind (wpAny_standAt (wpAny_bind (wpAny_mono (turn n s hI) (fun r s₁ h₁ => ?_) fun _ _ h' => h')))
  cases r with
  | none => exact wpAny_pure h₁
  | some v =>
    refine wpAny_bind (wpAny_of_eq (ht v) ?_)
    refine wpAny_bind (wpAny_mono h₁ (fun _ s₂ h₂ => ?_) fun _ _ h' => h')
    refine wpAny_bind (wpAny_mono h₂ (fun x s₃ h₃ => wpAny_bind (wpAny_standAt (wpAny_bind (wpAny_of_eq (hs x) (wpAny_bind (wpAny_holding (wpAny_mono h₃ (fun it2 s₄ h₄ => wpAny_bind (wpAny_mono (wpAny_runOwn h₄) (fun _ s₅ h₅ => wpAny_pure ⟨rfl, h₅⟩) fun _ _ h' => h')) fun _ _ h' => h'))))))) fun _ _ h' => h')
theorem codeAny_start2 {elt t1 i1 t2 i2 : PySem.Expr} {scope : Scope} {pos : Pos} {it acc : Value} {env : Env}
    (h0 : codeAny (model prog w) A (.compLoop (comp2 elt t1 i1 t2 i2 scope pos) 1 it acc env) R s)
    (h : wpAny (model prog w) A (pyIter it) (fun it' s' => codeAny (model prog w) A (.compLoop (comp2 elt t1 i1 t2 i2 scope pos) 1 it' acc env) R s')
      (notedBy (model prog w) A env fun x s' => R (.error x) s') s) :
    codeAny (model prog w) A (.compStart (comp2 elt t1 i1 t2 i2 scope pos) 1 it acc env) R s := by
  refine codeAny_of_tree ?_
  show wpAny _ _ ((compStart (comp2 elt t1 i1 t2 i2 scope pos) 1 it acc env).onRaise (fun x => do noteFrame x env; standAt theWindowsPlace)) _ _ s
  refine wpAny_notedAt ?_
  unfold compStart
  show wpAny _ _ (ask >>= _) _ _ s
  refine wpAny_bind (wpAny_askSetting (wpAny_ite ?_))
  split
  · first
      | exact wpAny_bind (wpAny_pure (wpAny_pure (And.intro rfl h0)))
      | exact wpAny_pure (And.intro rfl h0)
  · first
      | exact wpAny_bind (wpAny_rule (wpAny_bind (wpAny_standAt (wpAny_bind (wpAny_mono h (fun it' s' h' => wpAny_pure (And.intro rfl h')) fun _ _ x => x)))))
      | (refine wpAny_bind (wpAny_rule ?_); show wpAny _ _ (standAt i2.pos >>= _) _ _ s; exact wpAny_bind (wpAny_standAt (wpAny_bind (wpAny_mono h (fun it' s' h' => wpAny_pure (And.intro rfl h')) fun _ _ x => x))))
end
end
section
section
variable {W : WP} {A : Around} {env : Env} {σ σ₁ : Sto}
abbrev lstO (us : List Value) (c : Nat) : Obj := { cls := .type "list", data := .seq us.toArray c }
/-- the inner turn -/
def IStep (W : WP) (A : Around) (env : Env) (t : PySem.Expr) (σ₁ : Sto) (elt : PySem.Expr) (d e : D) : Prop :=
  ∃ σ₂, Asg W A env t d σ₁ σ₂ ∧ (∀ p ∈ σ₁, p ∈ σ₂) ∧ Ev W A env σ₂ elt e
set_option maxHeartbeats 1000000 in
theorem comp2_inner {elt t1 i1 t2 i2 : PySem.Expr} {scope : Scope} {pos : Pos} {kp fz₀ fz₁ : GMap} {ad : PySem.Str → Addr} {m : PySem.Str → Option Value} {s : Shared} {us : List Value} {c : Nat} {Dd : Addr} {R : Result → Shared → Prop}
    {I : Addr} {fp wr : List Addr} {nn : Nat} {P : Nat → Value → Prop} {St : Nat → Heap → Prop} {h₂ : Heap} {tk₂ : Nat} {ds es : List D}
    (H : Ok W env (kp.add Dd (lstO us c)) fz₀ σ₁ fz₁ ad m s) (hwf : WF W kp) (hkD : kp Dd = none) (hfD : fz₁ Dd = none) (hcD : ∀ x c, env.cells.lookup x = some c → c ≠ Dd)
    (hI : s.heap.get? I = none) (hk₂ : ∀ b o, s.heap.get? b = some o → h₂.get? b = some o) (K : IterOk W A I fp wr nn P St fz₁ ds) (st₀ : St 0 h₂)
    (hst : All2 (IStep W A env t2 σ₁ elt) ds es) (hz : us.length + ds.length ≤ 100000) (ht : ∀ v, letOwnedTupleGo t2 (.ref I) v = pure ())
    (hR : ∀ fz' ad' m' h' tk' vals c', Ok W env (kp.add Dd (lstO (us ++ vals) c')) fz₀ σ₁ fz' ad' m' { s with heap := h', toks := tk' } → (∀ b o, fz₁ b = some o → fz' b = some o) → VHs fz' vals es → R (.ok .next) { s with heap := h', toks := tk' }) :
    codeAny W.M A (.compLoop (comp2 elt t1 i1 t2 i2 scope pos) 1 (.ref I) (.ref Dd) env) R { s with heap := h₂, toks := tk₂ } := by
  have x₂ : Ext fz₁ s fz₁ { s with heap := h₂, toks := tk₂ } := Ext.heap H.fzIn hk₂
  obtain ⟨oI₀, hoI₀⟩ := K.has _ _ st₀
  have hDI : Dd ≠ I := fun e => by have := H.kept Dd _ GMap.add_self; rw [e, hI] at this; cases this
  have hkaI : ∀ {us c}, (kp.add Dd (lstO us c)) I = none := by
    intro us' c'
    unfold GMap.add; rw [if_neg hDI.symm]
    cases q : kp I with
    | none => rfl
    | some o => have := H.kept I o (by unfold GMap.add; rw [if_neg hDI.symm]; exact q); rw [hI] at this; cases this
  have hkI : kp I = none := by have := hkaI (us := us) (c := c); unfold GMap.add at this; rwa [if_neg hDI.symm] at this
  have hfI : fz₁ I = none := by
    cases q : fz₁ I with
    | none => rfl
    | some o => have := H.fzIn _ _ q; rw [hI] at this; cases this
  have hcI : ∀ x c, env.cells.lookup x = some c → c ≠ I := fun x c h e => by obtain ⟨_, o, g, _⟩ := H.cells x c h; rw [e, hI] at g; cases g
  have wfD : ∀ {us c}, WF W (kp.add Dd (lstO us c)) := fun {us c} => hwf.mono fun b o e => GMap.add_of hkD e
  have wfI : ∀ {o}, WF W (kp.add I o) := fun {o} => hwf.mono fun b q e => GMap.add_of hkI e
  have H₀ : Ok W env ((kp.add Dd (lstO us c)).add I oI₀) fz₁ σ₁ fz₁ ad m { s with heap := h₂, toks := tk₂ } := H.addKp x₂ hI hoI₀
  refine codeAny_loop2_in (fun k s' => ∃ i fz' ad' m' h' tk' oI vals c', s' = { s with heap := h', toks := tk' } ∧ i ≤ nn ∧ k = nn + 1 - i ∧ St i h' ∧ vals.length = i ∧
      Ok W env ((kp.add Dd (lstO (us ++ vals) c')).add I oI) fz₁ σ₁ fz' ad' m' s' ∧ VHs fz' vals (es.take i)) ?_ (nn + 1)
    ⟨0, fz₁, ad, m, h₂, _, oI₀, [], c, rfl, Nat.zero_le _, rfl, st₀, rfl, by rw [List.append_nil]; exact H₀, .nil⟩ ht
  rintro k s' ⟨i, fz', ad', m', h', tk', oI', vals, c', rfl, hin, rfl, st, hul, H', hV⟩
  by_cases hlt : i < nn
  · refine K.walks.item i _ _ _ hlt st fun v h₄ tk₄ hP st₄ keep₄ => ?_
    obtain ⟨dv, hdv, hvv⟩ := K.item i v hlt hP
    obtain ⟨oI₄, hoI₄⟩ := K.has _ _ st₄
    have keep₄' : ∀ b q, b ≠ I → h'.get? b = some q → h₄.get? b = some q := fun b q hb e => keep₄ b q (fun hw => hb (K.wr b hw)) e
    have H₄ : Ok W env ((kp.add Dd (lstO (us ++ vals) c')).add I oI₄) fz₁ σ₁ fz' ad' m' { s with heap := h₄, toks := tk₄ } := H'.swapKp (tk := tk₄) wfD hkaI hfI hcI keep₄' hoI₄
    obtain ⟨ev, hev, σ₂, ha, hsub, hel⟩ := hst.get hdv
    have htake : es.take (i + 1) = es.take i ++ [ev] := by rw [List.take_add_one, hev]; rfl
    refine ha _ _ _ _ _ _ _ _ _ H₄.rebase (hvv.mono H₄.fz0) fun fz₅ ad₅ m₅ h₅ tk₅ H₅ => ?_
    refine hel _ _ _ _ _ _ _ _ H₅ fun y fz₈ s₈ x₈ hy => ?_
    have H₈ := H₅.ext x₈
    obtain ⟨h₉, tk₉, e₉, _⟩ := id x₈.keeps
    subst e₉
    have H₉ := (H₈.unbase H₄.fz0 H₄.fzNew).weaken hsub
    rw [add_comm hDI] at H₉
    have hl : us.length + vals.length ≤ 100000 := by rw [K.len] at hin; omega
    refine wpAny_list_append_plain ⟨c', H₉.kept _ _ GMap.add_self⟩ (fun ha' hp hsb => ?_) (by rw [List.size_toArray, PySem.sizeLine_eq, List.length_append]; omega)
    obtain ⟨c'', g'⟩ := hp
    rw [List.push_toArray, List.append_assoc] at g'
    have hfD1 : fz₁ Dd = none := hfD
    have HA := H₉.swapKp (tk := tk₉) wfI (by unfold GMap.add; rw [if_neg hDI]; exact hkD) hfD1 hcD (fun b q hb e => (hsb.2 b hb).trans e) g'
    rw [← add_comm hDI] at HA
    refine ⟨nn + 1 - (i + 1), by omega, i + 1, fz₈, ad₅, m₅, ha', tk₉, oI₄, vals ++ [y], c'', rfl, hlt, rfl, ?_, by simp [hul], HA, ?_⟩
    · refine K.walks.frame _ _ _ st₄ fun b hb q e => ?_
      rcases K.fp b hb with rfl | ⟨q', hq'⟩
      · rw [hoI₄] at e; cases e; exact HA.kept _ _ GMap.add_self
      · have e1 : h₄.get? b = some q' := H₄.fzIn _ _ (H₄.fz0 _ _ hq')
        rw [e1] at e; cases e
        exact HA.fzIn _ _ (HA.fz0 _ _ hq')
    · rw [htake]
      exact (hV.mono H₈.fz0).append (VHs.cons hy VHs.nil)
  · have hin' : i = nn := by omega
    subst hin'
    refine K.walks.done _ _ _ st fun h₅ tk₅ keep₅ => ?_
    have keep₅' : ∀ b q, b ≠ I → h'.get? b = some q → h₅.get? b = some q := fun b q hb e => keep₅ b q (fun hw => hb (K.wr b hw)) e
    have H₅ : Ok W env (kp.add Dd (lstO (us ++ vals) c')) fz₁ σ₁ fz' ad' m' { s with heap := h₅, toks := tk₅ } := by
      refine H'.swapMany (B := [I]) wfD (fun b hb => ?_) (fun b hb => ?_) (fun b hb => ?_) (fun x cc hc hb => hcI x cc hc (List.mem_singleton.mp hb)) (fun b q hb e => keep₅' b q (fun q' => hb (by rw [q']; exact .head _)) e) (fun b hb q e => ?_)
      · rw [List.mem_singleton.mp hb]; exact ⟨_, GMap.add_self⟩
      · rw [List.mem_singleton.mp hb]; exact hfI
      · have n1 : b ≠ I := fun q' => hb (by rw [q']; exact .head _)
        show _ = GMap.add (kp.add Dd (lstO (us ++ vals) c')) I oI' b
        conv => rhs; unfold GMap.add
        rw [if_neg n1]; rfl
      · rw [List.mem_singleton.mp hb, hkaI] at e; cases e
    have hes : es.take i = es := by
      rw [List.take_of_length_le]
      have := hst.length
      rw [← this, ← K.len]; exact Nat.le_refl _
    rw [hes] at hV
    refine hR fz' ad' m' h₅ tk₅ vals c' (H₅.unbase H.fz0 fun b o e => ?_) H'.fz0 hV
    rcases H.fzNew b o e with h | h
    · exact .inl h
    · right
      unfold GMap.add at h ⊢
      by_cases hb : b = Dd
      · rw [if_pos hb] at h; cases h
      · rw [if_neg hb] at h ⊢; exact h
end
end
section
section
variable {W : WP} {A : Around} {env : Env} {σ σ' : Sto}
theorem VHs.length' {fz : GMap} : ∀ {vs : List Value} {ds : List D}, VHs fz vs ds → vs.length = ds.length
  | _, _, .nil => rfl
  | _, _, .cons _ r => by rw [List.length_cons, List.length_cons, VHs.length' r]
/-- the outer turn -/
def OStep (W : WP) (A : Around) (env : Env) (t : PySem.Expr) (cap : Sto) (t2 i2 elt : PySem.Expr) (d : D) (es : List D) : Prop :=
  ∃ σ₁ d2 ds2, Asg W A env t d cap σ₁ ∧ (∀ p ∈ cap, p ∈ σ₁) ∧ Ev W A env σ₁ i2 d2 ∧ Iter W A d2 ds2 ∧ All2 (IStep W A env t2 σ₁ elt) ds2 es
set_option maxHeartbeats 2000000 in
theorem comp2_core {n : Nat} {elt iter t t2 i2 : PySem.Expr} {scope : Scope} {cl : List (PySem.Str × Addr)} {pos : Pos} {ds : List D} {os : List (List D)} {cap : List (PySem.Str × D)} {RR : Value → Addr → Result → Shared → Prop} {E : Value → Shared → Prop}
    {kp₀ fz₀ fz₁ : GMap} {ad : PySem.Str → Addr} {m : PySem.Str → Option Value} {s₁ : Shared} {I : Addr} {fp wr : List Addr} {nn : Nat} {P : Nat → Value → Prop} {St : Nat → Heap → Prop} {h₂ : Heap} {tk₂ : Nat}
    (F : FOK n A env) (H : Ok W env kp₀ fz₀ σ fz₁ ad m s₁) (hI : s₁.heap.get? I = none) (hk₂ : ∀ b o, s₁.heap.get? b = some o → h₂.get? b = some o) (K : IterOk W A I fp wr nn P St fz₁ ds) (st₀ : St 0 h₂)
    (hcell : ∀ y ∈ scope.names, y.2 ≠ .cell) (hkind : scope.kind = .function) (hcaps : ∀ C, Caps env σ (compEnvC scope cl C env) cap)
    (hstep : ∀ C, FOK n A (compEnvC scope cl C env) → All2 (fun d o => OStep W A (compEnvC scope cl C env) t (cap.map fun p => (p.1, Slot.val p.2)) t2 i2 elt d o) ds os) (hz : os.flatten.length ≤ 100000) (ht : ∀ it v, letOwnedTupleGo t it v = pure ()) (ht2 : ∀ it v, letOwnedTupleGo t2 it v = pure ()) (hs2 : ∀ C x, foldedSetIterable i2 (compEnvC scope cl C env) x = pure x)
    (hRR : ∀ a C us k m' fz h tk, CEnd fz₁ s₁ (os.flatten) a C us k m' fz { s₁ with heap := h, toks := tk } → RR (.ref a) C (.ok .next) { s₁ with heap := h, toks := tk }) :
    wpAny W.M A (newList []) (fun acc s₃ => wpAny W.M A (newFunctionEnv scope env.globals cl [] env.qual none .none (some env)) (fun cenv s₄ =>
      codeAny W.M A (.compStart (comp2 elt t iter t2 i2 scope pos) 0 (.ref I) acc { cenv with scope := relabel scope env }) (RR acc cenv.locals) s₄) E s₃) E { s₁ with heap := h₂, toks := tk₂ } := by
  refine wpAny_newObj_type (wpAny_newFunctionEnv hcell (by intro y hy; simp at hy) (fun h₃ hns₃ hsb₃ => ?_) hkind)
  dsimp only at hns₃ hsb₃ ⊢
  -- the addresses
  have hC : (h₂.push { cls := .type "list", dict := none, data := .seq ([] : List Value).toArray }).objs.size = h₂.objs.size + 1 := by rw [Heap.size_push]
  have lt2 : ∀ b o, h₂.get? b = some o → b < h₂.objs.size := fun b o e => Heap.lt_size e
  have lt1 : ∀ b o, s₁.heap.get? b = some o → b < h₂.objs.size := fun b o e => lt2 b o (hk₂ b o e)
  generalize hCC : (h₂.push { cls := .type "list", dict := none, data := .seq ([] : List Value).toArray }).objs.size = C at *
  generalize hDD : h₂.objs.size = Dd at *
  have hDC : Dd ≠ C := by rw [hC]; exact Nat.ne_of_lt (Nat.lt_succ_self _)
  have none1 : ∀ b, Dd ≤ b → s₁.heap.get? b = none := fun b hb => by
    cases q : s₁.heap.get? b with
    | none => rfl
    | some o => exact absurd (lt1 b o q) (Nat.not_lt.mpr hb)
  have hD1 : s₁.heap.get? Dd = none := none1 _ (Nat.le_refl _)
  have hC1 : s₁.heap.get? C = none := none1 _ (by rw [hC]; exact Nat.le_succ _)
  obtain ⟨oI, hoI⟩ := K.has _ _ st₀
  have hIlt : I < Dd := lt2 _ _ hoI
  have hID : I ≠ Dd := Nat.ne_of_lt hIlt
  have hIC : I ≠ C := Nat.ne_of_lt (by rw [hC]; exact Nat.lt_succ_of_lt hIlt)
  have old : ∀ b o, h₂.get? b = some o → h₃.get? b = some o := fun b o e => hsb₃.extBut b o (Nat.ne_of_lt (by rw [hC]; exact Nat.lt_succ_of_lt (lt2 b o e))) (Heap.get?_push_of_some _ (Heap.get?_push_of_some _ e))
  have hacc : h₃.get? Dd = some { cls := .type "list", data := .seq ([] : List Value).toArray 0 } := by
    refine hsb₃.extBut _ _ hDC (Heap.get?_push_of_some _ ?_)
    rw [← hDD]; exact Heap.get?_push_size _ rfl
  have st₃ : St 0 h₃ := K.walks.frame _ _ _ st₀ fun b _ o e => old b o e
  have keep₃ : ∀ b o, s₁.heap.get? b = some o → h₃.get? b = some o := fun b o e => old b o (hk₂ b o e)
  have kI : ∀ kk : GMap, (∀ b o, kk b = some o → s₁.heap.get? b = some o) → kk I = none ∧ kk Dd = none ∧ kk C = none := fun kk hk => by
    refine ⟨?_, ?_, ?_⟩
    · cases q : kk I with
      | none => rfl
      | some o => have := hk _ _ q; rw [hI] at this; cases this
    · cases q : kk Dd with
      | none => rfl
      | some o => have := hk _ _ q; rw [hD1] at this; cases this
    · cases q : kk C with
      | none => rfl
      | some o => have := hk _ _ q; rw [hC1] at this; cases this
  obtain ⟨fI, fD, fC⟩ := kI fz₁ H.fzIn
  have hcE : ∀ (c : Env), c = compEnvC scope cl C env → True := fun _ _ => trivial
  have FC : FOK n A (compEnvC scope cl C env) := ⟨F.hh, hkind, F.hg, F.hb, F.dp, F.un⟩
  have hst := hstep C FC
  have hcp := hcaps C
  have hwf₁ : WF W (fun b => s₁.heap.get? b) := H.heapWF
  -- the first state
  have cellsOut : ∀ x c, (compEnvC scope cl C env).cells.lookup x = some c → ∃ v, s₁.heap.IsCell c v := fun x c h => H.cells x c (hcp.cells x c h)
  have cne : ∀ x c, (compEnvC scope cl C env).cells.lookup x = some c → c ≠ I ∧ c ≠ Dd := fun x c h => by
    obtain ⟨v, o, g, _⟩ := cellsOut x c h
    exact ⟨(fun e => by rw [e, hI] at g; cases g), (fun e => by rw [e, hD1] at g; cases g)⟩
  have H₃ : Ok W (compEnvC scope cl C env) ((GMap.add (fun b => s₁.heap.get? b) I oI).add Dd { cls := .type "list", data := .seq ([] : List Value).toArray 0 }) fz₁ (cap.map fun p => (p.1, Slot.val p.2)) fz₁ (fun _ => 0) (fun x => List.lookup x ([] : List (PySem.Str × Value)).reverse) { s₁ with heap := h₃, toks := tk₂ + ([] : List (PySem.Str × Value)).length } := by
    refine { wf := hwf₁.mono fun b o e => GMap.add_of (by unfold GMap.add; rw [if_neg hID.symm]; exact hD1) (GMap.add_of hI e), kept := ?_, fzIn := fun b o e => keep₃ b o (H.fzIn b o e), fz0 := fun _ _ e => e, fzNew := fun _ _ e => .inl e, ns := hns₃, nsK := ?_, nsF := fC, cells := ?_, cinj := ?_, cfree := ?_, vars := ?_, own := ?_, inj := ?_ }
    · intro b o e
      unfold GMap.add at e
      by_cases h1 : b = Dd
      · rw [if_pos h1] at e; cases e; rw [h1]; exact hacc
      · rw [if_neg h1] at e
        by_cases h2 : b = I
        · rw [if_pos h2] at e; cases e; rw [h2]; exact old _ _ hoI
        · rw [if_neg h2] at e; exact keep₃ b o e
    · show GMap.add _ _ _ C = none
      unfold GMap.add; rw [if_neg hDC.symm, if_neg hIC.symm]; exact hC1
    · intro x c h
      obtain ⟨v, o, g, q⟩ := cellsOut x c h
      exact ⟨v, o, keep₃ _ _ g, q⟩
    · intro x y c hx hy
      exact H.cinj x y c (hcp.cells x c hx) (hcp.cells y c hy)
    · intro x c hx hl
      obtain ⟨v, o, g, _⟩ := cellsOut x c hx
      have g1 : c < C := Nat.lt_trans (lt1 _ _ g) (by rw [hC]; exact Nat.lt_succ_self _)
      exact absurd g1 (Nat.not_lt.mpr (Nat.le_of_lt hl))
    · intro x sl hx
      obtain ⟨p, hp, e⟩ := List.mem_map.mp hx
      cases e
      obtain ⟨h1, h2, h3, h4⟩ := hcp.caps p hp
      obtain ⟨v, l, hv⟩ := H.vars _ _ h1
      refine ⟨v, ?_, hv⟩
      rcases l with ⟨a, _⟩ | ⟨_, c, b, o, g, q⟩
      · exact absurd a h2
      · exact .inr ⟨.inl h3, c, h4.trans b, o, keep₃ _ _ g, q⟩
    · intro x es hx
      obtain ⟨p, _, e⟩ := List.mem_map.mp hx
      cases e
    · intro x y es es' hx
      obtain ⟨p, _, e⟩ := List.mem_map.mp hx
      cases e
  have loop : ∀ s₃ : Shared, s₃ = { s₁ with heap := h₃, toks := tk₂ + ([] : List (PySem.Str × Value)).length } →
      codeAny W.M A (.compLoop (comp2 elt t iter t2 i2 scope pos) 0 (.ref I) (.ref Dd) (compEnvC scope cl C env)) (RR (.ref Dd) C) s₃ := by
    rintro s₃ rfl
    refine codeAny_loop2_out (fun k s' => ∃ i fz' ad' m' h' tk' oI us c, s' = { s₁ with heap := h', toks := tk' } ∧ i ≤ nn ∧ k = nn + 1 - i ∧ St i h' ∧ us.length = (os.take i).flatten.length ∧
        Ok W (compEnvC scope cl C env) ((GMap.add (fun b => s₁.heap.get? b) I oI).add Dd { cls := .type "list", data := .seq (List.toArray us) c }) fz₁ (cap.map fun p => (p.1, Slot.val p.2)) fz' ad' m' s' ∧ VHs fz' us ((os.take i).flatten)) ?_ (nn + 1)
      ⟨0, fz₁, fun _ => 0, _, h₃, _, oI, [], 0, rfl, Nat.zero_le _, rfl, st₃, by simp, H₃, by simp; exact .nil⟩ (fun v => ht _ v) (hs2 C)
    rintro k s' ⟨i, fz', ad', m', h', tk', oI', us, c, rfl, hin, rfl, st, hul, H', hV⟩
    have hgI : h'.get? I = some oI' := H'.kept _ _ (by unfold GMap.add; rw [if_neg hID, if_pos rfl])
    have hgD : h'.get? Dd = some { cls := .type "list", data := .seq us.toArray c } := H'.kept _ _ GMap.add_self
    by_cases hlt : i < nn
    · refine K.walks.item i _ _ _ hlt st fun v h₄ tk₄ hP st₄ keep₄ => ?_
      obtain ⟨dv, hdv, hvv⟩ := K.item i v hlt hP
      obtain ⟨oI₄, hoI₄⟩ := K.has _ _ st₄
      have keep₄' : ∀ b q, b ≠ I → h'.get? b = some q → h₄.get? b = some q := fun b q hb e => keep₄ b q (fun hw => hb (K.wr b hw)) e
      have H₄ : Ok W (compEnvC scope cl C env) ((GMap.add (fun b => s₁.heap.get? b) I oI₄).add Dd { cls := .type "list", data := .seq us.toArray c }) fz₁ (cap.map fun p => (p.1, Slot.val p.2)) fz' ad' m' { s₁ with heap := h₄, toks := tk₄ } := by
        rw [add_comm hID] at H' ⊢
        have hwfD : WF W (GMap.add (fun b => s₁.heap.get? b) Dd { cls := .type "list", data := .seq us.toArray c }) := hwf₁.mono fun b o e => GMap.add_of hD1 e
        exact H'.swapKp (tk := tk₄) hwfD (by unfold GMap.add; rw [if_neg hID]; exact hI) fI (fun x c h => (cne x c h).1) keep₄' hoI₄
      obtain ⟨es, hov, hcs⟩ := hst.get hdv
      have htake : os.take (i + 1) = os.take i ++ [es] := by rw [List.take_add_one, hov]; rfl
      have stays : ∀ {σ₂ fz₂ ad₂ m₂ h₅ tk₅ us' c'}, Ok W (compEnvC scope cl C env) ((GMap.add (fun b => s₁.heap.get? b) I oI₄).add Dd { cls := .type "list", data := .seq (List.toArray us') c' }) fz₁ σ₂ fz₂ ad₂ m₂ { s₁ with heap := h₅, toks := tk₅ } → St (i + 1) h₅ := by
        intro σ₂ fz₂ ad₂ m₂ h₅ tk₅ us' c' H₅
        refine K.walks.frame _ _ _ st₄ fun b hb q e => ?_
        rcases K.fp b hb with rfl | ⟨q', hq'⟩
        · rw [hoI₄] at e; cases e; exact H₅.kept _ _ (by unfold GMap.add; rw [if_neg hID, if_pos rfl])
        · have e1 : h₄.get? b = some q' := H₄.fzIn _ _ (H₄.fz0 _ _ hq')
          rw [e1] at e; cases e
          exact H₅.fzIn _ _ (H₅.fz0 _ _ hq')
      obtain ⟨σ₁, d2, ds2, ha, hsub, hev2, hit2, hall⟩ := hcs
      refine ha _ _ _ _ _ _ _ _ _ H₄.rebase (hvv.mono H₄.fz0) fun fz₅ ad₅ m₅ h₅ tk₅ H₅ => ?_
      refine hev2 _ _ _ _ _ _ _ _ H₅ fun v2 fz₆ s₆ x₆ hv2 => ?_
      have H₆ := H₅.ext x₆
      obtain ⟨h₇, tk₇, e₇, _⟩ := id x₆.keeps
      subst e₇
      refine hit2 _ _ _ _ _ H₆.fzIn hv2 fun I2 fp2 wr2 nn2 P2 St2 h₂' tk₂' hI2 hk₂' K2 st2 => ?_
      have hwfI : WF W (GMap.add (fun b => s₁.heap.get? b) I oI₄) := hwf₁.mono fun b o e => GMap.add_of hI e
      have hkD : (GMap.add (fun b => s₁.heap.get? b) I oI₄) Dd = none := by unfold GMap.add; rw [if_neg hID.symm]; exact hD1
      have hfD' : fz₆ Dd = none := by
        have hno : fz' Dd = none := by
          cases q : fz' Dd with
          | none => rfl
          | some o =>
            rcases H₄.fzNew Dd o q with h | h
            · rw [fD] at h; cases h
            · rw [GMap.add_self] at h; cases h
        cases q : fz₆ Dd with
        | none => rfl
        | some o =>
          rcases H₆.fzNew Dd o q with h | h
          · rw [hno] at h; cases h
          · rw [GMap.add_self] at h; cases h
      have hlen1 : (os.take i).flatten.length + es.length ≤ 100000 := by
        have e1 : os.flatten.length = (os.take (i + 1)).flatten.length + (os.drop (i + 1)).flatten.length := by
          conv => lhs; rw [← List.take_append_drop (i + 1) os]
          rw [List.flatten_append, List.length_append]
        rw [htake, List.flatten_append, List.length_append] at e1
        have e2 : [es].flatten.length = es.length := by simp
        rw [e2] at e1
        omega
      refine (fun inner => codeAny_start2 inner (K2.walks.self 0 _ _ _ st2 inner)) (comp2_inner H₆ hwfI hkD hfD' (fun x c h => (cne x c h).2) hI2 hk₂' K2 st2 hall ?_ (fun v => ht2 _ v) ?_)
      · rw [← All2.length hall] at hlen1; rw [hul]; exact hlen1
      · intro fz₈ ad₈ m₈ h₈ tk₈ vals c₈ H₈ hsub₈ hv₈
        have fzN : ∀ b o, fz' b = some o → fz₁ b = some o ∨ ((GMap.add (fun b => s₁.heap.get? b) I oI₄).add Dd (lstO (us ++ vals) c₈)) b = none := fun b o e => (H₄.fzNew b o e).imp id fun h => by
          unfold GMap.add at h ⊢
          by_cases hb : b = Dd
          · rw [if_pos hb] at h; cases h
          · rw [if_neg hb] at h ⊢; exact h
        have H₉ := (H₈.unbase H₄.fz0 fzN).weaken hsub
        refine ⟨nn + 1 - (i + 1), by omega, i + 1, fz₈, ad₈, m₈, h₈, tk₈, oI₄, us ++ vals, c₈, rfl, hlt, rfl, stays H₉, ?_, H₉, ?_⟩
        · rw [htake, List.flatten_append, List.length_append, List.length_append, hul, hv₈.length']; simp
        · rw [htake, List.flatten_append]
          have h1 := ((hV.mono H₆.fz0).mono hsub₈).append hv₈
          simpa using h1
    · have hin' : i = nn := by omega
      subst hin'
      refine K.walks.done _ _ _ st fun h₅ tk₅ keep₅ => ?_
      have keep₅' : ∀ b q, b ≠ I → h'.get? b = some q → h₅.get? b = some q := fun b q hb e => keep₅ b q (fun hw => hb (K.wr b hw)) e
      have dom : ∀ b, (((GMap.add (fun b => s₁.heap.get? b) I oI').add Dd { cls := .type "list", data := .seq us.toArray c }) b = none) → b ≠ I ∧ b ≠ Dd ∧ s₁.heap.get? b = none := by
        intro b e
        unfold GMap.add at e
        by_cases h1 : b = Dd
        · rw [if_pos h1] at e; cases e
        · rw [if_neg h1] at e
          by_cases h2 : b = I
          · rw [if_pos h2] at e; cases e
          · rw [if_neg h2] at e; exact ⟨h2, h1, e⟩
      have offF : ∀ b, b = I ∨ b = Dd → fz' b = none := by
        intro b hb
        cases q : fz' b with
        | none => rfl
        | some o =>
          rcases H'.fzNew b o q with h | h
          · rcases hb with rfl | rfl
            · rw [fI] at h; cases h
            · rw [fD] at h; cases h
          · obtain ⟨h1, h2, _⟩ := dom b h
            rcases hb with rfl | rfl
            · exact absurd rfl h1
            · exact absurd rfl h2
      have hos : (os.take i).flatten = os.flatten := by
        rw [List.take_of_length_le]
        have := hst.length
        rw [← this, ← K.len]; exact Nat.le_refl _
      rw [hos] at hV
      refine hRR Dd C us c m' fz' h₅ tk₅ ⟨Keeps.of fun b o e => keep₅' b o (fun hb => by rw [hb, hI] at e; cases e) (H'.kept b o ?_), hD1, hC1, hDC, ?_, keep₅' _ _ hID.symm hgD, hV, H'.fz0, ?_, offF _ (.inr rfl), H'.nsF, ?_⟩
      · have hb1 : b ≠ I := fun hb => by rw [hb, hI] at e; cases e
        have hb2 : b ≠ Dd := fun hb => by rw [hb, hD1] at e; cases e
        unfold GMap.add; rw [if_neg hb2, if_neg hb1]; exact e
      · exact H'.ns.at' fun q e => keep₅' _ _ hIC.symm e
      · intro b o e
        exact keep₅' b o (fun hb => by rw [offF b (.inl hb)] at e; cases e) (H'.fzIn b o e)
      · intro b o e
        exact (H'.fzNew b o e).imp id fun h => (dom b h).2.2
  exact codeAny_compStart_list (loop _ rfl) (K.walks.self 0 _ _ _ st₃ (loop _ rfl))
theorem evF_comp2 {n : Nat} {elt iter t t2 i2 : PySem.Expr} {scope : Scope} {cl : List (PySem.Str × Addr)} {pos : Pos} {d : D} {ds : List D} {os : List (List D)} {cap : List (PySem.Str × D)}
    (F : FOK n A env) (he : Ev W A env σ iter d) (hi : Iter W A d ds) (hclos : closureFor scope env = pure cl) (hcell : ∀ y ∈ scope.names, y.2 ≠ .cell) (hkind : scope.kind = .function) (hnames : ∀ y ∈ scope.names, y.2 = .local → scope.names.lookup y.1 = some .local)
    (hcaps : ∀ C, Caps env σ (compEnvC scope cl C env) cap)
    (hstep : ∀ C, FOK n A (compEnvC scope cl C env) → All2 (fun d o => OStep W A (compEnvC scope cl C env) t (cap.map fun p => (p.1, Slot.val p.2)) t2 i2 elt d o) ds os) (hz : os.flatten.length ≤ 100000)
    (hs : ∀ x, foldedSetIterable iter env x = pure x := by intro _; rfl) (ht : ∀ it v, letOwnedTupleGo t it v = pure () := by intro _ _; rfl)
    (ht2 : ∀ it v, letOwnedTupleGo t2 it v = pure () := by intro _ _; rfl) (hs2 : ∀ C x, foldedSetIterable i2 (compEnvC scope cl C env) x = pure x := by intro _ _; rfl) :
    EvF W A env σ (comp2 elt t iter t2 i2 scope pos) os.flatten := by
  intro kp fz₀ fz ad m s Q E H k
  unfold comp2
  rw [eval_ListComp]
  refine wpAny_comprehension_free (use := none) rfl hs hclos hkind hnames (he _ _ _ _ _ _ _ _ H fun v fz₁ s₁ x₁ hv => hi _ _ _ _ _ x₁.inH hv fun I fp wr nn P St h₂ tk₂ hI hk₂ K st₀ => ?_)
  refine comp2_core (RR := fun acc C => compPost W.M A E none Q acc C) F (H.ext x₁) hI hk₂ K st₀ hcell hkind hcaps hstep hz ht ht2 hs2 ?_
  intro a C us c m' fz' h tk X
  refine ⟨m', X.ns, fun h' hs' => ?_⟩
  have x₂ : Ext fz₁ s₁ fz' { s₁ with heap := h', toks := tk } := by
    refine ⟨⟨h', tk, rfl, fun b o e => ?_⟩, X.sub, fun b o e => ?_, X.new⟩
    · exact hs'.extBut b o (fun q => by rw [q, X.cNew] at e; cases e) (kGet X.keeps e)
    · exact hs'.extBut b o (fun q => by rw [q, X.cF] at e; cases e) (X.inH b o e)
  have ha : s.heap.get? a = none := by
    cases q : s.heap.get? a with
    | none => rfl
    | some o => have := kGet x₁.keeps q; rw [X.aNew] at this; cases this
  exact k a us c fz' _ (x₁.trans x₂) ha X.aF (hs'.extBut _ _ X.ne X.get) X.vals
/-- y = [comprehension], the store exchanged -/
theorem x_comp2 {n : Nat} {y : PySem.Str} {py spos : Pos} {elt iter t t2 i2 : PySem.Expr} {scope : Scope} {cl : List (PySem.Str × Addr)} {pos : Pos} {d : D} {ds : List D} {os : List (List D)} {cap : List (PySem.Str × D)}
    (F : FOK n A env) (he : Ev W A env σ iter d) (hi : Iter W A d ds) (hy : env.kindOf y = some .local) (hsw : swapsWith (.ListComp elt [⟨t, iter, [], 0⟩, ⟨t2, i2, [], 0⟩] scope pos) (some (.Name y py)) spos.line env = pure true)
    (hclos : closureFor scope env = pure cl) (hcell : ∀ y ∈ scope.names, y.2 ≠ .cell) (hkind : scope.kind = .function) (hnames : ∀ y ∈ scope.names, y.2 = .local → scope.names.lookup y.1 = some .local)
    (hcaps : ∀ C, Caps env σ (compEnvC scope cl C env) cap)
    (hstep : ∀ C, FOK n A (compEnvC scope cl C env) → All2 (fun d o => OStep W A (compEnvC scope cl C env) t (cap.map fun p => (p.1, Slot.val p.2)) t2 i2 elt d o) ds os) (hz : os.flatten.length ≤ 100000)
    (hs : ∀ x, foldedSetIterable iter env x = pure x := by intro _; rfl) (ht : ∀ it v, letOwnedTupleGo t it v = pure () := by intro _ _; rfl)
    (ht2 : ∀ it v, letOwnedTupleGo t2 it v = pure () := by intro _ _; rfl) (hs2 : ∀ C x, foldedSetIterable i2 (compEnvC scope cl C env) x = pure x := by intro _ _; rfl) :
    X1 W A env σ (.Assign [.Name y py] (.ListComp elt [⟨t, iter, [], 0⟩, ⟨t2, i2, [], 0⟩] scope pos) spos) (.next (upd σ y (.own (os.flatten)))) := by
  intro kp fz₀ fz ad m s Q E H p
  rw [exec_Assign_Name_used _ _ _ _ hsw]
  refine wpAny_bind (wpAny_standAt (wpAny_bind ?_))
  show wpAny _ A (do let _ ← comprehension (.ListComp elt [⟨t, iter, [], 0⟩, ⟨t2, i2, [], 0⟩] scope pos) scope env _ (newList []) false (eval iter env) (some (assign (.Name y py) env))) _ _ s
  refine wpAny_bind (wpAny_mono (wpAny_comprehension_free (use := some (assign (.Name y py) env)) (Q := fun _ s' => Q .next s') rfl hs hclos hkind hnames
    (he _ _ _ _ _ _ _ _ H fun v fz₁ s₁ x₁ hv => hi _ _ _ _ _ x₁.inH hv fun I fp wr nn P St h₂ tk₂ hI hk₂ K st₀ => ?_)) (fun _ s' hq => wpAny_pure (wpAny_pure hq)) fun _ _ e => e)
  refine comp2_core (RR := fun acc C => compPost W.M A E (some (assign (.Name y py) env)) (fun _ s' => Q .next s') acc C) F (H.ext x₁) hI hk₂ K st₀ hcell hkind hcaps hstep hz ht ht2 hs2 ?_
  intro a C us c m' fz' h tk X
  have H₁ := H.ext x₁
  have x₂ : Ext fz₁ s₁ fz' { s₁ with heap := h, toks := tk } := ⟨X.keeps, X.sub, X.inH, X.new⟩
  have H₂ := H₁.ext x₂
  have N := H₁.newAddr x₂ X.aNew
  have hLC : env.locals ≠ C := fun e => by obtain ⟨o, _, _, ho, _⟩ := H₁.ns; rw [e, X.cNew] at ho; cases ho
  show wpAny _ A (assign (.Name y py) env (.ref a)) _ _ _
  refine wpAny_assign_Name (wpAny_storeName_local hy H₂.ns (fun h' hn hs' => ?_) (by show (env.scope.kind == .class || (env.scope.kind == .module && env.locals != env.globals)) = false; rw [F.hk]; rfl))
  refine ⟨m', X.ns.sameBut hs' (Ne.symm hLC), fun h₃ hs₃ => ?_⟩
  have H₃ := H₂.setOwn (tk := tk + 1) hy hn hs' N.1 X.aF X.get X.vals N.2
  have hkC : ∀ b o, kp b = some o → b ≠ C := fun b o e q => by have := H₁.kept b o e; rw [q, X.cNew] at this; cases this
  obtain ⟨h₁, tk₁, e₁, _⟩ := id x₁.keeps
  subst e₁
  -- the comprehension's own dict may have turned: nothing that we know speaks of it
  have keepC : ∀ b q, b ≠ C → h'.get? b = some q → h₃.get? b = some q := fun b q hb e => hs₃.extBut b q hb e
  have cellC : ∀ x c, env.cells.lookup x = some c → c ≠ C := fun x c h e => by
    obtain ⟨_, o, g, _⟩ := H₁.cells x c h
    rw [e, X.cNew] at g; cases g
  refine p fz' (fun z => if z = y then a else ad z) (fun z => if z = y then some (.ref a) else m z) h₃ (tk + 1) ?_
  refine { H₃ with kept := fun b o e => keepC b o (hkC b o e) (H₃.kept b o e), fzIn := fun b o e => keepC b o (fun q => by rw [q, X.cF] at e; cases e) (H₃.fzIn b o e), ns := H₃.ns.at' fun o e => keepC _ _ hLC e, cells := ?_, vars := ?_ }
  · intro x cc hc
    obtain ⟨v, o, g, q⟩ := H₃.cells x cc hc
    exact ⟨v, o, keepC _ _ (cellC x cc hc) g, q⟩
  · intro x sl hx
    have hl := H₃.vars x sl hx
    cases sl with
    | val d =>
      obtain ⟨v, l, hv⟩ := hl
      refine ⟨v, ?_, hv⟩
      rcases l with ⟨a, b⟩ | ⟨a, cc, b, o, g, q⟩
      · exact .inl ⟨a, b⟩
      · exact .inr ⟨a, cc, b, o, keepC _ _ (cellC x cc b) g, q⟩
    | own es =>
      obtain ⟨a', b, us', nn', g, q⟩ := hl
      refine ⟨a', b, us', nn', keepC _ _ ?_ g, q⟩
      intro e
      rcases mem_upd hx with ⟨rfl, _⟩ | ⟨hn', hx'⟩
      · simp at e; exact X.ne e
      · simp [hn'] at e
        obtain ⟨_, _, g', _⟩ := H₁.objOwn hx'
        rw [e, X.cNew] at g'; cases g'

end
end
section
section
variable {W : WP} {A : Around} {env : Env} {σ σ' : Sto}
theorem op_neB {a b : Bool} : Op2 W A (compareOp .NotEq) (.bool a) (.bool b) (.bool (a != b)) := by
  intro fz s v₁ v₂ Q E hf h₁ h₂ k; cases h₁; cases h₂
  exact SeqAt.RcNeAt.bool_bool a b W.prog W.w E Q (k _ _ _ (Ext.refl hf) (.bool _))
theorem op_eqSI {x : PySem.Str} {b : Int} : Op2 W A (compareOp .Eq) (.str x) (.int b) (.bool false) := by
  intro fz s v₁ v₂ Q E hf h₁ h₂ k; cases h₁; cases h₂
  exact EqMixed.eq_str_int (k _ _ _ (Ext.refl hf) (.bool _))
theorem VH.isTuple {fz : GMap} {s : Shared} {v : Value} {ds : List D} (hf : FzIn fz s) (h : VH fz v (.tup ds)) : ∃ a vs, v = .ref a ∧ s.heap.IsTuple a (List.toArray vs) ∧ VHs fz vs ds := h.isTup hf
def isI (n : Int) : D → Bool
  | .int k => k == n
  | _ => false
theorem op_inIT {n : Int} {ns : List Int} : Op2 W A (compareOp .In) (.int n) (.tup (ns.map D.int)) (.bool (ns.any fun k => k == n)) := by
  intro fz s v₁ v₂ Q E hf h₁ h₂ k
  obtain ⟨a, vs, rfl, l, r⟩ := h₂.isTup hf
  cases h₁ with
  | int _ t =>
    refine SeqAt.in_tupleAt (fun v => match v with | .int m _ => m == n | _ => false) l (fun y hy => ?_) ?_
    · have : ∃ m u, y = .int m u := by
        obtain ⟨l', e1, _⟩ := intsToks r.ints
        subst e1
        obtain ⟨p, _, e⟩ := List.mem_map.mp (by simpa using hy : y ∈ l'.map fun p => Value.int p.1 p.2)
        exact ⟨_, _, e.symm⟩
      obtain ⟨m, u, rfl⟩ := this
      exact SeqAt.EqAt.int_int m u n t
    · have e : (vs.toArray.any fun v => match v with | .int m _ => m == n | _ => false) = ns.any fun k => k == n := by
        obtain ⟨l', e1, e2⟩ := intsToks r.ints
        subst e1
        rw [← e2]
        simp [List.any_map, Function.comp_def]
      rw [e]
      exact k _ _ _ (Ext.refl hf) (.bool _)
theorem op_inST {x : PySem.Str} {ns : List Int} : Op2 W A (compareOp .In) (.str x) (.tup (ns.map D.int)) (.bool false) := by
  intro fz s v₁ v₂ Q E hf h₁ h₂ k
  obtain ⟨a, vs, rfl, l, r⟩ := h₂.isTup hf
  cases h₁ with
  | str _ t =>
    refine SeqAt.in_tupleAt (fun v => false) l (fun y hy => ?_) ?_
    · have : ∃ m u, y = .int m u := by
        obtain ⟨l', e1, _⟩ := intsToks r.ints
        subst e1
        obtain ⟨p, _, e⟩ := List.mem_map.mp (by simpa using hy : y ∈ l'.map fun p => Value.int p.1 p.2)
        exact ⟨_, _, e.symm⟩
      obtain ⟨m, u, rfl⟩ := this
      exact SeqAt.EqAt.int_str m u x t
    · have e : (vs.toArray.any fun v => false) = false := by simp
      rw [e]
      exact k _ _ _ (Ext.refl hf) (.bool _)
/-- a list of strs: where one stands -/
theorem cv_index {ys : List PySem.Str} {x : PySem.Str} {j : Nat} (hj : ys[j]? = some x) (hno : ∀ m y, m < j → ys[m]? = some y → (y == x) = false) (hz : ys.length ≤ 1000) : CallV W A (.builtin "list.index") [.lst (ys.map D.str), .str x] (.int (j : Int)) := by
  intro fz s vs Q E hw hf hvs k
  cases hvs with
  | cons h1 r =>
    cases r with
    | cons h2 r =>
      cases r; cases h2
      cases h1 with
      | @lst a o us n _ eo hcls hdata hr =>
      have hs := hr.strs
      obtain ⟨cls, dd, data, sl⟩ := o
      simp only at hcls hdata
      subst hcls hdata
      have hl := hr.length
      rw [List.length_map] at hl
      have hget : ∀ (m : Nat) (hm : m < us.length), ∃ y t, us[m]? = some (.str y t) ∧ ys[m]? = some y := by
        intro m hm
        have hm' : m < ys.length := by omega
        obtain ⟨v, e1, e2⟩ := hr.get (k := m) (d := D.str ys[m]) (by simp [hm'])
        cases e2
        exact ⟨_, _, e1, List.getElem?_eq_getElem hm'⟩
      have hjl : j < us.length := by
        rcases Nat.lt_or_ge j ys.length with h | h
        · omega
        · rw [List.getElem?_eq_none h] at hj; cases hj
      refine call_meets PySem.F.slot_list_index ⟨_, hf _ _ eo, rfl⟩ PySem.F.entry_list_index (PySem.F.args_list_index_2 _ _)
        (SeqAt.list_indexAt a us.toArray n dd sl (.str x _) (fun v => match v with | .str y _ => y == x | _ => false) j (by simpa using hjl) (by omega) ?_ ?_) ⟨hf _ _ eo, ?_, ?_⟩
      · obtain ⟨y, t, e1, e2⟩ := hget j hjl
        rw [hj] at e2; cases e2
        have : us.toArray[j]'(by simpa using hjl) = .str x t := by
          rw [List.getElem?_eq_getElem hjl] at e1; simpa using e1
        rw [this]; simp
      · intro m hm hmj
        have hm' : m < us.length := by simpa using hm
        obtain ⟨y, t, e1, e2⟩ := hget m hm'
        have : us.toArray[m]'hm = .str y t := by
          rw [List.getElem?_eq_getElem hm'] at e1; simpa using e1
        rw [this]
        exact hno m y hmj e2
      · intro y hy
        obtain ⟨m, hm, e⟩ := List.getElem_of_mem (by simpa using hy : y ∈ us)
        obtain ⟨y', t, e1, e2⟩ := hget m hm
        rw [List.getElem?_eq_getElem hm, e] at e1
        cases e1
        exact SeqAt.EqAt.str_str y' t x _
      · exact k _ _ _ (Ext.toks hf) (.int _ _)
/-- a list's method -/
theorem ev_methL {o : PySem.Expr} {name : PySem.Str} {id : String} {apos pos : Pos} {es : List PySem.Expr} {xs : List D} {ds : List D} {d : D} {pl : Sem Bool} (h : EvF W A env σ o xs) (slot : PySem.Slot "list" name id) (ty : typeOf (.builtin id) = pure (.type "method_descriptor")) (ha : Evs W A env σ es ds)
    (hc : CallV W A (.builtin id) (.lst xs :: ds) d)
    (he : ∀ v : Value, ∀ Q E s, wpAny W.M A (spliced (backTo pos (starEach es env))) (fun vs s₁ => wpAny W.M A (call (.builtin id) (v :: vs)) Q E s₁) E s → wpAny W.M A (callWith pos (.builtin id) [v] (backTo pos (starEach es env)) []) Q E s)
    (hm : eval ((o.Attribute name apos).Call es [] pos) env = (do let ov ← eval o env; standAt apos.atName; let (f, first) ← holding [ov] (getMethod ov name pl); callWith pos f first (backTo pos (starEach es env)) []) := by rfl) :
    Ev W A env σ (.Call (.Attribute o name apos) es [] pos) d := by
  intro kp fz₀ fz ad m s Q E H k
  refine MethodCall_ (pl := pl) (h _ _ _ _ _ _ _ _ H fun a us n fz₁ s₁ x₁ ha0 hf0 ho hv => ?_) hm
  refine getMethod_builtin (T := "list") ⟨_, ho, rfl⟩ PySem.F.plainAttrs_list slot ty (fun b e => by cases e; exact ⟨_, ho, rfl⟩) ?_
  have x₁' := x₁.freeze ha0 hf0 ho
  refine he _ _ _ _ (ha pos _ _ _ _ _ _ _ _ (H.ext x₁') fun vs fz₂ s₂ x₂ hvs => ?_)
  exact hc _ _ _ _ _ ((H.ext x₁').ext x₂).heapWF x₂.inH (.cons (.lst (x₂.sub _ _ GMap.add_self) rfl rfl ((hv.mono fun b q e => GMap.add_of hf0 e).mono x₂.sub)) hvs) fun v' fz' s' x' hv' => k _ _ _ ((x₁'.trans x₂).trans x') hv'
/-- try: the body ends by itself -/
theorem x_try {body : List Stmt} {h₀ : ExceptHandler} {hs : List ExceptHandler} {pos : Pos} {o : Out} (h : X W A env σ body o) : X1 W A env σ (.Try body (h₀ :: hs) [] [] pos) o := by
  intro kp fz₀ fz ad m s Q E H p
  refine wpAny_Try_except ?_
  refine h _ _ _ _ _ _ (fun f s₁ => match f with | Flow.next => wpAny W.M A (execs [] env) Q E s₁ | f => Q f s₁) _ H ?_
  cases o with
  | next σ₁ => exact fun fz ad m h tk H' => wpAny_execs_nil (p _ _ _ _ _ H')
  | ret d => exact fun v fz h tk F hv => p _ _ _ _ F hv
end
end
section
section
variable {W : WP} {A : Around} {env : Env} {σ σ' : Sto}
/-- if c in t: t = t.replace(c, r) -/
def inRep (t c r : PySem.Str) : PySem.Str := if (Builtin.Str.occurrences t c 0 t.length 1).isEmpty then t else Txt.replace t c r
theorem x_ifReplace {n : Nat} {x c r t : PySem.Str} {k1 k7 k8 : Nat} {p1 p2 p3 p4 p5 p6 p7 p8 p9 p10 p11 : Pos} {pl : Sem Bool} (F : FOK n A env) (hm : (x, Slot.val (.str t)) ∈ σ) (hx : env.kindOf x = some .local) (hd : (x == ("__debug__" : PySem.Str)) = false)
    (hcr : (c == r) = false) (hz : t.length + (t.length + 1) * r.length ≤ 16777216)
    (hsw : swapsWith (.Call (.Attribute (.Name x p5) "replace" p6) [.Constant (.str c) k7 p7, .Constant (.str r) k8 p8] [] p9) (some (.Name x p4)) p10.line env = pure false := by rfl)
    (he : eval ((PySem.Expr.Attribute (.Name x p5) "replace" p6).Call [.Constant (.str c) k7 p7, .Constant (.str r) k8 p8] [] p9) env = (do let ov ← eval (.Name x p5) env; standAt p6.atName; let (f, first) ← holding [ov] (getMethod ov "replace" pl); callWith p9 f first (backTo p9 (starEach [.Constant (.str c) k7 p7, .Constant (.str r) k8 p8] env)) []) := by rfl) :
    X1 W A env σ (.If (.Compare (.Constant (.str c) k1 p1) [.In] [.Name x p2] p3) [.Assign [.Name x p4] (.Call (.Attribute (.Name x p5) "replace" p6) [.Constant (.str c) k7 p7, .Constant (.str r) k8 p8] [] p9) p10] [] p11) (.next (upd σ x (.val (.str (inRep t c r))))) := by
  intro kp fz₀ fz ad m s Q E H p
  obtain ⟨v, l, hv⟩ := H.vars _ _ hm
  cases hv with
  | str _ tk =>
    refine wpAny_If (wpAny_isTrue_Compare1 (wpAny_Constant_str ?_) rfl)
    have H₁ := H.ext (Ext.toks (t := s.toks + 1) H.fzIn)
    refine Look.ev F l H₁.ns hd (in_str (wpAny_truthy_bool ?_))
    unfold inRep at p
    by_cases hb : (Builtin.Str.occurrences t c 0 t.length 1).isEmpty = true
    · rw [if_pos hb] at p
      rw [hb, if_neg (by simp)]
      refine wpAny_execs_nil (p fz ad m s.heap (s.toks + 1) ?_)
      refine H₁.weaken fun q hq => ?_
      rcases mem_upd (show (q.1, q.2) ∈ _ from hq) with ⟨h1, h2⟩ | ⟨_, h2⟩
      · have : q = (x, Slot.val (.str t)) := Prod.ext h1 h2
        rw [this]; exact hm
      · exact h2
    · rw [if_neg hb] at p
      have hb' : (Builtin.Str.occurrences t c 0 t.length 1).isEmpty = false := by simpa using hb
      rw [hb', if_pos (by rfl)]
      refine wpAny_execs_cons (wpAny_Assign_Name (MethodCall_ (pl := pl) (Look.ev F l H₁.ns hd (getMethod_builtin (typeIs_str _ _ _) PySem.F.plainAttrs_str PySem.F.slot_str_replace PySem.F.type_str_replace (fun a e => nomatch e) ?_)) he) hsw)
      refine callWith_method1 (e := .Constant (.str c) k7 p7) (rest := [.Constant (.str r) k8 p8]) ?_ rfl rfl
      refine spliced_cons (wpAny_Constant_str (k := k7) (pos := p7) ?_)
      refine spliced_cons (wpAny_Constant_str (k := k8) (pos := p8) ?_)
      refine spliced_nil ?_
      have h1 : (s.toks + 1 : Nat) ≠ 0 := by omega
      have h2 : (s.toks + 1 + 1 : Nat) ≠ 0 := by omega
      have h3 : (s.toks + 1 : Nat) ≠ s.toks + 1 + 1 := by omega
      refine SC.replace (u := s.toks + 1) (v := s.toks + 1 + 1) h1 h2 h3 hcr hz fun t' k => ?_
      have H₂ := H.ext (Ext.toks (t := k) H.fzIn)
      refine wp_store F H₂ (.inl hx) (.str (Txt.replace t c r) t') fun m' h' tk H' => ?_
      exact wpAny_execs_nil (p _ _ _ _ _ H')
/-- a call of what an expression gives -/
theorem ev_callX {n k : Nat} {g : PySem.Expr} {pos : Pos} {e : PySem.Expr} {rest : List PySem.Expr} {f : Addr} {ds : List D} {d : D} {fc : Value} {od : Option Addr} {osl : Array (Option Value)} {fd : FuncData} (F : FOK n A env) (hg : Ev W A env σ g (.fn f))
    (hK : W.K.lookup f = some ⟨fc, od, .func fd, osl⟩) (ha : Evs W A env σ (e :: rest) ds) (hc : CallOk W k f ds d) (hk : k ≤ n) (hne : backTo pos (starEach (e :: rest) env) = (match backTo pos (starEach (e :: rest) env) with | (_, t) :: r => (false, t) :: r | [] => []) := by rfl)
    (hst : starEach (e :: rest) env = (false, eval e env) :: starEach rest env := by rfl)
    (he : eval (.Call g (e :: rest) [] pos) env = (do callWith pos (← eval g env) [] (backTo pos (starEach (e :: rest) env)) (backToKw pos (keywordEach [] env))) := by rfl) :
    Ev W A env σ (.Call g (e :: rest) [] pos) d := by
  intro kp fz₀ fz ad m s Q E H kont
  obtain ⟨hw, Xk, T, hkk⟩ := H.wf
  have kk : ∀ b o, hw.get? b = some o → s.heap.get? b = some o := fun b o e => H.kept _ _ (hkk _ _ e)
  refine Call_ (hg _ _ _ _ _ _ _ _ H fun v fz₁ s₁ x₁ hv => ?_) he
  have H₁ := H.ext x₁
  cases hv with
  | fn _ =>
    refine callWith_function (o := ⟨fc, od, .func fd, osl⟩) (fd := fd) ?_
    have ha' := ha pos
    rw [hst] at ha' ⊢
    refine evalArgs_plain (ha' _ _ _ _ _ _ _ _ H₁ fun vs fz' s' x' hvs => ⟨⟨?_, rfl⟩, ?_⟩)
    · exact kGet x'.keeps (kGet x₁.keeps ((Xk.keeps kk) _ _ hK))
    · rw [List.nil_append]
      have hh := F.hh; have hdp := F.dp; have hun := F.un
      exact hc A F.hh (by omega) (by omega) _ _ _ _ _ (H₁.ext x').heapWF x'.inH hvs fun v fz'' s'' x'' hv' => kont _ _ _ ((x₁.trans x').trans x'') hv'
/-- lists of ints compared -/
theorem op_neL {n : Nat} (F : FOK n A env) {a b : List Int} : Op2 W A (compareOp .NotEq) (.lst (a.map D.int)) (.lst (b.map D.int)) (.bool (a != b)) := by
  intro fz s v₁ v₂ Q E hf h₁ h₂ k
  obtain ⟨l₁, us, rfl, i₁, r₁⟩ := h₁.isList hf
  obtain ⟨l₂, ws, rfl, i₂, r₂⟩ := h₂.isList hf
  obtain ⟨pa, e1, e2⟩ := intsToks r₁.ints
  obtain ⟨pb, e3, e4⟩ := intsToks r₂.ints
  subst e1 e3
  have hun := F.un
  by_cases hlen : pa.length = pb.length
  · have hq := SeqAt.RcNeAt.lists (A := A) (s := s) (e := fun j => (pa.map (·.1)).getD j 0 == (pb.map (·.1)).getD j 0) i₁ i₂ (by simpa using hlen) (by omega) (fun j h1 h2 => by
      have h1' : j < pa.length := by simpa using h1
      have h2' : j < pb.length := by simpa using h2
      have := SeqAt.EqAt.int_int (A := A.in1) (s := s) (pa[j]).1 (pa[j]).2 (pb[j]).1 (pb[j]).2
      simpa [List.getD_eq_getElem?_getD, h1', h2'] using this)
    have e : (!(List.range (pa.map fun p => Value.int p.1 p.2).toArray.size).all fun j => (pa.map (·.1)).getD j 0 == (pb.map (·.1)).getD j 0) = (a != b) := by
      have hl : (pa.map (·.1)).length = (pb.map (·.1)).length := by simpa using hlen
      rw [← e2, ← e4, bne]
      congr 1
      rw [List.size_toArray, List.length_map, ← List.length_map (f := (·.1)) (as := pa)]
      generalize pa.map (·.1) = xs at hl ⊢
      generalize pb.map (·.1) = ys at hl ⊢
      rw [Bool.eq_iff_iff, List.all_eq_true, beq_iff_eq]
      constructor
      · intro h
        refine List.ext_getElem hl fun j h1 h2 => ?_
        have := h j (List.mem_range.mpr h1)
        simpa [List.getD_eq_getElem?_getD, h1, h2] using this
      · rintro rfl j _
        simp
    rw [e] at hq
    exact hq W.prog W.w E Q (k _ _ _ (Ext.refl hf) (.bool _))
  · have hq := SeqAt.RcNeAt.lists_lengths (A := A) (s := s) i₁ i₂ (by simpa using hlen) (by omega)
    have e : true = (a != b) := by
      rw [← e2, ← e4]
      symm
      rw [bne_iff_ne]
      intro h
      have := congrArg List.length h
      exact hlen (by simpa using this)
    rw [e] at hq
    exact hq W.prog W.w E Q (k _ _ _ (Ext.refl hf) (.bool _))
end
end
section
/-- a table of the program's -/
def tabLook (T : List (PySem.Str × Int)) (x : PySem.Str) : Option Int := match T with
  | [] => none
  | (a, n) :: r => if a = x then some n else tabLook r x
abbrev tabD (T : List (PySem.Str × Int)) : List (PyData × PyData) := (T.map fun p => (p.1, PyData.int p.2)).map fun p => (PyData.str p.1, p.2)
theorem lookup_tab (x : PySem.Str) : ∀ T : List (PySem.Str × Int), Spec.lookup (PyData.str x) (tabD T) = (tabLook T x).map PyData.int
  | [] => rfl
  | (a, n) :: r => by
    have ih := lookup_tab x r
    show (if Spec.same (.str a) (.str x) then some (PyData.int n) else Spec.lookup (PyData.str x) (tabD r)) = (if a = x then some n else tabLook r x).map PyData.int
    rw [ih]
    by_cases h : a = x
    · rw [if_pos h, if_pos (by simp [Spec.same, h])]; rfl
    · rw [if_neg h, if_neg (by simp [Spec.same, h])]
section
variable {W : WP} {A : Around} {env : Env} {σ σ' : Sto}
def HasTab (W : WP) (a : Addr) (T : List (PySem.Str × Int)) : Prop := ∀ h : Heap, W.K.In h → StrTab W.prog W.w h a (tabD T)
theorem HasTab.at {a : Addr} {T : List (PySem.Str × Int)} (hT : HasTab W a T) {kp fz₀ fz : GMap} {ad : PySem.Str → Addr} {m : PySem.Str → Option Value} {s : Shared} (H : Ok W env kp fz₀ σ fz ad m s) : StrTab W.prog W.w s.heap a (tabD T) := by
  obtain ⟨hw, Xk, _, hkk⟩ := H.wf
  exact hT _ (Xk.keeps fun b o e => H.kept _ _ (hkk _ _ e))
theorem tr_notInTab {n : Nat} {e : PySem.Expr} {y : PySem.Str} {p pos : Pos} {a : Addr} {T : List (PySem.Str × Int)} {x : PySem.Str} (F : FOK n A env) (hT : HasTab W a T) (hy : env.kindOf y = some .globalImplicit) (hv : nsIn W.K mainGlobals y = some (some (.ref a))) (hd : (y == ("__debug__" : PySem.Str)) = false) (h : Ev W A env σ e (.str x)) :
    Tr W A env σ (.Compare e [.NotIn] [.Name y p] pos) (!(tabLook T x).isSome) := by
  intro kp fz₀ fz ad m s Q E H k
  refine wpAny_isTrue_Compare1 (h _ _ _ _ _ _ _ _ H fun v₁ fz₁ s₁ x₁ hv₁ => ?_) rfl
  have hg : Ev W A env σ (.Name y p) (.fn a) := ev_glob F hy hv hd (fun fz => VH.fn a)
  refine hg _ _ _ _ _ _ _ _ (H.ext x₁) fun v₂ fz₂ s₂ x₂ hv₂ => ?_
  cases hv₁; cases hv₂
  refine notin_strTab (hT.at ((H.ext x₁).ext x₂)) (wpAny_truthy_bool ?_)
  rw [lookup_tab]
  have e : ((tabLook T x).map PyData.int).isSome = (tabLook T x).isSome := by cases tabLook T x <;> rfl
  rw [e]
  exact k _ _ ((x₁.trans x₂).trans (Ext.toks x₂.inH))
def tabOr (T : List (PySem.Str × Int)) (x y : PySem.Str) : D := match tabLook T x with
  | some n => .int n
  | none => .str y
theorem ev_getTab {n : Nat} {e₁ e₂ : PySem.Expr} {y : PySem.Str} {p apos pos : Pos} {a : Addr} {T : List (PySem.Str × Int)} {x z : PySem.Str} {pl : Sem Bool} (F : FOK n A env) (hT : HasTab W a T) (hy : env.kindOf y = some .globalImplicit) (hv : nsIn W.K mainGlobals y = some (some (.ref a))) (hd : (y == ("__debug__" : PySem.Str)) = false) (h₁ : Ev W A env σ e₁ (.str x)) (h₂ : Ev W A env σ e₂ (.str z))
    (hs : starEach [e₁, e₂] env = (false, eval e₁ env) :: starEach [e₂] env := by rfl) (hs1 : starEach [e₂] env = (false, eval e₂ env) :: starEach [] env := by rfl) (hs2 : ((backTo pos (starEach [e₂] env)).any fun x => x.1) = false := by rfl)
    (hm : eval (((PySem.Expr.Name y p).Attribute "get" apos).Call [e₁, e₂] [] pos) env = (do let ov ← eval (.Name y p) env; standAt apos.atName; let (f, first) ← holding [ov] (getMethod ov "get" pl); callWith pos f first (backTo pos (starEach [e₁, e₂] env)) []) := by rfl) :
    Ev W A env σ (.Call (.Attribute (.Name y p) "get" apos) [e₁, e₂] [] pos) (tabOr T x z) := by
  intro kp fz₀ fz ad m s Q E H k
  have hg : Ev W A env σ (.Name y p) (.fn a) := ev_glob F hy hv hd (fun fz => VH.fn a)
  refine MethodCall_ (pl := pl) (hg _ _ _ _ _ _ _ _ H fun v fz₁ s₁ x₁ hv₁ => ?_) hm
  cases hv₁
  have H₁ := H.ext x₁
  refine getMethod_tab_any (knd := PySem.strKind W.prog W.w) (enc := PyData.str) (by rfl) (hT.at H₁) ?_
  refine callWith_method1 (e := e₁) (rest := [e₂]) ?_ hs hs2
  refine evs_cons h₁ (evs_cons h₂ evs_nil hs1) hs pos _ _ _ _ _ _ _ _ H₁ fun vs fz₂ s₂ x₂ hvs => ?_
  cases hvs with
  | cons v1 r =>
    cases r with
    | cons v2 r =>
      cases r
      cases v1; cases v2
      refine call_get2_strTab (hT.at (H₁.ext x₂)) (PyProof.V.Flat.str _ _) fun v hfl => ?_
      rw [lookup_tab] at hfl
      refine k v _ _ ((x₁.trans x₂).trans (Ext.toks x₂.inH)) ?_
      unfold tabOr
      cases ht : tabLook T x with
      | none => rw [ht] at hfl; obtain ⟨t, rfl⟩ := PyProof.V.Flat.str_inv hfl; exact .str _ _
      | some n => rw [ht] at hfl; obtain ⟨t, rfl⟩ := PyProof.V.Flat.int_inv hfl; exact .int _ _
end
end
section
section
variable {W : WP} {A : Around} {env : Env} {σ σ' : Sto}
theorem Ok.addKp' {kp fz₀ fz : GMap} {ad : PySem.Str → Addr} {m : PySem.Str → Option Value} {s : Shared} {I : Addr} {o : Obj} (H : Ok W env kp fz₀ σ fz ad m s) (hkI : kp I = none) (hfI : fz I = none) (hlI : env.locals ≠ I) (hcI : ∀ x c, env.cells.lookup x = some c → c ≠ I) (hoI : ∀ y es, (y, Slot.own es) ∈ σ → ad y ≠ I) (ho : s.heap.get? I = some o) : Ok W env (kp.add I o) fz σ fz ad m s := by
  refine { H with wf := H.wf.mono fun b q e => GMap.add_of hkI e, kept := ?_, fz0 := fun _ _ e => e, fzNew := fun _ _ e => .inl e, nsK := ?_, own := ?_, cfree := fun x c h hl => ⟨by unfold GMap.add; rw [if_neg (hcI x c h)]; exact (H.cfree x c h hl).1, (H.cfree x c h hl).2⟩ }
  · intro b q e
    unfold GMap.add at e
    by_cases hb : b = I
    · rw [if_pos hb] at e; cases e; subst hb; exact ho
    · rw [if_neg hb] at e; exact H.kept b q e
  · show kp.add I o env.locals = none
    unfold GMap.add; rw [if_neg hlI]; exact H.nsK
  · intro y es h
    refine ⟨?_, (H.own y es h).2⟩
    show kp.add I o (ad y) = none
    unfold GMap.add; rw [if_neg (hoI y es h)]; exact (H.own y es h).1
set_option maxHeartbeats 200000 in
/-- x, y = (a fresh list, what e₂ gives) -/
theorem x_tupOwn2 {n : Nat} {ts : List PySem.Expr} {k k2 : Nat} {tp tp2 pos : Pos} {e₁ e₂ : PySem.Expr} {ds : List D} {d : D} {x y : PySem.Str} (F : FOK n A env) (h₁ : EvF W A env σ e₁ ds) (h₂ : Ev W A env σ e₂ d) (hx : env.kindOf x = some .local) (hy : env.kindOf y = some .local) (hxy : x ≠ y)
    (hs : swapsWithSole [.Tuple ts k tp] (.Tuple [e₁, e₂] k2 tp2) pos.line env = pure false) (hw : swappedStores [.Tuple ts k tp] (.Tuple [e₁, e₂] k2 tp2) env = pure (some [x, y]))
    (he : starEach [e₁, e₂] env = (false, eval e₁ env) :: starEach [e₂] env := by rfl) (he2 : starEach [e₂] env = (false, eval e₂ env) :: starEach [] env := by rfl) :
    X1 W A env σ (.Assign [.Tuple ts k tp] (.Tuple [e₁, e₂] k2 tp2) pos) (.next (upd (upd σ y (.val d)) x (.own ds))) := by
  intro kp fz₀ fz ad m s Q E H p
  rw [exec_Assign_arm]
  refine wpAny_bind (wpAny_standAt ?_)
  rw [hs]
  refine wpAny_bind (wpAny_pure ?_)
  rw [if_neg (by decide)]
  refine wpAny_bind (wpAny_Tuple_spliced ?_)
  rw [he]
  refine spliced_cons (h₁ _ _ _ _ _ _ _ _ H fun a us nn fz₁ s₁ x₁ ha hfa hoa hd => ?_)
  rw [he2]
  have H₁ := H.ext x₁
  refine spliced_cons (h₂ _ _ _ _ _ _ _ _ H₁ fun v₂ fz₂ s₂ x₂ hv₂ => ?_)
  refine spliced_nil ?_
  refine And.intro ?_ ?_
  · rw [PySem.sizeLine_eq]; simp
  rw [hw]
  refine wpAny_bind (wpAny_pure ?_)
  have H₂ := H₁.ext x₂
  have hoa₂ : s₂.heap.get? a = some { cls := .type "list", data := .seq us.toArray nn } := kGet x₂.keeps hoa
  have hfa₂ : fz₂ a = none := by
    cases q : fz₂ a with
    | none => rfl
    | some o =>
      rcases x₂.new _ _ q with h | h
      · rw [hfa] at h; cases h
      · rw [hoa] at h; cases h
  have N := H.newAddr x₁ ha
  have hla : env.locals ≠ a := fun e => by obtain ⟨o, _, _, ho, _⟩ := H.ns; rw [e, ha] at ho; cases ho
  have hca : ∀ x c, env.cells.lookup x = some c → c ≠ a := fun x c h e => by obtain ⟨_, o, g, _⟩ := H.cells x c h; rw [e, ha] at g; cases g
  have x₃ : Ext fz₂ s₂ fz₂ { s₂ with heap := s₂.heap.push { cls := .type "tuple", data := .seq (List.toArray [.ref a, v₂]) }, toks := s₂.toks } := Ext.push x₂.inH
  have hT : (s₂.heap.push { cls := .type "tuple", data := .seq (List.toArray [.ref a, v₂]) }).IsTuple s₂.heap.objs.size (List.toArray [.ref a, v₂]) := ⟨_, Heap.get?_push_size _ rfl, rfl, _, rfl⟩
  show wpAny _ A (do rule "assign.swapped-stores"; let items ← unpackItems (.ref s₂.heap.objs.size) [x, y].length none; assignInOrder ([x, y].reverse.map fun n => bindName env n) items.reverse; pure Flow.next) _ _ _
  refine wpAny_bind (wpAny_rule (wpAny_bind ?_))
  have hsz : [x, y].length = (List.toArray [Value.ref a, v₂]).size := rfl
  rw [hsz]
  refine wpAny_unpackItems_tuple F.hh hT fun h' hke => ?_
  have x₄ : Ext fz₂ s₂ fz₂ { s₂ with heap := h', toks := s₂.toks } := Ext.heap x₂.inH fun b o e => hke b o (Nat.ne_of_lt (Heap.lt_size (get_push e))) (get_push e)
  have hoa₄ : h'.get? a = some { cls := .type "list", data := .seq us.toArray nn } := kGet x₄.keeps hoa₂
  have H₄ := (H₂.ext x₄).addKp' N.1 hfa₂ hla hca N.2 hoa₄
  show wpAny _ A (assignInOrder [bindName env y, bindName env x] [v₂, .ref a] >>= _) _ _ _
  refine wpAny_bind ?_
  show wpAny _ A (do holding [.ref a] (bindName env y v₂); assignInOrder [bindName env x] [.ref a]) _ _ _
  refine wpAny_bind (wpAny_holding (wpAny_bindName (wp_store F H₄ (.inl hy) hv₂ fun m' h₅ tk₅ H₅ => ?_)))
  have hoa₅ := H₅.kept _ _ GMap.add_self
  have H₆ := H₅.dropKp H.wf N.1 (H₂.fz0) (H₂.fzNew)
  show wpAny _ A (do holding [] (bindName env x (.ref a)); assignInOrder [] []) _ _ _
  refine wpAny_bind (wpAny_holding (wpAny_bindName (wp_storeOwn F H₆ hx N.1 hfa₂ hoa₅ (hd.mono x₂.sub) (fun z es hz => ?_) fun ad' m'' h₇ tk₇ H₇ => ?_)))
  · rcases mem_upd hz with ⟨_, e⟩ | ⟨_, h⟩
    · cases e
    · exact N.2 z es h
  · show wpAny _ A (pure ()) _ _ _
    refine wpAny_pure (wpAny_pure ?_)
    obtain ⟨h₈, tk₈, e₈, _⟩ := id x₁.keeps
    subst e₈
    obtain ⟨h₉, tk₉, e₉, _⟩ := id x₂.keeps
    subst e₉
    exact p _ _ _ _ _ H₇
end
end
section
section
variable {W : WP} {A : Around} {env : Env} {σ σ' : Sto}
theorem bnd_cell {n : Nat} {x : PySem.Str} {d : D} {c : Addr} (F : FOK n A env) (hx : env.kindOf x = some .cell) (hc : env.cells.lookup x = some c) (hl : env.locals < c) : Bnd W A env (fun v => bindName env x v) d σ (upd σ x (.val d)) := by
  intro kp fz₀ fz ad m s v Q E H hv k
  exact wpAny_bindName (wp_store F H (.inr ⟨hx, c, hc, H.cfree _ _ hc hl⟩) hv fun m' h' tk H' => k _ _ _ _ _ H')
theorem pick_take {fz : GMap} {vs : List Value} {xs : List D} {j : Nat} (hv : VHs fz vs xs) : VHs fz (slicePick vs.toArray none (some (j : Int)) none).toList (xs.take j) := by
  have e : sliceBounds none (some (j : Int)) none vs.toArray.size = (((0 : Nat) : Int), ((min j vs.toArray.size : Nat) : Int), 1) := by
    unfold sliceBounds
    simp
    omega
  rw [kmk_pick_nat _ e]
  have h2 : xs.take j = xs.take (min j vs.toArray.size) := by
    rw [List.size_toArray, hv.length]
    rcases Nat.le_total j xs.length with h | h
    · rw [Nat.min_eq_left h]
    · rw [Nat.min_eq_right h, List.take_of_length_le h, List.take_of_length_le (Nat.le_refl _)]
  rw [h2]
  simpa using hv.take (min j vs.toArray.size)
theorem ev_slTL {value hi : PySem.Expr} {p pos : Pos} {xs : List D} {k : Nat} (h : Ev W A env σ value (.lst xs)) (hl : Ev W A env σ hi (.int (k : Int))) (hz : xs.length ≤ 1000) : Ev W A env σ (.Subscript value (.Slice none (some hi) none p) pos) (.lst (xs.take k)) :=
  ev_sliceL h evp_nil (evp_int hl) (by omega) fun fz vs hv => pick_take hv
end
end
noncomputable abbrev W1 (w : World) (mean : ExcName → Option Value) (mg mb : PySem.Str → Option Value) : WP := ⟨PySem.Challenge.rw_tp0050_01.prog, w, hd.heap_39 w.params, hd.view_39, looseW hd.view_39 [PySem.Str.ofString "EXACT_TOKEN_TYPES"], mean, mg, mb⟩
local macro_rules | `(tactic| walk_at "mem") => `(tactic| first | (with_reducible exact List.mem_cons_self) | (with_reducible exact upd_self) | (with_reducible refine List.mem_cons_of_mem _ ?_; walk_at "mem") | (with_reducible refine upd_of ?_ ?_; (· decide); (· walk_at "mem")))
local macro_rules | `(tactic| walk_at "side") => `(tactic| first | assumption | (exact IntMulOk.of_left (by decide)) | (exact IntMulOk.of_right (by decide)) | (exact PyProof.noPylong_small (by decide)) | decide | omega | (simp; done) | (simp; omega))
local macro_rules | `(tactic| walk_at "op") => `(tactic| first
  | with_reducible exact op_add | with_reducible exact op_sub | with_reducible exact op_eqI | with_reducible exact op_neI | with_reducible exact op_ltI | with_reducible exact op_gtI | with_reducible exact op_leI | with_reducible exact op_eqS | with_reducible exact op_inS | with_reducible exact op_neg | with_reducible exact op_band
  | with_reducible exact op_iaddI | with_reducible exact op_isubI
  | ((with_reducible apply op_mod); (· walk_at "side")) | ((with_reducible apply op_div); (· walk_at "side"); (· walk_at "side")) | ((with_reducible apply op_mul); (· walk_at "side")) | ((with_reducible apply op_pow); (· walk_at "side"); (· walk_at "side")) | ((with_reducible apply op_addS); (· walk_at "side")) | ((with_reducible apply op_addB); (· walk_at "side"))
  | ((with_reducible apply op_addL); (· walk_at "side")) | ((with_reducible apply op_shr); (· walk_at "side")) | ((with_reducible apply op_shl); (· walk_at "side"); (· walk_at "side"); (· walk_at "side")) | ((with_reducible apply op_imulI); (· walk_at "side")) | ((with_reducible apply op_iaddS); (· walk_at "side")))
local macro_rules | `(tactic| walk_at "ev") => `(tactic| first
  | (with_reducible exact ev_int) | (with_reducible exact ev_str) | (with_reducible exact ev_bool) | (with_reducible exact ev_none) | (with_reducible exact ev_byt)
  | ((with_reducible apply ev_name); (· assumption); (· walk_at "mem"); (· decide))
  | ((with_reducible apply ev_bin); (· walk_at "ev"); (· walk_at "ev"); (· walk_at "op"))
  | ((with_reducible apply ev_cmp); (· walk_at "ev"); (· walk_at "ev"); (· walk_at "op"); (· rfl))
  | ((with_reducible apply ev_un); (· walk_at "ev"); (· walk_at "op"))
  | walk_at "ev2")
local macro_rules | `(tactic| walk_at "tr") => `(tactic| first
  | ((with_reducible apply tr_cmp); (· walk_at "ev"); (· walk_at "ev"); (· walk_at "op"); (· rfl))
  | ((with_reducible apply tr_not); (· walk_at "tr"))
  | walk_at "tr2")
local macro_rules | `(tactic| walk_at "names") => `(tactic| (intro n; (repeat' (first | (refine List.forall_mem_cons.mpr ⟨?_, ?_⟩) | (exact List.forall_mem_nil _) | (left; rfl) | (right; exact ⟨rfl, rfl⟩)))))
local macro_rules | `(tactic| walk_at "evs") => `(tactic| first | (with_reducible exact evs_nil) | exact evs_cons (by walk_at "ev") (by walk_at "evs"))
local macro_rules | `(tactic| walk_at "ev2") => `(tactic| first
  | ((with_reducible show Ev _ _ _ _ (PySem.Expr.Call (PySem.Expr.Attribute _ (PySem.Str.ofString "lower") _) _ _ _) _); exact ev_methS0 (by walk_at "ev") PySem.F.slot_str_lower PySem.F.type_str_lower (cv_lower (lower_fits _ (by walk_at "side"))))
  | ((with_reducible show Ev _ _ _ _ (PySem.Expr.Call (PySem.Expr.Name (PySem.Str.ofString "len") _) _ _ _) _); first
      | exact ev_callB (by assumption) rfl rfl boot_len (by decide) (by decide) (by walk_at "evs") (cv_lenS (by walk_at "side"))
      | exact ev_callB (by assumption) rfl rfl boot_len (by decide) (by decide) (by walk_at "evs") (cv_lenL (by walk_at "side")))
  | ((with_reducible show Ev _ _ _ _ (PySem.Expr.Call (PySem.Expr.Name (PySem.Str.ofString "min") _) _ _ _) _); exact ev_callB (by assumption) rfl rfl boot_min (by decide) (by decide) (by walk_at "evs") (cv_min (FOK.hh (by assumption))))
  | ((with_reducible show Ev _ _ _ _ (PySem.Expr.Call (PySem.Expr.Name (PySem.Str.ofString "max") _) _ _ _) _); exact ev_callB (by assumption) rfl rfl boot_max (by decide) (by decide) (by walk_at "evs") (cv_max (FOK.hh (by assumption))))
  | ((with_reducible show Ev _ _ _ _ (PySem.Expr.Call (PySem.Expr.Name (PySem.Str.ofString "range") _) _ _ _) _); first
      | exact ev_callT (by assumption) rfl rfl boot_range (by decide) (by decide) (by walk_at "evs") cv_rng1
      | exact ev_callT (by assumption) rfl rfl boot_range (by decide) (by decide) (by walk_at "evs") cv_rng2
      | exact ev_callT (by assumption) rfl rfl boot_range (by decide) (by decide) (by walk_at "evs") (cv_rng3 (by walk_at "side") (by walk_at "side")))
  | ((with_reducible show Ev _ _ _ _ (PySem.Expr.Call (PySem.Expr.Name (PySem.Str.ofString "int") _) _ _ _) _); exact ev_callT (by assumption) rfl rfl boot_int (by decide) (by decide) (by walk_at "evs") cv_int)
  | ((with_reducible show Ev _ _ _ _ (PySem.Expr.Call (PySem.Expr.Name (PySem.Str.ofString "abs") _) _ _ _) _); exact ev_callB (by assumption) rfl rfl boot_abs (by decide) (by decide) (by walk_at "evs") cv_abs)
  | ((with_reducible show Ev _ _ _ _ (PySem.Expr.Call (PySem.Expr.Name (PySem.Str.ofString "sum") _) _ _ _) _); exact ev_callB (by assumption) rfl rfl boot_sum (by decide) (by decide) (by walk_at "evs") (cv_sum (FOK.hh (by assumption))))
  | ((with_reducible show Ev _ _ _ _ (PySem.Expr.Name _ _) _); first | exact ev_glob (by assumption) rfl rfl (by decide) (fun fz => VH.int _ _) | exact ev_glob (by assumption) rfl rfl (by decide) (fun fz => VH.str _ _) | exact ev_glob (by assumption) rfl rfl (by decide) (fun fz => VH.fn _))
  | walk_at "ev3")
local macro_rules | `(tactic| walk_at "sub") => `(tactic| first | exact List.forall_mem_nil _ | ((refine List.forall_mem_cons.mpr ⟨?_, ?_⟩); (· walk_at "mem"); (· walk_at "sub")))
section
def subC (x y : PySem.Str) : Int := if x == y then 0 else if Txt.lower x == Txt.lower y then 1 else 2

variable (w : World) (mean : ExcName → Option Value) (mg mb : PySem.Str → Option Value)
set_option maxHeartbeats 4000000
theorem subst_ok (x y : PySem.Str) (hx : x.length ≤ 100) (hy : y.length ≤ 100) : CallOk (W1 w mean mg mb) 1 31 [.str x, .str y] (.int (subC x y)) := by
  refine def_ok (names := [PySem.Str.ofString "ch_a", PySem.Str.ofString "ch_b"]) rfl rfl ?_ (by decide) (by walk_at "names") rfl rfl rfl rfl ?_
  · intro vs h
    match vs, h with
    | [a, b], _ => rfl
  · intro A L F
    show X _ _ _ [(PySem.Str.ofString "ch_a", Slot.val (D.str x)), (PySem.Str.ofString "ch_b", Slot.val (D.str y))] _ _
    unfold subC
    by_cases h1 : (x == y) = true
    · rw [if_pos h1]
      exact x_stop (x_if (b := x == y) (by walk_at "tr") (fun _ => x_stop (x_ret (by walk_at "ev"))) fun h => absurd h1 (by rw [h]; decide))
    · rw [if_neg h1]
      refine x_cons (x_if (b := x == y) (by walk_at "tr") (fun h => absurd h h1) fun _ => x_nil) ?_
      by_cases h2 : (Txt.lower x == Txt.lower y) = true
      · rw [if_pos h2]
        exact x_stop (x_if (b := Txt.lower x == Txt.lower y) (by walk_at "tr") (fun _ => x_stop (x_ret (by walk_at "ev"))) fun h => absurd h2 (by rw [h]; decide))
      · rw [if_neg h2]
        exact x_cons (x_if (b := Txt.lower x == Txt.lower y) (by walk_at "tr") (fun h => absurd h h2) fun _ => x_nil) (x_stop (x_ret (by walk_at "ev")))
end
section
theorem cv_divmod {W : WP} {A : Around} {a b : Int} (hb : b ≠ 0) (hp : Builtin.divisionGoesByPylong a b = false) : CallV W A (.builtin "divmod") [.int a, .int b] (.tup [.int (a.fdiv b), .int (a.fmod b)]) := by
  intro fz s vs Q E hw hf hvs k
  cases hvs with
  | cons h1 r =>
    cases r with
    | cons h2 r =>
      cases r; cases h1; cases h2
      refine divmod_int hb ?_ (.inl hp)
      have f := (Ext.refl hf).fresh (get_fresh s.heap)
      exact k _ _ _ ((Ext.push (t := s.toks + 1 + 1) hf).freeze f.1 f.2 (Heap.get?_push_size _ rfl)) (.tup (vs := [_, _]) GMap.add_self (.cons (.int _ _) (.cons (.int _ _) .nil)))

/-- the letters of a number -/
def apGo : Nat → Nat → List UInt8 → List UInt8
  | 0, _, acc => acc
  | f + 1, n, acc => if n = 0 then acc else apGo f (n / 16) (UInt8.ofNat (65 + n % 16) :: acc)
abbrev apB : Array UInt8 := [65, 66, 67, 68, 69, 70, 71, 72, 73, 74, 75, 76, 77, 78, 79, 80].toArray
theorem picked16 : ∀ m : Nat, m < 16 → KBy.picked apB (some (m : Int)) (some ((m : Int) + 1)) = [UInt8.ofNat (65 + m)].toArray ∧ KBy.whole apB (some (m : Int)) (some ((m : Int) + 1)) = false := by decide +kernel

variable (w : World) (mean : ExcName → Option Value) (mg mb : PySem.Str → Option Value)
set_option maxHeartbeats 4000000
theorem ap_ok (i : Int) (f : Nat) (hf : i.natAbs < 16 ^ f) (hi : i.natAbs < 2 ^ 60) (hf2 : f ≤ 100) : CallOk (W1 w mean mg mb) 1 21 [.int i] (.byt (apGo f i.natAbs []).toArray) := by
  refine def_ok (names := [PySem.Str.ofString "num"]) rfl rfl ?_ (by decide) (by walk_at "names") rfl rfl rfl rfl ?_
  · intro vs h
    match vs, h with
    | [a], _ => rfl
  · intro A L F
    show X _ _ _ [(PySem.Str.ofString "num", Slot.val (D.int i))] _ _
    refine x_cons (x_assign F (by walk_at "ev") rfl) ?_
    refine x_cons (x_assign F (by walk_at "ev") rfl) ?_
    refine x_cons (x_assign (d := .int (i.natAbs : Int)) F ?_ rfl) ?_
    · have : (i.natAbs : Int) = if i < 0 then -i else i := by split <;> omega
      rw [this]
      walk_at "ev"
    refine x_cons (σ₁ := [(PySem.Str.ofString "num", Slot.val (D.int ((0 : Nat) : Int))), (PySem.Str.ofString "val", Slot.val (D.byt (apGo f i.natAbs []).toArray)), (PySem.Str.ofString "AP", Slot.val (D.byt apB))]) ?_ (x_stop (x_ret (by walk_at "ev")))
    refine x1_weak (σ' := [(PySem.Str.ofString "num", Slot.val (D.int (i.natAbs : Int))), (PySem.Str.ofString "val", Slot.val (D.byt ([] : List UInt8).toArray)), (PySem.Str.ofString "AP", Slot.val (D.byt apB))]) ?_ ?_
    · walk_at "sub"
    refine x_while (n := 2 * f) ?_
    have hz : ([] : List UInt8).length + f ≤ 100 := by simp; omega
    generalize i.natAbs = n at hf hi ⊢
    generalize ([] : List UInt8) = acc at hz ⊢
    clear hf2
    induction f generalizing n acc with
    | zero =>
      have : n = 0 := by simpa using hf
      subst this
      exact .stop (tr_val (by walk_at "ev") truth_int)
    | succ f ih =>
      by_cases h0 : n = 0
      · subst h0
        rw [apGo, if_pos rfl]
        exact .stop (tr_val (by walk_at "ev") truth_int)
      · rw [apGo, if_neg h0]
        have hne : ((n : Int) != 0) = true := by simp [h0]
        have hdiv : ((n : Int).fdiv 16) = ((n / 16 : Nat) : Int) := by rw [Int.fdiv_eq_ediv_of_nonneg _ (by decide)]; rfl
        have hmod : ((n : Int).fmod 16) = ((n % 16 : Nat) : Int) := by rw [Int.fmod_eq_emod_of_nonneg _ (by decide)]; rfl
        obtain ⟨p1, p2⟩ := picked16 (n % 16) (Nat.mod_lt _ (by decide))
        refine WhileRun.next (σ₁ := [(PySem.Str.ofString "num", Slot.val (D.int ((n / 16 : Nat) : Int))), (PySem.Str.ofString "val", Slot.val (D.byt (UInt8.ofNat (65 + n % 16) :: acc).toArray)), (PySem.Str.ofString "AP", Slot.val (D.byt apB))]) (n := 2 * f + 1) (by rw [← hne]; exact tr_val (by walk_at "ev") truth_int) ?_ (.weak (fun _ h => h) (ih (n / 16) (by rw [Nat.pow_succ] at hf; omega) (by omega) _ (by rw [List.length_cons]; omega)))
        have e : (UInt8.ofNat (65 + n % 16) :: acc).toArray = KBy.picked apB (some ((n % 16 : Nat) : Int)) (some (((n % 16 : Nat) : Int) + 1)) ++ acc.toArray := by rw [p1]; simp
        have cv : ∀ A, CallV (W1 w mean mg mb) A (.builtin "divmod") [.int (n : Int), .int 16] (.tup [.int ((n / 16 : Nat) : Int), .int ((n % 16 : Nat) : Int)]) := fun A => by
          rw [← hdiv, ← hmod]; exact cv_divmod (by decide) (PyProof.noPylong_small (by decide))
        refine x_cons (x_tup F.hh (ev_callB F rfl rfl boot_divmod (by decide) (by decide) (by walk_at "evs") (cv A)) rfl (bndl_cons (asg_name F rfl) (bndl_cons (asg_name F rfl) bndl_nil)) rfl rfl rfl rfl) ?_
        refine x_weakO (x_cons (x_assign (d := .byt (UInt8.ofNat (65 + n % 16) :: acc).toArray) F ?_ rfl) x_nil) (by walk_at "sub")
        rw [e]
        refine ev_bin (ev_sliceB (by walk_at "ev") (evp_int (by walk_at "ev")) (evp_int (by walk_at "ev")) p2 ?_) (by walk_at "ev") (op_addB ?_)
        · rw [p1]; simp
        · rw [p1]; simp; omega
end
section
abbrev S (l : List Nat) : PySem.Str := ⟨l.toArray⟩
theorem S_append (a b : List Nat) : S a ++ S b = S (a ++ b) := by
  show PySem.Str.mk (a.toArray ++ b.toArray) = _
  simp
theorem join_S : ∀ l : List (List Nat), Txt.join (PySem.Str.ofString "") (l.map S) = S l.flatten := by
  intro l
  show Builtin.Str.glued (PySem.Str.ofString "") (l.map S) = _
  rw [StrLaws.glued_eq_join]
  induction l with
  | nil => rfl
  | cons a r ih =>
    cases r with
    | nil => simp [PySem.Str.join]
    | cons b r =>
      rw [List.map_cons, List.map_cons, PySem.Str.join]
      rw [List.map_cons] at ih
      rw [ih]
      have e : PySem.Str.ofString "" = S [] := rfl
      rw [e, S_append, S_append]
      simp
      intro h; cases h
theorem flat_ones : ∀ l : List Nat, (l.map fun c => [c]).flatten = l
  | [] => rfl
  | c :: l => by rw [List.map_cons, List.flatten_cons, flat_ones l]; rfl
theorem join_chars (l : List Nat) : Txt.join (PySem.Str.ofString "") (l.map fun c => S [c]) = S l := by
  have := join_S (l.map fun c => [c])
  rw [List.map_map] at this
  rw [flat_ones] at this
  exact this

def numP (l : List Nat) (a : Nat) : Nat := l.foldl (fun a k => 16 * a + k) a
theorem numP_lt : ∀ (l : List Nat) (a n : Nat), (∀ k ∈ l, k < 16) → a < 16 ^ n → numP l a < 16 ^ (n + l.length)
  | [], a, n, _, h => by simpa [numP] using h
  | k :: l, a, n, hk, h => by
    have h1 : k < 16 := hk k (.head _)
    have := numP_lt l (16 * a + k) (n + 1) (fun x hx => hk x (.tail _ hx)) (by rw [Nat.pow_succ]; omega)
    rw [List.length_cons, show n + (l.length + 1) = n + 1 + l.length by omega]
    exact this

theorem apGo_len : ∀ (f n : Nat) (acc : List UInt8), (apGo f n acc).length ≤ f + acc.length
  | 0, n, acc => by simp [apGo]
  | f + 1, n, acc => by
    unfold apGo
    split
    · omega
    · have := apGo_len f (n / 16) (UInt8.ofNat (65 + n % 16) :: acc)
      rw [List.length_cons] at this; omega
theorem sum_ones {α : Type} (l : List α) (g : α → PySem.Str) (h : ∀ a, (g a).length = 1) : ((l.map g).map (·.length)).sum = l.length := by
  induction l with
  | nil => rfl
  | cons a l ih => rw [List.map_cons, List.map_cons, List.sum_cons, ih, h]; simp; omega

variable (w : World) (mean : ExcName → Option Value) (mg mb : PySem.Str → Option Value)
set_option maxHeartbeats 4000000
theorem word_ok (l : List Nat) (hk : ∀ k ∈ l, k < 16) (hl : l.length ≤ 15) : CallOk (W1 w mean mg mb) 2 118 [.lst (l.map fun k : Nat => .int (k : Int))] (.str (S ((apGo 15 (numP l 0) []).map UInt8.toNat))) := by
  refine def_ok (names := [PySem.Str.ofString "steps"]) rfl rfl ?_ (by decide) (by walk_at "names") rfl rfl rfl rfl ?_
  · intro vs h
    match vs, h with
    | [a], _ => rfl
  · intro A L F
    show X _ _ _ [(PySem.Str.ofString "steps", Slot.val (D.lst (l.map fun k : Nat => D.int (k : Int))))] _ _
    refine x_cons (x_assign F (by walk_at "ev") rfl) ?_
    refine x_cons (σ₁ := [(PySem.Str.ofString "number", Slot.val (D.int (numP l 0 : Nat))), (PySem.Str.ofString "steps", Slot.val (D.lst (l.map fun k : Nat => D.int (k : Int))))]) ?_ ?_
    · refine x1_weak (σ' := [(PySem.Str.ofString "number", Slot.val (D.int 0)), (PySem.Str.ofString "steps", Slot.val (D.lst (l.map fun k : Nat => D.int (k : Int))))]) (by walk_at "sub") ?_
      refine x_for (ds := l.map fun k : Nat => D.int (k : Int)) (by walk_at "ev") (iter_list F.hh) ?_
      change ForRun _ _ [(PySem.Str.ofString "number", Slot.val (D.int ((0 : Nat) : Int))), _] _
      generalize D.lst (l.map fun k : Nat => D.int (k : Int)) = dl
      clear hl
      generalize (0 : Nat) = a
      induction l generalizing a with
      | nil => exact .nil
      | cons k l ih =>
        refine ForRun.next (σ₁ := [(PySem.Str.ofString "number", Slot.val (D.int ((16 * a + k : Nat) : Int))), (PySem.Str.ofString "steps", Slot.val dl)]) ⟨_, asg_name F rfl, x_weakO (x_cons (x_assign (d := .int ((16 * a + k : Nat) : Int)) F ?_ rfl) x_nil) (by walk_at "sub")⟩ (ih (fun x hx => hk x (.tail _ hx)) (16 * a + k))
        have e : ((16 * a + k : Nat) : Int) = 16 * (a : Int) + k := by simp
        rw [e]
        walk_at "ev"
    · have hn := numP_lt l 0 0 hk (by decide)
      have hp : 16 ^ (0 + l.length) ≤ 16 ^ 15 := Nat.pow_le_pow_right (by decide) (by omega)
      have he : (16 : Nat) ^ 15 ≤ 2 ^ 60 := by decide
      have hc := ap_ok w mean mg mb ((numP l 0 : Nat) : Int) 15 (by simp; omega) (by simp; omega) (by decide)
      have hlen := apGo_len 15 (numP l 0) []
      rw [Int.natAbs_natCast] at hc
      rw [List.length_nil] at hlen
      generalize apGo 15 (numP l 0) [] = bs at hc hlen ⊢
      refine x_stop (x_ret (ev_methS1 (by walk_at "ev") PySem.F.slot_str_join PySem.F.type_str_join (evs_cons (d := .lst ((bs.map fun c => S [c.toNat]).map D.str)) ?_ evs_nil) ?_))
      · have eo : ((bs.map fun c => S [c.toNat]).map D.str) = (bs.map fun c => some (D.str (S [c.toNat]))).filterMap id := by
          clear hc hlen
          induction bs with
          | nil => rfl
          | cons b bs ih => rw [List.map_cons, List.map_cons, List.map_cons, ih]; rfl
        rw [eo]
        refine (evF_comp F (cl := []) (cap := []) (ds := bs.map fun c => D.int (c.toNat : Int)) (ev_call F rfl rfl (by decide) rfl (by walk_at "evs") hc (by omega)) (iter_byt F.hh) rfl (by decide) rfl (by decide) ?_ ?_ ?_).ev
        · exact fun C => ⟨fun x c h => by simp [compEnvC] at h, fun p hp => nomatch hp⟩
        · intro C FC
          refine All2.map _ _ fun c _ => ?_
          have e : D.str (S [c.toNat]) = D.str ⟨#[((c.toNat : Int)).toNat]⟩ := by rw [Int.toNat_natCast]
          rw [e]
          have hc8 : c.toNat < 256 := c.toNat_lt
          generalize c.toNat = cn at hc8 ⊢
          exact ⟨_, asg_name FC rfl, fun p hp => by simp at hp, tst_nil, ev_callB FC rfl rfl boot_chr (by decide) (by decide) (by walk_at "evs") (cv_chr (a := (cn : Int)) (by omega) (by omega))⟩
        · rw [List.length_map]; omega
      · have e : S (bs.map UInt8.toNat) = Txt.join (PySem.Str.ofString "") (bs.map fun c => S [c.toNat]) := by
          rw [← join_chars, List.map_map]; rfl
        rw [e]
        refine cv_join ?_
        rw [sum_ones _ _ (fun a => rfl), List.length_map]
        have h0 : (PySem.Str.ofString "").length = 0 := rfl
        rw [h0]; omega
end
section
theorem S_len (l : List Nat) : (S l).length = l.length := by simp [S, PySem.Str.length]
theorem sl_from (l : List Nat) (p : Nat) (h : p ≤ l.length) : Txt.slice (S l) (some (p : Int)) none = S (l.drop p) := by
  have := beq_iff_eq.mp (slice_closes_from (x := S l) (i := (p : Int)) ⟨by omega, by simpa using h⟩)
  rw [this]
  have e : (((S l).cps.toList.length : Int) - (p : Int)).toNat = l.length - p := by simp [S]
  rw [e]
  show S ((l.drop (p : Int).toNat).take (l.length - p)) = _
  rw [Int.toNat_natCast, List.take_of_length_le (by rw [List.length_drop]; exact Nat.le_refl _)]
theorem sl_upto (l : List Nat) (p : Nat) (h : p ≤ l.length) : Txt.slice (S l) none (some (p : Int)) = S (l.take p) := by
  have := beq_iff_eq.mp (slice_closes_to (x := S l) (j := (p : Int)) ⟨by omega, by simpa using h⟩)
  rw [this]; simp
theorem sl_neg (l : List Nat) (q : Nat) (h : q ≤ l.length) (h0 : 0 < q) : Txt.slice (S l) none (some (-(q : Int))) = S (l.take (l.length - q)) := by
  have := beq_iff_eq.mp (slice_closes_to_neg (x := S l) (j := -(q : Int)) (k := (l.length : Int) - q) (by omega) (by rw [S_len]; omega) (by rw [S_len]; omega))
  rw [this]
  have e : ((l.length : Int) - (q : Int) - 0).toNat = l.length - q := by omega
  rw [e]; simp
theorem idx_all (n : Nat) : Builtin.Str.strSliceIndices none none 1 n = Builtin.Str.strSliceIndices none (some (n : Int)) 1 n := by
  unfold Builtin.Str.strSliceIndices
  have : ¬ ((n : Int) < 0) := by omega
  simp [this]
theorem idx_over (n p : Nat) (h : n ≤ p) : Builtin.Str.strSliceIndices none (some (p : Int)) 1 n = Builtin.Str.strSliceIndices none (some (n : Int)) 1 n := by
  unfold Builtin.Str.strSliceIndices
  have h1 : ¬ ((n : Int) < 0) := by omega
  have h2 : ¬ ((p : Int) < 0) := by omega
  have h3 : min (p : Int) n = n := by omega
  simp [h1, h2, h3]
theorem sl_all (l : List Nat) : Txt.slice (S l) none none = S l := by
  have h := sl_upto l l.length (Nat.le_refl _)
  rw [List.take_length] at h
  unfold Txt.slice at h ⊢
  rw [S_len] at h ⊢
  rw [idx_all]; exact h
theorem sl_over (l : List Nat) (p : Nat) (h : l.length ≤ p) : Txt.slice (S l) none (some (p : Int)) = S l := by
  have h' := sl_upto l l.length (Nat.le_refl _)
  rw [List.take_length] at h'
  unfold Txt.slice at h' ⊢
  rw [S_len] at h' ⊢
  rw [idx_over _ _ h]; exact h'
theorem sl_fromOver (l : List Nat) (p : Nat) (h : l.length ≤ p) : Txt.slice (S l) (some (p : Int)) none = S [] := by
  have := slice_beyond (x := S l) (i := (p : Int)) (by rw [S_len]; omega)
  rw [this]; rfl
theorem it_pos (l : List Nat) (p : Nat) (c : Nat) (h : l[p]? = some c) : Txt.charAt (S l) (p : Int) = some c := by
  have hp : p < l.length := by
    rcases Nat.lt_or_ge p l.length with h' | h'
    · exact h'
    · rw [List.getElem?_eq_none h'] at h; cases h
  unfold Txt.charAt seqIndex?
  rw [S_len]
  have e : ((if (p : Int) < 0 then (p : Int) + l.length else (p : Int))) = (p : Int) := by rw [if_neg (by omega)]
  rw [e, if_pos (by simp; omega)]
  simpa using h
theorem it_neg (l : List Nat) (q : Nat) (c : Nat) (h : l.reverse[q]? = some c) : Txt.charAt (S l) (-(q : Int) - 1) = some c := by
  have hq : q < l.length := by
    rcases Nat.lt_or_ge q l.length with h' | h'
    · exact h'
    · rw [List.getElem?_eq_none (by simpa using h')] at h; cases h
  unfold Txt.charAt seqIndex?
  rw [S_len]
  have e : ((if (-(q : Int) - 1) < 0 then (-(q : Int) - 1) + l.length else (-(q : Int) - 1))) = ((l.length - 1 - q : Nat) : Int) := by rw [if_pos (by omega)]; omega
  rw [e, if_pos (by simp; omega)]
  rw [List.getElem?_reverse hq] at h
  simpa using h
theorem it_item (l : List Nat) (i : Int) (c : Nat) (h : Txt.charAt (S l) i = some c) : Txt.item (S l) i = S [c] := by
  unfold Txt.item; rw [h]; rfl
end
section
abbrev dN (k : Nat) : D := D.int (k : Int)
abbrev N (s : String) : PySem.Str := PySem.Str.ofString s
def cpre : List Nat → List Nat → Nat
  | a :: as, b :: bs => if a = b then cpre as bs + 1 else 0
  | _, _ => 0
theorem cpre_le : ∀ a b : List Nat, cpre a b ≤ a.length ∧ cpre a b ≤ b.length
  | [], _ => by simp [cpre]
  | _ :: _, [] => by simp [cpre]
  | a :: as, b :: bs => by
    have := cpre_le as bs
    unfold cpre; split <;> simp <;> omega
def lowN (c : Nat) : Nat := if 65 ≤ c ∧ c ≤ 90 then c + 32 else c
def subN (x y : Nat) : Nat := if x = y then 0 else if lowN x = lowN y then 1 else 2
def bigN : Nat := 9223372036854775807
def inP (bc : Nat) : List Nat → List Nat → Nat → Nat → Nat → List Nat × Nat × Nat
  | a :: as, r :: rs, d, res, mn =>
    let res' := min (min res r + 2) (d + subN bc a)
    let o := inP bc as rs r res' (if res' < mn then res' else mn)
    (res' :: o.1, o.2.1, o.2.2)
  | _, _, _, res, mn => ([], res, mn)
def outP (a : List Nat) (m : Nat) : List Nat → Nat → List Nat → Nat → Nat
  | [], _, _, res => res
  | b :: bs, i, row, _ =>
    let o := inP b a row (2 * i) (2 * i) bigN
    if m < o.2.2 then m + 1 else outP a m bs (i + 1) o.1 o.2.1
def rowN : Nat → Nat → List Nat
  | _, 0 => []
  | a, n + 1 => a :: rowN (a + 2) n
theorem rowN_len : ∀ n a, (rowN a n).length = n
  | 0, _ => rfl
  | n + 1, a => by simp [rowN, rowN_len n]
def trimP (a b : List Nat) : List Nat × List Nat :=
  let p := cpre a b
  let a1 := a.drop p
  let b1 := b.drop p
  let q := cpre a1.reverse b1.reverse
  (a1.take (a1.length - q), b1.take (b1.length - q))
def midP (a b : List Nat) (m : Nat) : Nat :=
  if m < (b.length - a.length) * 2 then m + 1 else outP a m b 0 (rowN 2 a.length) 0
def levP (a b : List Nat) (m : Nat) : Nat :=
  if a = b then 0 else
  let t := trimP a b
  if t.1.isEmpty || t.2.isEmpty then 2 * (t.1.length + t.2.length) else
  if t.2.length < t.1.length then midP t.2 t.1 m else midP t.1 t.2 m
theorem lower1 : ∀ c : Nat, c < 128 → Txt.lower (S [c]) = S [lowN c] := by
  have : ∀ c : _root_.Fin 128, Txt.lower (S [c.val]) = S [lowN c.val] := by decide +kernel
  exact fun c h => this ⟨c, h⟩
theorem S_inj {a b : List Nat} : ((S a == S b) = true) ↔ a = b := by
  rw [beq_iff_eq]
  constructor
  · intro h; have := congrArg (fun x : PySem.Str => x.cps.toList) h; simpa [S] using this
  · intro h; rw [h]
theorem subC_eq {x y : Nat} (hx : x < 128) (hy : y < 128) : subC (S [x]) (S [y]) = (subN x y : Int) := by
  unfold subC subN
  rw [lower1 x hx, lower1 y hy]
  by_cases h : x = y
  · rw [if_pos (S_inj.mpr (by rw [h])), if_pos h]; rfl
  · rw [if_neg (fun e => h (by simpa using S_inj.mp e)), if_neg h]
    by_cases h2 : lowN x = lowN y
    · rw [if_pos (S_inj.mpr (by rw [h2])), if_pos h2]; rfl
    · rw [if_neg (fun e => h2 (by simpa using S_inj.mp e)), if_neg h2]; rfl
theorem S_ne {l : List Nat} : (((S l).length : Int) != 0) = !l.isEmpty := by
  rw [S_len]; cases l <;> simp <;> omega
theorem rangeSize1 (n : Nat) : Builtin.Range.rangeSize 0 (n : Int) 1 = (n : Int) := by
  unfold Builtin.Range.rangeSize
  by_cases h : 0 < n
  · rw [if_pos (by decide), if_pos (by omega)]; omega
  · rw [if_pos (by decide), if_neg (by omega)]; omega
theorem rangeSize2 (n : Nat) : Builtin.Range.rangeSize 2 (2 * ((n : Int) + 1)) 2 = (n : Int) := by
  unfold Builtin.Range.rangeSize
  by_cases h : 0 < n
  · rw [if_pos (by decide), if_pos (by omega)]; omega
  · rw [if_pos (by decide), if_neg (by omega)]; omega
theorem rngL_row : ∀ (n a : Nat), rngL (a : Int) 2 n = (rowN a n).map fun k : Nat => D.int (k : Int)
  | 0, _ => rfl
  | n + 1, a => by rw [rngL, rowN, List.map_cons, ← rngL_row n (a + 2)]; rfl
variable {W : WP} {A : Around} {env : Env} {σ : Sto}
theorem ev_slF {value lo : PySem.Expr} {p pos : Pos} {l : List Nat} {q : Nat} (h : Ev W A env σ value (.str (S l))) (hl : Ev W A env σ lo (.int (q : Int))) (hq : q ≤ l.length) (hz : l.length ≤ 1000) :
    Ev W A env σ (.Subscript value (.Slice (some lo) none none p) pos) (.str (S (l.drop q))) := by
  rw [← sl_from l q hq]; exact ev_sliceS h (evp_int hl) evp_nil (by rw [S_len]; omega)
theorem ev_slP {value lo : PySem.Expr} {p pos pos2 pos3 : Pos} {k : Nat} {l : List Nat} {q : Nat} (h : Ev W A env σ value (.str (S l))) (hl : Ev W A env σ lo (.int (-(q : Int)))) (hq : q ≤ l.length) (hz : l.length ≤ 1000) :
    Ev W A env σ (.Subscript value (.Slice none (some (.BoolOp .Or [lo, .Constant .none k pos2] pos3)) none p) pos) (.str (S (l.take (l.length - q)))) := by
  by_cases h0 : q = 0
  · subst h0
    have e : S (l.take (l.length - 0)) = Txt.slice (S l) none none := by rw [sl_all]; simp
    rw [e]
    exact ev_sliceS h evp_nil (evp_none (ev_or (b := false) hl truth_int (fun h => absurd h (by decide)) fun _ => ev_none)) (by rw [S_len]; omega)
  · rw [← sl_neg l q hq (by omega)]
    exact ev_sliceS h evp_nil (evp_int (ev_or (b := (-(q : Int)) != 0) hl truth_int (fun _ => rfl) fun h => absurd h (by simp; omega))) (by rw [S_len]; omega)
theorem ev_itF {value sl : PySem.Expr} {pos : Pos} {l : List Nat} {q c : Nat} (h : Ev W A env σ value (.str (S l))) (hl : Ev W A env σ sl (.int (q : Int))) (hc : l[q]? = some c) (hz : l.length ≤ 1000)
    (hs : ∀ o i, subscripted sl false o i = operate [o, i] (getItem o i) := by intro _ _; rfl) : Ev W A env σ (.Subscript value sl pos) (.str (S [c])) := by
  have e := it_pos l q c hc
  rw [← it_item l _ c e]
  have hq : q < l.length := by
    rcases Nat.lt_or_ge q l.length with h' | h'
    · exact h'
    · rw [List.getElem?_eq_none h'] at hc; cases hc
  exact ev_itemS h hl (by simp [fitsSsize]; omega) (by rw [e]; rfl) hs
theorem ev_itN {value sl : PySem.Expr} {pos : Pos} {l : List Nat} {q c : Nat} (h : Ev W A env σ value (.str (S l))) (hl : Ev W A env σ sl (.int (-(q : Int) - 1))) (hc : l.reverse[q]? = some c) (hz : l.length ≤ 1000)
    (hs : ∀ o i, subscripted sl false o i = operate [o, i] (getItem o i) := by intro _ _; rfl) : Ev W A env σ (.Subscript value sl pos) (.str (S [c])) := by
  have e := it_neg l q c hc
  rw [← it_item l _ c e]
  have hq : q < l.length := by
    rcases Nat.lt_or_ge q l.length with h' | h'
    · exact h'
    · rw [List.getElem?_eq_none (by simpa using h')] at hc; cases hc
  exact ev_itemS h hl (by simp [fitsSsize]; omega) (by rw [e]; rfl) hs
theorem tr_S {e : PySem.Expr} {l : List Nat} (h : Ev W A env σ e (.str (S l))) (hz : l.length ≤ 1000) (he : isTrue e env (eval e env) = (do let v ← eval e env; standAt e.pos; holding [v] (truthy v)) := by rfl) : Tr W A env σ e (!l.isEmpty) := by
  rw [← S_ne]; exact tr_val h (truth_str (by rw [S_len]; omega)) he
theorem allT_stop {e : PySem.Expr} {es : List PySem.Expr} (h : Tr W A env σ e false) : AllT W A env σ .And (e :: es) false := allT_and (c := false) h (fun h => absurd h (by decide))
theorem allT_go {e : PySem.Expr} {es : List PySem.Expr} {c : Bool} (h : Tr W A env σ e true) (r : AllT W A env σ .And es c) : AllT W A env σ .And (e :: es) c := allT_and h (fun _ => r)
theorem allT_stopO {e : PySem.Expr} {es : List PySem.Expr} (h : Tr W A env σ e true) : AllT W A env σ .Or (e :: es) true := allT_or (c := true) h (fun h => absurd h (by decide))
theorem allT_goO {e : PySem.Expr} {es : List PySem.Expr} {c : Bool} (h : Tr W A env σ e false) (r : AllT W A env σ .Or es c) : AllT W A env σ .Or (e :: es) c := allT_or h (fun _ => r)
end
section
theorem run_count {test : Sto → Bool → Prop} {body : Sto → Out → Prop} (σ : Nat → Sto) (n : Nat) (hgo : ∀ i, i < n → test (σ i) true ∧ body (σ i) (.next (σ (i + 1)))) (hstop : test (σ n) false) : WhileRun test body n (σ 0) (.next (σ n)) := by
  have : ∀ k i, i + k = n → WhileRun test body k (σ i) (.next (σ n)) := by
    intro k
    induction k with
    | zero => intro i h; have : i = n := by omega
              subst this; exact .stop hstop
    | succ k ih => intro i h; exact .next (hgo i (by omega)).1 (hgo i (by omega)).2 (ih (i + 1) (by omega))
  exact this n 0 (by omega)
theorem for_count {step : D → Sto → Out → Prop} (σ : Nat → Sto) (ds : List D) (h : ∀ i d, ds[i]? = some d → step d (σ i) (.next (σ (i + 1)))) : ForRun step ds (σ 0) (.next (σ ds.length)) := by
  have : ∀ (es : List D) (i : Nat), ds.drop i = es → i ≤ ds.length → ForRun step es (σ i) (.next (σ ds.length)) := by
    intro es
    induction es with
    | nil => intro i h hi
             have : i = ds.length := by have := congrArg List.length h; simp at this; omega
             subst this; exact .nil
    | cons d es ih =>
      intro i hd hi
      have h1 : ds[i]? = some d := by
        have := congrArg (fun l => l[0]?) hd
        simpa using this
      have h2 : ds.drop (i + 1) = es := by
        have := congrArg List.tail hd
        simpa using this
      have h3 : i < ds.length := (List.getElem?_eq_some_iff.mp h1).1
      exact .next (h i d h1) (ih (i + 1) h2 (by omega))
  exact this ds 0 rfl (Nat.zero_le _)
theorem cpre_go : ∀ (a b : List Nat) (i : Nat), i < cpre a b → ∃ c, a[i]? = some c ∧ b[i]? = some c
  | [], _, i, h => by simp [cpre] at h
  | _ :: _, [], i, h => by simp [cpre] at h
  | a :: as, b :: bs, i, h => by
    unfold cpre at h
    split at h
    · next e =>
      subst e
      cases i with
      | zero => exact ⟨a, rfl, rfl⟩
      | succ i => exact cpre_go as bs i (by omega)
    · omega
theorem cpre_stop : ∀ (a b : List Nat), a.length = cpre a b ∨ b.length = cpre a b ∨ ∃ x y, a[cpre a b]? = some x ∧ b[cpre a b]? = some y ∧ x ≠ y
  | [], _ => by simp [cpre]
  | _ :: _, [] => by simp [cpre]
  | a :: as, b :: bs => by
    unfold cpre
    split
    · next e =>
      rcases cpre_stop as bs with h | h | ⟨x, y, h1, h2, h3⟩
      · left; simp [h]
      · right; left; simp [h]
      · right; right; exact ⟨x, y, h1, h2, h3⟩
    · next e => right; right; exact ⟨a, b, rfl, rfl, e⟩
theorem rng_get : ∀ (n : Nat) (a : Int) (i : Nat) (d : D), (rngL a 1 n)[i]? = some d → i < n ∧ d = .int (a + i)
  | 0, a, i, d, h => by simp [rngL] at h
  | n + 1, a, 0, d, h => by simp [rngL] at h; exact ⟨by omega, by rw [← h]; simp⟩
  | n + 1, a, i + 1, d, h => by
    simp [rngL] at h
    have := rng_get n (a + 1) i d h
    exact ⟨by omega, by rw [this.2]; congr 1; omega⟩
/-- the inner loop's shape -/
theorem for_inner {step : D → Sto → Out → Prop} {bc : Nat} {a : List Nat} (σ : List Nat → Nat → Nat → Nat → Sto)
    (h : ∀ (i : Nat) (row : List Nat) (d res mn c r : Nat), a[i]? = some c → row[i]? = some r → row.length = a.length → step (.int (i : Int)) (σ row d res mn) (.next (σ (row.set i (min (min res r + 2) (d + subN bc c))) r (min (min res r + 2) (d + subN bc c)) (if min (min res r + 2) (d + subN bc c) < mn then min (min res r + 2) (d + subN bc c) else mn)))) :
    ∀ (as rs dn : List Nat) (i : Nat) (d res mn : Nat), dn.length = i → a.drop i = as → rs.length = as.length → i ≤ a.length → ∃ d', ForRun step (rngL (i : Int) 1 as.length) (σ (dn ++ rs) d res mn) (.next (σ (dn ++ (inP bc as rs d res mn).1) d' (inP bc as rs d res mn).2.1 (inP bc as rs d res mn).2.2))
  | [], rs, dn, i, d, res, mn, h1, h2, h3, h4 => by
    cases rs with
    | nil => exact ⟨d, by simpa [rngL, inP] using ForRun.nil⟩
    | cons r rs => simp at h3
  | c :: as, rs, dn, i, d, res, mn, h1, h2, h3, h4 => by
    cases rs with
    | nil => simp at h3
    | cons r rs =>
      have g1 : a[i]? = some c := by
        have := congrArg (fun l => l[0]?) h2
        simpa using this
      have g2 : a.drop (i + 1) = as := by
        have := congrArg List.tail h2
        simpa using this
      have g3 : i < a.length := (List.getElem?_eq_some_iff.mp g1).1
      have g4 : (dn ++ r :: rs)[i]? = some r := by rw [List.getElem?_append_right (by omega)]; simp [h1]
      have g5 : (dn ++ r :: rs).length = a.length := by
        have := congrArg List.length h2
        simp at this h3 ⊢; omega
      have st := h i _ d res mn c r g1 g4 g5
      have e0 : (dn ++ r :: rs).set i (min (min res r + 2) (d + subN bc c)) = (dn ++ [min (min res r + 2) (d + subN bc c)]) ++ rs := by
        rw [List.set_append_right _ _ (by omega), show i - dn.length = 0 by omega, List.set_cons_zero]; simp
      rw [e0] at st
      obtain ⟨d', ih⟩ := for_inner σ h as rs (dn ++ [min (min res r + 2) (d + subN bc c)]) (i + 1) r (min (min res r + 2) (d + subN bc c)) (if min (min res r + 2) (d + subN bc c) < mn then min (min res r + 2) (d + subN bc c) else mn) (by simp [h1]) g2 (by simpa using h3) (by omega)
      refine ⟨d', ?_⟩
      rw [inP]
      have e1 : ∀ t : List Nat, dn ++ (min (min res r + 2) (d + subN bc c) :: t) = (dn ++ [min (min res r + 2) (d + subN bc c)]) ++ t := fun t => by simp
      dsimp only
      rw [e1]
      exact .next st ih
/-- the outer loop: an early end, or the last row -/
def outQ (a : List Nat) (m : Nat) : List Nat → Nat → List Nat → Nat → Option (List Nat × Nat)
  | [], _, row, res => some (row, res)
  | b :: bs, i, row, _ =>
    let o := inP b a row (2 * i) (2 * i) bigN
    if m < o.2.2 then none else outQ a m bs (i + 1) o.1 o.2.1
theorem outP_Q (a : List Nat) (m : Nat) : ∀ (bs : List Nat) (i : Nat) (row : List Nat) (res : Nat), outP a m bs i row res = (match outQ a m bs i row res with | none => m + 1 | some o => o.2)
  | [], _, _, _ => rfl
  | b :: bs, i, row, res => by
    rw [outP, outQ]
    split
    · rfl
    · exact outP_Q a m bs _ _ _
theorem inP_len (bc : Nat) : ∀ (a row : List Nat) (d res mn : Nat), row.length = a.length → (inP bc a row d res mn).1.length = a.length
  | [], row, d, res, mn, _ => by simp [inP]
  | c :: a, row, d, res, mn, h => by
    cases row with
    | nil => simp at h
    | cons r rs => rw [inP]; simp; exact inP_len bc a rs _ _ _ (by simpa using h)
theorem for_outer {step : D → Sto → Out → Prop} {a lb : List Nat} {m : Nat} (σ : List Nat → Nat → Sto)
    (h : ∀ (i : Nat) (row : List Nat) (res b : Nat), lb[i]? = some b → row.length = a.length → step (.int (i : Int)) (σ row res) (if m < (inP b a row (2 * i) (2 * i) bigN).2.2 then .ret (.int ((m + 1 : Nat) : Int)) else .next (σ (inP b a row (2 * i) (2 * i) bigN).1 (inP b a row (2 * i) (2 * i) bigN).2.1))) :
    ∀ (bs : List Nat) (i : Nat) (row : List Nat) (res : Nat), lb.drop i = bs → row.length = a.length → ForRun step (rngL (i : Int) 1 bs.length) (σ row res) (match outQ a m bs i row res with | none => .ret (.int ((m + 1 : Nat) : Int)) | some o => .next (σ o.1 o.2))
  | [], i, row, res, h1, h2 => .nil
  | b :: bs, i, row, res, h1, h2 => by
    have g1 : lb[i]? = some b := by
      have := congrArg (fun l => l[0]?) h1
      simpa using this
    have g2 : lb.drop (i + 1) = bs := by
      have := congrArg List.tail h1
      simpa using this
    have st := h i row res b g1 h2
    rw [outQ]
    split at st
    · next hc => rw [if_pos hc]; exact .ret st
    · next hc => rw [if_neg hc]; exact .next st (for_outer σ h bs (i + 1) _ _ g2 (inP_len b a row _ _ _ h2))

variable {W : WP} {A : Around} {env : Env} {σ : Sto}
theorem and3_stop {e1 e2 e3 : PySem.Expr} {b1 b2 : Bool} (h1 : Tr W A env σ e1 b1) (h2 : Tr W A env σ e2 b2) (h3 : b1 = true → b2 = true → Tr W A env σ e3 false) : AllT W A env σ .And [e1, e2, e3] false := by
  cases b1 with
  | false => exact allT_stop h1
  | true =>
    cases b2 with
    | false => exact allT_go h1 (allT_stop h2)
    | true => exact allT_go h1 (allT_go h2 (allT_stop (h3 rfl rfl)))
theorem trOr2 {e1 e2 : PySem.Expr} {pos : Pos} {b1 b2 : Bool} (h1 : Tr W A env σ e1 b1) (h2 : Tr W A env σ e2 b2) : Tr W A env σ (.BoolOp .Or [e1, e2] pos) (b1 || b2) := by
  cases b1 with
  | false => exact tr_bool (allT_goO h1 (by cases b2 with | true => exact allT_stopO h2 | false => exact allT_goO h2 allT_nil))
  | true => exact tr_bool (allT_stopO h1)
theorem trNotS {e : PySem.Expr} {pos : Pos} {l : List Nat} (h : Tr W A env σ e (!l.isEmpty)) : Tr W A env σ (.UnaryOp .Not e pos) l.isEmpty := by
  have := tr_not (pos := pos) h
  rwa [Bool.not_not] at this
end
section
theorem smallN1 {n : Nat} (h : n ≤ 1000) : Builtin.Range.small 0 (n : Int) 1 = true := by
  simp [Builtin.Range.small, rangeSize1, Builtin.Range.rangeFitsLong]; omega
theorem smallN2 {n : Nat} (h : n ≤ 1000) : Builtin.Range.small 2 (2 * ((n : Int) + 1)) 2 = true := by
  simp [Builtin.Range.small, rangeSize2, Builtin.Range.rangeFitsLong]; omega
variable (w : World) (mean : ExcName → Option Value) (mg mb : PySem.Str → Option Value)
set_option maxHeartbeats 4000000
theorem ev_subst {A : Around} {L : Addr} {env : Env} {σ : Sto} {n : Nat} (F : FOK (n + 1) A env) (he : env.kindOf (N "_substitution_cost") = some .globalImplicit) {p pos : Pos} {e₁ e₂ : PySem.Expr} {x y : Nat} (hx : x < 128) (hy : y < 128)
    (h₁ : Ev (W1 w mean mg mb) A env σ e₁ (.str (S [x]))) (h₂ : Ev (W1 w mean mg mb) A env σ e₂ (.str (S [y])))
    (hs : starEach [e₁, e₂] env = (false, eval e₁ env) :: starEach [e₂] env := by rfl) (hs2 : starEach [e₂] env = (false, eval e₂ env) :: starEach [] env := by rfl)
    (hne : backTo pos (starEach [e₁, e₂] env) = (match backTo pos (starEach [e₁, e₂] env) with | (_, t) :: r => (false, t) :: r | [] => []) := by rfl) : Ev (W1 w mean mg mb) A env σ (.Call (.Name (N "_substitution_cost") p) [e₁, e₂] [] pos) (.int (subN x y : Nat)) := by
  rw [← subC_eq hx hy]
  exact ev_call F he rfl (by decide) rfl (evs_cons h₁ (evs_cons h₂ evs_nil hs2) hs) (subst_ok w mean mg mb _ _ (by rw [S_len]; exact Nat.le_of_ble_eq_true rfl) (by rw [S_len]; exact Nat.le_of_ble_eq_true rfl)) (by omega) hne (List.cons_ne_nil _ _) (fun e rest h => by cases h; exact hs)
theorem tr_eqB {W : WP} {A : Around} {env : Env} {σ : Sto} {e : PySem.Expr} {b c : Bool} (h : b = c) (t : Tr W A env σ e b) : Tr W A env σ e c := h ▸ t
theorem mem_get {l : List Nat} {P : Nat → Prop} (h : ∀ c ∈ l, P c) {i c : Nat} (e : l[i]? = some c) : P c := h c (List.mem_of_getElem? e)
theorem get_lt {l : List Nat} {i c : Nat} (e : l[i]? = some c) : i < l.length := (List.getElem?_eq_some_iff.mp e).1
theorem lev_ok (la lb : List Nat) (m : Nat) (ha : ∀ c ∈ la, c < 128) (hb : ∀ c ∈ lb, c < 128) (hla : la.length ≤ 40) (hlb : lb.length ≤ 40) (hm : m ≤ 10000) : CallOk (W1 w mean mg mb) 2 38 [.str (S la), .str (S lb), .int (m : Int)] (.int (levP la lb m : Nat)) := by
  refine def_ok (names := [N "a", N "b", N "max_cost"]) rfl rfl ?_ (by decide) (by walk_at "names") rfl rfl rfl rfl ?_
  · intro vs h
    match vs, h with
    | [a, b, c], _ => rfl
  · intro A L F
    show X _ _ _ [(N "a", Slot.val (D.str (S la))), (N "b", Slot.val (D.str (S lb))), (N "max_cost", Slot.val (D.int m))] _ _
    unfold levP
    by_cases hab : la = lb
    · rw [if_pos hab]
      exact x_stop (x_if (b := S la == S lb) (by walk_at "tr") (fun _ => x_stop (x_ret (ev_int (i := 0)))) fun h => absurd (S_inj.mpr hab) (by rw [h]; decide))
    rw [if_neg hab]
    refine x_cons (x_if (b := S la == S lb) (by walk_at "tr") (fun h => absurd (S_inj.mp h) hab) fun _ => x_nil) ?_
    refine x_cons (x_assign F (by walk_at "ev") rfl) ?_
    refine x_cons (σ₁ := [(N "a", Slot.val (D.str (S la))), (N "b", Slot.val (D.str (S lb))), (N "max_cost", Slot.val (D.int m)), (N "pre", Slot.val (D.int (cpre la lb : Nat)))]) ?_ ?_
    · refine x1_weak (σ' := [(N "a", Slot.val (D.str (S la))), (N "b", Slot.val (D.str (S lb))), (N "max_cost", Slot.val (D.int m)), (PySem.Str.ofString "pre", Slot.val (D.int 0))]) (by walk_at "sub") ?_
      refine x_while (n := cpre la lb) (run_count (σ := fun p => [(N "a", Slot.val (D.str (S la))), (N "b", Slot.val (D.str (S lb))), (N "max_cost", Slot.val (D.int m)), (N "pre", Slot.val (D.int ((p : Nat) : Int)))]) (cpre la lb) ?_ ?_)
      · intro i hi
        obtain ⟨c, g1, g2⟩ := cpre_go la lb i hi
        have l1 := get_lt g1
        have l2 := get_lt g2
        refine ⟨tr_bool (allT_go ?_ (allT_go ?_ (allT_go ?_ allT_nil))), ?_⟩
        · have : (!(la.drop i).isEmpty) = true := by simp; omega
          exact tr_eqB this <| tr_S (ev_slF (by walk_at "ev") (by walk_at "ev") (by omega) (by omega)) (by simp; omega)
        · have : (!(lb.drop i).isEmpty) = true := by simp; omega
          exact tr_eqB this <| tr_S (ev_slF (by walk_at "ev") (by walk_at "ev") (by omega) (by omega)) (by simp; omega)
        · have : (S [c] == S [c]) = true := S_inj.mpr rfl
          exact tr_eqB this <| tr_cmp (ev_itF (by walk_at "ev") (by walk_at "ev") g1 (by omega)) (ev_itF (by walk_at "ev") (by walk_at "ev") g2 (by omega)) op_eqS rfl
        · exact x_weakO (x_cons (x_aug (d := .int ((i + 1 : Nat) : Int)) F (by walk_at "mem") rfl ev_int op_iaddI) x_nil) (by walk_at "sub")
      · skip
        have hle := cpre_le la lb
        refine tr_bool (and3_stop (tr_S (ev_slF (by walk_at "ev") (by walk_at "ev") (by omega) (by omega)) (by simp; omega)) (tr_S (ev_slF (by walk_at "ev") (by walk_at "ev") (by omega) (by omega)) (by simp; omega)) ?_)
        intro h1 h2
        simp at h1 h2
        rcases cpre_stop la lb with h | h | ⟨x, y, h1, h2, h3⟩
        · omega
        · omega
        · have : (S [x] == S [y]) = false := by
            rw [Bool.eq_false_iff]; intro e; exact h3 (by simpa using S_inj.mp e)
          exact tr_eqB this (tr_cmp (ev_itF (by walk_at "ev") (by walk_at "ev") h1 (by omega)) (ev_itF (by walk_at "ev") (by walk_at "ev") h2 (by omega)) op_eqS rfl)
    have hpl := cpre_le la lb
    refine x_cons (x_assign (d := .str (S (la.drop (cpre la lb)))) F (ev_slF (by walk_at "ev") (by walk_at "ev") (by omega) (by omega)) rfl) ?_
    refine x_cons (x_assign (d := .str (S (lb.drop (cpre la lb)))) F (ev_slF (by walk_at "ev") (by walk_at "ev") (by omega) (by omega)) rfl) ?_
    refine x_cons (x_assign F (by walk_at "ev") rfl) ?_
    unfold trimP
    dsimp only
    have ha1 : ∀ c ∈ la.drop (cpre la lb), c < 128 := fun c h => ha c (List.mem_of_mem_drop h)
    have hb1 : ∀ c ∈ lb.drop (cpre la lb), c < 128 := fun c h => hb c (List.mem_of_mem_drop h)
    have hla1 : (la.drop (cpre la lb)).length ≤ 40 := by rw [List.length_drop]; omega
    have hlb1 : (lb.drop (cpre la lb)).length ≤ 40 := by rw [List.length_drop]; omega
    generalize la.drop (cpre la lb) = la1 at ha1 hla1 ⊢
    generalize lb.drop (cpre la lb) = lb1 at hb1 hlb1 ⊢
    have hpl := cpre_le la1.reverse lb1.reverse
    rw [List.length_reverse, List.length_reverse] at hpl
    refine x_cons (σ₁ := [(N "a", Slot.val (D.str (S la1))), (N "b", Slot.val (D.str (S lb1))), (N "max_cost", Slot.val (D.int m)), (N "post", Slot.val (D.int (-(cpre la1.reverse lb1.reverse : Nat))))]) ?_ ?_
    · refine x1_weak (σ' := [(PySem.Str.ofString "a", Slot.val (D.str (S la1))), (PySem.Str.ofString "b", Slot.val (D.str (S lb1))), (PySem.Str.ofString "max_cost", Slot.val (D.int m)), (PySem.Str.ofString "post", Slot.val (D.int 0))]) (by walk_at "sub") ?_
      refine x_while (n := cpre la1.reverse lb1.reverse) (run_count (σ := fun p => [(N "a", Slot.val (D.str (S la1))), (N "b", Slot.val (D.str (S lb1))), (N "max_cost", Slot.val (D.int m)), (N "post", Slot.val (D.int (-((p : Nat) : Int))))]) (cpre la1.reverse lb1.reverse) ?_ ?_)
      · intro i hi
        obtain ⟨c, g1, g2⟩ := cpre_go la1.reverse lb1.reverse i hi
        have l1 := get_lt g1
        have l2 := get_lt g2
        rw [List.length_reverse] at l1 l2
        refine ⟨tr_bool (allT_go ?_ (allT_go ?_ (allT_go ?_ allT_nil))), ?_⟩
        · have : (!(la1.take (la1.length - i)).isEmpty) = true := by simp [List.isEmpty_iff_length_eq_zero, ← List.length_eq_zero_iff]; omega
          exact tr_eqB this <| tr_S (ev_slP (by walk_at "ev") (by walk_at "ev") (by omega) (by omega)) (by simp; omega)
        · have : (!(lb1.take (lb1.length - i)).isEmpty) = true := by simp [List.isEmpty_iff_length_eq_zero, ← List.length_eq_zero_iff]; omega
          exact tr_eqB this <| tr_S (ev_slP (by walk_at "ev") (by walk_at "ev") (by omega) (by omega)) (by simp; omega)
        · have : (S [c] == S [c]) = true := S_inj.mpr rfl
          exact tr_eqB this <| tr_cmp (ev_itN (by walk_at "ev") (by walk_at "ev") g1 (by omega)) (ev_itN (by walk_at "ev") (by walk_at "ev") g2 (by omega)) op_eqS rfl
        · refine x_weakO (x_cons (x_aug (d := .int (-((i + 1 : Nat) : Int))) F (by walk_at "mem") rfl ev_int ?_) x_nil) (by walk_at "sub")
          rw [show (-((i + 1 : Nat) : Int)) = -(i : Int) - 1 by omega]
          exact op_isubI
      · skip
        refine tr_bool (and3_stop (tr_S (ev_slP (by walk_at "ev") (by walk_at "ev") (by omega) (by omega)) (by simp; omega)) (tr_S (ev_slP (by walk_at "ev") (by walk_at "ev") (by omega) (by omega)) (by simp; omega)) ?_)
        intro h1 h2
        simp [← List.length_eq_zero_iff] at h1 h2
        rcases cpre_stop la1.reverse lb1.reverse with h | h | ⟨x, y, h1, h2, h3⟩
        · rw [List.length_reverse] at h; omega
        · rw [List.length_reverse] at h; omega
        · have : (S [x] == S [y]) = false := by
            rw [Bool.eq_false_iff]; intro e; exact h3 (by simpa using S_inj.mp e)
          exact tr_eqB this (tr_cmp (ev_itN (by walk_at "ev") (by walk_at "ev") h1 (by omega)) (ev_itN (by walk_at "ev") (by walk_at "ev") h2 (by omega)) op_eqS rfl)
    generalize cpre la1.reverse lb1.reverse = q at hpl ⊢
    refine x_cons (x_assign (d := .str (S (la1.take (la1.length - q)))) F (ev_slP (by walk_at "ev") (by walk_at "ev") (by omega) (by omega)) rfl) ?_
    refine x_cons (x_assign (d := .str (S (lb1.take (lb1.length - q)))) F (ev_slP (by walk_at "ev") (by walk_at "ev") (by omega) (by omega)) rfl) ?_
    have ha2 : ∀ c ∈ la1.take (la1.length - q), c < 128 := fun c h => ha1 c (List.mem_of_mem_take h)
    have hb2 : ∀ c ∈ lb1.take (lb1.length - q), c < 128 := fun c h => hb1 c (List.mem_of_mem_take h)
    have hla2 : (la1.take (la1.length - q)).length ≤ 40 := by rw [List.length_take]; omega
    have hlb2 : (lb1.take (lb1.length - q)).length ≤ 40 := by rw [List.length_take]; omega
    generalize la1.take (la1.length - q) = la2 at ha2 hla2 ⊢
    generalize lb1.take (lb1.length - q) = lb2 at hb2 hlb2 ⊢
    refine x_weak (σ' := [(PySem.Str.ofString "a", Slot.val (D.str (S la2))), (PySem.Str.ofString "b", Slot.val (D.str (S lb2))), (PySem.Str.ofString "max_cost", Slot.val (D.int m))]) (by walk_at "sub") ?_
    have sA : (S la2).length ≤ 40 := by rw [S_len]; exact hla2
    have sB : (S lb2).length ≤ 40 := by rw [S_len]; exact hlb2
    by_cases h0 : (la2.isEmpty || lb2.isEmpty) = true
    · rw [if_pos h0]
      refine x_stop (x_if (b := la2.isEmpty || lb2.isEmpty) (trOr2 (trNotS (tr_S (by walk_at "ev") (by omega))) (trNotS (tr_S (by walk_at "ev") (by omega)))) (fun _ => x_stop (x_ret ?_)) fun h => absurd h0 (by rw [h]; decide))
      rw [show ((2 * (la2.length + lb2.length) : Nat) : Int) = 2 * (((S la2).length : Int) + ((S lb2).length : Int)) by rw [S_len, S_len]; omega]
      walk_at "ev"
    rw [if_neg h0]
    refine x_cons (x_if (b := la2.isEmpty || lb2.isEmpty) (trOr2 (trNotS (tr_S (by walk_at "ev") (by omega))) (trNotS (tr_S (by walk_at "ev") (by omega)))) (fun h => absurd h h0) fun _ => x_nil) ?_
    refine x_cons (x_if (b := decide ((40 : Int) < ((S la2).length : Int)) || decide ((40 : Int) < ((S lb2).length : Int))) (trOr2 (by walk_at "tr") (by walk_at "tr")) (fun h => absurd h (by rw [S_len, S_len]; simp; omega)) fun _ => x_nil) ?_
    have hxy : ∃ x y : List Nat, (if lb2.length < la2.length then midP lb2 la2 m else midP la2 lb2 m) = midP x y m ∧ ((lb2.length < la2.length ∧ x = lb2 ∧ y = la2) ∨ (¬ lb2.length < la2.length ∧ x = la2 ∧ y = lb2)) := by
      split
      · next h => exact ⟨_, _, rfl, .inl ⟨h, rfl, rfl⟩⟩
      · next h => exact ⟨_, _, rfl, .inr ⟨h, rfl, rfl⟩⟩
    obtain ⟨x, y, exy, hxy⟩ := hxy
    rw [exy]
    refine x_cons (σ₁ := [(PySem.Str.ofString "a", Slot.val (D.str (S x))), (PySem.Str.ofString "b", Slot.val (D.str (S y))), (PySem.Str.ofString "max_cost", Slot.val (D.int m))]) ?_ ?_
    · refine x_if (b := decide (((S lb2).length : Int) < ((S la2).length : Int))) (by walk_at "tr") (fun h => ?_) fun h => ?_
      · rw [S_len, S_len, decide_eq_true_eq] at h
        rcases hxy with ⟨g, rfl, rfl⟩ | ⟨g, _, _⟩
        · refine x_weakO (x_cons (x_tupS F.hh (ev_tuple (by walk_at "evs") (by simp)) (by rfl) (names := [PySem.Str.ofString "a", PySem.Str.ofString "b"]) (bndl_cons (bnd_name F rfl) (bndl_cons (bnd_name F rfl) bndl_nil)) rfl rfl) x_nil) (by walk_at "sub")
        · omega
      · rw [S_len, S_len, decide_eq_false_iff_not] at h
        rcases hxy with ⟨g, rfl, rfl⟩ | ⟨g, rfl, rfl⟩
        · omega
        · exact x_nil
    have hx : ∀ c ∈ x, c < 128 := by rcases hxy with ⟨g, rfl, rfl⟩ | ⟨g, rfl, rfl⟩ <;> assumption
    have hy : ∀ c ∈ y, c < 128 := by rcases hxy with ⟨g, rfl, rfl⟩ | ⟨g, rfl, rfl⟩ <;> assumption
    have hlx : x.length ≤ 40 := by rcases hxy with ⟨g, rfl, rfl⟩ | ⟨g, rfl, rfl⟩ <;> assumption
    have hly : y.length ≤ 40 := by rcases hxy with ⟨g, rfl, rfl⟩ | ⟨g, rfl, rfl⟩ <;> assumption
    have hxl : x.length ≤ y.length := by rcases hxy with ⟨g, rfl, rfl⟩ | ⟨g, rfl, rfl⟩ <;> omega
    clear hxy exy
    have sX : (S x).length ≤ 40 := by rw [S_len]; exact hlx
    have sY : (S y).length ≤ 40 := by rw [S_len]; exact hly
    unfold midP
    by_cases hq : m < (y.length - x.length) * 2
    · rw [if_pos hq]
      refine x_stop (x_if (b := decide ((m : Int) < (((S y).length : Int) - ((S x).length : Int)) * 2)) (by walk_at "tr") (fun _ => x_stop (x_ret (d := .int ((m : Int) + 1)) (by walk_at "ev"))) fun h => absurd h (by rw [S_len, S_len]; simp; omega))
    rw [if_neg hq]
    refine x_cons (x_if (b := decide ((m : Int) < (((S y).length : Int) - ((S x).length : Int)) * 2)) (by walk_at "tr") (fun h => absurd h (by rw [S_len, S_len]; simp; omega)) fun _ => x_nil) ?_
    refine x_cons (x_assignF (ds := (rowN 2 x.length).map dN) F ?_ rfl) ?_
    · rw [← rngL_row]
      refine evF_listRng F rfl rfl (e := _) (b := 2 * (((S x).length : Int) + 1)) ?_ ?_ ?_ (by omega)
      · walk_at "ev"
      · rw [S_len]; exact smallN2 (by omega)
      · rw [S_len]; exact rangeSize2 _
    refine x_cons (x_assign F (by walk_at "ev") rfl) ?_
    refine x_weak (σ' := [(PySem.Str.ofString "a", Slot.val (D.str (S x))), (PySem.Str.ofString "b", Slot.val (D.str (S y))), (PySem.Str.ofString "max_cost", Slot.val (D.int m)), (PySem.Str.ofString "row", Slot.own ((rowN 2 x.length).map dN)), (PySem.Str.ofString "result", Slot.val (D.int 0))]) (by walk_at "sub") ?_
    suffices hst : ∃ o, X1 (W1 w mean mg mb) A (envOfC (PySem.Str.ofString "_levenshtein_distance") _ L 38 (.ref 37)) [(PySem.Str.ofString "a", Slot.val (D.str (S x))), (PySem.Str.ofString "b", Slot.val (D.str (S y))), (PySem.Str.ofString "max_cost", Slot.val (D.int m)), (PySem.Str.ofString "row", Slot.own ((rowN 2 x.length).map dN)), (PySem.Str.ofString "result", Slot.val (D.int 0))] _ o ∧ o = (match outQ x m y 0 (rowN 2 x.length) 0 with | none => Out.ret (.int ((m + 1 : Nat) : Int)) | some o => Out.next [(PySem.Str.ofString "a", Slot.val (D.str (S x))), (PySem.Str.ofString "b", Slot.val (D.str (S y))), (PySem.Str.ofString "max_cost", Slot.val (D.int m)), (PySem.Str.ofString "row", Slot.own (o.1.map dN)), (PySem.Str.ofString "result", Slot.val (dN o.2))]) by
      obtain ⟨o, h, e⟩ := hst
      rw [outP_Q]
      cases hq : outQ x m y 0 (rowN 2 x.length) 0 with
      | none => rw [hq] at e; dsimp only at e; subst e; exact x_stop h
      | some p =>
        rw [hq] at e; dsimp only at e; subst e
        exact x_cons h (x_stop (x_ret (by walk_at "ev")))
    refine ⟨_, x_for (ds := rngL 0 1 y.length) ?_ (iter_rng (b := ((S y).length : Int)) F.hh (by rw [S_len]; exact smallN1 (by omega)) (by rw [S_len]; exact rangeSize1 _)) (for_outer (a := x) (lb := y) (m := m) (σ := fun row res => [(PySem.Str.ofString "a", Slot.val (D.str (S x))), (PySem.Str.ofString "b", Slot.val (D.str (S y))), (PySem.Str.ofString "max_cost", Slot.val (D.int m)), (PySem.Str.ofString "row", Slot.own (row.map dN)), (PySem.Str.ofString "result", Slot.val (dN res))]) ?_ y 0 _ 0 rfl (rowN_len _ _)), rfl⟩
    · walk_at "ev"
    intro i row res b hib hrl
    refine ⟨_, asg_name F rfl, ?_⟩
    have hil := get_lt hib
    refine x_cons (x_assign F (ev_itF (l := y) (q := i) (by walk_at "ev") (by walk_at "ev") hib (by omega)) rfl) ?_
    refine x_cons (x_assign2 (d := dN (2 * i)) F ?_ rfl rfl) ?_
    · rw [show dN (2 * i) = D.int ((i : Int) * 2) by show D.int _ = D.int _; congr 1; omega]
      walk_at "ev"
    refine x_cons (x_assign (d := dN bigN) F (ev_int (i := 9223372036854775807)) rfl) ?_
    suffices hst : ∃ d', X1 (W1 w mean mg mb) A (envOfC (PySem.Str.ofString "_levenshtein_distance") _ L 38 (.ref 37)) [(PySem.Str.ofString "a", Slot.val (D.str (S x))), (PySem.Str.ofString "b", Slot.val (D.str (S y))), (PySem.Str.ofString "max_cost", Slot.val (D.int m)), (PySem.Str.ofString "row", Slot.own (row.map dN)), (PySem.Str.ofString "result", Slot.val (dN (2 * i))), (PySem.Str.ofString "bchar", Slot.val (D.str (S [b]))), (PySem.Str.ofString "distance", Slot.val (dN (2 * i))), (PySem.Str.ofString "minimum", Slot.val (dN bigN))] _ (.next [(PySem.Str.ofString "a", Slot.val (D.str (S x))), (PySem.Str.ofString "b", Slot.val (D.str (S y))), (PySem.Str.ofString "max_cost", Slot.val (D.int m)), (PySem.Str.ofString "row", Slot.own ((inP b x row (2 * i) (2 * i) bigN).1.map dN)), (PySem.Str.ofString "result", Slot.val (dN (inP b x row (2 * i) (2 * i) bigN).2.1)), (PySem.Str.ofString "bchar", Slot.val (D.str (S [b]))), (PySem.Str.ofString "distance", Slot.val (dN d')), (PySem.Str.ofString "minimum", Slot.val (dN (inP b x row (2 * i) (2 * i) bigN).2.2))]) by
      obtain ⟨d', h⟩ := hst
      refine x_cons (x1_weak (by walk_at "sub") h) ?_
      generalize inP b x row (2 * i) (2 * i) bigN = o
      by_cases hmo : m < o.2.2
      · rw [if_pos hmo]
        exact x_stop (x_if (b := decide ((m : Int) < (o.2.2 : Int))) (by walk_at "tr") (fun _ => x_stop (x_ret (d := .int ((m : Int) + 1)) (by walk_at "ev"))) fun h => absurd h (by simp; omega))
      · rw [if_neg hmo]
        exact x_weakO (x_cons (x_if (b := decide ((m : Int) < (o.2.2 : Int))) (by walk_at "tr") (fun h => absurd h (by simp; omega)) (fun _ => x_nil)) x_nil) (by walk_at "sub")
    refine Exists.imp (fun d' h => x_for (ds := rngL 0 1 x.length) ?_ (iter_rng (b := ((S x).length : Int)) F.hh (by rw [S_len]; exact smallN1 (by omega)) (by rw [S_len]; exact rangeSize1 _)) h) (for_inner (bc := b) (a := x) (σ := fun row d res mn => [(PySem.Str.ofString "a", Slot.val (D.str (S x))), (PySem.Str.ofString "b", Slot.val (D.str (S y))), (PySem.Str.ofString "max_cost", Slot.val (D.int m)), (PySem.Str.ofString "row", Slot.own (row.map dN)), (PySem.Str.ofString "result", Slot.val (dN res)), (PySem.Str.ofString "bchar", Slot.val (D.str (S [b]))), (PySem.Str.ofString "distance", Slot.val (dN d)), (PySem.Str.ofString "minimum", Slot.val (dN mn))]) ?_ x row [] 0 (2 * i) (2 * i) bigN rfl rfl hrl (Nat.zero_le _))
    · walk_at "ev"
    clear hrl
    intro j row d res mn c r hjc hjr hrl
    have hjl := get_lt hjc
    refine ⟨_, asg_name F rfl, ?_⟩
    have hb8 : b < 128 := mem_get hy hib
    have hc8 : c < 128 := mem_get hx hjc
    refine x_cons (x_assign (d := dN (d + subN b c)) F ?_ rfl) ?_
    · rw [show dN (d + subN b c) = D.int ((d : Int) + (subN b c : Nat)) by show D.int _ = D.int _; congr 1]
      exact ev_bin (by walk_at "ev") (ev_subst w mean mg mb (L := L) F rfl hb8 hc8 (by walk_at "ev") (ev_itF (l := x) (q := j) (by walk_at "ev") (by walk_at "ev") hjc (by omega))) op_add
    generalize d + subN b c = sub
    refine x_cons (x_assign (d := dN r) F (ev_itemO (i := (j : Int)) (xs := row.map dN) F (by walk_at "mem") (by walk_at "ev") (by omega) (by rw [Int.toNat_natCast, List.getElem?_map, hjr]; rfl) (by rw [List.length_map]; omega) (by decide)) rfl) ?_
    refine x_cons (x_assign (d := dN (min res r + 2)) F ?_ rfl) ?_
    · rw [show dN (min res r + 2) = D.int ((if (r : Int) < (res : Int) then (r : Int) else (res : Int)) + 2) by show D.int _ = D.int _; congr 1; rw [Nat.min_def]; split <;> split <;> omega]
      walk_at "ev"
    generalize min res r + 2 = u
    refine x_cons (x_assign (d := dN (min u sub)) F ?_ rfl) ?_
    · rw [show dN (min u sub) = D.int (if (sub : Int) < (u : Int) then (sub : Int) else (u : Int)) by show D.int _ = D.int _; congr 1; rw [Nat.min_def]; split <;> split <;> omega]
      walk_at "ev"
    generalize min u sub = res'
    refine x_cons (x_setItem (xs := row.map dN) (k := (j : Int)) (d := dN res') F (by walk_at "mem") (by walk_at "ev") (by walk_at "ev") (by omega) (by rw [List.length_map]; omega) (by rw [List.length_map]; omega) (by decide)) ?_
    have es : (row.map dN).set (j : Int).toNat (dN res') = (row.set j res').map dN := by rw [Int.toNat_natCast, List.map_set]
    rw [es]
    by_cases hlt : res' < mn
    · rw [if_pos hlt]
      exact x_weakO (x_cons (x_if (b := decide ((res' : Int) < (mn : Int))) (by walk_at "tr") (fun _ => x_cons (x_assign F (by walk_at "ev") rfl) x_nil) fun h => absurd h (by simp; omega)) x_nil) (by walk_at "sub")
    · rw [if_neg hlt]
      exact x_weakO (x_cons (x_if (b := decide ((res' : Int) < (mn : Int))) (by walk_at "tr") (fun h => absurd h (by simp; omega)) (fun _ => x_nil)) x_nil) (by walk_at "sub")
end
section
abbrev dL (l : List Nat) : D := D.lst (l.map dN)
def exchP (o : List Nat) (k : Nat) : List Nat := o.take (k - 1) ++ [o.getD k 0, o.getD (k - 1) 0] ++ o.drop (k + 1)
theorem exchP_len {o : List Nat} {k : Nat} (h1 : 1 ≤ k) (h2 : k < o.length) : (exchP o k).length = o.length := by
  unfold exchP; simp; omega
def stepP (o : List Nat) (k : Nat) : List Nat := if o.getD (k - 1) 0 < o.getD k 0 then exchP o k else o
def orderP (l : List Nat) (o : List Nat) : List Nat := l.foldl stepP o
theorem getD_some {o : List Nat} {k : Nat} (h : k < o.length) : (o.map dN)[k]? = some (dN (o.getD k 0)) := by
  rw [List.getElem?_map, List.getElem?_eq_getElem h, List.getD_eq_getElem?_getD, List.getElem?_eq_getElem h]; rfl
variable {W : WP} {A : Around} {env : Env} {σ : Sto}
theorem ev_itL {value sl : PySem.Expr} {pos : Pos} {o : List Nat} {k : Nat} (h : Ev W A env σ value (dL o)) (hl : Ev W A env σ sl (dN k)) (hk : k < o.length) (hz : o.length ≤ 1000)
    (hs : ∀ o i, subscripted sl false o i = operate [o, i] (getItem o i) := by intro _ _; rfl) : Ev W A env σ (.Subscript value sl pos) (dN (o.getD k 0)) :=
  ev_itemL h hl (by omega) (by rw [Int.toNat_natCast]; exact getD_some hk) (by rw [List.length_map]; omega) hs
theorem ev_slUL {value hi : PySem.Expr} {p pos : Pos} {xs : List Nat} {k : Nat} (h : Ev W A env σ value (dL xs)) (hl : Ev W A env σ hi (dN k)) (hk : k ≤ xs.length) (hz : xs.length ≤ 1000) : Ev W A env σ (.Subscript value (.Slice none (some hi) none p) pos) (dL (xs.take k)) := by
  refine ev_sliceL h evp_nil (evp_int hl) (by rw [List.length_map]; omega) fun fz vs hv => ?_
  have := pick_upto (j := (k : Int)) hv (by omega) (by rw [List.length_map]; omega)
  rwa [Int.toNat_natCast, ← List.map_take] at this
theorem ev_slFL {value lo : PySem.Expr} {p pos : Pos} {xs : List Nat} {k : Nat} (h : Ev W A env σ value (dL xs)) (hl : Ev W A env σ lo (dN k)) (hk : k ≤ xs.length) (hz : xs.length ≤ 1000) : Ev W A env σ (.Subscript value (.Slice (some lo) none none p) pos) (dL (xs.drop k)) := by
  refine ev_sliceL h (evp_int hl) evp_nil (by rw [List.length_map]; omega) fun fz vs hv => ?_
  have := pick_from (i := (k : Int)) hv (by omega) (by rw [List.length_map]; omega)
  rwa [Int.toNat_natCast, ← List.map_drop] at this
theorem dsub {e : PySem.Expr} {k j : Nat} (h : Ev W A env σ e (.int ((k : Int) - j))) (hj : j ≤ k) : Ev W A env σ e (dN (k - j)) := by
  rw [show dN (k - j) = D.int ((k : Int) - j) by show D.int _ = D.int _; congr 1; omega]; exact h
theorem dadd1 {e : PySem.Expr} {k : Nat} (h : Ev W A env σ e (.int ((k : Int) + 1))) : Ev W A env σ e (dN (k + 1)) := h
theorem dsub1 {e : PySem.Expr} {k : Nat} (h : Ev W A env σ e (.int ((k : Int) - 1))) (hj : 1 ≤ k) : Ev W A env σ e (dN (k - 1)) := dsub (j := 1) h hj
theorem dadd {e : PySem.Expr} {k j : Nat} (h : Ev W A env σ e (.int ((k : Int) + j))) : Ev W A env σ e (dN (k + j)) := h
variable (w : World) (mean : ExcName → Option Value) (mg mb : PySem.Str → Option Value)
set_option maxHeartbeats 300000
theorem exchanged_ok (o : List Nat) (k : Nat) (h1 : 1 ≤ k) (h2 : k < o.length) (hz : o.length ≤ 100) : CallOk (W1 w mean mg mb) 1 101 [dL o, dN k] (dL (exchP o k)) := by
  refine def_ok (names := [PySem.Str.ofString "order", PySem.Str.ofString "step"]) rfl rfl ?_ (by decide) (by walk_at "names") rfl rfl rfl rfl ?_
  · intro vs h
    match vs, h with
    | [a, b], _ => rfl
  · intro A L F
    show X _ _ _ [(PySem.Str.ofString "order", Slot.val (dL o)), (PySem.Str.ofString "step", Slot.val (dN k))] _ _
    refine x_stop (x_ret ?_)
    have e : dL (exchP o k) = .lst (((o.take (k - 1)).map dN ++ [dN (o.getD k 0), dN (o.getD (k - 1) 0)]) ++ (o.drop (k + 1)).map dN) := by unfold exchP dL; simp
    rw [e]
    refine ev_bin (d₁ := .lst ((o.take (k - 1)).map dN ++ [dN (o.getD k 0), dN (o.getD (k - 1) 0)])) (d₂ := dL (o.drop (k + 1))) ?_ (ev_slFL (by walk_at "ev") (dadd1 (by walk_at "ev")) (by omega) (by omega)) (op_addL (by simp; omega))
    exact ev_bin (ev_slUL (by walk_at "ev") (dsub1 (by walk_at "ev") h1) (by omega) (by omega)) (evF_list (evs_cons (ev_itL (by walk_at "ev") (by walk_at "ev") h2 (by omega)) (evs_cons (ev_itL (by walk_at "ev") (dsub1 (by walk_at "ev") h1) (by omega) (by omega)) evs_nil)) (by simp)).ev (op_addL (by simp; omega))
theorem stepP_len {o : List Nat} {k : Nat} (h1 : 1 ≤ k) (h2 : k < o.length) : (stepP o k).length = o.length := by
  unfold stepP; split
  · exact exchP_len h1 h2
  · rfl
theorem order_ok (l : List Nat) (hl : ∀ k ∈ l, 1 ≤ k ∧ k ≤ 5) : CallOk (W1 w mean mg mb) 2 108 [dL l] (dL (orderP l [0, 1, 2, 3, 4, 5])) := by
  refine def_ok (names := [PySem.Str.ofString "steps"]) rfl rfl ?_ (by decide) (by walk_at "names") rfl rfl rfl rfl ?_
  · intro vs h
    match vs, h with
    | [a], _ => rfl
  · intro A L F
    show X _ _ _ [(PySem.Str.ofString "steps", Slot.val (dL l))] _ _
    refine x_cons (x_assign (d := dL [0, 1, 2, 3, 4, 5]) F ((evF_list (ds := [.int 0, .int 1, .int 2, .int 3, .int 4, .int 5]) (by walk_at "evs") (by decide)).ev) rfl) ?_
    refine x_cons (σ₁ := [(PySem.Str.ofString "order", Slot.val (dL (orderP l [0, 1, 2, 3, 4, 5]))), (PySem.Str.ofString "steps", Slot.val (dL l))]) ?_ (x_stop (x_ret (by walk_at "ev")))
    have ho : [0, 1, 2, 3, 4, 5].length = 6 := rfl
    generalize [0, 1, 2, 3, 4, 5] = o at ho ⊢
    refine x1_weak (σ' := [(PySem.Str.ofString "order", Slot.val (dL o)), (PySem.Str.ofString "steps", Slot.val (dL l))]) (by walk_at "sub") ?_
    refine x_for (by walk_at "ev") (iter_list F.hh) ?_
    generalize dL l = dl
    induction l generalizing o with
    | nil => exact .nil
    | cons k l ih =>
      obtain ⟨h1, h5⟩ := hl k (.head _)
      refine ForRun.next (σ₁ := [(PySem.Str.ofString "order", Slot.val (dL (stepP o k))), (PySem.Str.ofString "steps", Slot.val dl)]) ⟨_, asg_name F rfl, x_weakO (x_cons (σ₁ := [(PySem.Str.ofString "order", Slot.val (dL (stepP o k))), (PySem.Str.ofString "steps", Slot.val dl)]) ?_ x_nil) (by walk_at "sub")⟩ (ih (fun x hx => hl x (.tail _ hx)) (stepP o k) (by rw [stepP_len h1 (by omega)]; exact ho))
      unfold stepP
      by_cases hlt : o.getD (k - 1) 0 < o.getD k 0
      · rw [if_pos hlt]
        refine x_if (b := decide ((o.getD (k - 1) 0 : Int) < (o.getD k 0 : Int))) (tr_cmp (ev_itL (by walk_at "ev") (dsub1 (by walk_at "ev") h1) (by omega) (by omega)) (ev_itL (by walk_at "ev") (by walk_at "ev") (by omega) (by omega)) op_ltI rfl) (fun _ => ?_) fun h => absurd hlt (by simpa using h)
        exact x_weakO (x_cons (x_assign F (ev_call F rfl rfl (by decide) rfl (by walk_at "evs") (exchanged_ok w mean mg mb o k h1 (by omega) (by omega)) (by omega)) rfl) x_nil) (by walk_at "sub")
      · rw [if_neg hlt]
        refine x_if (b := decide ((o.getD (k - 1) 0 : Int) < (o.getD k 0 : Int))) (tr_cmp (ev_itL (by walk_at "ev") (dsub1 (by walk_at "ev") h1) (by omega) (by omega)) (ev_itL (by walk_at "ev") (by walk_at "ev") (by omega) (by omega)) op_ltI rfl) (fun h => absurd hlt (by simpa using h)) fun _ => ?_
        exact x_weak (by walk_at "sub") x_nil
end
section
def shortP (n q : Nat) : Nat := (q ^ n - 1) / (q - 1)
theorem bits17 {q : Nat} (h : q ≤ 17) : Builtin.Int.intBits (q : Int) ≤ 5 := by
  have : ∀ q : _root_.Fin 18, Builtin.Int.intBits (q.val : Int) ≤ 5 := by decide +kernel
  exact this ⟨q, by omega⟩
variable (w : World) (mean : ExcName → Option Value) (mg mb : PySem.Str → Option Value)
set_option maxHeartbeats 400000
theorem short_ok (n q : Nat) (h2 : 2 ≤ q) (h17 : q ≤ 17) (hn : n ≤ 20) : CallOk (W1 w mean mg mb) 1 125 [dN n, dN q] (dN (shortP n q)) := by
  refine def_ok (names := [PySem.Str.ofString "size", PySem.Str.ofString "base"]) rfl rfl ?_ (by decide) (by walk_at "names") rfl rfl rfl rfl ?_
  · intro vs h
    match vs, h with
    | [a, b], _ => rfl
  · intro A L F
    show X _ _ _ [(PySem.Str.ofString "size", Slot.val (dN n)), (PySem.Str.ofString "base", Slot.val (dN q))] _ _
    refine x_stop (x_ret ?_)
    have e : dN (shortP n q) = D.int (Int.fdiv ((q : Int) ^ (n : Int).toNat - 1) ((q : Int) - 1)) := by
      show D.int _ = D.int _
      congr 1
      have hq : 1 ≤ q ^ n := Nat.one_le_pow _ _ (by omega)
      have e1 : ((q : Int) ^ (n : Int).toNat - 1) = ((q ^ n - 1 : Nat) : Int) := by rw [Int.toNat_natCast, Int.ofNat_sub hq]; simp
      have e2 : ((q : Int) - 1) = ((q - 1 : Nat) : Int) := by omega
      rw [e1, e2, Int.fdiv_eq_ediv_of_nonneg _ (by omega)]; rfl
    rw [e]
    have hb := bits17 h17
    have hm : (Builtin.Int.intBits (q : Int) : Int) * (n : Int) ≤ 2 ^ 27 := by
      have : Builtin.Int.intBits (q : Int) * n ≤ 5 * 20 := Nat.mul_le_mul hb hn
      omega
    exact ev_bin (ev_bin (ev_bin (by walk_at "ev") (by walk_at "ev") (op_pow (by omega) hm)) ev_int op_sub) (ev_bin (by walk_at "ev") ev_int op_sub) (op_div (by omega) (PyProof.noPylong_small (by omega)))
end
section
theorem mulL {a : Nat} {b : Int} (h : a < 2 ^ 64) : IntMulOk (a : Int) b := IntMulOk.of_left (PySem.intBits_le_iff.mpr (by simpa using h))
theorem mulR {a : Int} {b : Nat} (h : b < 2 ^ 64) : IntMulOk a (b : Int) := IntMulOk.of_right (PySem.intBits_le_iff.mpr (by simpa using h))
theorem shortP_lt {n q : Nat} (hn : n ≤ 5) (h17 : q ≤ 17) : shortP n q < 2 ^ 21 := by
  unfold shortP
  have h1 : q ^ n ≤ 17 ^ 5 := Nat.le_trans (Nat.pow_le_pow_left h17 n) (Nat.pow_le_pow_right (by decide) hn)
  have h2 : (q ^ n - 1) / (q - 1) ≤ q ^ n - 1 := Nat.div_le_self _ _
  have : 17 ^ 5 < 2 ^ 21 := by decide
  omega
theorem pow_lt {i q : Nat} (hi : i ≤ 9) (h17 : q ≤ 17) : q ^ i < 2 ^ 40 := by
  have h1 : q ^ i ≤ 17 ^ 9 := Nat.le_trans (Nat.pow_le_pow_left h17 i) (Nat.pow_le_pow_right (by decide) hi)
  have : 17 ^ 9 < 2 ^ 40 := by decide
  omega
def weightGo (q : Nat) : List Nat → Nat → Nat → Nat → Nat
  | [], _, _, w => w
  | k :: l, i, last, w => weightGo q l (i + 1) k (w * (shortP k q * (if last < k then q ^ i else 1)))
theorem powEv {q i : Nat} : ((q : Int) ^ (i : Int).toNat) = ((q ^ i : Nat) : Int) := by rw [Int.toNat_natCast]; simp
theorem pow_hm {q i : Nat} (h17 : q ≤ 17) (hi : i ≤ 20) : (Builtin.Int.intBits (q : Int) : Int) * (i : Int) ≤ 2 ^ 27 := by
  have : Builtin.Int.intBits (q : Int) * i ≤ 5 * 20 := Nat.mul_le_mul (bits17 h17) hi
  omega
section
variable {W : WP} {A : Around} {env : Env} {σ : Sto}
theorem ev_powN {e₁ e₂ : PySem.Expr} {pos : Pos} {q i : Nat} (h₁ : Ev W A env σ e₁ (dN q)) (h₂ : Ev W A env σ e₂ (dN i)) (h17 : q ≤ 17) (hi : i ≤ 20) : Ev W A env σ (.BinOp e₁ .Pow e₂ pos) (dN (q ^ i)) := by
  rw [show dN (q ^ i) = D.int ((q : Int) ^ (i : Int).toNat) by rw [powEv]]
  exact ev_bin h₁ h₂ (op_pow (by omega) (pow_hm h17 hi))
theorem ev_mulN {e₁ e₂ : PySem.Expr} {pos : Pos} {a b : Nat} (h₁ : Ev W A env σ e₁ (dN a)) (h₂ : Ev W A env σ e₂ (dN b)) (hm : IntMulOk a b) : Ev W A env σ (.BinOp e₁ .Mult e₂ pos) (dN (a * b)) := by
  rw [show dN (a * b) = D.int ((a : Int) * (b : Int)) by show D.int _ = D.int _; simp]
  exact ev_bin h₁ h₂ (op_mul hm)
theorem ev_addN {e₁ e₂ : PySem.Expr} {pos : Pos} {a b : Nat} (h₁ : Ev W A env σ e₁ (dN a)) (h₂ : Ev W A env σ e₂ (dN b)) : Ev W A env σ (.BinOp e₁ .Add e₂ pos) (dN (a + b)) := by
  rw [show dN (a + b) = D.int ((a : Int) + (b : Int)) by show D.int _ = D.int _; simp]
  exact ev_bin h₁ h₂ op_add
end
variable (w : World) (mean : ExcName → Option Value) (mg mb : PySem.Str → Option Value)
set_option maxHeartbeats 400000
theorem weight_ok (l : List Nat) (q : Nat) (h2 : 2 ≤ q) (h17 : q ≤ 17) (hk : ∀ k ∈ l, k ≤ 5) (hl : l.length ≤ 9) : CallOk (W1 w mean mg mb) 2 132 [dL l, dN q] (dN (weightGo q l 0 9 1)) := by
  refine def_ok (names := [PySem.Str.ofString "row", PySem.Str.ofString "base"]) rfl rfl ?_ (by decide) (by walk_at "names") rfl rfl rfl rfl ?_
  · intro vs h
    match vs, h with
    | [a, b], _ => rfl
  · intro A L F
    show X _ _ _ [(PySem.Str.ofString "row", Slot.val (dL l)), (PySem.Str.ofString "base", Slot.val (dN q))] _ _
    refine x_cons (x_tup F.hh (ev_tuple (by walk_at "evs") (by simp)) (by rfl) (bndl_cons (asg_name F rfl) (bndl_cons (asg_name F rfl) bndl_nil)) rfl rfl rfl rfl) ?_
    suffices hst : ∃ last, X1 (W1 w mean mg mb) A (envOfC (PySem.Str.ofString "_law_weight") _ L 132 (.ref 131)) [(PySem.Str.ofString "row", Slot.val (dL l)), (PySem.Str.ofString "base", Slot.val (dN q)), (PySem.Str.ofString "weight", Slot.val (dN 1)), (PySem.Str.ofString "last", Slot.val (dN 9))] _ (.next [(PySem.Str.ofString "row", Slot.val (dL l)), (PySem.Str.ofString "base", Slot.val (dN q)), (PySem.Str.ofString "weight", Slot.val (dN (weightGo q l 0 9 1))), (PySem.Str.ofString "last", Slot.val (dN last))]) by
      obtain ⟨last, h⟩ := hst
      refine x_cons (x1_weak ?_ h) (x_stop (x_ret (by walk_at "ev")))
      refine List.forall_mem_cons.mpr ⟨by walk_at "mem", List.forall_mem_cons.mpr ⟨by walk_at "mem", List.forall_mem_cons.mpr ⟨?_, List.forall_mem_cons.mpr ⟨?_, List.forall_mem_nil _⟩⟩⟩⟩
      · show (PySem.Str.ofString "weight", Slot.val (D.int 1)) ∈ _
        walk_at "mem"
      · show (PySem.Str.ofString "last", Slot.val (D.int 9)) ∈ _
        walk_at "mem"
    suffices hf : ∀ (es : List Nat) (i last wt : Nat), i + es.length ≤ 9 → (∀ k ∈ es, k ≤ 5) → ∃ last', ForRun (fun d σ o => ∃ (i : Int) (dv : D), d = .tup [.int i, dv] ∧ X (W1 w mean mg mb) A (envOfC (PySem.Str.ofString "_law_weight") _ L 132 (.ref 131)) (upd (upd σ (PySem.Str.ofString "place") (.val (.int i))) (PySem.Str.ofString "step") (.val dv)) _ o) (enumL i (es.map dN)) [(PySem.Str.ofString "row", Slot.val (dL l)), (PySem.Str.ofString "base", Slot.val (dN q)), (PySem.Str.ofString "weight", Slot.val (dN wt)), (PySem.Str.ofString "last", Slot.val (dN last))] (.next [(PySem.Str.ofString "row", Slot.val (dL l)), (PySem.Str.ofString "base", Slot.val (dN q)), (PySem.Str.ofString "weight", Slot.val (dN (weightGo q es i last wt))), (PySem.Str.ofString "last", Slot.val (dN last'))]) by
      obtain ⟨last, h⟩ := hf l 0 9 1 (by omega) hk
      exact ⟨last, x_forEnum F rfl rfl rfl rfl (ds := l.map dN) (by walk_at "ev") h⟩
    intro es
    induction es with
    | nil => intro i last wt _ _; exact ⟨last, .nil⟩
    | cons k es ih =>
      intro i last wt hi hk
      have hk5 := hk k (.head _)
      rw [List.length_cons] at hi
      obtain ⟨last', h⟩ := ih (i + 1) k (wt * (shortP k q * (if last < k then q ^ i else 1))) (by omega) (fun x hx => hk x (.tail _ hx))
      refine ⟨last', .next ⟨(i : Int), dN k, rfl, ?_⟩ h⟩
      have hp : (if last < k then q ^ i else 1) < 2 ^ 40 := by
        split
        · exact pow_lt (by omega) h17
        · decide
      have hs := shortP_lt hk5 h17
      have hm : shortP k q * (if last < k then q ^ i else 1) < 2 ^ 64 := by
        have : shortP k q * (if last < k then q ^ i else 1) ≤ 2 ^ 21 * 2 ^ 40 := Nat.mul_le_mul (by omega) (by omega)
        have h0 : 2 ^ 21 * 2 ^ 40 < 2 ^ 64 := by decide
        omega
      refine x_weakO (x_cons (x_aug (d := dN (wt * (shortP k q * (if last < k then q ^ i else 1)))) (d₁ := dN wt) (d₂ := dN (shortP k q * (if last < k then q ^ i else 1))) F (by walk_at "mem") rfl ?_ ?_) (x_cons (x_assign F (by walk_at "ev") rfl) x_nil)) (by walk_at "sub")
      · refine ev_mulN (ev_call F rfl rfl (by decide) rfl (by walk_at "evs") (short_ok w mean mg mb k q h2 h17 (by omega)) (by omega)) (ev_if (b := decide ((last : Int) < (k : Int))) (by walk_at "tr") (fun hb => ?_) fun hb => ?_) (mulL (by omega))
        · rw [if_pos (by simpa using hb)]; exact ev_powN (by walk_at "ev") (by walk_at "ev") h17 (by omega)
        · rw [if_neg (by simpa using hb)]; exact ev_int (i := 1)
      · rw [show dN (wt * (shortP k q * (if last < k then q ^ i else 1))) = D.int ((wt : Int) * ((shortP k q * (if last < k then q ^ i else 1) : Nat) : Int)) by show D.int _ = D.int _; simp]
        exact op_imulI (mulR hm)
end
section
def freshGo (q : Nat) (held : List Nat) (lt : Bool) : Nat → Nat → List Nat → List Nat
  | _, 0, fr => fr
  | lev, n + 1, fr => freshGo q held lt (lev + 1) n (fr.set lev (q ^ (lev - 1) * (held.take (if lt then lev else lev + 1)).sum))
theorem freshGo_len (q : Nat) (held : List Nat) (lt : Bool) : ∀ (n lev : Nat) (fr : List Nat), (freshGo q held lt lev n fr).length = fr.length
  | 0, _, _ => rfl
  | n + 1, lev, fr => by rw [freshGo, freshGo_len q held lt n]; simp
def heldGo (q : Nat) : List Nat → List Nat → Nat → List Nat
  | [], held, _ => held
  | k :: l, held, last => heldGo q l (freshGo q held (decide (last < k)) 1 k (List.replicate 6 0)) k
def levelsP (q : Nat) (l : List Nat) : Nat := (heldGo q l [1, 0, 0, 0, 0, 0] 9).sum
theorem for_fresh {step : D → Sto → Out → Prop} {q : Nat} {held : List Nat} {lt : Bool} (σ : List Nat → Sto) (h : ∀ (lev : Nat) (fr : List Nat), 1 ≤ lev → lev ≤ 5 → fr.length = 6 → step (.int (lev : Int)) (σ fr) (.next (σ (fr.set lev (q ^ (lev - 1) * (held.take (if lt then lev else lev + 1)).sum))))) :
    ∀ (n lev : Nat) (fr : List Nat), fr.length = 6 → 1 ≤ lev → lev + n ≤ 6 → ForRun step (rngL (lev : Int) 1 n) (σ fr) (.next (σ (freshGo q held lt lev n fr)))
  | 0, lev, fr, _, _, _ => .nil
  | n + 1, lev, fr, h6, h1, hn => by
    rw [rngL, freshGo]
    exact .next (h lev fr h1 (by omega) h6) (for_fresh σ h n (lev + 1) _ (by simpa using h6) (by omega) (by omega))
theorem sumCast : ∀ l : List Nat, (l.map fun k : Nat => (k : Int)).sum = (l.sum : Nat)
  | [] => rfl
  | a :: l => by rw [List.map_cons, List.sum_cons, sumCast l, List.sum_cons]; simp
theorem cv_sumN {W : WP} {A : Around} {l : List Nat} (hh : A.handled = none) : CallV W A (.builtin "sum") [dL l] (dN l.sum) := by
  have := cv_sum (W := W) (A := A) (ns := l.map fun k : Nat => (k : Int)) hh
  rw [sumCast, List.map_map] at this
  exact this
theorem rangeSizeA (n : Nat) : Builtin.Range.rangeSize 1 ((n : Int) + 1) 1 = (n : Int) := by
  unfold Builtin.Range.rangeSize
  by_cases h : 0 < n
  · rw [if_pos (by decide), if_pos (by omega)]; omega
  · rw [if_pos (by decide), if_neg (by omega)]; omega
theorem smallA {n : Nat} (h : n ≤ 1000) : Builtin.Range.small 1 ((n : Int) + 1) 1 = true := by
  simp [Builtin.Range.small, rangeSizeA, Builtin.Range.rangeFitsLong]; omega
variable (w : World) (mean : ExcName → Option Value) (mg mb : PySem.Str → Option Value)
set_option maxHeartbeats 400000
theorem levels_ok (l : List Nat) (q : Nat) (h2 : 2 ≤ q) (h17 : q ≤ 17) (hk : ∀ k ∈ l, k ≤ 5) : CallOk (W1 w mean mg mb) 1 139 [dL l, dN q] (dN (levelsP q l)) := by
  refine def_ok (names := [PySem.Str.ofString "row", PySem.Str.ofString "base"]) rfl rfl ?_ (by decide) (by walk_at "names") rfl rfl rfl rfl ?_
  · intro vs h
    match vs, h with
    | [a, b], _ => rfl
  · intro A L F
    unfold levelsP
    show X _ _ _ [(PySem.Str.ofString "row", Slot.val (dL l)), (PySem.Str.ofString "base", Slot.val (dN q))] _ _
    refine x_cons (x_tupS (ds := [dL [1, 0, 0, 0, 0, 0], dN 9]) F.hh (ev_tuple (evs_cons (evF_list (ds := [.int 1, .int 0, .int 0, .int 0, .int 0, .int 0]) (by walk_at "evs") (by decide)).ev (evs_cons (ev_int (i := 9)) evs_nil)) (by decide)) (by rfl) (names := [PySem.Str.ofString "held", PySem.Str.ofString "last"]) (bndl_cons (bnd_name F rfl) (bndl_cons (bnd_name F rfl) bndl_nil)) rfl rfl) ?_
    have hh6 : [1, 0, 0, 0, 0, 0].length = 6 := rfl
    generalize [1, 0, 0, 0, 0, 0] = held at hh6 ⊢
    generalize 9 = last
    refine x_weak (σ' := [(PySem.Str.ofString "row", Slot.val (dL l)), (PySem.Str.ofString "base", Slot.val (dN q)), (PySem.Str.ofString "held", Slot.val (dL held)), (PySem.Str.ofString "last", Slot.val (dN last))]) (by walk_at "sub") ?_
    suffices hst : ∃ last', X1 (W1 w mean mg mb) A (envOfC (PySem.Str.ofString "_law_levels") _ L 139 (.ref 138)) [(PySem.Str.ofString "row", Slot.val (dL l)), (PySem.Str.ofString "base", Slot.val (dN q)), (PySem.Str.ofString "held", Slot.val (dL held)), (PySem.Str.ofString "last", Slot.val (dN last))] _ (.next [(PySem.Str.ofString "row", Slot.val (dL l)), (PySem.Str.ofString "base", Slot.val (dN q)), (PySem.Str.ofString "held", Slot.val (dL (heldGo q l held last))), (PySem.Str.ofString "last", Slot.val (dN last'))]) by
      obtain ⟨last', h⟩ := hst
      exact x_cons h (x_stop (x_ret (ev_callB F rfl rfl boot_sum (by decide) (by decide) (evs_cons (by walk_at "ev") evs_nil) (cv_sumN F.hh))))
    suffices hf : ∀ (es held : List Nat) (last : Nat), held.length = 6 → (∀ k ∈ es, k ≤ 5) → ∃ last', ForRun (fun d σ o => ∃ σ₁, Asg (W1 w mean mg mb) A (envOfC (PySem.Str.ofString "_law_levels") _ L 139 (.ref 138)) _ d σ σ₁ ∧ X (W1 w mean mg mb) A (envOfC (PySem.Str.ofString "_law_levels") _ L 139 (.ref 138)) σ₁ _ o) (es.map dN) [(PySem.Str.ofString "row", Slot.val (dL l)), (PySem.Str.ofString "base", Slot.val (dN q)), (PySem.Str.ofString "held", Slot.val (dL held)), (PySem.Str.ofString "last", Slot.val (dN last))] (.next [(PySem.Str.ofString "row", Slot.val (dL l)), (PySem.Str.ofString "base", Slot.val (dN q)), (PySem.Str.ofString "held", Slot.val (dL (heldGo q es held last))), (PySem.Str.ofString "last", Slot.val (dN last'))]) by
      obtain ⟨last', h⟩ := hf l held last hh6 hk
      exact ⟨last', x_for (by walk_at "ev") (iter_list F.hh) h⟩
    clear hh6 held last
    intro es
    induction es with
    | nil => intro held last _ _; exact ⟨last, .nil⟩
    | cons k es ih =>
      intro held last h6 hk
      have hk5 := hk k (.head _)
      obtain ⟨last', h⟩ := ih (freshGo q held (decide (last < k)) 1 k (List.replicate 6 0)) k (by rw [freshGo_len]; rfl) (fun x hx => hk x (.tail _ hx))
      refine ⟨last', .next ⟨_, asg_name F rfl, ?_⟩ h⟩
      refine x_cons (x_assignF (ds := (List.replicate 6 0).map dN) F (show EvF _ _ _ _ _ _ from evF_rep (ds := [.int 0]) (x := 6) (evF_list (by walk_at "evs") (by decide)).ev ev_int (by decide) (by decide) (by decide)) rfl) ?_
      refine x_cons (σ₁ := [(PySem.Str.ofString "row", Slot.val (dL l)), (PySem.Str.ofString "base", Slot.val (dN q)), (PySem.Str.ofString "held", Slot.val (dL held)), (PySem.Str.ofString "last", Slot.val (dN last)), (PySem.Str.ofString "step", Slot.val (dN k)), (PySem.Str.ofString "fresh", Slot.own ((freshGo q held (decide (last < k)) 1 k (List.replicate 6 0)).map dN))]) ?_ ?_
      · refine x1_weak (σ' := [(PySem.Str.ofString "row", Slot.val (dL l)), (PySem.Str.ofString "base", Slot.val (dN q)), (PySem.Str.ofString "held", Slot.val (dL held)), (PySem.Str.ofString "last", Slot.val (dN last)), (PySem.Str.ofString "step", Slot.val (dN k)), (PySem.Str.ofString "fresh", Slot.own ((List.replicate 6 0).map dN))]) (by walk_at "sub") ?_
        refine x_for (by walk_at "ev") (iter_rng F.hh (smallA (by omega)) (rangeSizeA k)) ?_
        have h6' : (List.replicate 6 0).length = 6 := rfl
        generalize List.replicate 6 0 = fr at h6' ⊢
        refine for_fresh (q := q) (held := held) (lt := decide (last < k)) (σ := fun fr => [(PySem.Str.ofString "row", Slot.val (dL l)), (PySem.Str.ofString "base", Slot.val (dN q)), (PySem.Str.ofString "held", Slot.val (dL held)), (PySem.Str.ofString "last", Slot.val (dN last)), (PySem.Str.ofString "step", Slot.val (dN k)), (PySem.Str.ofString "fresh", Slot.own (fr.map dN))]) ?_ k 1 fr h6' (by omega) (by omega)
        intro lev fr h1 h5 h6'
        refine ⟨_, asg_name F rfl, ?_⟩
        have hpw : q ^ (lev - 1) < 2 ^ 64 := Nat.lt_of_lt_of_le (pow_lt (by omega) h17) (by decide)
        have es : (fr.map dN).set (lev : Int).toNat (dN (q ^ (lev - 1) * (held.take (if decide (last < k) then lev else lev + 1)).sum)) = (fr.set lev (q ^ (lev - 1) * (held.take (if decide (last < k) then lev else lev + 1)).sum)).map dN := by rw [Int.toNat_natCast, List.map_set]
        rw [← es]
        refine x_weakO (x_cons (x_setItem (k := (lev : Int)) F (by walk_at "mem") ?_ (by walk_at "ev") (by omega) (by rw [List.length_map]; omega) (by rw [List.length_map]; omega) (by decide)) x_nil) (by walk_at "sub")
        refine ev_mulN (ev_powN (by walk_at "ev") (dsub1 (by walk_at "ev") h1) h17 (by omega)) (ev_callB F rfl rfl boot_sum (by decide) (by decide) (evs_cons (ev_if (b := decide ((last : Int) < (k : Int))) (by walk_at "tr") (fun hb => ?_) fun hb => ?_) evs_nil) (cv_sumN F.hh)) (mulL hpw)
        · rw [if_pos (by simpa using hb)]; exact ev_slUL (by walk_at "ev") (by walk_at "ev") (by omega) (by omega)
        · rw [if_neg (by simpa using hb)]; exact ev_slUL (by walk_at "ev") (dadd1 (by walk_at "ev")) (by omega) (by omega)
      · generalize freshGo q held (decide (last < k)) 1 k (List.replicate 6 0) = fr
        refine x_freeze (x := PySem.Str.ofString "fresh") (ds := fr.map dN) (by walk_at "mem") ?_
        exact x_weakO (x_cons (x_tupS F.hh (ev_tuple (by walk_at "evs") (by simp)) (by rfl) (names := [PySem.Str.ofString "held", PySem.Str.ofString "last"]) (bndl_cons (bnd_name F rfl) (bndl_cons (bnd_name F rfl) bndl_nil)) rfl rfl) x_nil) (by walk_at "sub")
end
section
def dR (rs : List (List Nat)) : List D := rs.map dL
def shortF : Nat → List Nat → List (List Nat)
  | 0, _ => [[]]
  | f + 1, o =>
    let rows := [1, 2, 3, 4, 5].flatMap fun k => if o.getD k 0 < o.getD (k - 1) 0 then (shortF f (exchP o k)).map (· ++ [k]) else []
    if rows.isEmpty then [[]] else rows
/-- the fuel is enough -/
def fuelOk : Nat → List Nat → Bool
  | 0, o => [1, 2, 3, 4, 5].all fun k => !decide (o.getD k 0 < o.getD (k - 1) 0)
  | f + 1, o => [1, 2, 3, 4, 5].all fun k => !decide (o.getD k 0 < o.getD (k - 1) 0) || fuelOk f (exchP o k)
theorem flat_len {α : Type} (g : Nat → List α) (n : Nat) : ∀ l : List Nat, (∀ k ∈ l, (g k).length ≤ n) → (l.flatMap g).length ≤ l.length * n
  | [], _ => by simp
  | a :: l, h => by
    rw [List.flatMap_cons, List.length_append, List.length_cons, Nat.add_mul]
    have := flat_len g n l (fun k hk => h k (.tail _ hk))
    have := h a (.head _)
    omega
theorem shortF_len : ∀ (f : Nat) (o : List Nat), (shortF f o).length ≤ 5 ^ f
  | 0, _ => by simp [shortF]
  | f + 1, o => by
    unfold shortF
    dsimp only
    split
    · exact Nat.one_le_pow _ _ (by decide)
    · have := flat_len (fun k => if o.getD k 0 < o.getD (k - 1) 0 then (shortF f (exchP o k)).map (· ++ [k]) else []) (5 ^ f) [1, 2, 3, 4, 5] (fun k _ => by
        split
        · rw [List.length_map]; exact shortF_len f _
        · simp)
      rw [Nat.pow_succ, Nat.mul_comm]
      exact this
theorem shortF_row : ∀ (f : Nat) (o r : List Nat), r ∈ shortF f o → r.length ≤ f ∧ ∀ k ∈ r, 1 ≤ k ∧ k ≤ 5
  | 0, o, r, h => by simp [shortF] at h; subst h; simp
  | f + 1, o, r, h => by
    unfold shortF at h
    dsimp only at h
    split at h
    · simp at h; subst h; simp
    · obtain ⟨k, hk, hr⟩ := List.mem_flatMap.mp h
      have hk' : 1 ≤ k ∧ k ≤ 5 := by simp at hk; omega
      split at hr
      · obtain ⟨r', hr', rfl⟩ := List.mem_map.mp hr
        obtain ⟨h1, h2⟩ := shortF_row f _ r' hr'
        refine ⟨by simp; omega, fun j hj => ?_⟩
        rcases List.mem_append.mp hj with hj | hj
        · exact h2 j hj
        · rw [List.mem_singleton.mp hj]; exact hk'
      · simp at hr
theorem smallB : Builtin.Range.small 1 6 1 = true ∧ Builtin.Range.rangeSize 1 6 1 = ((5 : Nat) : Int) := by decide +kernel
variable (w : World) (mean : ExcName → Option Value) (mg mb : PySem.Str → Option Value)
set_option maxHeartbeats 400000
theorem comp_rows (rs : List (List Nat)) (k : Nat) : (rs.map fun r => some (dL (r ++ [k]))).filterMap id = dR (rs.map (· ++ [k])) := by
  unfold dR
  induction rs with
  | nil => rfl
  | cons r rs ih => rw [List.map_cons, List.map_cons, List.map_cons, ← ih]; rfl
theorem for_flat {step : D → Sto → Out → Prop} {α : Type} (σ : List α → Sto) (g : Nat → List α) (h : ∀ (k : Nat) (pre : List Nat), 1 ≤ k → k ≤ 5 → pre.length ≤ 5 → (∀ x ∈ pre, 1 ≤ x ∧ x ≤ 5) → step (.int (k : Int)) (σ (pre.flatMap g)) (.next (σ (pre.flatMap g ++ g k)))) :
    ∀ (ks pre : List Nat), (∀ k ∈ ks, 1 ≤ k ∧ k ≤ 5) → (∀ x ∈ pre, 1 ≤ x ∧ x ≤ 5) → pre.length + ks.length ≤ 6 → ForRun step (ks.map dN) (σ (pre.flatMap g)) (.next (σ ((pre ++ ks).flatMap g)))
  | [], pre, _, _, _ => by rw [List.append_nil]; exact .nil
  | k :: ks, pre, hk, hp, hl => by
    rw [List.length_cons] at hl
    have ih := for_flat σ g h ks (pre ++ [k]) (fun x hx => hk x (.tail _ hx)) (fun x hx => (List.mem_append.mp hx).elim (hp x) fun h => by rw [List.mem_singleton.mp h]; exact hk k (.head _)) (by simp; omega)
    rw [List.append_assoc, List.singleton_append] at ih
    have e : (pre ++ [k]).flatMap g = pre.flatMap g ++ g k := by simp
    rw [e] at ih
    exact .next (h k pre (hk k (.head _)).1 (hk k (.head _)).2 (by omega) hp) ih
theorem shortest_body (n : Nat) (o : List Nat) (g : Nat → List (List Nat)) (ho : o.length = 6) (hn : 1 ≤ n)
    (hg : ∀ k, 1 ≤ k → k ≤ 5 → o.getD k 0 < o.getD (k - 1) 0 → CallOk (W1 w mean mg mb) n 113 [dL (exchP o k)] (.lst (dR (g k))) ∧ (g k).length ≤ 1000 ∧ ∀ r ∈ g k, r.length ≤ 10) :
    CallOk (W1 w mean mg mb) (n + 1) 113 [dL o] (.lst (dR (if ([1, 2, 3, 4, 5].flatMap fun k => if o.getD k 0 < o.getD (k - 1) 0 then (g k).map (· ++ [k]) else []).isEmpty then [[]] else [1, 2, 3, 4, 5].flatMap fun k => if o.getD k 0 < o.getD (k - 1) 0 then (g k).map (· ++ [k]) else []))) := by
  have hlen : ∀ k, 1 ≤ k → k ≤ 5 → (if o.getD k 0 < o.getD (k - 1) 0 then (g k).map (· ++ [k]) else []).length ≤ 1000 := by
    intro k h1 h5
    split
    · next h => rw [List.length_map]; exact (hg k h1 h5 h).2.1
    · simp
  refine def_ok (names := [PySem.Str.ofString "order"]) rfl rfl ?_ (by decide) (by walk_at "names") rfl rfl rfl rfl ?_
  · intro vs h
    match vs, h with
    | [a], _ => rfl
  · intro A L F
    show X _ _ _ [(PySem.Str.ofString "order", Slot.val (dL o))] _ _
    refine x_cons (x_assignF (ds := dR []) F (evF_list evs_nil (by decide)) rfl) ?_
    refine x_cons (σ₁ := [(PySem.Str.ofString "order", Slot.val (dL o)), (PySem.Str.ofString "rows", Slot.own (dR ([1, 2, 3, 4, 5].flatMap fun k => if o.getD k 0 < o.getD (k - 1) 0 then (g k).map (· ++ [k]) else [])))]) ?_ ?_
    · refine x1_weak (σ' := [(PySem.Str.ofString "order", Slot.val (dL o)), (PySem.Str.ofString "rows", Slot.own (dR []))]) (by walk_at "sub") ?_
      refine x_for (d := .rng 1 6 1) (by walk_at "ev") (iter_rng F.hh smallB.1 smallB.2) ?_
      refine for_flat (σ := fun acc => [(PySem.Str.ofString "order", Slot.val (dL o)), (PySem.Str.ofString "rows", Slot.own (dR acc))]) (fun k => if o.getD k 0 < o.getD (k - 1) 0 then (g k).map (· ++ [k]) else []) ?_ [1, 2, 3, 4, 5] [] (by decide) (by decide) (by decide)
      intro k pre h1 h5 hp hpm
      have hacc : (pre.flatMap fun k => if o.getD k 0 < o.getD (k - 1) 0 then (g k).map (· ++ [k]) else []).length ≤ 50000 := by
        have := flat_len (fun k => if o.getD k 0 < o.getD (k - 1) 0 then (g k).map (· ++ [k]) else []) 1000 pre fun k hk => hlen k (hpm k hk).1 (hpm k hk).2
        omega
      generalize (pre.flatMap fun k => if o.getD k 0 < o.getD (k - 1) 0 then (g k).map (· ++ [k]) else []) = acc at hacc ⊢
      refine ⟨_, asg_cell F rfl (c := L + 1) rfl (Nat.lt_succ_self _), ?_⟩
      by_cases hd : o.getD k 0 < o.getD (k - 1) 0
      · rw [if_pos hd]
        obtain ⟨hc, hl, hr⟩ := hg k h1 h5 hd
        refine x_weakO (σ' := [(PySem.Str.ofString "order", Slot.val (dL o)), (PySem.Str.ofString "rows", Slot.own (dR (acc ++ (g k).map (· ++ [k]))))]) (x_cons (x_if (b := decide ((o.getD k 0 : Int) < (o.getD (k - 1) 0 : Int))) (tr_cmp (ev_itL (by walk_at "ev") (dsub1 (by walk_at "ev") h1) (by omega) (by omega)) (ev_itL (by walk_at "ev") (by walk_at "ev") (by omega) (by omega)) op_gtI rfl) (fun _ => ?_) fun h => absurd hd (by simpa using h)) x_nil) (fun p h => h)
        have ea : dR (acc ++ (g k).map (· ++ [k])) = dR acc ++ dR ((g k).map (· ++ [k])) := by unfold dR; rw [List.map_append]
        rw [ea, ← comp_rows]
        refine x_weakO (x_cons (x_augL F (by walk_at "mem") (evF_comp F (cl := [(PySem.Str.ofString "step", L + 1)]) (cap := [(PySem.Str.ofString "step", dN k)]) (ds := dR (g k)) (ev_call F rfl rfl (by decide) rfl (evs_cons (ev_call F rfl rfl (by decide) rfl (by walk_at "evs") (exchanged_ok w mean mg mb o k h1 (by omega) (by omega)) (by omega)) evs_nil) hc (by omega)) (iter_list F.hh) rfl (by decide) rfl (by decide) ?_ ?_ ?_) ?_) x_nil) (by walk_at "sub")
        · intro C
          refine ⟨fun x c h => ?_, fun p hp => ?_⟩
          · have h' : List.lookup x [(PySem.Str.ofString "step", L + 1)] = some c := h
            rw [List.lookup_cons] at h'
            split at h'
            · next hx => rw [beq_iff_eq] at hx; subst hx; exact h'
            · cases h'
          · rw [List.mem_singleton.mp hp]
            exact ⟨by walk_at "mem", (fun h => by have h2 : some NameKind.cell = some NameKind.local := h; cases h2), rfl, rfl⟩
        · intro C FC
          refine All2.map dL _ fun r hr' => ?_
          refine ⟨_, asg_name FC rfl, ?_, tst_nil, ?_⟩
          · exact fun p hp => by rw [List.mem_singleton.mp hp]; exact upd_of (x := PySem.Str.ofString "row") (y := PySem.Str.ofString "step") (by decide) (.head _)
          · rw [show dL (r ++ [k]) = .lst (r.map dN ++ [dN k]) by unfold dL; simp]
            have hrl := hr r hr'
            exact ev_bin (ev_name FC (by walk_at "mem") (by decide)) (evF_list (evs_cons (ev_name FC (upd_of (x := PySem.Str.ofString "row") (y := PySem.Str.ofString "step") (by decide) (.head _)) (by decide)) evs_nil) (Nat.le_of_ble_eq_true rfl)).ev (op_addL (by simp; omega))
        · show (List.map dL (g k)).length ≤ _
          rw [List.length_map]; omega
        · rw [comp_rows]; unfold dR; rw [List.length_map, List.length_map, List.length_map]; omega
      · rw [if_neg hd, List.append_nil]
        exact x_weakO (σ' := [(PySem.Str.ofString "order", Slot.val (dL o)), (PySem.Str.ofString "rows", Slot.own (dR acc))]) (x_cons (x_if (b := decide ((o.getD k 0 : Int) < (o.getD (k - 1) 0 : Int))) (tr_cmp (ev_itL (by walk_at "ev") (dsub1 (by walk_at "ev") h1) (by omega) (by omega)) (ev_itL (by walk_at "ev") (by walk_at "ev") (by omega) (by omega)) op_gtI rfl) (fun h => absurd (by simpa using h) hd) fun _ => x_nil) x_nil) (by walk_at "sub")
    · refine x_freeze (x := PySem.Str.ofString "rows") (by walk_at "mem") ?_
      have hl2 : ([1, 2, 3, 4, 5].flatMap fun k => if o.getD k 0 < o.getD (k - 1) 0 then (g k).map (· ++ [k]) else []).length ≤ 5000 := by
        exact flat_len (fun k => if o.getD k 0 < o.getD (k - 1) 0 then (g k).map (· ++ [k]) else []) 1000 [1, 2, 3, 4, 5] fun k hk => hlen k (by simp at hk; omega) (by simp at hk; omega)
      generalize ([1, 2, 3, 4, 5].flatMap fun k => if o.getD k 0 < o.getD (k - 1) 0 then (g k).map (· ++ [k]) else []) = rows at hl2 ⊢
      have hdl : (dR rows).length = rows.length := by unfold dR; rw [List.length_map]
      refine x_stop (x_ret (ev_or (b := !(dR rows).isEmpty) (d₁ := .lst (dR rows)) (by walk_at "ev") (truth_lst (by omega)) (fun h => ?_) fun h => ?_))
      · cases rows with
        | nil => cases h
        | cons r rs => rfl
      · cases rows with
        | nil => exact (evF_list (ds := [dL []]) (evs_cons (evF_list (ds := []) evs_nil (by decide)).ev evs_nil) (by decide)).ev
        | cons r rs => cases h
theorem shortest_ok : ∀ (f : Nat) (o : List Nat), f ≤ 5 → o.length = 6 → fuelOk f o = true → CallOk (W1 w mean mg mb) (f + 2) 113 [dL o] (.lst (dR (shortF f o)))
  | 0, o, hf, ho, hu => by
    have h0 : ∀ k, 1 ≤ k → k ≤ 5 → ¬ o.getD k 0 < o.getD (k - 1) 0 := by
      intro k h1 h5
      have := List.all_eq_true.mp hu k (by simp; omega)
      simpa using this
    have := shortest_body w mean mg mb 1 o (fun _ => []) ho (by omega) fun k h1 h5 hd => absurd hd (h0 k h1 h5)
    have e : ([1, 2, 3, 4, 5].flatMap fun k => if o.getD k 0 < o.getD (k - 1) 0 then (([] : List (List Nat)).map (· ++ [k])) else []) = [] := by
      rw [List.flatMap_eq_nil_iff]; intro k _; split <;> rfl
    rw [e] at this
    exact this
  | f + 1, o, hf, ho, hu => by
    refine shortest_body w mean mg mb (f + 2) o (fun k => shortF f (exchP o k)) ho (by omega) fun k h1 h5 hd => ⟨shortest_ok f (exchP o k) (by omega) (by rw [exchP_len h1 (by omega)]; exact ho) ?_, ?_, ?_⟩
    · have := List.all_eq_true.mp hu k (by simp; omega)
      rw [decide_eq_true hd, Bool.not_true, Bool.false_or] at this
      exact this
    · have := shortF_len f (exchP o k)
      have : 5 ^ f ≤ 5 ^ 4 := Nat.pow_le_pow_right (by decide) (by omega)
      have : 5 ^ 4 ≤ 1000 := by decide
      omega
    · intro r hr
      have := (shortF_row f _ r hr).1
      omega
end
section
def repP (c : Nat) (r l : List Nat) : List Nat := l.flatMap fun k => if k = c then r else [k]
theorem repP_free (c : Nat) (r : List Nat) : ∀ l : List Nat, c ∉ l → repP c r l = l
  | [], _ => rfl
  | k :: l, h => by
    have h1 : ¬ k = c := fun e => h (e ▸ List.mem_cons_self ..)
    have h2 : c ∉ l := fun m => h (List.mem_cons_of_mem _ m)
    show (if k = c then r else [k]) ++ repP c r l = _
    rw [if_neg h1, repP_free c r l h2]; rfl
theorem repP_append (c : Nat) (r a b : List Nat) : repP c r (a ++ b) = repP c r a ++ repP c r b := List.flatMap_append
theorem repP_join (c : Nat) (r : List Nat) : ∀ parts : List PySem.Str, (∀ p ∈ parts, c ∉ p.cps.toList) → (PySem.Str.join (S r) parts).cps.toList = repP c r (PySem.Str.join ⟨#[c]⟩ parts).cps.toList
  | [], _ => rfl
  | [p], h => (repP_free c r _ (h p (List.mem_singleton.mpr rfl))).symm
  | p :: q :: ps, h => by
    have ih := repP_join c r (q :: ps) fun a ha => h a (List.mem_cons_of_mem _ ha)
    show (p ++ S r ++ PySem.Str.join (S r) (q :: ps)).cps.toList = repP c r (p ++ ⟨#[c]⟩ ++ PySem.Str.join ⟨#[c]⟩ (q :: ps)).cps.toList
    simp only [PySem.Str.cps_append, Array.toList_append]
    rw [repP_append, repP_append, ← ih, repP_free c r _ (h p (List.mem_cons_self ..))]
    show p.cps.toList ++ r ++ _ = p.cps.toList ++ repP c r [c] ++ _
    have : repP c r [c] = r := by simp [repP]
    rw [this]
theorem S_toList (x : PySem.Str) (l : List Nat) (h : x.cps.toList = l) : x = S l := by
  obtain ⟨⟨a⟩⟩ := x
  simp at h; subst h; rfl
theorem inRep_S (l : List Nat) (c : Nat) (r : List Nat) : inRep (S l) (S [c]) (S r) = S (repP c r l) := by
  unfold inRep
  have h := StrLaws.found_one (S l) c
  split
  · next he =>
    have he' : (Builtin.Str.occurrences (S l) ⟨#[c]⟩ 0 (S l).length 1).isEmpty = true := he
    rw [he'] at h
    have : c ∉ l := by simpa using h
    rw [repP_free c r l this]
  · refine S_toList _ _ ?_
    have e : Txt.replace (S l) (S [c]) (S r) = PySem.Str.join (S r) (Txt.split (S l) ⟨#[c]⟩) := StrLaws.replace_one (S l) (S r) c
    rw [e, repP_join c r _ (StrLaws.split_free (S l) c), StrLaws.join_split]
theorem repP_len (c : Nat) (r : List Nat) (hr : 1 ≤ r.length) : ∀ l : List Nat, (repP c r l).length ≤ l.length * r.length
  | [] => by simp [repP]
  | k :: l => by
    have ih := repP_len c r hr l
    have e : repP c r (k :: l) = (if k = c then r else [k]) ++ repP c r l := rfl
    rw [e, List.length_append, List.length_cons, Nat.add_mul]
    split
    · omega
    · simp; omega
def escP (rows : List (Nat × List Nat)) (l : List Nat) : List Nat := rows.foldl (fun l p => repP p.1 p.2 l) l
abbrev rAmp : Nat × List Nat := (38, [38, 97, 109, 112, 59])
abbrev rLt : Nat × List Nat := (60, [38, 108, 116, 59])
abbrev rGt : Nat × List Nat := (62, [38, 103, 116, 59])
abbrev rQuot : Nat × List Nat := (34, [38, 113, 117, 111, 116, 59])
abbrev rR13 : Nat × List Nat := (13, [38, 35, 49, 51, 59])
abbrev rN10 : Nat × List Nat := (10, [38, 35, 49, 48, 59])
abbrev rT09 : Nat × List Nat := (9, [38, 35, 48, 57, 59])
abbrev rXD : Nat × List Nat := (13, [38, 35, 120, 68, 59])
abbrev rXA : Nat × List Nat := (10, [38, 35, 120, 65, 59])
abbrev rX9 : Nat × List Nat := (9, [38, 35, 120, 57, 59])
def escRows : Nat → List (Nat × List Nat)
  | 0 => [rAmp, rLt, rGt]
  | 1 => [rAmp, rLt, rGt, rQuot, rR13, rN10, rT09]
  | 2 => [rAmp, rGt, rQuot]
  | 3 => [rAmp, rLt, rGt, rXD]
  | _ => [rAmp, rLt, rQuot, rX9, rXA, rXD]
section
variable {W : WP} {A : Around} {env : Env}
theorem x_rep {n B : Nat} {x cS rS : PySem.Str} {l : List Nat} {p : Nat × List Nat} {k1 k7 k8 : Nat} {p1 p2 p3 p4 p5 p6 p7 p8 p9 p10 p11 : Pos} {rest : List Stmt} {rows : List (Nat × List Nat)} {pl : Sem Bool} (F : FOK n A env) (hx : env.kindOf x = some .local) (hd : (x == ("__debug__" : PySem.Str)) = false)
    (hc : cS = S [p.1]) (hr : rS = S p.2) (hcr : (cS == rS) = false) (hl : l.length ≤ B) (hz : B + (B + 1) * p.2.length ≤ 16777216) (h1 : 1 ≤ p.2.length)
    (next : (repP p.1 p.2 l).length ≤ B * p.2.length → X W A env [(x, Slot.val (.str (S (repP p.1 p.2 l))))] rest (.ret (.str (S (escP rows (repP p.1 p.2 l))))))
    (hsw : swapsWith (.Call (.Attribute (.Name x p5) "replace" p6) [.Constant (.str cS) k7 p7, .Constant (.str rS) k8 p8] [] p9) (some (.Name x p4)) p10.line env = pure false := by rfl)
    (he : eval ((PySem.Expr.Attribute (.Name x p5) "replace" p6).Call [.Constant (.str cS) k7 p7, .Constant (.str rS) k8 p8] [] p9) env = (do let ov ← eval (.Name x p5) env; standAt p6.atName; let (f, first) ← holding [ov] (getMethod ov "replace" pl); callWith p9 f first (backTo p9 (starEach [.Constant (.str cS) k7 p7, .Constant (.str rS) k8 p8] env)) []) := by rfl) :
    X W A env [(x, Slot.val (.str (S l)))] (.If (.Compare (.Constant (.str cS) k1 p1) [.In] [.Name x p2] p3) [.Assign [.Name x p4] (.Call (.Attribute (.Name x p5) "replace" p6) [.Constant (.str cS) k7 p7, .Constant (.str rS) k8 p8] [] p9) p10] [] p11 :: rest) (.ret (.str (S (escP (p :: rows) l)))) := by
  have e := inRep_S l p.1 p.2
  rw [← hc, ← hr] at e
  have hlen : (repP p.1 p.2 l).length ≤ B * p.2.length := Nat.le_trans (repP_len p.1 p.2 h1 l) (Nat.mul_le_mul_right _ hl)
  have hrl : rS.length = p.2.length := by rw [hr, S_len]
  have := x_ifReplace (W := W) (k1 := k1) (p1 := p1) (p2 := p2) (p3 := p3) (p11 := p11) (pl := pl) F (.head _) hx hd hcr (by
    rw [S_len, hrl]
    have : (l.length + 1) * p.2.length ≤ (B + 1) * p.2.length := Nat.mul_le_mul_right _ (by omega)
    omega) hsw he (σ := [(x, Slot.val (.str (S l)))])
  rw [e] at this
  have e2 : upd [(x, Slot.val (.str (S l)))] x (.val (.str (S (repP p.1 p.2 l)))) = [(x, Slot.val (.str (S (repP p.1 p.2 l))))] := by simp [upd]
  rw [e2] at this
  exact x_cons this (next hlen)
end
variable (w : World) (mean : ExcName → Option Value) (mg mb : PySem.Str → Option Value)
set_option maxHeartbeats 400000
theorem esc0_ok (l : List Nat) (hl : l.length ≤ 5) : CallOk (W1 w mean mg mb) 1 52 [.str (S l)] (.str (S (escP (escRows 0) l))) := by
  refine def_ok (names := [PySem.Str.ofString "text"]) rfl rfl ?_ (by decide) (by walk_at "names") rfl rfl rfl rfl ?_
  · intro vs h
    match vs, h with
    | [a], _ => rfl
  · intro A L F
    show X _ _ _ [(PySem.Str.ofString "text", Slot.val (D.str (S l)))] _ _
    refine x_stop (x_try ?_)
    refine x_rep (B := 5) (p := rAmp) F rfl rfl rfl rfl rfl hl (Nat.le_of_ble_eq_true rfl) (Nat.le_of_ble_eq_true rfl) fun hl => ?_
    refine x_rep (B := 25) (p := rLt) F rfl rfl rfl rfl rfl hl (Nat.le_of_ble_eq_true rfl) (Nat.le_of_ble_eq_true rfl) fun hl => ?_
    refine x_rep (B := 100) (p := rGt) F rfl rfl rfl rfl rfl hl (Nat.le_of_ble_eq_true rfl) (Nat.le_of_ble_eq_true rfl) fun hl => ?_
    exact x_stop (x_ret (ev_name F (.head _) (by decide)))
theorem esc1_ok (l : List Nat) (hl : l.length ≤ 5) : CallOk (W1 w mean mg mb) 1 59 [.str (S l)] (.str (S (escP (escRows 1) l))) := by
  refine def_ok (names := [PySem.Str.ofString "text"]) rfl rfl ?_ (by decide) (by walk_at "names") rfl rfl rfl rfl ?_
  · intro vs h
    match vs, h with
    | [a], _ => rfl
  · intro A L F
    show X _ _ _ [(PySem.Str.ofString "text", Slot.val (D.str (S l)))] _ _
    refine x_stop (x_try ?_)
    refine x_rep (B := 5) (p := rAmp) F rfl rfl rfl rfl rfl hl (Nat.le_of_ble_eq_true rfl) (Nat.le_of_ble_eq_true rfl) fun hl => ?_
    refine x_rep (B := 25) (p := rLt) F rfl rfl rfl rfl rfl hl (Nat.le_of_ble_eq_true rfl) (Nat.le_of_ble_eq_true rfl) fun hl => ?_
    refine x_rep (B := 100) (p := rGt) F rfl rfl rfl rfl rfl hl (Nat.le_of_ble_eq_true rfl) (Nat.le_of_ble_eq_true rfl) fun hl => ?_
    refine x_rep (B := 400) (p := rQuot) F rfl rfl rfl rfl rfl hl (Nat.le_of_ble_eq_true rfl) (Nat.le_of_ble_eq_true rfl) fun hl => ?_
    refine x_rep (B := 2400) (p := rR13) F rfl rfl rfl rfl rfl hl (Nat.le_of_ble_eq_true rfl) (Nat.le_of_ble_eq_true rfl) fun hl => ?_
    refine x_rep (B := 12000) (p := rN10) F rfl rfl rfl rfl rfl hl (Nat.le_of_ble_eq_true rfl) (Nat.le_of_ble_eq_true rfl) fun hl => ?_
    refine x_rep (B := 60000) (p := rT09) F rfl rfl rfl rfl rfl hl (Nat.le_of_ble_eq_true rfl) (Nat.le_of_ble_eq_true rfl) fun hl => ?_
    exact x_stop (x_ret (ev_name F (.head _) (by decide)))
theorem esc2_ok (l : List Nat) (hl : l.length ≤ 5) : CallOk (W1 w mean mg mb) 1 66 [.str (S l)] (.str (S (escP (escRows 2) l))) := by
  refine def_ok (names := [PySem.Str.ofString "text"]) rfl rfl ?_ (by decide) (by walk_at "names") rfl rfl rfl rfl ?_
  · intro vs h
    match vs, h with
    | [a], _ => rfl
  · intro A L F
    show X _ _ _ [(PySem.Str.ofString "text", Slot.val (D.str (S l)))] _ _
    refine x_stop (x_try ?_)
    refine x_rep (B := 5) (p := rAmp) F rfl rfl rfl rfl rfl hl (Nat.le_of_ble_eq_true rfl) (Nat.le_of_ble_eq_true rfl) fun hl => ?_
    refine x_rep (B := 25) (p := rGt) F rfl rfl rfl rfl rfl hl (Nat.le_of_ble_eq_true rfl) (Nat.le_of_ble_eq_true rfl) fun hl => ?_
    refine x_rep (B := 100) (p := rQuot) F rfl rfl rfl rfl rfl hl (Nat.le_of_ble_eq_true rfl) (Nat.le_of_ble_eq_true rfl) fun hl => ?_
    exact x_stop (x_ret (ev_name F (.head _) (by decide)))
theorem esc3_ok (l : List Nat) (hl : l.length ≤ 5) : CallOk (W1 w mean mg mb) 1 73 [.str (S l)] (.str (S (escP (escRows 3) l))) := by
  refine def_ok (names := [PySem.Str.ofString "text"]) rfl rfl ?_ (by decide) (by walk_at "names") rfl rfl rfl rfl ?_
  · intro vs h
    match vs, h with
    | [a], _ => rfl
  · intro A L F
    show X _ _ _ [(PySem.Str.ofString "text", Slot.val (D.str (S l)))] _ _
    refine x_stop (x_try ?_)
    refine x_rep (B := 5) (p := rAmp) F rfl rfl rfl rfl rfl hl (Nat.le_of_ble_eq_true rfl) (Nat.le_of_ble_eq_true rfl) fun hl => ?_
    refine x_rep (B := 25) (p := rLt) F rfl rfl rfl rfl rfl hl (Nat.le_of_ble_eq_true rfl) (Nat.le_of_ble_eq_true rfl) fun hl => ?_
    refine x_rep (B := 100) (p := rGt) F rfl rfl rfl rfl rfl hl (Nat.le_of_ble_eq_true rfl) (Nat.le_of_ble_eq_true rfl) fun hl => ?_
    refine x_rep (B := 400) (p := rXD) F rfl rfl rfl rfl rfl hl (Nat.le_of_ble_eq_true rfl) (Nat.le_of_ble_eq_true rfl) fun hl => ?_
    exact x_stop (x_ret (ev_name F (.head _) (by decide)))
theorem esc4_ok (l : List Nat) (hl : l.length ≤ 5) : CallOk (W1 w mean mg mb) 1 80 [.str (S l)] (.str (S (escP (escRows 4) l))) := by
  refine def_ok (names := [PySem.Str.ofString "text"]) rfl rfl ?_ (by decide) (by walk_at "names") rfl rfl rfl rfl ?_
  · intro vs h
    match vs, h with
    | [a], _ => rfl
  · intro A L F
    show X _ _ _ [(PySem.Str.ofString "text", Slot.val (D.str (S l)))] _ _
    refine x_stop (x_try ?_)
    refine x_rep (B := 5) (p := rAmp) F rfl rfl rfl rfl rfl hl (Nat.le_of_ble_eq_true rfl) (Nat.le_of_ble_eq_true rfl) fun hl => ?_
    refine x_rep (B := 25) (p := rLt) F rfl rfl rfl rfl rfl hl (Nat.le_of_ble_eq_true rfl) (Nat.le_of_ble_eq_true rfl) fun hl => ?_
    refine x_rep (B := 100) (p := rQuot) F rfl rfl rfl rfl rfl hl (Nat.le_of_ble_eq_true rfl) (Nat.le_of_ble_eq_true rfl) fun hl => ?_
    refine x_rep (B := 600) (p := rX9) F rfl rfl rfl rfl rfl hl (Nat.le_of_ble_eq_true rfl) (Nat.le_of_ble_eq_true rfl) fun hl => ?_
    refine x_rep (B := 3000) (p := rXA) F rfl rfl rfl rfl rfl hl (Nat.le_of_ble_eq_true rfl) (Nat.le_of_ble_eq_true rfl) fun hl => ?_
    refine x_rep (B := 15000) (p := rXD) F rfl rfl rfl rfl rfl hl (Nat.le_of_ble_eq_true rfl) (Nat.le_of_ble_eq_true rfl) fun hl => ?_
    exact x_stop (x_ret (ev_name F (.head _) (by decide)))
end
section
def tokT : List (List Nat × Nat) := [([33], 54), ([33, 61], 28), ([37], 24), ([37, 61], 40), ([38], 19), ([38, 61], 41), ([40], 7), ([41], 8), ([42], 16), ([42, 42], 35), ([42, 42, 61], 46), ([42, 61], 38), ([43], 14), ([43, 61], 36), ([44], 12), ([45], 15), ([45, 61], 37), ([45, 62], 51), ([46], 23), ([46, 46, 46], 52), ([47], 17), ([47, 47], 47), ([47, 47, 61], 48), ([47, 61], 39), ([58], 11), ([58, 61], 53), ([59], 13), ([60], 20), ([60, 60], 33), ([60, 60, 61], 44), ([60, 61], 29), ([61], 22), ([61, 61], 27), ([62], 21), ([62, 61], 30), ([62, 62], 34), ([62, 62, 61], 45), ([64], 49), ([64, 61], 50), ([91], 9), ([93], 10), ([94], 32), ([94, 61], 43), ([123], 25), ([124], 18), ([124, 61], 42), ([125], 26), ([126], 31)]
def tokLook (x : List Nat) : List (List Nat × Nat) → Option Nat
  | [] => none
  | (a, n) :: r => if a = x then some n else tokLook x r
abbrev tokS (T : List (List Nat × Nat)) : List (PySem.Str × Int) := T.map fun p => (S p.1, (p.2 : Int))
theorem S_eq {a b : List Nat} : S a = S b ↔ a = b := by
  constructor
  · intro h; have := congrArg (fun x : PySem.Str => x.cps.toList) h; simpa [S] using this
  · intro h; rw [h]
theorem tab_tok (x : List Nat) : ∀ T : List (List Nat × Nat), tabLook (tokS T) (S x) = (tokLook x T).map fun n : Nat => (n : Int)
  | [] => rfl
  | (a, n) :: r => by
    have ih := tab_tok x r
    show (if S a = S x then some (n : Int) else tabLook (tokS r) (S x)) = (if a = x then some n else tokLook x r).map _
    rw [ih]
    by_cases h : a = x
    · rw [if_pos h, if_pos (by rw [h])]; rfl
    · rw [if_neg h, if_neg fun e => h (S_eq.mp e)]
def sizeP (page : List Nat) : Nat := if (tokLook (page.take 3) tokT).isSome then 3 else if (tokLook (page.take 2) tokT).isSome then 2 else 1
/-- a symbol: a token's number or the sign itself -/
inductive Sym where
  | num (n : Nat)
  | txt (l : List Nat)
def symOf (x : List Nat) : Sym := match tokLook x tokT with
  | some n => .num n
  | none => .txt x
def Sym.d : Sym → D
  | .num n => dN n
  | .txt l => .str (S l)
def symGo : Nat → List Nat → List Sym
  | 0, _ => []
  | f + 1, page => if page.isEmpty then [] else symOf (page.take (sizeP page)) :: symGo f (page.drop (sizeP page))
theorem tabOr_sym (x : List Nat) : tabOr (tokS tokT) (S x) (S x) = (symOf x).d := by
  unfold tabOr symOf
  rw [tab_tok]
  cases tokLook x tokT <;> rfl
variable (w : World) (mean : ExcName → Option Value) (mg mb : PySem.Str → Option Value)
theorem hasTok : HasTab (W1 w mean mg mb) 22 (tokS tokT) := by
  intro h hx
  exact kt_tab_in (a := 22) (D := (tokS tokT).map fun p => (p.1, PyData.int p.2)) _ w hx (by kernel_rfl) (by decide +kernel) (by kernel_rfl)
theorem sl_take (l : List Nat) (q : Nat) : Txt.slice (S l) none (some (q : Int)) = S (l.take q) := by
  rcases Nat.le_total q l.length with h | h
  · exact sl_upto l q h
  · rw [sl_over l q h, List.take_of_length_le h]
theorem sl_dropA (l : List Nat) (q : Nat) : Txt.slice (S l) (some (q : Int)) none = S (l.drop q) := by
  rcases Nat.le_total q l.length with h | h
  · exact sl_from l q h
  · rw [sl_fromOver l q h, List.drop_eq_nil_of_le h]
section
variable {W : WP} {A : Around} {env : Env} {σ : Sto}
theorem ev_slT {value hi : PySem.Expr} {p pos : Pos} {l : List Nat} {q : Nat} (h : Ev W A env σ value (.str (S l))) (hu : Ev W A env σ hi (.int (q : Int))) (hz : l.length ≤ 1000) :
    Ev W A env σ (.Subscript value (.Slice none (some hi) none p) pos) (.str (S (l.take q))) := by
  rw [← sl_take l q]; exact ev_sliceS h evp_nil (evp_int hu) (by rw [S_len]; omega)
theorem ev_slD {value lo : PySem.Expr} {p pos : Pos} {l : List Nat} {q : Nat} (h : Ev W A env σ value (.str (S l))) (hl : Ev W A env σ lo (.int (q : Int))) (hz : l.length ≤ 1000) :
    Ev W A env σ (.Subscript value (.Slice (some lo) none none p) pos) (.str (S (l.drop q))) := by
  rw [← sl_dropA l q]; exact ev_sliceS h (evp_int hl) evp_nil (by rw [S_len]; omega)
theorem tr_and2 {e₁ e₂ : PySem.Expr} {pos : Pos} {b c : Bool} (h₁ : Tr W A env σ e₁ b) (h₂ : b = true → Tr W A env σ e₂ c) : Tr W A env σ (.BoolOp .And [e₁, e₂] pos) (b && c) := by
  have := allT_and (c := c && true) h₁ fun hb => allT_and (h₂ hb) fun _ => allT_nil
  rw [Bool.and_true] at this
  exact tr_bool this
end
theorem size_run {test : Sto → Bool → Prop} {body : Sto → Out → Prop} (l : List Nat) (σ : Nat → Sto) (ht : ∀ q, q ≤ 3 → test (σ q) (decide (1 < q) && !(tokLook (l.take q) tokT).isSome)) (hb : ∀ q, 2 ≤ q → q ≤ 3 → body (σ q) (.next (σ (q - 1)))) :
    WhileRun test body 2 (σ 3) (.next (σ (sizeP l))) := by
  unfold sizeP
  have h3 := ht 3 (by omega)
  have h2 := ht 2 (by omega)
  have h1 := ht 1 (by omega)
  cases e3 : (tokLook (l.take 3) tokT).isSome with
  | true => rw [e3] at h3; rw [if_pos rfl]; exact .stop h3
  | false =>
    rw [e3] at h3
    rw [if_neg (by decide)]
    refine .next h3 (hb 3 (by omega) (by omega)) ?_
    cases e2 : (tokLook (l.take 2) tokT).isSome with
    | true => rw [e2] at h2; rw [if_pos rfl]; exact .stop h2
    | false =>
      rw [e2] at h2
      rw [if_neg (by decide)]
      exact .next h2 (hb 2 (by omega) (by omega)) (.stop h1)
set_option maxHeartbeats 400000
theorem symbols_ok (f : Nat) (l : List Nat) (hl : l.length ≤ f) (hf : f ≤ 100) : CallOk (W1 w mean mg mb) 1 87 [.str (S l)] (.lst ((symGo f l).map Sym.d)) := by
  refine def_ok (names := [PySem.Str.ofString "page"]) rfl rfl ?_ (by decide) (by walk_at "names") rfl rfl rfl rfl ?_
  · intro vs h
    match vs, h with
    | [a], _ => rfl
  · intro A L F
    show X _ _ _ [(PySem.Str.ofString "page", Slot.val (D.str (S l)))] _ _
    refine x_cons (x_assignF (ds := []) F (evF_list evs_nil (by decide)) rfl) ?_
    refine x_cons (σ₁ := [(PySem.Str.ofString "page", Slot.val (D.str (S []))), (PySem.Str.ofString "symbols", Slot.own ((symGo f l).map Sym.d))]) ?_ (x_freeze (x := PySem.Str.ofString "symbols") (by walk_at "mem") (x_stop (x_ret (by walk_at "ev"))))
    refine x1_weak (σ' := [(PySem.Str.ofString "page", Slot.val (D.str (S l))), (PySem.Str.ofString "symbols", Slot.own [])]) (by walk_at "sub") ?_
    refine x_while (n := f) ?_
    change WhileRun _ _ _ [_, (_, Slot.own (([] : List Sym).map Sym.d))] _
    have e0 : (symGo f l).map Sym.d = ([] ++ symGo f l).map Sym.d := rfl
    rw [e0]
    have ha : ([] : List Sym).length + f ≤ 100 := by simpa using hf
    generalize ([] : List Sym) = acc at ha ⊢
    clear hf e0
    induction f generalizing l acc with
    | zero =>
      have : l = [] := List.eq_nil_of_length_eq_zero (by omega)
      subst this
      rw [symGo, List.append_nil]
      exact .stop (tr_S (l := []) (by walk_at "ev") (by decide))
    | succ f ih =>
      cases hem : l.isEmpty with
      | true =>
        have : l = [] := by simpa using hem
        subst this
        rw [show symGo (f + 1) [] = [] from rfl, List.append_nil]
        exact .stop (tr_S (l := []) (by walk_at "ev") (by decide))
      | false =>
        have hne : l ≠ [] := by intro h; subst h; cases hem
        have hpos : 0 < l.length := List.length_pos_iff.mpr hne
        have e1 : symGo (f + 1) l = symOf (l.take (sizeP l)) :: symGo f (l.drop (sizeP l)) := by
          rw [symGo, if_neg (by rw [hem]; decide)]
        rw [e1]
        have hsz : 1 ≤ sizeP l ∧ sizeP l ≤ 3 := by unfold sizeP; split <;> (try split) <;> omega
        have ih' := ih (l.drop (sizeP l)) (by rw [List.length_drop]; omega) (acc ++ [symOf (l.take (sizeP l))]) (by simp; omega)
        rw [List.append_assoc, List.singleton_append] at ih'
        refine WhileRun.next (tr_eqB (by rw [hem]; rfl) (tr_S (l := l) (by walk_at "ev") (by omega))) ?_ ih'
        have hl1 : l.length ≤ 1000 := by omega
        have hal : acc.length ≤ 1000 := by omega
        clear ih ih'
        refine x_weakO (x_cons (x_assign F (by walk_at "ev") rfl) (x_cons (σ₁ := [(PySem.Str.ofString "page", Slot.val (D.str (S l))), (PySem.Str.ofString "symbols", Slot.own (acc.map Sym.d)), (PySem.Str.ofString "size", Slot.val (D.int (sizeP l : Int)))]) ?_ (x_cons (x_append F (by walk_at "mem") (ev_getTab F (hasTok w mean mg mb) rfl rfl (by decide) (ev_slT (by walk_at "ev") (by walk_at "ev") hl1) (ev_slT (by walk_at "ev") (by walk_at "ev") hl1)) (by rw [List.length_map]; omega) (by decide) rfl) (x_cons (x_assign F (ev_slD (by walk_at "ev") (by walk_at "ev") hl1) rfl) x_nil)))) ?_
        · refine x1_weak (σ' := [(PySem.Str.ofString "page", Slot.val (D.str (S l))), (PySem.Str.ofString "symbols", Slot.own (acc.map Sym.d)), (PySem.Str.ofString "size", Slot.val (D.int 3))]) (by walk_at "sub") (x_while (n := 2) ?_)
          refine size_run l (fun q => [(PySem.Str.ofString "page", Slot.val (D.str (S l))), (PySem.Str.ofString "symbols", Slot.own (acc.map Sym.d)), (PySem.Str.ofString "size", Slot.val (D.int (q : Int)))]) ?_ ?_
          · intro q hq
            have e : ((tokLook (l.take q) tokT).map fun n : Nat => (n : Int)).isSome = (tokLook (l.take q) tokT).isSome := by cases tokLook (l.take q) tokT <;> rfl
            have e2 : decide (1 < q) = decide (1 < (q : Int)) := by rw [Bool.eq_iff_iff]; simp; omega
            rw [← e, ← tab_tok, e2]
            exact tr_and2 (by walk_at "tr") fun _ => tr_notInTab F (hasTok w mean mg mb) rfl rfl (by decide) (ev_slT (by walk_at "ev") (by walk_at "ev") hl1)
          · intro q h2 h3
            have e : ((q - 1 : Nat) : Int) = (q : Int) - 1 := by omega
            simp only [e]
            exact x_weakO (x_cons (x_aug F (by walk_at "mem") rfl (ev_int (i := 1)) op_isubI) x_nil) (by walk_at "sub")
        · rw [tabOr_sym, List.map_append, List.map_cons, List.map_nil]
          walk_at "sub"
end
section
def idxP (nm : List Nat) : Option Nat := if nm = [97, 109, 112] then some 0 else if nm = [108, 116] then some 1 else if nm = [103, 116] then some 2 else none
def stepSym : Sym → List Nat → List Nat → Option (List Nat × List Nat)
  | .num n, st, nm =>
    if n = 19 then some (st, []) else
    if n = 13 then (idxP nm).map fun j => (st ++ [2 + j], nm) else
    if n = 18 ∨ n = 20 ∨ n = 21 then some (st ++ [n - 17], nm) else
    if n = 33 ∨ n = 34 then some (st ++ [n - 30], nm) else none
  | .txt x, st, nm => if nm.length + x.length ≤ 1000 then some (st, nm ++ x) else none
def stepsGo : List Sym → List Nat → List Nat → Option (List Nat)
  | [], st, _ => some st
  | y :: ys, st, nm => match stepSym y st nm with
    | some (st', nm') => stepsGo ys st' nm'
    | none => none
theorem stepSym_len {y : Sym} {st nm st' nm' : List Nat} (h : stepSym y st nm = some (st', nm')) : st'.length ≤ st.length + 1 := by
  cases y with
  | num n =>
    simp only [stepSym] at h
    split at h
    · cases h; omega
    · split at h
      · cases hi : idxP nm with
        | none => rw [hi] at h; cases h
        | some j => rw [hi] at h; cases h; simp
      · split at h
        · cases h; simp
        · split at h
          · cases h; simp
          · cases h
  | txt x =>
    simp only [stepSym] at h
    split at h
    · cases h; omega
    · cases h
section
variable {W : WP} {A : Around} {env : Env} {σ : Sto}
theorem tr_to {e : PySem.Expr} {b c : Bool} (t : Tr W A env σ e b) (h : b = c) : Tr W A env σ e c := h ▸ t
theorem ev_index3 {o : PySem.Expr} {apos pos : Pos} {e : PySem.Expr} {nm : List Nat} {j : Nat} {pl : Sem Bool} (ho : EvF W A env σ o [.str (S [97, 109, 112]), .str (S [108, 116]), .str (S [103, 116])]) (h : Ev W A env σ e (.str (S nm))) (hj : idxP nm = some j)
    (hs : starEach [e] env = (false, eval e env) :: starEach [] env := by rfl)
    (hm : eval ((o.Attribute "index" apos).Call [e] [] pos) env = (do let ov ← eval o env; standAt apos.atName; let (f, first) ← holding [ov] (getMethod ov "index" pl); callWith pos f first (backTo pos (starEach [e] env)) []) := by rfl) :
    Ev W A env σ (.Call (.Attribute o "index" apos) [e] [] pos) (dN j) := by
  refine ev_methL (pl := pl) ho PySem.F.slot_list_index PySem.F.type_list_index (evs_cons h evs_nil hs) ?_ (fun v Q E s hq => callWith_method1 (e := e) (rest := []) hq hs rfl) hm
  have key : ∀ (j : Nat), [S [97, 109, 112], S [108, 116], S [103, 116]][j]? = some (S nm) → (∀ m y, m < j → [S [97, 109, 112], S [108, 116], S [103, 116]][m]? = some y → (y == S nm) = false) → CallV W A (.builtin "list.index") [.lst [.str (S [97, 109, 112]), .str (S [108, 116]), .str (S [103, 116])], .str (S nm)] (dN j) :=
    fun j h1 h2 => cv_index (ys := [S [97, 109, 112], S [108, 116], S [103, 116]]) h1 h2 (by decide)
  unfold idxP at hj
  split at hj
  · next hn => subst hn; cases hj; exact key 0 rfl (fun m y hm => absurd hm (by omega))
  · split at hj
    · next hn =>
      subst hn; cases hj
      refine key 1 rfl (fun m y hm e => ?_)
      have : m = 0 := by omega
      subst this; cases e; decide +kernel
    · split at hj
      · next hn =>
        subst hn; cases hj
        refine key 2 rfl (fun m y hm e => ?_)
        have : m = 0 ∨ m = 1 := by omega
        rcases this with rfl | rfl <;> (cases e; decide +kernel)
      · cases hj
end
variable (w : World) (mean : ExcName → Option Value) (mg mb : PySem.Str → Option Value)
set_option maxHeartbeats 400000
theorem steps_ok (f : Nat) (l st : List Nat) (hl : l.length ≤ f) (hf : f ≤ 100) (hst : stepsGo (symGo f l) [] [] = some st) (hn : (symGo f l).length ≤ 100) : CallOk (W1 w mean mg mb) 2 94 [.str (S l)] (dL st) := by
  refine def_ok (names := [PySem.Str.ofString "page"]) rfl rfl ?_ (by decide) (by walk_at "names") rfl rfl rfl rfl ?_
  · intro vs h
    match vs, h with
    | [a], _ => rfl
  · intro A L F
    show X _ _ _ [(PySem.Str.ofString "page", Slot.val (D.str (S l)))] _ _
    refine x_cons (x_tupOwn2 (x := PySem.Str.ofString "steps") (y := PySem.Str.ofString "name") (ds := []) F (evF_list evs_nil (by decide)) (ev_str) rfl rfl (by decide) rfl rfl) ?_
    suffices hs : ∃ nm, X1 (W1 w mean mg mb) A (envOfC (PySem.Str.ofString "_law_steps") _ L 94 (.ref 93)) [(PySem.Str.ofString "page", Slot.val (D.str (S l))), (PySem.Str.ofString "steps", Slot.own []), (PySem.Str.ofString "name", Slot.val (D.str (S [])))] _ (.next [(PySem.Str.ofString "page", Slot.val (D.str (S l))), (PySem.Str.ofString "steps", Slot.own (st.map dN)), (PySem.Str.ofString "name", Slot.val (D.str (S nm)))]) by
      obtain ⟨nm, h⟩ := hs
      refine x_cons (x1_weak ?_ h) (x_freeze (x := PySem.Str.ofString "steps") (by walk_at "mem") (x_stop (x_ret (by walk_at "ev"))))
      refine List.forall_mem_cons.mpr ⟨by walk_at "mem", List.forall_mem_cons.mpr ⟨by walk_at "mem", List.forall_mem_cons.mpr ⟨?_, List.forall_mem_nil _⟩⟩⟩
      show (PySem.Str.ofString "name", Slot.val (D.str (PySem.Str.ofString ""))) ∈ _
      walk_at "mem"
    suffices hs : ∀ (ys : List Sym) (s0 n0 : List Nat), stepsGo ys s0 n0 = some st → s0.length + ys.length ≤ 100 → ∃ nm, ForRun (fun d σ o => ∃ σ₁, Asg (W1 w mean mg mb) A (envOfC (PySem.Str.ofString "_law_steps") _ L 94 (.ref 93)) (.Name (PySem.Str.ofString "symbol") _) d σ σ₁ ∧ X (W1 w mean mg mb) A (envOfC (PySem.Str.ofString "_law_steps") _ L 94 (.ref 93)) σ₁ _ o) (ys.map Sym.d) [(PySem.Str.ofString "page", Slot.val (D.str (S l))), (PySem.Str.ofString "steps", Slot.own (s0.map dN)), (PySem.Str.ofString "name", Slot.val (D.str (S n0)))] (.next [(PySem.Str.ofString "page", Slot.val (D.str (S l))), (PySem.Str.ofString "steps", Slot.own (st.map dN)), (PySem.Str.ofString "name", Slot.val (D.str (S nm)))]) by
      obtain ⟨nm, h⟩ := hs (symGo f l) [] [] hst (by simpa using hn)
      exact ⟨nm, x_for (ev_call F rfl rfl (by decide) rfl (by walk_at "evs") (symbols_ok w mean mg mb f l hl hf) (by omega)) (iter_list F.hh) h⟩
    intro ys
    clear hst hn
    have hPG : ∃ dp, dp = Slot.val (D.str (S l)) := ⟨_, rfl⟩
    obtain ⟨dp, hdp⟩ := hPG
    rw [← hdp]
    clear hdp hl hf
    induction ys with
    | nil => intro s0 n0 h _; cases h; exact ⟨n0, .nil⟩
    | cons y ys ih =>
      intro s0 n0 h hlen
      rw [List.length_cons] at hlen
      unfold stepsGo at h
      split at h
      · next st' nm' hy =>
        have hl' := stepSym_len hy
        obtain ⟨nm, hr⟩ := ih st' nm' h (by omega)
        refine ⟨nm, .next ⟨_, asg_name F rfl, ?_⟩ hr⟩
        have hs0 : (s0.map dN).length ≤ 1000 := by rw [List.length_map]; omega
        clear ih hr
        cases y with
        | txt x =>
          simp only [stepSym] at hy
          split at hy
          · next hxl =>
            cases hy
            rw [← S_append]
            show X _ _ _ (upd _ _ (.val (D.str (S x)))) _ _
            refine x_weakO (x_cons (x_if (b := false) (tr_cmp (by walk_at "ev") (by walk_at "ev") op_eqSI rfl) (fun h => nomatch h) fun _ => x_cons (x_if (b := false) (tr_cmp (by walk_at "ev") (by walk_at "ev") op_eqSI rfl) (fun h => nomatch h) fun _ => x_cons (x_if (b := false) (tr_cmp (by walk_at "ev") (ev_tuple (ds := ([18, 20, 21, 33, 34] : List Int).map D.int) (show Evs _ _ _ _ _ [.int 18, .int 20, .int 21, .int 33, .int 34] by walk_at "evs") (by decide)) op_inST rfl) (fun h => nomatch h) fun _ => x_cons (x_aug F (by walk_at "mem") rfl (by walk_at "ev") (op_iaddS (by rw [S_len, S_len]; omega))) x_nil) x_nil) x_nil) x_nil) (by walk_at "sub")
          · cases hy
        | num k =>
          show X _ _ _ (upd _ _ (.val (dN k))) _ _
          simp only [stepSym] at hy
          split at hy
          · next hk =>
            cases hy; subst hk
            exact x_weakO (x_cons (x_if (b := true) (tr_to (by walk_at "tr") (by decide)) (fun _ => x_cons (x_assign (d := .str (S [])) F ev_str rfl) x_nil) (fun h => nomatch h)) x_nil) (by walk_at "sub")
          · split at hy
            · next hk =>
              subst hk
              cases hj : idxP n0 with
              | none => rw [hj] at hy; cases hy
              | some j =>
                rw [hj] at hy; cases hy
                rw [List.map_append, List.map_cons, List.map_nil]
                exact x_weakO (x_cons (x_if (b := false) (tr_to (by walk_at "tr") (by decide)) (fun h => nomatch h) fun _ => x_cons (x_if (b := true) (tr_to (by walk_at "tr") (by decide)) (fun _ => x_cons (x_append (d := dN (2 + j)) F (by walk_at "mem") (show Ev _ _ _ _ _ (D.int ((2 : Int) + (j : Int))) from ev_bin ev_int (ev_index3 (evF_list (evs_cons ev_str (evs_cons ev_str (evs_cons ev_str evs_nil))) (by decide)) (by walk_at "ev") hj) op_add) (by omega) (by decide) rfl) x_nil) (fun h => nomatch h)) x_nil) x_nil) (by walk_at "sub")
            · split at hy
              · next hk =>
                rcases hk with hk | hk | hk <;> (cases hy; subst hk; rw [List.map_append, List.map_cons, List.map_nil])
                · exact x_weakO (x_cons (x_if (b := false) (tr_to (by walk_at "tr") (by decide)) (fun h => nomatch h) fun _ => x_cons (x_if (b := false) (tr_to (by walk_at "tr") (by decide)) (fun h => nomatch h) fun _ => x_cons (x_if (b := true) (tr_to (tr_cmp (by walk_at "ev") (ev_tuple (ds := ([18, 20, 21, 33, 34] : List Int).map D.int) (show Evs _ _ _ _ _ [.int 18, .int 20, .int 21, .int 33, .int 34] by walk_at "evs") (by decide)) op_inIT rfl) (by decide)) (fun _ => x_cons (x_append (d := dN (18 - 17)) F (by walk_at "mem") (ev_if (b := true) (tr_to (by walk_at "tr") (by decide)) (fun _ => show Ev _ _ _ _ _ (D.int (((18 : Nat) : Int) - 17)) from ev_bin (by walk_at "ev") ev_int op_sub) (fun h => nomatch h)) (by omega) (by decide) rfl) x_nil) (fun h => nomatch h)) x_nil) x_nil) x_nil) (by walk_at "sub")
                · exact x_weakO (x_cons (x_if (b := false) (tr_to (by walk_at "tr") (by decide)) (fun h => nomatch h) fun _ => x_cons (x_if (b := false) (tr_to (by walk_at "tr") (by decide)) (fun h => nomatch h) fun _ => x_cons (x_if (b := true) (tr_to (tr_cmp (by walk_at "ev") (ev_tuple (ds := ([18, 20, 21, 33, 34] : List Int).map D.int) (show Evs _ _ _ _ _ [.int 18, .int 20, .int 21, .int 33, .int 34] by walk_at "evs") (by decide)) op_inIT rfl) (by decide)) (fun _ => x_cons (x_append (d := dN (20 - 17)) F (by walk_at "mem") (ev_if (b := true) (tr_to (by walk_at "tr") (by decide)) (fun _ => show Ev _ _ _ _ _ (D.int (((20 : Nat) : Int) - 17)) from ev_bin (by walk_at "ev") ev_int op_sub) (fun h => nomatch h)) (by omega) (by decide) rfl) x_nil) (fun h => nomatch h)) x_nil) x_nil) x_nil) (by walk_at "sub")
                · exact x_weakO (x_cons (x_if (b := false) (tr_to (by walk_at "tr") (by decide)) (fun h => nomatch h) fun _ => x_cons (x_if (b := false) (tr_to (by walk_at "tr") (by decide)) (fun h => nomatch h) fun _ => x_cons (x_if (b := true) (tr_to (tr_cmp (by walk_at "ev") (ev_tuple (ds := ([18, 20, 21, 33, 34] : List Int).map D.int) (show Evs _ _ _ _ _ [.int 18, .int 20, .int 21, .int 33, .int 34] by walk_at "evs") (by decide)) op_inIT rfl) (by decide)) (fun _ => x_cons (x_append (d := dN (21 - 17)) F (by walk_at "mem") (ev_if (b := true) (tr_to (by walk_at "tr") (by decide)) (fun _ => show Ev _ _ _ _ _ (D.int (((21 : Nat) : Int) - 17)) from ev_bin (by walk_at "ev") ev_int op_sub) (fun h => nomatch h)) (by omega) (by decide) rfl) x_nil) (fun h => nomatch h)) x_nil) x_nil) x_nil) (by walk_at "sub")
              · split at hy
                · next hk =>
                  rcases hk with hk | hk <;> (cases hy; subst hk; rw [List.map_append, List.map_cons, List.map_nil])
                  · exact x_weakO (x_cons (x_if (b := false) (tr_to (by walk_at "tr") (by decide)) (fun h => nomatch h) fun _ => x_cons (x_if (b := false) (tr_to (by walk_at "tr") (by decide)) (fun h => nomatch h) fun _ => x_cons (x_if (b := true) (tr_to (tr_cmp (by walk_at "ev") (ev_tuple (ds := ([18, 20, 21, 33, 34] : List Int).map D.int) (show Evs _ _ _ _ _ [.int 18, .int 20, .int 21, .int 33, .int 34] by walk_at "evs") (by decide)) op_inIT rfl) (by decide)) (fun _ => x_cons (x_append (d := dN (33 - 30)) F (by walk_at "mem") (ev_if (b := false) (tr_to (by walk_at "tr") (by decide)) (fun h => nomatch h) (fun _ => show Ev _ _ _ _ _ (D.int (((33 : Nat) : Int) - 30)) from ev_bin (by walk_at "ev") ev_int op_sub)) (by omega) (by decide) rfl) x_nil) (fun h => nomatch h)) x_nil) x_nil) x_nil) (by walk_at "sub")
                  · exact x_weakO (x_cons (x_if (b := false) (tr_to (by walk_at "tr") (by decide)) (fun h => nomatch h) fun _ => x_cons (x_if (b := false) (tr_to (by walk_at "tr") (by decide)) (fun h => nomatch h) fun _ => x_cons (x_if (b := true) (tr_to (tr_cmp (by walk_at "ev") (ev_tuple (ds := ([18, 20, 21, 33, 34] : List Int).map D.int) (show Evs _ _ _ _ _ [.int 18, .int 20, .int 21, .int 33, .int 34] by walk_at "evs") (by decide)) op_inIT rfl) (by decide)) (fun _ => x_cons (x_append (d := dN (34 - 30)) F (by walk_at "mem") (ev_if (b := false) (tr_to (by walk_at "tr") (by decide)) (fun h => nomatch h) (fun _ => show Ev _ _ _ _ _ (D.int (((34 : Nat) : Int) - 30)) from ev_bin (by walk_at "ev") ev_int op_sub)) (by omega) (by decide) rfl) x_nil) (fun h => nomatch h)) x_nil) x_nil) x_nil) (by walk_at "sub")
                · cases hy
      · cases h
end
section
def descGo : Nat → Nat → List Nat
  | _, 0 => []
  | a, n + 1 => a :: descGo (a - 1) n
theorem rngL_desc : ∀ (n a : Nat), n ≤ a + 1 → rngL (a : Int) (-1) n = (descGo a n).map dN
  | 0, _, _ => rfl
  | n + 1, a, h => by
    rw [rngL, descGo, List.map_cons]
    congr 1
    cases n with
    | zero => rfl
    | succ n =>
      rw [← rngL_desc (n + 1) (a - 1) (by omega)]
      congr 1
      omega
theorem rngL_up : ∀ (n a : Nat), rngL (a : Int) 1 n = (List.range' a n).map dN
  | 0, _ => rfl
  | n + 1, a => by
    rw [rngL, List.range'_succ, List.map_cons, ← rngL_up n (a + 1)]
    rfl
def stairsOf (top : Nat) : List (List Nat) := (List.range' 1 top).map fun v => descGo top (top + 1 - v)
def stairsP (top : Nat) : List Nat := (stairsOf top).flatten
def wordP (l : List Nat) : List Nat := (apGo 15 (numP l 0) []).map UInt8.toNat
/-- one row -/
def rowBad (text : List Nat) (slen q : Nat) (row : List Nat) : Bool := ((levP (wordP row) text (2 * (slen - row.length)) : Int) == ((2 * (slen - row.length) : Nat) : Int)) != decide ((0 : Int) < (levelsP q row : Nat))
def agreeGo (text : List Nat) (slen q : Nat) : List (List Nat) → Nat → Nat → Option (Nat × Nat)
  | [], l, r => some (l, r)
  | row :: rows, l, r => if rowBad text slen q row then none else agreeGo text slen q rows (l + weightGo q row 0 9 1) (r + levelsP q row)
def prodGo (q : Nat) : Nat → Nat → Nat → Nat
  | _, 0, r => r
  | v, n + 1, r => prodGo q (v + 1) n (r * shortP v q)
def agreeP (rows : List (List Nat)) (top q : Nat) : Bool := match agreeGo (wordP (stairsP top)) (stairsP top).length q rows 0 0 with
  | none => false
  | some (l, r) => (l : Int) == (prodGo q 1 (rows.headD []).length r : Nat)
theorem range3 : ∀ top : _root_.Fin 6, ∀ v : _root_.Fin 6, 1 ≤ v.val → v.val ≤ top.val → Builtin.Range.small (top.val : Int) ((v.val : Int) - 1) (-1) = true ∧ Builtin.Range.rangeSize (top.val : Int) ((v.val : Int) - 1) (-1) = ((top.val + 1 - v.val : Nat) : Int) ∧ Builtin.divisionGoesByPylong (((v.val : Int) - 1) - (top.val : Int)) (-1) = false := by decide +kernel
theorem apGo_lt : ∀ (f n : Nat) (acc : List UInt8), (∀ b ∈ acc, b.toNat < 128) → ∀ b ∈ apGo f n acc, b.toNat < 128
  | 0, _, _, h, b, hb => h b hb
  | f + 1, n, acc, h, b, hb => by
    unfold apGo at hb
    split at hb
    · exact h b hb
    · refine apGo_lt f (n / 16) _ (fun c hc => ?_) b hb
      rcases List.mem_cons.mp hc with rfl | hc
      · have : 65 + n % 16 < 256 := by omega
        rw [UInt8.toNat_ofNat']; omega
      · exact h c hc
theorem wordP_ok (l : List Nat) : (∀ c ∈ wordP l, c < 128) ∧ (wordP l).length ≤ 15 := by
  constructor
  · intro c hc
    obtain ⟨b, hb, rfl⟩ := List.mem_map.mp hc
    exact apGo_lt _ _ _ (by simp) b hb
  · unfold wordP; rw [List.length_map]; exact apGo_len 15 _ []
theorem x1_weakO' {W : WP} {A : Around} {env : Env} {σ σ' σ₁ : Sto} {st : Stmt} (h : X1 W A env σ st (.next σ₁)) (hs : ∀ p ∈ σ', p ∈ σ₁) : X1 W A env σ st (.next σ') := fun kp fz₀ fz ad m s Q E H p => h _ _ _ _ _ _ _ _ H fun fz ad m h tk H' => p _ _ _ _ _ (H'.weaken hs)
def outOf {α : Type} (d : D) (σf : α → Sto) : Option α → Out
  | none => .ret d
  | some p => .next (σf p)
theorem x_cases {W : WP} {A : Around} {env : Env} {σ : Sto} {α : Type} {st : Stmt} {rest : List Stmt} {o : Option α} {d dd : D} {σf : α → Sto} (h : X1 W A env σ st (outOf d σf o)) (hn : o = none → dd = d) (hs : ∀ p, o = some p → X W A env (σf p) rest (.ret dd)) : X W A env σ (st :: rest) (.ret dd) := by
  cases o with
  | none => rw [hn rfl]; exact x_stop h
  | some p => exact x_cons h (hs p rfl)
theorem agree_loop {step : D → Sto → Out → Prop} (σ : Nat → Nat → Sto) (text : List Nat) (slen q : Nat) (h : ∀ (row : List Nat) (l r : Nat), (row.length ≤ 5 ∧ ∀ k ∈ row, 1 ≤ k ∧ k ≤ 5) → step (dL row) (σ l r) (if rowBad text slen q row then .ret (.bool false) else .next (σ (l + weightGo q row 0 9 1) (r + levelsP q row)))) :
    ∀ (rs : List (List Nat)) (l r : Nat), (∀ x ∈ rs, x.length ≤ 5 ∧ ∀ k ∈ x, 1 ≤ k ∧ k ≤ 5) → ForRun step (dR rs) (σ l r) (outOf (.bool false) (fun p => σ p.1 p.2) (agreeGo text slen q rs l r))
  | [], l, r, _ => .nil
  | row :: rs, l, r, hr => by
    have h1 := h row l r (hr row (.head _))
    unfold agreeGo
    cases hb : rowBad text slen q row with
    | true => rw [hb] at h1; exact .ret h1
    | false => rw [hb] at h1; exact .next h1 (agree_loop σ text slen q h rs _ _ fun x hx => hr x (.tail _ hx))
theorem prod_loop {step : D → Sto → Out → Prop} (σ : Nat → Sto) (q : Nat) (h : ∀ v r : Nat, 1 ≤ v → v ≤ 5 → step (.int (v : Int)) (σ r) (.next (σ (r * shortP v q)))) :
    ∀ (n v r : Nat), v + n ≤ 6 → 1 ≤ v → ForRun step (rngL (v : Int) 1 n) (σ r) (.next (σ (prodGo q v n r)))
  | 0, v, r, _, _ => .nil
  | n + 1, v, r, h6, h1 => by
    rw [rngL, prodGo]
    exact .next (h v r h1 (by omega)) (prod_loop σ q h n (v + 1) _ (by omega) (by omega))
variable (w : World) (mean : ExcName → Option Value) (mg mb : PySem.Str → Option Value)
set_option maxHeartbeats 400000
theorem agree_ok (rows : List (List Nat)) (top q : Nat) (ht : top = 4 ∨ top = 5) (h2 : 2 ≤ q) (h17 : q ≤ 17) (hr : ∀ r ∈ rows, r.length ≤ 5 ∧ ∀ k ∈ r, 1 ≤ k ∧ k ≤ 5) (hne : rows ≠ []) (hz : rows.length ≤ 1000) : CallOk (W1 w mean mg mb) 4 144 [.lst (dR rows), dN top, dN q] (.bool (agreeP rows top q)) := by
  have hlen : (stairsP top).length = 10 ∨ (stairsP top).length = 15 := by rcases ht with rfl | rfl <;> decide
  have hsk : ∀ k ∈ stairsP top, k < 16 := by rcases ht with rfl | rfl <;> decide
  have hgap : ∀ n : Nat, n ≤ 5 → 2 * ((stairsP top).length - n) ≤ 10000 ∧ n ≤ (stairsP top).length := by omega
  refine def_ok (names := [PySem.Str.ofString "rows", PySem.Str.ofString "top", PySem.Str.ofString "base"]) rfl rfl ?_ (by decide) (by walk_at "names") rfl rfl rfl rfl ?_
  · intro vs h
    match vs, h with
    | [a, b, c], _ => rfl
  · intro A L F
    show X _ _ _ [(PySem.Str.ofString "rows", Slot.val (.lst (dR rows))), (PySem.Str.ofString "top", Slot.val (dN top)), (PySem.Str.ofString "base", Slot.val (dN q))] _ _
    have htop5 : top ≤ 5 := by omega
    refine x_cons (x_comp2 F (cl := [(PySem.Str.ofString "top", L + 1)]) (cap := [(PySem.Str.ofString "top", dN top)]) (ds := (List.range' 1 top).map dN) (os := (stairsOf top).map fun l => l.map dN) (by walk_at "ev") ?_ rfl rfl rfl (by decide) rfl (by decide) ?_ ?_ ?_) ?_
    · rw [← rngL_up top 1]
      exact iter_rng F.hh (smallA (by omega)) (rangeSizeA top)
    · intro C
      refine ⟨fun x c h => ?_, fun p hp => ?_⟩
      · have h' : List.lookup x [(PySem.Str.ofString "top", L + 1)] = some c := h
        rw [List.lookup_cons] at h'
        split at h'
        · next hx => rw [beq_iff_eq] at hx; subst hx; exact h'
        · cases h'
      · rw [List.mem_singleton.mp hp]
        exact ⟨by walk_at "mem", (fun h => by have h2 : some NameKind.cell = some NameKind.local := h; cases h2), rfl, rfl⟩
    · intro C FC
      unfold stairsOf
      rw [List.map_map]
      refine All2.map dN _ fun v hv => ?_
      have hv' : 1 ≤ v ∧ v ≤ top := by have := List.mem_range'_1.mp hv; omega
      obtain ⟨r1, r2, r3⟩ := range3 ⟨top, by omega⟩ ⟨v, by omega⟩ hv'.1 hv'.2
      refine ⟨_, .rng (top : Int) ((v : Int) - 1) (-1), (descGo top (top + 1 - v)).map dN, asg_name FC rfl, ?_, ?_, ?_, ?_⟩
      · exact fun p hp => by rw [List.mem_singleton.mp hp]; exact upd_of (x := PySem.Str.ofString "level") (y := PySem.Str.ofString "top") (by decide) (.head _)
      · exact ev_callT FC rfl rfl boot_range (by decide) (by decide) (evs_cons (ev_name FC (upd_of (x := PySem.Str.ofString "level") (y := PySem.Str.ofString "top") (by decide) (.head _)) (by decide)) (evs_cons (ev_bin (ev_name FC upd_self (by decide)) ev_int op_sub) (evs_cons (ev_un ev_int op_neg) evs_nil))) (cv_rng3 (by decide) r3)
      · rw [← rngL_desc _ _ (by omega)]
        exact iter_rng FC.hh r1 r2
      · refine All2.map dN dN fun k _ => ⟨_, asg_name FC rfl, ?_, ev_name FC upd_self (by decide)⟩
        intro p hp
        have hn : p.1 ≠ PySem.Str.ofString "step" := by
          rcases mem_upd (show (p.1, p.2) ∈ _ from hp) with ⟨h, _⟩ | ⟨_, h⟩
          · rw [h]; decide
          · rw [show p.1 = PySem.Str.ofString "top" from congrArg Prod.fst (List.mem_singleton.mp h)]; decide
        exact upd_of hn hp
    · have e : ((stairsOf top).map fun l => l.map dN).flatten.length = (stairsP top).length := by
        unfold stairsP; rw [← List.map_flatten, List.length_map]
      omega
    have e : ((stairsOf top).map fun l => l.map dN).flatten = (stairsP top).map dN := by
      unfold stairsP; rw [← List.map_flatten]
    rw [e]
    unfold agreeP
    generalize stairsP top = st at hlen hsk hgap ⊢
    have hW := wordP_ok st
    refine x_freeze (x := PySem.Str.ofString "stairs") (by walk_at "mem") ?_
    refine x_weak (σ' := [(PySem.Str.ofString "rows", Slot.val (.lst (dR rows))), (PySem.Str.ofString "base", Slot.val (dN q)), (PySem.Str.ofString "stairs", Slot.val (dL st))]) (by walk_at "sub") ?_
    refine x_cons (x_tupS (ds := [.str (S (wordP st)), .int 0, .int 0]) F.hh (ev_tuple (evs_cons (ev_call F rfl rfl (by decide) rfl (by walk_at "evs") (word_ok w mean mg mb st hsk (by omega)) (by omega)) (by walk_at "evs")) (Nat.le_of_ble_eq_true rfl)) (by rfl) (names := [PySem.Str.ofString "text", PySem.Str.ofString "left", PySem.Str.ofString "right"]) (bndl_cons (bnd_name F rfl) (bndl_cons (bnd_name F rfl) (bndl_cons (bnd_name F rfl) bndl_nil))) rfl rfl) ?_
    refine x_weak (σ' := [(PySem.Str.ofString "rows", Slot.val (.lst (dR rows))), (PySem.Str.ofString "base", Slot.val (dN q)), (PySem.Str.ofString "stairs", Slot.val (dL st)), (PySem.Str.ofString "text", Slot.val (.str (S (wordP st)))), (PySem.Str.ofString "left", Slot.val (.int 0)), (PySem.Str.ofString "right", Slot.val (.int 0))]) (by walk_at "sub") ?_
    refine x_cases (o := agreeGo (wordP st) st.length q rows 0 0) (d := .bool false) (σf := fun p => [(PySem.Str.ofString "rows", Slot.val (.lst (dR rows))), (PySem.Str.ofString "base", Slot.val (dN q)), (PySem.Str.ofString "stairs", Slot.val (dL st)), (PySem.Str.ofString "text", Slot.val (.str (S (wordP st)))), (PySem.Str.ofString "left", Slot.val (dN p.1)), (PySem.Str.ofString "right", Slot.val (dN p.2))]) ?_ (fun h => by rw [h]) fun p hp => ?_
    · refine x_for (ds := dR rows) (by walk_at "ev") (iter_list F.hh) ?_
      refine agree_loop (fun l r => [(PySem.Str.ofString "rows", Slot.val (.lst (dR rows))), (PySem.Str.ofString "base", Slot.val (dN q)), (PySem.Str.ofString "stairs", Slot.val (dL st)), (PySem.Str.ofString "text", Slot.val (.str (S (wordP st)))), (PySem.Str.ofString "left", Slot.val (dN l)), (PySem.Str.ofString "right", Slot.val (dN r))]) (wordP st) st.length q ?_ rows 0 0 hr
      intro row l r hrow
      refine ⟨_, asg_name F rfl, ?_⟩
      obtain ⟨hl5, hk5⟩ := hrow
      have hg : dN (2 * (st.length - row.length)) = D.int ((2 : Int) * (((st.map dN).length : Int) - ((row.map dN).length : Int))) := by
        show D.int _ = D.int _
        congr 1
        rw [List.length_map, List.length_map]
        have := hgap row.length hl5
        omega
      have hm := hgap row.length hl5
      have hWr := wordP_ok row
      have hst := hlen
      unfold rowBad
      generalize 2 * (st.length - row.length) = m at hg hm ⊢
      cases hb : ((levP (wordP row) (wordP st) m : Int) == ((m : Nat) : Int)) != decide ((0 : Int) < (levelsP q row : Nat)) with
      | true =>
        rw [if_pos rfl]
        refine x_cons (x_tupS (ds := [dN (levelsP q row), dN m]) F.hh (ev_tuple (evs_cons (ev_call F rfl rfl (by decide) rfl (by walk_at "evs") (levels_ok w mean mg mb row q h2 h17 (fun k hk => (hk5 k hk).2)) (by omega)) (evs_cons (by rw [hg]; walk_at "ev") evs_nil)) (Nat.le_of_ble_eq_true rfl)) (by rfl) (names := [PySem.Str.ofString "levels", PySem.Str.ofString "gap"]) (bndl_cons (bnd_name F rfl) (bndl_cons (bnd_name F rfl) bndl_nil)) rfl rfl) ?_
        refine x_stop (x_if (b := true) ?_ (fun _ => x_stop (x_ret ev_bool)) (fun h => nomatch h))
        exact tr_to (tr_cmp (ev_cmp (ev_call F rfl rfl (by decide) rfl (evs_cons (ev_call F rfl rfl (by decide) rfl (by walk_at "evs") (word_ok w mean mg mb row (fun k hk => by have := hk5 k hk; omega) (by omega)) (by omega)) (by walk_at "evs")) (lev_ok w mean mg mb (wordP row) (wordP st) m hWr.1 hW.1 (by omega) (by omega) hm.1) (by omega)) (by walk_at "ev") op_eqI rfl) (by walk_at "ev") op_neB rfl) hb
      | false =>
        rw [if_neg (by decide)]
        refine x_cons (x_tupS (ds := [dN (levelsP q row), dN m]) F.hh (ev_tuple (evs_cons (ev_call F rfl rfl (by decide) rfl (by walk_at "evs") (levels_ok w mean mg mb row q h2 h17 (fun k hk => (hk5 k hk).2)) (by omega)) (evs_cons (by rw [hg]; walk_at "ev") evs_nil)) (Nat.le_of_ble_eq_true rfl)) (by rfl) (names := [PySem.Str.ofString "levels", PySem.Str.ofString "gap"]) (bndl_cons (bnd_name F rfl) (bndl_cons (bnd_name F rfl) bndl_nil)) rfl rfl) ?_
        refine x_weakO (x_cons (x_if (b := false) ?_ (fun h => nomatch h) (fun _ => x_nil)) (x_cons (x_aug (d := dN (l + weightGo q row 0 9 1)) F (by walk_at "mem") rfl (ev_call F rfl rfl (by decide) rfl (by walk_at "evs") (weight_ok w mean mg mb row q h2 h17 (fun k hk => (hk5 k hk).2) (by omega)) (by omega)) op_iaddI) (x_cons (x_aug (d := dN (r + levelsP q row)) F (by walk_at "mem") rfl (by walk_at "ev") op_iaddI) x_nil))) (by walk_at "sub")
        exact tr_to (tr_cmp (ev_cmp (ev_call F rfl rfl (by decide) rfl (evs_cons (ev_call F rfl rfl (by decide) rfl (by walk_at "evs") (word_ok w mean mg mb row (fun k hk => by have := hk5 k hk; omega) (by omega)) (by omega)) (by walk_at "evs")) (lev_ok w mean mg mb (wordP row) (wordP st) m hWr.1 hW.1 (by omega) (by omega) hm.1) (by omega)) (by walk_at "ev") op_eqI rfl) (by walk_at "ev") op_neB rfl) hb
    · rw [hp]
      obtain ⟨l, r⟩ := p
      cases rows with
      | nil => exact absurd rfl hne
      | cons r0 rs =>
        have hr0 := (hr r0 (.head _)).1
        show X _ _ _ [_, _, _, _, (_, Slot.val (dN l)), (_, Slot.val (dN r))] _ (.ret (.bool ((l : Int) == (prodGo q 1 r0.length r : Nat))))
        refine x_cons (σ₁ := [(PySem.Str.ofString "left", Slot.val (dN l)), (PySem.Str.ofString "right", Slot.val (dN (prodGo q 1 r0.length r)))]) ?_ (x_stop (x_ret (by walk_at "ev")))
        refine x1_weak (σ' := [(PySem.Str.ofString "rows", Slot.val (.lst (dR (r0 :: rs)))), (PySem.Str.ofString "base", Slot.val (dN q)), (PySem.Str.ofString "left", Slot.val (dN l)), (PySem.Str.ofString "right", Slot.val (dN r))]) (by walk_at "sub") ?_
        refine x1_weakO' (σ₁ := [(PySem.Str.ofString "rows", Slot.val (.lst (dR (r0 :: rs)))), (PySem.Str.ofString "base", Slot.val (dN q)), (PySem.Str.ofString "left", Slot.val (dN l)), (PySem.Str.ofString "right", Slot.val (dN (prodGo q 1 r0.length r)))]) ?_ (by walk_at "sub")
        refine x_for (d := .rng 1 (((r0.map dN).length : Int) + 1) 1) (ds := rngL 1 1 r0.length) (ev_callT F rfl rfl boot_range (by decide) (by decide) (evs_cons ev_int (evs_cons (ev_bin (ev_callB F rfl rfl boot_len (by decide) (by decide) (evs_cons (ev_itemL (xs := dR (r0 :: rs)) (d := dL r0) (by walk_at "ev") ev_int (by decide) rfl (by unfold dR; rw [List.length_map]; omega)) evs_nil) (cv_lenL (by rw [List.length_map]; omega))) ev_int op_add) evs_nil)) cv_rng2) (by rw [List.length_map]; exact iter_rng F.hh (smallA (by omega)) (rangeSizeA r0.length)) ?_
        refine prod_loop (fun r => [(PySem.Str.ofString "rows", Slot.val (.lst (dR (r0 :: rs)))), (PySem.Str.ofString "base", Slot.val (dN q)), (PySem.Str.ofString "left", Slot.val (dN l)), (PySem.Str.ofString "right", Slot.val (dN r))]) q ?_ r0.length 1 r (by omega) (by omega)
        intro v r h1 h5
        refine ⟨_, asg_name F rfl, x_weakO (x_cons (x_aug (d := dN (r * shortP v q)) (d₁ := dN r) (d₂ := dN (shortP v q)) F (by walk_at "mem") rfl (ev_call F rfl rfl (by decide) rfl (by walk_at "evs") (short_ok w mean mg mb v q h2 h17 (by omega)) (by omega)) ?_) x_nil) (by walk_at "sub")⟩
        have hs := shortP_lt (n := v) (by omega) h17
        rw [show dN (r * shortP v q) = D.int ((r : Int) * ((shortP v q : Nat) : Int)) by show D.int _ = D.int _; simp]
        exact op_imulI (mulR (by omega))
end
section
def drawP (i : Int) : Nat := (i.fmod 1000000).toNat
def drawsP (ns : List Int) : List Nat := (ns.take 5).map drawP ++ [12, 13, 16, 10, 18].drop (ns.take 5).length
theorem drawsP_len (ns : List Int) : (drawsP ns).length = 5 := by
  unfold drawsP; simp; omega
def signC (k : Nat) : Nat := [124, 38, 60, 62].getD k 0
theorem drawP_eq (i : Int) : dN (drawP i) = D.int (i.fmod (10 ^ (6 : Int).toNat)) := by
  show D.int _ = D.int _
  have h : (10 : Int) ^ (6 : Int).toNat = 1000000 := by decide
  rw [h]
  have : 0 ≤ i.fmod 1000000 := Int.fmod_nonneg_of_pos i (by decide)
  unfold drawP
  congr 1
  omega
section
variable {W : WP} {A : Around} {env : Env} {σ : Sto}
theorem ev_modN {e₁ e₂ : PySem.Expr} {pos : Pos} {a b : Nat} (h₁ : Ev W A env σ e₁ (dN a)) (h₂ : Ev W A env σ e₂ (dN b)) (hb : b ≠ 0) : Ev W A env σ (.BinOp e₁ .Mod e₂ pos) (dN (a % b)) := by
  rw [show dN (a % b) = D.int ((a : Int).fmod (b : Int)) by
    show D.int _ = D.int _
    rw [Int.fmod_eq_emod_of_nonneg _ (by omega)]; rfl]
  exact ev_bin h₁ h₂ (op_mod (by omega))
theorem ev_divN {e₁ e₂ : PySem.Expr} {pos : Pos} {a b : Nat} (h₁ : Ev W A env σ e₁ (dN a)) (h₂ : Ev W A env σ e₂ (dN b)) (hb : b ≠ 0) (hz : b < 1073741824) : Ev W A env σ (.BinOp e₁ .FloorDiv e₂ pos) (dN (a / b)) := by
  rw [show dN (a / b) = D.int ((a : Int).fdiv (b : Int)) by
    show D.int _ = D.int _
    rw [Int.fdiv_eq_ediv_of_nonneg _ (by omega)]; rfl]
  exact ev_bin h₁ h₂ (op_div (by omega) (PyProof.noPylong_small (by omega)))
theorem ev_subN {e₁ e₂ : PySem.Expr} {pos : Pos} {a b : Nat} (h₁ : Ev W A env σ e₁ (dN a)) (h₂ : Ev W A env σ e₂ (dN b)) (hb : b ≤ a) : Ev W A env σ (.BinOp e₁ .Sub e₂ pos) (dN (a - b)) := by
  rw [show dN (a - b) = D.int ((a : Int) - (b : Int)) by show D.int _ = D.int _; congr 1; omega]
  exact ev_bin h₁ h₂ op_sub
theorem ev_intN {k : Nat} {n : Nat} {pos : Pos} : Ev W A env σ (.Constant (.int (n : Int)) k pos) (dN n) := ev_int
end
theorem op_neLN {W : WP} {A : Around} {env : Env} {n : Nat} (F : FOK n A env) {a b : List Nat} : Op2 W A (compareOp .NotEq) (dL a) (dL b) (.bool ((a.map fun k : Nat => (k : Int)) != (b.map fun k : Nat => (k : Int)))) := by
  have h := op_neL (W := W) F (a := a.map fun k : Nat => (k : Int)) (b := b.map fun k : Nat => (k : Int))
  rw [List.map_map, List.map_map] at h
  exact h
theorem shortF_ne : ∀ (f : Nat) (o : List Nat), shortF f o ≠ []
  | 0, _ => by simp [shortF]
  | f + 1, o => by
    unfold shortF
    dsimp only
    split
    · simp
    · next h => intro e; rw [e] at h; exact h rfl
theorem caps1 {env : Env} {σ : Sto} {scope : Scope} {x : PySem.Str} {d : D} {L : Addr} (h1 : (x, Slot.val d) ∈ σ) (h2 : env.kindOf x ≠ some .local) (hl : env.cells.lookup x = some L) (h3 : ∀ C, (compEnvC scope [(x, L)] C env).kindOf x = some .cell) (h4 : ∀ C, (compEnvC scope [(x, L)] C env).cells = [(x, L)]) (C : Addr) : Caps env σ (compEnvC scope [(x, L)] C env) [(x, d)] := by
  refine ⟨fun y c h => ?_, fun p hp => ?_⟩
  · rw [h4, List.lookup_cons] at h
    split at h
    · next hx => rw [beq_iff_eq] at hx; subst hx; cases h; exact hl
    · cases h
  · rw [List.mem_singleton.mp hp]
    exact ⟨h1, h2, h3 C, by rw [h4, List.lookup_cons, beq_self_eq_true]; exact hl.symm⟩
theorem some_map {α : Type} (g : α → D) (l : List α) : (l.map fun a => some (g a)).filterMap id = l.map g := by
  induction l with
  | nil => rfl
  | cons a l ih => rw [List.map_cons, List.map_cons, ← ih]; rfl
variable (w : World) (mean : ExcName → Option Value) (mg mb : PySem.Str → Option Value)
set_option maxHeartbeats 400000
/-- the law's own body, in a frame of whichever function object -/
def LawRun (W : WP) (k : Nat) (f : Addr) (σ : Sto) (d : D) : Prop :=
  ∃ (fc : Value) (od : Option Addr) (osl : Array (Option Value)) (name qual : PySem.Str) (params : Arguments) (body : List Stmt) (scope : Scope) (dV kV doc pm cdv ct : Value) (an : Option Addr),
    W.K.lookup f = some ⟨fc, od, .func (fnOf name qual params body scope dV kV doc pm an cdv ct), osl⟩ ∧ ∀ A L f' cd', FOK k A (envOfC qual scope L f' cd') → X W A (envOfC qual scope L f' cd') σ body (.ret d)
theorem hands_ok (h : Nat) (hh : h < 5) : ∃ fc od fd osl, (W1 w mean mg mb).K.lookup (52 + 7 * h) = some ⟨fc, od, .func fd, osl⟩ ∧ ∀ l : List Nat, l.length ≤ 5 → CallOk (W1 w mean mg mb) 1 (52 + 7 * h) [.str (S l)] (.str (S (escP (escRows h) l))) := by
  match h, hh with
  | 0, _ => exact ⟨_, _, _, _, rfl, esc0_ok w mean mg mb⟩
  | 1, _ => exact ⟨_, _, _, _, rfl, esc1_ok w mean mg mb⟩
  | 2, _ => exact ⟨_, _, _, _, rfl, esc2_ok w mean mg mb⟩
  | 3, _ => exact ⟨_, _, _, _, rfl, esc3_ok w mean mg mb⟩
  | 4, _ => exact ⟨_, _, _, _, rfl, esc4_ok w mean mg mb⟩
theorem hands_get (h : Nat) (hh : h < 5) : [D.fn 52, D.fn 59, D.fn 66, D.fn 73, D.fn 80][h]? = some (D.fn (52 + 7 * h)) := by
  match h, hh with
  | 0, _ => rfl
  | 1, _ => rfl
  | 2, _ => rfl
  | 3, _ => rfl
  | 4, _ => rfl
def moreP (t : Nat) : Nat := 1 - t % 2
def baseP (t : Nat) : Nat := t / 2 % 16 + 2
def handP (t : Nat) : Nat := t / 32 % 5
def signsP (ds : List Nat) (more : Nat) : List Nat := (ds.take (5 - more)).map (· % 4)
def pageP (h : Nat) (ks : List Nat) : List Nat := escP (escRows h) (ks.map signC)
theorem law_run (ns : List Int) (hn : ns.length ≤ 63) (st o : List Nat) (hpl : (pageP (handP (drawsP ns).sum) (signsP (drawsP ns) (moreP (drawsP ns).sum))).length ≤ 100)
    (hst : stepsGo (symGo 100 (pageP (handP (drawsP ns).sum) (signsP (drawsP ns) (moreP (drawsP ns).sum)))) [] [] = some st) (hsl : (symGo 100 (pageP (handP (drawsP ns).sum) (signsP (drawsP ns) (moreP (drawsP ns).sum)))).length ≤ 100) (hs4 : ∀ k ∈ st, 1 ≤ k ∧ k ≤ 4) (hs9 : st.length ≤ 1000)
    (ho1 : orderP (st.map (· + moreP (drawsP ns).sum)) [0, 1, 2, 3, 4, 5] = o) (ho2 : orderP ((signsP (drawsP ns) (moreP (drawsP ns).sum)).map fun k => k + 1 + moreP (drawsP ns).sum) [0, 1, 2, 3, 4, 5] = o) (ho6 : o.length = 6)
    (hfu : fuelOk 5 o = true) (hag : agreeP (shortF 5 o) (4 + moreP (drawsP ns).sum) (baseP (drawsP ns).sum) = true) (hrz : (shortF 5 o).length ≤ 1000) :
    LawRun (W1 w mean mg mb) 7 149 [(PySem.Str.ofString "script", Slot.val (.lst (ns.map D.int)))] (.bool true) := by
  refine ⟨_, _, _, _, _, _, _, _, _, _, _, _, _, _, _, rfl, ?_⟩
  · intro A L f' cd' F
    have hnl : (ns.map D.int).length ≤ 1000 := by rw [List.length_map]; omega
    have ht5 : (ns.take 5).length ≤ 5 := by rw [List.length_take]; omega
    refine x_cons (σ₁ := [(PySem.Str.ofString "draws", Slot.val (dL (drawsP ns)))]) (x1_weakO' (x_assign (d := dL (drawsP ns)) F ?_ rfl) (by walk_at "sub")) ?_
    · have ed : dL (drawsP ns) = .lst (((ns.take 5).map fun i => some (dN (drawP i))).filterMap id ++ ([12, 13, 16, 10, 18].drop (ns.take 5).length).map dN) := by
        rw [some_map]
        show D.lst _ = D.lst _
        unfold drawsP
        rw [List.map_append, List.map_map]; rfl
      rw [ed]
      refine ev_bin (evF_comp F (cl := []) (cap := []) (ds := (ns.take 5).map D.int) (by rw [List.map_take]; exact ev_slTL (k := 5) (by walk_at "ev") ev_int hnl) (iter_list F.hh) rfl (by decide) rfl (by decide) ?_ ?_ ?_).ev (ev_slFL (xs := [12, 13, 16, 10, 18]) (k := (ns.take 5).length) (evF_list (show Evs _ _ _ _ _ [.int 12, .int 13, .int 16, .int 10, .int 18] by walk_at "evs") (by decide)).ev ?_ (by simpa using ht5) (by decide)) (op_addL ?_)
      · exact fun C => ⟨fun x c h => by simp [compEnvC] at h, fun p hp => nomatch hp⟩
      · intro C FC
        refine All2.map _ _ fun i _ => ⟨_, asg_name FC rfl, (fun p hp => nomatch hp), tst_nil, ?_⟩
        rw [drawP_eq]
        exact ev_bin (ev_callT FC rfl rfl boot_int (by decide) (by decide) (by walk_at "evs") cv_int) (ev_bin ev_int ev_int (op_pow (by decide) (by decide))) (op_mod (by decide))
      · rw [List.length_map]; omega
      · have e : dN (ns.take 5).length = .int (((ns.map D.int).take 5).length : Int) := by rw [← List.map_take, List.length_map]
        rw [e]
        exact ev_callB F rfl rfl boot_len (by decide) (by decide) (evs_cons (ev_slTL (k := 5) (by walk_at "ev") ev_int hnl) evs_nil) (cv_lenL (by rw [← List.map_take, List.length_map]; omega))
      · rw [some_map, List.length_map, List.length_map, List.length_drop]; simp; omega
    · have hd5 := drawsP_len ns
      generalize drawsP ns = ds at hd5 hpl hst hsl ho1 ho2 hag ⊢
      refine x_cons (x_assign (d := dN ds.sum) F (ev_callB F rfl rfl boot_sum (by decide) (by decide) (by walk_at "evs") (cv_sumN F.hh)) rfl) ?_
      generalize ds.sum = t at hpl hst hsl ho1 ho2 hag ⊢
      have hm1 : moreP t ≤ 1 := by unfold moreP; omega
      have hq : 2 ≤ baseP t ∧ baseP t ≤ 17 := by unfold baseP; omega
      have hh5 : handP t < 5 := by unfold handP; omega
      refine x_cons (x_tup (ds := [dN (moreP t), dN (baseP t)]) F.hh (ev_tuple (evs_cons (ev_subN (a := 1) ev_int (ev_modN (b := 2) (by walk_at "ev") ev_int (by decide)) (by omega)) (evs_cons (ev_addN (b := 2) (ev_modN (b := 16) (ev_divN (b := 2) (by walk_at "ev") ev_int (by decide) (by decide)) ev_int (by decide)) ev_int) evs_nil)) (Nat.le_of_ble_eq_true rfl)) (by rfl) (bndl_cons (asg_cell F rfl (c := L + 1) rfl (Nat.lt_succ_self _)) (bndl_cons (asg_name F rfl) bndl_nil)) rfl rfl rfl rfl) ?_
      refine x_cons (x_assign (d := .lst [D.fn 52, D.fn 59, D.fn 66, D.fn 73, D.fn 80]) F (evF_list (show Evs _ _ _ _ _ [D.fn 52, D.fn 59, D.fn 66, D.fn 73, D.fn 80] by walk_at "evs") (by decide)).ev rfl) ?_
      refine x_weak (σ' := [(PySem.Str.ofString "draws", Slot.val (dL ds)), (PySem.Str.ofString "total", Slot.val (dN t)), (PySem.Str.ofString "more", Slot.val (dN (moreP t))), (PySem.Str.ofString "base", Slot.val (dN (baseP t))), (PySem.Str.ofString "hands", Slot.val (.lst [D.fn 52, D.fn 59, D.fn 66, D.fn 73, D.fn 80]))]) (by walk_at "sub") ?_
      have hdl : (ds.map dN).length ≤ 1000 := by rw [List.length_map]; omega
      have hks : (signsP ds (moreP t)).length ≤ 5 := by unfold signsP; rw [List.length_map, List.length_take]; omega
      have e5 : dN (5 - moreP t) = D.int ((5 : Int) - (moreP t : Int)) := by
        show D.int _ = D.int _
        congr 1; omega
      obtain ⟨fc, od, fd, osl, hK, hC⟩ := hands_ok w mean mg mb (handP t) hh5
      refine x_cons (σ₁ := [(PySem.Str.ofString "draws", Slot.val (dL ds)), (PySem.Str.ofString "more", Slot.val (dN (moreP t))), (PySem.Str.ofString "base", Slot.val (dN (baseP t))), (PySem.Str.ofString "page", Slot.val (.str (S (pageP (handP t) (signsP ds (moreP t))))))]) (x1_weakO' (x_assign (d := .str (S (pageP (handP t) (signsP ds (moreP t))))) F (ev_callX F (ev_itemL (i := ((handP t : Nat) : Int)) (by walk_at "ev") (ev_modN (b := 5) (ev_divN (b := 32) (by walk_at "ev") ev_int (by decide) (by decide)) ev_int (by decide)) (by omega) (by rw [Int.toNat_natCast]; exact hands_get _ hh5) (Nat.le_of_ble_eq_true rfl)) hK (evs_cons (d := .str (S ((signsP ds (moreP t)).map signC))) (ev_methS1 (by walk_at "ev") PySem.F.slot_str_join PySem.F.type_str_join (evs_cons (d := .lst (((signsP ds (moreP t)).map signC).map (fun c => S [c]) |>.map D.str)) ?_ evs_nil) ?_) evs_nil) (hC _ (by rw [List.length_map]; exact hks)) (by omega)) rfl) (by walk_at "sub")) ?_
      · have eo : ((((signsP ds (moreP t)).map signC).map fun c => S [c]).map D.str) = ((ds.take (5 - moreP t)).map fun d => some (D.str (S [signC (d % 4)]))).filterMap id := by
          rw [some_map]
          unfold signsP
          rw [List.map_map, List.map_map, List.map_map]; rfl
        rw [eo]
        refine (evF_comp F (cl := []) (cap := []) (ds := (ds.take (5 - moreP t)).map dN) (by rw [List.map_take]; exact ev_slTL (k := 5 - moreP t) (by walk_at "ev") (by show Ev _ _ _ _ _ (dN (5 - moreP t)); rw [e5]; walk_at "ev") hdl) (iter_list F.hh) rfl (by decide) rfl (by decide) ?_ ?_ ?_).ev
        · exact fun C => ⟨fun x c h => by simp [compEnvC] at h, fun p hp => nomatch hp⟩
        · intro C FC
          refine All2.map _ _ fun d _ => ⟨_, asg_name FC rfl, (fun p hp => nomatch hp), tst_nil, ?_⟩
          have h4 : d % 4 < 4 := Nat.mod_lt _ (by decide)
          exact ev_itF (l := [124, 38, 60, 62]) (q := d % 4) (show Ev _ _ _ _ _ (.str (S [124, 38, 60, 62])) from ev_str) (ev_modN (b := 4) (by walk_at "ev") ev_int (by decide)) (by
            unfold signC
            rw [List.getD_eq_getElem?_getD, List.getElem?_eq_getElem (by simpa using h4)]; rfl) (by decide)
        · rw [List.length_map, List.length_take]; omega
      · have e : S ((signsP ds (moreP t)).map signC) = Txt.join (PySem.Str.ofString "") (((signsP ds (moreP t)).map signC).map fun c => S [c]) := by rw [join_chars]
        rw [e]
        refine cv_join ?_
        rw [sum_ones _ _ (fun a => rfl), List.length_map, List.length_map]
        have h0 : (PySem.Str.ofString "").length = 0 := rfl
        rw [h0]; omega
      · generalize pageP (handP t) (signsP ds (moreP t)) = page at hpl hst hsl ⊢
        refine x_cons (x_assign (d := dL o) F (by
          rw [← ho1]
          refine ev_call F rfl rfl (by decide) rfl (evs_cons (d := dL (st.map (· + moreP t))) ?_ evs_nil) (order_ok w mean mg mb (st.map (· + moreP t)) fun k hk => ?_) (by omega)
          · have eo : dL (st.map (· + moreP t)) = .lst ((st.map fun k => some (dN (k + moreP t))).filterMap id) := by
              rw [some_map]
              show D.lst _ = D.lst _
              rw [List.map_map]; rfl
            rw [eo]
            refine (evF_comp F (cl := [(PySem.Str.ofString "more", L + 1)]) (cap := [(PySem.Str.ofString "more", dN (moreP t))]) (ds := st.map dN) (ev_call F rfl rfl (by decide) rfl (by walk_at "evs") (steps_ok w mean mg mb 100 page st hpl (by decide) hst hsl) (by omega)) (iter_list F.hh) rfl (by decide) rfl (by decide) ?_ ?_ ?_).ev
            · exact caps1 (by walk_at "mem") (fun h => by have h2 : some NameKind.cell = some NameKind.local := h; cases h2) rfl (fun _ => rfl) (fun _ => rfl)
            · intro C FC
              refine All2.map dN _ fun k _ => ⟨_, asg_name FC rfl, fun p hp => ?_, tst_nil, ?_⟩
              · rw [List.mem_singleton.mp hp]; exact upd_of (x := PySem.Str.ofString "step") (y := PySem.Str.ofString "more") (by decide) (.head _)
              · exact ev_addN (ev_name FC upd_self (by decide)) (ev_name FC (upd_of (x := PySem.Str.ofString "step") (y := PySem.Str.ofString "more") (by decide) (.head _)) (by decide))
            · rw [List.length_map]; omega
          · obtain ⟨k', hk', rfl⟩ := List.mem_map.mp hk
            have := hs4 k' hk'
            omega) rfl) ?_
        refine x_cons (σ₁ := [(PySem.Str.ofString "more", Slot.val (dN (moreP t))), (PySem.Str.ofString "base", Slot.val (dN (baseP t))), (PySem.Str.ofString "order", Slot.val (dL o))]) (x1_weakO' (x_if (b := false) (tr_to (tr_cmp (by walk_at "ev") (d₂ := dL o) (by
          rw [← ho2]
          refine ev_call F rfl rfl (by decide) rfl (evs_cons (d := dL ((signsP ds (moreP t)).map fun k => k + 1 + moreP t)) ?_ evs_nil) (order_ok w mean mg mb ((signsP ds (moreP t)).map fun k => k + 1 + moreP t) fun k hk => ?_) (by omega)
          · have eo : dL ((signsP ds (moreP t)).map fun k => k + 1 + moreP t) = .lst (((ds.take (5 - moreP t)).map fun d => some (dN (d % 4 + 1 + moreP t))).filterMap id) := by
              rw [some_map]
              show D.lst _ = D.lst _
              unfold signsP
              rw [List.map_map, List.map_map]; rfl
            rw [eo]
            refine (evF_comp F (cl := [(PySem.Str.ofString "more", L + 1)]) (cap := [(PySem.Str.ofString "more", dN (moreP t))]) (ds := (ds.take (5 - moreP t)).map dN) (by rw [List.map_take]; exact ev_slTL (k := 5 - moreP t) (by walk_at "ev") (by show Ev _ _ _ _ _ (dN (5 - moreP t)); rw [e5]; walk_at "ev") hdl) (iter_list F.hh) rfl (by decide) rfl (by decide) ?_ ?_ ?_).ev
            · exact caps1 (by walk_at "mem") (fun h => by have h2 : some NameKind.cell = some NameKind.local := h; cases h2) rfl (fun _ => rfl) (fun _ => rfl)
            · intro C FC
              refine All2.map dN _ fun k _ => ⟨_, asg_name FC rfl, fun p hp => ?_, tst_nil, ?_⟩
              · rw [List.mem_singleton.mp hp]; exact upd_of (x := PySem.Str.ofString "draw") (y := PySem.Str.ofString "more") (by decide) (.head _)
              · exact ev_addN (ev_addN (b := 1) (ev_modN (b := 4) (ev_name FC upd_self (by decide)) ev_int (by decide)) ev_int) (ev_name FC (upd_of (x := PySem.Str.ofString "draw") (y := PySem.Str.ofString "more") (by decide) (.head _)) (by decide))
            · rw [List.length_map, List.length_take]; omega
          · obtain ⟨k', hk', rfl⟩ := List.mem_map.mp hk
            unfold signsP at hk'
            obtain ⟨d', _, rfl⟩ := List.mem_map.mp hk'
            have : d' % 4 < 4 := Nat.mod_lt _ (by decide)
            omega) (op_neLN F) rfl) (by simp)) (fun h => nomatch h) (fun _ => x_nil)) (by walk_at "sub")) ?_
        refine x_stop (x_ret ?_)
        rw [← hag]
        have hsh : ∀ r ∈ shortF 5 o, r.length ≤ 5 ∧ ∀ k ∈ r, 1 ≤ k ∧ k ≤ 5 := fun r hr => shortF_row 5 o r hr
        exact ev_call F rfl rfl (by decide) rfl (evs_cons (ev_call F rfl rfl (by decide) rfl (by walk_at "evs") (shortest_ok w mean mg mb 5 o (by omega) ho6 hfu) (by omega)) (evs_cons (ev_addN (a := 4) ev_int (by walk_at "ev")) (by walk_at "evs"))) (agree_ok w mean mg mb (shortF 5 o) (4 + moreP t) (baseP t) (by omega) hq.1 hq.2 hsh (shortF_ne 5 o) hrz) (by omega)
end
section
set_option maxHeartbeats 4000000
def lay00 : List (List Nat) := [[0, 1, 2, 3, 4, 5]]
def lay01 : List (List Nat) := [[0, 1, 2, 4, 3, 5], [0, 1, 3, 2, 4, 5], [0, 2, 1, 3, 4, 5], [1, 0, 2, 3, 4, 5]]
def lay02 : List (List Nat) := [[0, 1, 2, 4, 3, 5], [0, 1, 3, 2, 4, 5], [0, 1, 3, 4, 2, 5], [0, 1, 4, 2, 3, 5], [0, 2, 1, 3, 4, 5], [0, 2, 1, 4, 3, 5], [0, 2, 3, 1, 4, 5], [0, 3, 1, 2, 4, 5], [1, 0, 2, 3, 4, 5], [1, 0, 2, 4, 3, 5], [1, 0, 3, 2, 4, 5], [1, 2, 0, 3, 4, 5], [2, 0, 1, 3, 4, 5]]
def lay03 : List (List Nat) := [[0, 1, 2, 4, 3, 5], [0, 1, 3, 2, 4, 5], [0, 1, 3, 4, 2, 5], [0, 1, 4, 2, 3, 5], [0, 1, 4, 3, 2, 5], [0, 2, 1, 3, 4, 5], [0, 2, 1, 4, 3, 5], [0, 2, 3, 1, 4, 5], [0, 2, 3, 4, 1, 5], [0, 2, 4, 1, 3, 5], [0, 3, 1, 2, 4, 5], [0, 3, 1, 4, 2, 5], [0, 3, 2, 1, 4, 5], [0, 4, 1, 2, 3, 5], [1, 0, 2, 3, 4, 5], [1, 0, 2, 4, 3, 5], [1, 0, 3, 2, 4, 5], [1, 0, 3, 4, 2, 5], [1, 0, 4, 2, 3, 5], [1, 2, 0, 3, 4, 5], [1, 2, 0, 4, 3, 5], [1, 2, 3, 0, 4, 5], [1, 3, 0, 2, 4, 5], [2, 0, 1, 3, 4, 5], [2, 0, 1, 4, 3, 5], [2, 0, 3, 1, 4, 5], [2, 1, 0, 3, 4, 5], [3, 0, 1, 2, 4, 5]]
def lay04 : List (List Nat) := [[0, 1, 2, 4, 3, 5], [0, 1, 3, 2, 4, 5], [0, 1, 3, 4, 2, 5], [0, 1, 4, 2, 3, 5], [0, 1, 4, 3, 2, 5], [0, 2, 1, 3, 4, 5], [0, 2, 1, 4, 3, 5], [0, 2, 3, 1, 4, 5], [0, 2, 3, 4, 1, 5], [0, 2, 4, 1, 3, 5], [0, 2, 4, 3, 1, 5], [0, 3, 1, 2, 4, 5], [0, 3, 1, 4, 2, 5], [0, 3, 2, 1, 4, 5], [0, 3, 2, 4, 1, 5], [0, 3, 4, 1, 2, 5], [0, 4, 1, 2, 3, 5], [0, 4, 1, 3, 2, 5], [0, 4, 2, 1, 3, 5], [1, 0, 2, 3, 4, 5], [1, 0, 2, 4, 3, 5], [1, 0, 3, 2, 4, 5], [1, 0, 3, 4, 2, 5], [1, 0, 4, 2, 3, 5], [1, 0, 4, 3, 2, 5], [1, 2, 0, 3, 4, 5], [1, 2, 0, 4, 3, 5], [1, 2, 3, 0, 4, 5], [1, 2, 3, 4, 0, 5], [1, 2, 4, 0, 3, 5], [1, 3, 0, 2, 4, 5], [1, 3, 0, 4, 2, 5], [1, 3, 2, 0, 4, 5], [1, 4, 0, 2, 3, 5], [2, 0, 1, 3, 4, 5], [2, 0, 1, 4, 3, 5], [2, 0, 3, 1, 4, 5], [2, 0, 3, 4, 1, 5], [2, 0, 4, 1, 3, 5], [2, 1, 0, 3, 4, 5], [2, 1, 0, 4, 3, 5], [2, 1, 3, 0, 4, 5], [2, 3, 0, 1, 4, 5], [3, 0, 1, 2, 4, 5], [3, 0, 1, 4, 2, 5], [3, 0, 2, 1, 4, 5], [3, 1, 0, 2, 4, 5], [4, 0, 1, 2, 3, 5]]
def lay05 : List (List Nat) := [[0, 1, 2, 4, 3, 5], [0, 1, 3, 2, 4, 5], [0, 1, 3, 4, 2, 5], [0, 1, 4, 2, 3, 5], [0, 1, 4, 3, 2, 5], [0, 2, 1, 3, 4, 5], [0, 2, 1, 4, 3, 5], [0, 2, 3, 1, 4, 5], [0, 2, 3, 4, 1, 5], [0, 2, 4, 1, 3, 5], [0, 2, 4, 3, 1, 5], [0, 3, 1, 2, 4, 5], [0, 3, 1, 4, 2, 5], [0, 3, 2, 1, 4, 5], [0, 3, 2, 4, 1, 5], [0, 3, 4, 1, 2, 5], [0, 3, 4, 2, 1, 5], [0, 4, 1, 2, 3, 5], [0, 4, 1, 3, 2, 5], [0, 4, 2, 1, 3, 5], [0, 4, 2, 3, 1, 5], [0, 4, 3, 1, 2, 5], [1, 0, 2, 3, 4, 5], [1, 0, 2, 4, 3, 5], [1, 0, 3, 2, 4, 5], [1, 0, 3, 4, 2, 5], [1, 0, 4, 2, 3, 5], [1, 0, 4, 3, 2, 5], [1, 2, 0, 3, 4, 5], [1, 2, 0, 4, 3, 5], [1, 2, 3, 0, 4, 5], [1, 2, 3, 4, 0, 5], [1, 2, 4, 0, 3, 5], [1, 2, 4, 3, 0, 5], [1, 3, 0, 2, 4, 5], [1, 3, 0, 4, 2, 5], [1, 3, 2, 0, 4, 5], [1, 3, 2, 4, 0, 5], [1, 3, 4, 0, 2, 5], [1, 4, 0, 2, 3, 5], [1, 4, 0, 3, 2, 5], [1, 4, 2, 0, 3, 5], [2, 0, 1, 3, 4, 5], [2, 0, 1, 4, 3, 5], [2, 0, 3, 1, 4, 5], [2, 0, 3, 4, 1, 5], [2, 0, 4, 1, 3, 5], [2, 0, 4, 3, 1, 5], [2, 1, 0, 3, 4, 5], [2, 1, 0, 4, 3, 5], [2, 1, 3, 0, 4, 5], [2, 1, 3, 4, 0, 5], [2, 1, 4, 0, 3, 5], [2, 3, 0, 1, 4, 5], [2, 3, 0, 4, 1, 5], [2, 3, 1, 0, 4, 5], [2, 4, 0, 1, 3, 5], [3, 0, 1, 2, 4, 5], [3, 0, 1, 4, 2, 5], [3, 0, 2, 1, 4, 5], [3, 0, 2, 4, 1, 5], [3, 0, 4, 1, 2, 5], [3, 1, 0, 2, 4, 5], [3, 1, 0, 4, 2, 5], [3, 1, 2, 0, 4, 5], [3, 2, 0, 1, 4, 5], [4, 0, 1, 2, 3, 5], [4, 0, 1, 3, 2, 5], [4, 0, 2, 1, 3, 5], [4, 1, 0, 2, 3, 5]]
theorem clo00 : (lay00.all fun o => [1, 2, 3, 4].all fun k => lay01.contains (stepP o (k + 0))) = true := by decide +kernel
theorem clo01 : (lay01.all fun o => [1, 2, 3, 4].all fun k => lay02.contains (stepP o (k + 0))) = true := by decide +kernel
theorem clo02 : (lay02.all fun o => [1, 2, 3, 4].all fun k => lay03.contains (stepP o (k + 0))) = true := by decide +kernel
theorem clo03 : (lay03.all fun o => [1, 2, 3, 4].all fun k => lay04.contains (stepP o (k + 0))) = true := by decide +kernel
theorem clo04 : (lay04.all fun o => [1, 2, 3, 4].all fun k => lay05.contains (stepP o (k + 0))) = true := by decide +kernel
def text0 : List Nat := [69, 68, 67, 66, 69, 68, 67, 69, 68, 69]
theorem text0_eq : wordP (stairsP 4) = text0 ∧ (stairsP 4).length = 10 := by decide +kernel
def tab0 : List (List Nat × List (List Nat × Bool)) := [([0, 1, 2, 4, 3, 5], [([4], true)]), ([0, 1, 3, 2, 4, 5], [([3], true)]), ([0, 1, 3, 4, 2, 5], [([3, 4], true)]), ([0, 1, 4, 2, 3, 5], [([4, 3], true)]), ([0, 1, 4, 3, 2, 5], [([3, 4, 3], true), ([4, 3, 4], true)]), ([0, 2, 1, 3, 4, 5], [([2], true)]), ([0, 2, 1, 4, 3, 5], [([4, 2], true), ([2, 4], true)]), ([0, 2, 3, 1, 4, 5], [([2, 3], true)]), ([0, 2, 3, 4, 1, 5], [([2, 3, 4], true)]), ([0, 2, 4, 1, 3, 5], [([4, 2, 3], true), ([2, 4, 3], true)]), ([0, 2, 4, 3, 1, 5], [([2, 3, 4, 3], true), ([4, 2, 3, 4], true), ([2, 4, 3, 4], true)]), ([0, 3, 1, 2, 4, 5], [([3, 2], true)]), ([0, 3, 1, 4, 2, 5], [([3, 4, 2], true), ([3, 2, 4], true)]), ([0, 3, 2, 1, 4, 5], [([2, 3, 2], true), ([3, 2, 3], true)]), ([0, 3, 2, 4, 1, 5], [([2, 3, 4, 2], false), ([2, 3, 2, 4], true), ([3, 2, 3, 4], true)]), ([0, 3, 4, 1, 2, 5], [([3, 4, 2, 3], true), ([3, 2, 4, 3], true)]), ([0, 3, 4, 2, 1, 5], [([2, 3, 4, 2, 3], false), ([2, 3, 2, 4, 3], true), ([3, 2, 3, 4, 3], true), ([3, 4, 2, 3, 4], true), ([3, 2, 4, 3, 4], true)]), ([0, 4, 1, 2, 3, 5], [([4, 3, 2], true)]), ([0, 4, 1, 3, 2, 5], [([3, 4, 3, 2], true), ([4, 3, 4, 2], true), ([4, 3, 2, 4], true)]), ([0, 4, 2, 1, 3, 5], [([4, 2, 3, 2], true), ([2, 4, 3, 2], true), ([4, 3, 2, 3], true)]), ([0, 4, 2, 3, 1, 5], [([2, 3, 4, 3, 2], false), ([4, 2, 3, 4, 2], false), ([2, 4, 3, 4, 2], false), ([4, 2, 3, 2, 4], true), ([2, 4, 3, 2, 4], true), ([4, 3, 2, 3, 4], true)]), ([0, 4, 3, 1, 2, 5], [([3, 4, 2, 3, 2], false), ([3, 2, 4, 3, 2], true), ([3, 4, 3, 2, 3], true), ([4, 3, 4, 2, 3], true), ([4, 3, 2, 4, 3], true)]), ([1, 0, 2, 3, 4, 5], [([1], true)]), ([1, 0, 2, 4, 3, 5], [([4, 1], true), ([1, 4], true)]), ([1, 0, 3, 2, 4, 5], [([3, 1], true), ([1, 3], true)]), ([1, 0, 3, 4, 2, 5], [([3, 4, 1], false), ([3, 1, 4], true), ([1, 3, 4], true)]), ([1, 0, 4, 2, 3, 5], [([4, 3, 1], true), ([4, 1, 3], true), ([1, 4, 3], true)]), ([1, 0, 4, 3, 2, 5], [([3, 4, 3, 1], false), ([4, 3, 4, 1], false), ([3, 4, 1, 3], false), ([3, 1, 4, 3], true), ([1, 3, 4, 3], true), ([4, 3, 1, 4], true), ([4, 1, 3, 4], true), ([1, 4, 3, 4], true)]), ([1, 2, 0, 3, 4, 5], [([1, 2], true)]), ([1, 2, 0, 4, 3, 5], [([4, 1, 2], true), ([1, 4, 2], true), ([1, 2, 4], true)]), ([1, 2, 3, 0, 4, 5], [([1, 2, 3], true)]), ([1, 2, 3, 4, 0, 5], [([1, 2, 3, 4], true)]), ([1, 2, 4, 0, 3, 5], [([4, 1, 2, 3], true), ([1, 4, 2, 3], true), ([1, 2, 4, 3], true)]), ([1, 2, 4, 3, 0, 5], [([1, 2, 3, 4, 3], false), ([4, 1, 2, 3, 4], true), ([1, 4, 2, 3, 4], true), ([1, 2, 4, 3, 4], true)]), ([1, 3, 0, 2, 4, 5], [([3, 1, 2], true), ([1, 3, 2], true)]), ([1, 3, 0, 4, 2, 5], [([3, 4, 1, 2], false), ([3, 1, 4, 2], true), ([1, 3, 4, 2], false), ([3, 1, 2, 4], true), ([1, 3, 2, 4], true)]), ([1, 3, 2, 0, 4, 5], [([1, 2, 3, 2], false), ([3, 1, 2, 3], true), ([1, 3, 2, 3], true)]), ([1, 3, 2, 4, 0, 5], [([1, 2, 3, 4, 2], false), ([1, 2, 3, 2, 4], false), ([3, 1, 2, 3, 4], true), ([1, 3, 2, 3, 4], true)]), ([1, 3, 4, 0, 2, 5], [([3, 4, 1, 2, 3], false), ([3, 1, 4, 2, 3], true), ([1, 3, 4, 2, 3], false), ([3, 1, 2, 4, 3], true), ([1, 3, 2, 4, 3], true)]), ([1, 4, 0, 2, 3, 5], [([4, 3, 1, 2], true), ([4, 1, 3, 2], true), ([1, 4, 3, 2], true)]), ([1, 4, 0, 3, 2, 5], [([3, 4, 3, 1, 2], false), ([4, 3, 4, 1, 2], false), ([3, 4, 1, 3, 2], false), ([3, 1, 4, 3, 2], true), ([1, 3, 4, 3, 2], false), ([4, 3, 1, 4, 2], true), ([4, 1, 3, 4, 2], false), ([1, 4, 3, 4, 2], false), ([4, 3, 1, 2, 4], true), ([4, 1, 3, 2, 4], true), ([1, 4, 3, 2, 4], true)]), ([1, 4, 2, 0, 3, 5], [([4, 1, 2, 3, 2], false), ([1, 4, 2, 3, 2], false), ([1, 2, 4, 3, 2], false), ([4, 3, 1, 2, 3], true), ([4, 1, 3, 2, 3], true), ([1, 4, 3, 2, 3], true)]), ([2, 0, 1, 3, 4, 5], [([2, 1], true)]), ([2, 0, 1, 4, 3, 5], [([4, 2, 1], true), ([2, 4, 1], false), ([2, 1, 4], true)]), ([2, 0, 3, 1, 4, 5], [([2, 3, 1], false), ([2, 1, 3], true)]), ([2, 0, 3, 4, 1, 5], [([2, 3, 4, 1], false), ([2, 3, 1, 4], false), ([2, 1, 3, 4], true)]), ([2, 0, 4, 1, 3, 5], [([4, 2, 3, 1], false), ([2, 4, 3, 1], false), ([4, 2, 1, 3], true), ([2, 4, 1, 3], false), ([2, 1, 4, 3], true)]), ([2, 0, 4, 3, 1, 5], [([2, 3, 4, 3, 1], false), ([4, 2, 3, 4, 1], false), ([2, 4, 3, 4, 1], false), ([2, 3, 4, 1, 3], false), ([2, 3, 1, 4, 3], false), ([2, 1, 3, 4, 3], true), ([4, 2, 3, 1, 4], false), ([2, 4, 3, 1, 4], false), ([4, 2, 1, 3, 4], true), ([2, 4, 1, 3, 4], false), ([2, 1, 4, 3, 4], true)]), ([2, 1, 0, 3, 4, 5], [([1, 2, 1], false), ([2, 1, 2], true)]), ([2, 1, 0, 4, 3, 5], [([4, 1, 2, 1], false), ([1, 4, 2, 1], false), ([1, 2, 4, 1], false), ([4, 2, 1, 2], true), ([2, 4, 1, 2], false), ([2, 1, 4, 2], true), ([1, 2, 1, 4], false), ([2, 1, 2, 4], true)]), ([2, 1, 3, 0, 4, 5], [([1, 2, 3, 1], false), ([1, 2, 1, 3], false), ([2, 1, 2, 3], true)]), ([2, 1, 3, 4, 0, 5], [([1, 2, 3, 4, 1], false), ([1, 2, 3, 1, 4], false), ([1, 2, 1, 3, 4], false), ([2, 1, 2, 3, 4], true)]), ([2, 1, 4, 0, 3, 5], [([4, 1, 2, 3, 1], false), ([1, 4, 2, 3, 1], false), ([1, 2, 4, 3, 1], false), ([4, 1, 2, 1, 3], false), ([1, 4, 2, 1, 3], false), ([1, 2, 4, 1, 3], false), ([4, 2, 1, 2, 3], true), ([2, 4, 1, 2, 3], false), ([2, 1, 4, 2, 3], true), ([1, 2, 1, 4, 3], false), ([2, 1, 2, 4, 3], true)]), ([2, 3, 0, 1, 4, 5], [([2, 3, 1, 2], false), ([2, 1, 3, 2], true)]), ([2, 3, 0, 4, 1, 5], [([2, 3, 4, 1, 2], false), ([2, 3, 1, 4, 2], false), ([2, 1, 3, 4, 2], false), ([2, 3, 1, 2, 4], false), ([2, 1, 3, 2, 4], true)]), ([2, 3, 1, 0, 4, 5], [([1, 2, 3, 1, 2], false), ([1, 2, 1, 3, 2], false), ([2, 1, 2, 3, 2], false), ([2, 3, 1, 2, 3], false), ([2, 1, 3, 2, 3], true)]), ([2, 4, 0, 1, 3, 5], [([4, 2, 3, 1, 2], false), ([2, 4, 3, 1, 2], false), ([4, 2, 1, 3, 2], true), ([2, 4, 1, 3, 2], false), ([2, 1, 4, 3, 2], true)]), ([3, 0, 1, 2, 4, 5], [([3, 2, 1], true)]), ([3, 0, 1, 4, 2, 5], [([3, 4, 2, 1], false), ([3, 2, 4, 1], false), ([3, 2, 1, 4], true)]), ([3, 0, 2, 1, 4, 5], [([2, 3, 2, 1], false), ([3, 2, 3, 1], false), ([3, 2, 1, 3], true)]), ([3, 0, 2, 4, 1, 5], [([2, 3, 4, 2, 1], false), ([2, 3, 2, 4, 1], false), ([3, 2, 3, 4, 1], false), ([2, 3, 2, 1, 4], false), ([3, 2, 3, 1, 4], false), ([3, 2, 1, 3, 4], true)]), ([3, 0, 4, 1, 2, 5], [([3, 4, 2, 3, 1], false), ([3, 2, 4, 3, 1], false), ([3, 4, 2, 1, 3], false), ([3, 2, 4, 1, 3], false), ([3, 2, 1, 4, 3], true)]), ([3, 1, 0, 2, 4, 5], [([3, 1, 2, 1], false), ([1, 3, 2, 1], false), ([3, 2, 1, 2], true)]), ([3, 1, 0, 4, 2, 5], [([3, 4, 1, 2, 1], false), ([3, 1, 4, 2, 1], false), ([1, 3, 4, 2, 1], false), ([3, 1, 2, 4, 1], false), ([1, 3, 2, 4, 1], false), ([3, 4, 2, 1, 2], false), ([3, 2, 4, 1, 2], false), ([3, 2, 1, 4, 2], true), ([3, 1, 2, 1, 4], false), ([1, 3, 2, 1, 4], false), ([3, 2, 1, 2, 4], true)]), ([3, 1, 2, 0, 4, 5], [([1, 2, 3, 2, 1], false), ([3, 1, 2, 3, 1], false), ([1, 3, 2, 3, 1], false), ([3, 1, 2, 1, 3], false), ([1, 3, 2, 1, 3], false), ([3, 2, 1, 2, 3], true)]), ([3, 2, 0, 1, 4, 5], [([2, 3, 1, 2, 1], false), ([2, 1, 3, 2, 1], false), ([2, 3, 2, 1, 2], false), ([3, 2, 3, 1, 2], false), ([3, 2, 1, 3, 2], true)]), ([4, 0, 1, 2, 3, 5], [([4, 3, 2, 1], true)]), ([4, 0, 1, 3, 2, 5], [([3, 4, 3, 2, 1], false), ([4, 3, 4, 2, 1], false), ([4, 3, 2, 4, 1], false), ([4, 3, 2, 1, 4], true)]), ([4, 0, 2, 1, 3, 5], [([4, 2, 3, 2, 1], false), ([2, 4, 3, 2, 1], false), ([4, 3, 2, 3, 1], false), ([4, 3, 2, 1, 3], true)]), ([4, 1, 0, 2, 3, 5], [([4, 3, 1, 2, 1], false), ([4, 1, 3, 2, 1], false), ([1, 4, 3, 2, 1], false), ([4, 3, 2, 1, 2], true)])]
def lay10 : List (List Nat) := [[0, 1, 2, 3, 4, 5]]
def lay11 : List (List Nat) := [[0, 1, 2, 3, 5, 4], [0, 1, 2, 4, 3, 5], [0, 1, 3, 2, 4, 5], [0, 2, 1, 3, 4, 5]]
def lay12 : List (List Nat) := [[0, 1, 2, 3, 5, 4], [0, 1, 2, 4, 3, 5], [0, 1, 2, 4, 5, 3], [0, 1, 2, 5, 3, 4], [0, 1, 3, 2, 4, 5], [0, 1, 3, 2, 5, 4], [0, 1, 3, 4, 2, 5], [0, 1, 4, 2, 3, 5], [0, 2, 1, 3, 4, 5], [0, 2, 1, 3, 5, 4], [0, 2, 1, 4, 3, 5], [0, 2, 3, 1, 4, 5], [0, 3, 1, 2, 4, 5]]
def lay13 : List (List Nat) := [[0, 1, 2, 3, 5, 4], [0, 1, 2, 4, 3, 5], [0, 1, 2, 4, 5, 3], [0, 1, 2, 5, 3, 4], [0, 1, 2, 5, 4, 3], [0, 1, 3, 2, 4, 5], [0, 1, 3, 2, 5, 4], [0, 1, 3, 4, 2, 5], [0, 1, 3, 4, 5, 2], [0, 1, 3, 5, 2, 4], [0, 1, 4, 2, 3, 5], [0, 1, 4, 2, 5, 3], [0, 1, 4, 3, 2, 5], [0, 1, 5, 2, 3, 4], [0, 2, 1, 3, 4, 5], [0, 2, 1, 3, 5, 4], [0, 2, 1, 4, 3, 5], [0, 2, 1, 4, 5, 3], [0, 2, 1, 5, 3, 4], [0, 2, 3, 1, 4, 5], [0, 2, 3, 1, 5, 4], [0, 2, 3, 4, 1, 5], [0, 2, 4, 1, 3, 5], [0, 3, 1, 2, 4, 5], [0, 3, 1, 2, 5, 4], [0, 3, 1, 4, 2, 5], [0, 3, 2, 1, 4, 5], [0, 4, 1, 2, 3, 5]]
def lay14 : List (List Nat) := [[0, 1, 2, 3, 5, 4], [0, 1, 2, 4, 3, 5], [0, 1, 2, 4, 5, 3], [0, 1, 2, 5, 3, 4], [0, 1, 2, 5, 4, 3], [0, 1, 3, 2, 4, 5], [0, 1, 3, 2, 5, 4], [0, 1, 3, 4, 2, 5], [0, 1, 3, 4, 5, 2], [0, 1, 3, 5, 2, 4], [0, 1, 3, 5, 4, 2], [0, 1, 4, 2, 3, 5], [0, 1, 4, 2, 5, 3], [0, 1, 4, 3, 2, 5], [0, 1, 4, 3, 5, 2], [0, 1, 4, 5, 2, 3], [0, 1, 5, 2, 3, 4], [0, 1, 5, 2, 4, 3], [0, 1, 5, 3, 2, 4], [0, 2, 1, 3, 4, 5], [0, 2, 1, 3, 5, 4], [0, 2, 1, 4, 3, 5], [0, 2, 1, 4, 5, 3], [0, 2, 1, 5, 3, 4], [0, 2, 1, 5, 4, 3], [0, 2, 3, 1, 4, 5], [0, 2, 3, 1, 5, 4], [0, 2, 3, 4, 1, 5], [0, 2, 3, 4, 5, 1], [0, 2, 3, 5, 1, 4], [0, 2, 4, 1, 3, 5], [0, 2, 4, 1, 5, 3], [0, 2, 4, 3, 1, 5], [0, 2, 5, 1, 3, 4], [0, 3, 1, 2, 4, 5], [0, 3, 1, 2, 5, 4], [0, 3, 1, 4, 2, 5], [0, 3, 1, 4, 5, 2], [0, 3, 1, 5, 2, 4], [0, 3, 2, 1, 4, 5], [0, 3, 2, 1, 5, 4], [0, 3, 2, 4, 1, 5], [0, 3, 4, 1, 2, 5], [0, 4, 1, 2, 3, 5], [0, 4, 1, 2, 5, 3], [0, 4, 1, 3, 2, 5], [0, 4, 2, 1, 3, 5], [0, 5, 1, 2, 3, 4]]
theorem clo10 : (lay10.all fun o => [1, 2, 3, 4].all fun k => lay11.contains (stepP o (k + 1))) = true := by decide +kernel
theorem clo11 : (lay11.all fun o => [1, 2, 3, 4].all fun k => lay12.contains (stepP o (k + 1))) = true := by decide +kernel
theorem clo12 : (lay12.all fun o => [1, 2, 3, 4].all fun k => lay13.contains (stepP o (k + 1))) = true := by decide +kernel
theorem clo13 : (lay13.all fun o => [1, 2, 3, 4].all fun k => lay14.contains (stepP o (k + 1))) = true := by decide +kernel
def text1 : List Nat := [70, 69, 68, 67, 66, 70, 69, 68, 67, 70, 69, 68, 70, 69, 70]
theorem text1_eq : wordP (stairsP 5) = text1 ∧ (stairsP 5).length = 15 := by decide +kernel
def tab1 : List (List Nat × List (List Nat × Bool)) := [([0, 1, 2, 3, 5, 4], [([5], true)]), ([0, 1, 2, 4, 3, 5], [([4], true)]), ([0, 1, 2, 4, 5, 3], [([4, 5], true)]), ([0, 1, 2, 5, 3, 4], [([5, 4], true)]), ([0, 1, 2, 5, 4, 3], [([4, 5, 4], true), ([5, 4, 5], true)]), ([0, 1, 3, 2, 4, 5], [([3], true)]), ([0, 1, 3, 2, 5, 4], [([5, 3], true), ([3, 5], true)]), ([0, 1, 3, 4, 2, 5], [([3, 4], true)]), ([0, 1, 3, 4, 5, 2], [([3, 4, 5], true)]), ([0, 1, 3, 5, 2, 4], [([5, 3, 4], true), ([3, 5, 4], true)]), ([0, 1, 3, 5, 4, 2], [([3, 4, 5, 4], true), ([5, 3, 4, 5], true), ([3, 5, 4, 5], true)]), ([0, 1, 4, 2, 3, 5], [([4, 3], true)]), ([0, 1, 4, 2, 5, 3], [([4, 5, 3], true), ([4, 3, 5], true)]), ([0, 1, 4, 3, 2, 5], [([3, 4, 3], true), ([4, 3, 4], true)]), ([0, 1, 4, 3, 5, 2], [([3, 4, 5, 3], true), ([3, 4, 3, 5], true), ([4, 3, 4, 5], true)]), ([0, 1, 4, 5, 2, 3], [([4, 5, 3, 4], true), ([4, 3, 5, 4], true)]), ([0, 1, 5, 2, 3, 4], [([5, 4, 3], true)]), ([0, 1, 5, 2, 4, 3], [([4, 5, 4, 3], true), ([5, 4, 5, 3], true), ([5, 4, 3, 5], true)]), ([0, 1, 5, 3, 2, 4], [([5, 3, 4, 3], true), ([3, 5, 4, 3], true), ([5, 4, 3, 4], true)]), ([0, 2, 1, 3, 4, 5], [([2], true)]), ([0, 2, 1, 3, 5, 4], [([5, 2], true), ([2, 5], true)]), ([0, 2, 1, 4, 3, 5], [([4, 2], true), ([2, 4], true)]), ([0, 2, 1, 4, 5, 3], [([4, 5, 2], true), ([4, 2, 5], true), ([2, 4, 5], true)]), ([0, 2, 1, 5, 3, 4], [([5, 4, 2], true), ([5, 2, 4], true), ([2, 5, 4], true)]), ([0, 2, 1, 5, 4, 3], [([4, 5, 4, 2], true), ([5, 4, 5, 2], true), ([4, 5, 2, 4], true), ([4, 2, 5, 4], true), ([2, 4, 5, 4], true), ([5, 4, 2, 5], true), ([5, 2, 4, 5], true), ([2, 5, 4, 5], true)]), ([0, 2, 3, 1, 4, 5], [([2, 3], true)]), ([0, 2, 3, 1, 5, 4], [([5, 2, 3], true), ([2, 5, 3], true), ([2, 3, 5], true)]), ([0, 2, 3, 4, 1, 5], [([2, 3, 4], true)]), ([0, 2, 3, 4, 5, 1], [([2, 3, 4, 5], true)]), ([0, 2, 3, 5, 1, 4], [([5, 2, 3, 4], true), ([2, 5, 3, 4], true), ([2, 3, 5, 4], true)]), ([0, 2, 4, 1, 3, 5], [([4, 2, 3], true), ([2, 4, 3], true)]), ([0, 2, 4, 1, 5, 3], [([4, 5, 2, 3], true), ([4, 2, 5, 3], true), ([2, 4, 5, 3], true), ([4, 2, 3, 5], true), ([2, 4, 3, 5], true)]), ([0, 2, 4, 3, 1, 5], [([2, 3, 4, 3], true), ([4, 2, 3, 4], true), ([2, 4, 3, 4], true)]), ([0, 2, 5, 1, 3, 4], [([5, 4, 2, 3], true), ([5, 2, 4, 3], true), ([2, 5, 4, 3], true)]), ([0, 3, 1, 2, 4, 5], [([3, 2], true)]), ([0, 3, 1, 2, 5, 4], [([5, 3, 2], true), ([3, 5, 2], true), ([3, 2, 5], true)]), ([0, 3, 1, 4, 2, 5], [([3, 4, 2], true), ([3, 2, 4], true)]), ([0, 3, 1, 4, 5, 2], [([3, 4, 5, 2], false), ([3, 4, 2, 5], true), ([3, 2, 4, 5], true)]), ([0, 3, 1, 5, 2, 4], [([5, 3, 4, 2], true), ([3, 5, 4, 2], true), ([5, 3, 2, 4], true), ([3, 5, 2, 4], true), ([3, 2, 5, 4], true)]), ([0, 3, 2, 1, 4, 5], [([2, 3, 2], true), ([3, 2, 3], true)]), ([0, 3, 2, 1, 5, 4], [([5, 2, 3, 2], true), ([2, 5, 3, 2], true), ([2, 3, 5, 2], false), ([5, 3, 2, 3], true), ([3, 5, 2, 3], true), ([3, 2, 5, 3], true), ([2, 3, 2, 5], true), ([3, 2, 3, 5], true)]), ([0, 3, 2, 4, 1, 5], [([2, 3, 4, 2], false), ([2, 3, 2, 4], true), ([3, 2, 3, 4], true)]), ([0, 3, 4, 1, 2, 5], [([3, 4, 2, 3], true), ([3, 2, 4, 3], true)]), ([0, 4, 1, 2, 3, 5], [([4, 3, 2], true)]), ([0, 4, 1, 2, 5, 3], [([4, 5, 3, 2], true), ([4, 3, 5, 2], true), ([4, 3, 2, 5], true)]), ([0, 4, 1, 3, 2, 5], [([3, 4, 3, 2], true), ([4, 3, 4, 2], true), ([4, 3, 2, 4], true)]), ([0, 4, 2, 1, 3, 5], [([4, 2, 3, 2], true), ([2, 4, 3, 2], true), ([4, 3, 2, 3], true)]), ([0, 5, 1, 2, 3, 4], [([5, 4, 3, 2], true)])]
/-- what is asked of a row of the table, the base apart -/
def chkLev (text : List Nat) (slen : Nat) (t : List (List Nat × List (List Nat × Bool))) : Bool := t.all fun p => p.2.all fun rb => Nat.beq (levP (wordP rb.1) text (2 * (slen - rb.1.length))) (2 * (slen - rb.1.length)) == rb.2
def sumW (q : Nat) : List (List Nat × Bool) → Nat
  | [] => 0
  | rb :: r => weightGo q rb.1 0 9 1 + sumW q r
def sumL (q : Nat) : List (List Nat × Bool) → Nat
  | [] => 0
  | rb :: r => levelsP q rb.1 + sumL q r
def chkQ (q : Nat) (t : List (List Nat × List (List Nat × Bool))) : Bool := t.all fun p => (p.2.all fun rb => Nat.blt 0 (levelsP q rb.1) == rb.2) && Nat.beq (sumW q p.2) (prodGo q 1 ((p.2.map (·.1)).headD []).length (sumL q p.2))
def chkS (t : List (List Nat × List (List Nat × Bool))) : Bool := t.all fun p => fuelOk 5 p.1 && (shortF 5 p.1 == p.2.map (·.1)) && Nat.ble p.2.length 100
theorem lev0 : chkLev text0 10 tab0 = true := by decide +kernel
theorem lev1 : chkLev text1 15 tab1 = true := by decide +kernel
theorem shs0 : chkS tab0 = true := by decide +kernel
theorem shs1 : chkS tab1 = true := by decide +kernel
theorem q0 : ([2, 3, 4, 5, 6, 7, 8, 9, 10, 11, 12, 13, 14, 15, 16, 17].all fun q => chkQ q tab0) = true := by decide +kernel
theorem q1 : ([2, 3, 4, 5, 6, 7, 8, 9, 10, 11, 12, 13, 14, 15, 16, 17].all fun q => chkQ q tab1) = true := by decide +kernel
end
section
set_option maxHeartbeats 4000000
theorem agree_of (text : List Nat) (slen q : Nat) : ∀ (rs : List (List Nat × Bool)) (l r : Nat), (rs.all fun rb => Nat.beq (levP (wordP rb.1) text (2 * (slen - rb.1.length))) (2 * (slen - rb.1.length)) == rb.2) = true → (rs.all fun rb => Nat.blt 0 (levelsP q rb.1) == rb.2) = true →
    agreeGo text slen q (rs.map (·.1)) l r = some (l + sumW q rs, r + sumL q rs)
  | [], l, r, _, _ => rfl
  | rb :: rs, l, r, h1, h2 => by
    rw [List.all_cons, Bool.and_eq_true] at h1 h2
    have e1 : ((levP (wordP rb.1) text (2 * (slen - rb.1.length)) : Int) == ((2 * (slen - rb.1.length) : Nat) : Int)) = rb.2 := by
      rw [← eq_of_beq h1.1]
      generalize levP (wordP rb.1) text (2 * (slen - rb.1.length)) = a
      generalize 2 * (slen - rb.1.length) = b
      rw [Bool.eq_iff_iff, beq_iff_eq, Nat.beq_eq]
      omega
    have e2 : decide ((0 : Int) < (levelsP q rb.1 : Nat)) = rb.2 := by
      rw [← eq_of_beq h2.1]
      generalize levelsP q rb.1 = a
      rw [Bool.eq_iff_iff, decide_eq_true_eq, Nat.blt_eq]
      omega
    have e : rowBad text slen q rb.1 = false := by
      unfold rowBad
      rw [e1, e2]
      cases rb.2 <;> rfl
    rw [List.map_cons, agreeGo, e, if_neg (by decide), agree_of text slen q rs _ _ h1.2 h2.2]
    show some (l + weightGo q rb.1 0 9 1 + sumW q rs, r + levelsP q rb.1 + sumL q rs) = some (l + (weightGo q rb.1 0 9 1 + sumW q rs), r + (levelsP q rb.1 + sumL q rs))
    rw [Nat.add_assoc, Nat.add_assoc]
theorem order_fact (text : List Nat) (slen top q : Nat) (t : List (List Nat × List (List Nat × Bool))) (ht : wordP (stairsP top) = text ∧ (stairsP top).length = slen) (h1 : chkLev text slen t = true) (h2 : chkS t = true) (h3 : chkQ q t = true) (o : List Nat) (ho : o ∈ t.map (·.1)) :
    fuelOk 5 o = true ∧ (shortF 5 o).length ≤ 1000 ∧ agreeP (shortF 5 o) top q = true := by
  obtain ⟨p, hp, rfl⟩ := List.mem_map.mp ho
  have a1 := List.all_eq_true.mp h1 p hp
  have a2 := List.all_eq_true.mp h2 p hp
  have a3 := List.all_eq_true.mp h3 p hp
  rw [Bool.and_eq_true, Bool.and_eq_true] at a2
  rw [Bool.and_eq_true] at a3
  have e := eq_of_beq a2.1.2
  have hl : p.2.length ≤ 100 := Nat.le_of_ble_eq_true a2.2
  refine ⟨a2.1.1, by rw [e, List.length_map]; omega, ?_⟩
  unfold agreeP
  rw [ht.1, ht.2, e, agree_of text slen q p.2 0 0 a1 a3.1]
  show (((0 + sumW q p.2 : Nat) : Int) == (prodGo q 1 ((p.2.map (·.1)).headD []).length (0 + sumL q p.2) : Nat)) = true
  rw [Nat.zero_add, Nat.zero_add, Nat.eq_of_beq_eq_true a3.2]
  exact beq_self_eq_true _
theorem clo_mem {more : Nat} {s s' : List (List Nat)} (h : (s.all fun o => [1, 2, 3, 4].all fun k => s'.contains (stepP o (k + more))) = true) {o : List Nat} (ho : o ∈ s) {k : Nat} (hk : k < 4) : stepP o (k + 1 + more) ∈ s' := by
  have a := List.all_eq_true.mp (List.all_eq_true.mp h o ho) (k + 1) (by simp; omega)
  exact List.contains_iff_mem.mp a
theorem base_in {q : Nat} (h2 : 2 ≤ q) (h17 : q ≤ 17) {g : Nat → Bool} (h : ([2, 3, 4, 5, 6, 7, 8, 9, 10, 11, 12, 13, 14, 15, 16, 17].all g) = true) : g q = true := List.all_eq_true.mp h q (by simp; omega)
theorem orders0 (q : Nat) (h2 : 2 ≤ q) (h17 : q ≤ 17) (ks : List Nat) (hl : ks.length = 5) (hk : ∀ k ∈ ks, k < 4) (o : List Nat) (ho : orderP (ks.map fun k => k + 1 + 0) [0, 1, 2, 3, 4, 5] = o) : fuelOk 5 o = true ∧ (shortF 5 o).length ≤ 1000 ∧ agreeP (shortF 5 o) 4 q = true := by
  match ks, hl with
  | [a, b, c, d, e], _ =>
    have ka := hk a (by simp); have kb := hk b (by simp); have kc := hk c (by simp); have kd := hk d (by simp); have ke := hk e (by simp)
    have m0 : [0, 1, 2, 3, 4, 5] ∈ lay00 := .head _
    have m := clo_mem clo04 (clo_mem clo03 (clo_mem clo02 (clo_mem clo01 (clo_mem clo00 m0 ka) kb) kc) kd) ke
    have hm : lay05 = tab0.map (·.1) := by rfl
    rw [hm] at m
    have mo : o ∈ tab0.map (·.1) := by
      rw [← ho]
      simpa only [orderP, List.map_cons, List.map_nil, List.foldl_cons, List.foldl_nil] using m
    exact order_fact text0 10 4 q tab0 text0_eq lev0 shs0 (base_in h2 h17 q0) o mo
theorem orders1 (q : Nat) (h2 : 2 ≤ q) (h17 : q ≤ 17) (ks : List Nat) (hl : ks.length = 4) (hk : ∀ k ∈ ks, k < 4) (o : List Nat) (ho : orderP (ks.map fun k => k + 1 + 1) [0, 1, 2, 3, 4, 5] = o) : fuelOk 5 o = true ∧ (shortF 5 o).length ≤ 1000 ∧ agreeP (shortF 5 o) 5 q = true := by
  match ks, hl with
  | [a, b, c, d], _ =>
    have ka := hk a (by simp); have kb := hk b (by simp); have kc := hk c (by simp); have kd := hk d (by simp)
    have m0 : [0, 1, 2, 3, 4, 5] ∈ lay10 := .head _
    have m := clo_mem clo13 (clo_mem clo12 (clo_mem clo11 (clo_mem clo10 m0 ka) kb) kc) kd
    have hm : lay14 = tab1.map (·.1) := by rfl
    rw [hm] at m
    have mo : o ∈ tab1.map (·.1) := by
      rw [← ho]
      simpa only [orderP, List.map_cons, List.map_nil, List.foldl_cons, List.foldl_nil] using m
    exact order_fact text1 15 5 q tab1 text1_eq lev1 shs1 (base_in h2 h17 q1) o mo
end
section
set_option maxHeartbeats 4000000
theorem escP_append : ∀ (rows : List (Nat × List Nat)) (a b : List Nat), escP rows (a ++ b) = escP rows a ++ escP rows b
  | [], _, _ => rfl
  | p :: rows, a, b => by
    show escP rows (repP p.1 p.2 (a ++ b)) = escP rows (repP p.1 p.2 a) ++ escP rows (repP p.1 p.2 b)
    rw [repP_append, escP_append rows]
theorem escP_nil : ∀ rows : List (Nat × List Nat), escP rows [] = []
  | [] => rfl
  | p :: rows => escP_nil rows
def pieceP (h k : Nat) : List Nat := escP (escRows h) [signC k]
def pageK (h : Nat) (ks : List Nat) : List Nat := ks.flatMap (pieceP h)
theorem pageP_eq (h : Nat) : ∀ ks : List Nat, pageP h ks = pageK h ks
  | [] => escP_nil _
  | k :: ks => by
    have ih := pageP_eq h ks
    unfold pageP at ih ⊢
    rw [List.map_cons, show signC k :: ks.map signC = [signC k] ++ ks.map signC from rfl, escP_append, ih]
    rfl
def isRaw (h k : Nat) : Bool := (h == 2 && k == 2) || (h == 4 && k == 3)
def entP : Nat → List Nat
  | 1 => [38, 97, 109, 112, 59]
  | 2 => [38, 108, 116, 59]
  | _ => [38, 103, 116, 59]
theorem piece_tab : ∀ h : _root_.Fin 5, ∀ k : _root_.Fin 4, pieceP h.val k.val = if k.val = 0 then [124] else if isRaw h.val k.val then [signC k.val] else entP k.val := by decide +kernel
abbrev alphaP : List Nat := [124, 38, 60, 62, 97, 109, 112, 59, 108, 116, 103]
theorem piece_alpha : ∀ h : _root_.Fin 5, ∀ k : _root_.Fin 4, ((pieceP h.val k.val).all fun c => alphaP.contains c) = true ∧ (pieceP h.val k.val).length ≤ 5 ∧ 1 ≤ (pieceP h.val k.val).length := by decide +kernel
theorem page_alpha (h : Nat) (hh : h < 5) (ks : List Nat) (hk : ∀ k ∈ ks, k < 4) : ∀ c ∈ pageK h ks, c ∈ alphaP := by
  intro c hc
  obtain ⟨k, hk', hc'⟩ := List.mem_flatMap.mp hc
  have := (piece_alpha ⟨h, hh⟩ ⟨k, hk k hk'⟩).1
  exact List.contains_iff_mem.mp (List.all_eq_true.mp this c hc')
theorem page_len (h : Nat) (hh : h < 5) : ∀ ks : List Nat, (∀ k ∈ ks, k < 4) → (pageK h ks).length ≤ 5 * ks.length
  | [], _ => by simp [pageK]
  | k :: ks, hk => by
    have ih := page_len h hh ks fun x hx => hk x (.tail _ hx)
    have := (piece_alpha ⟨h, hh⟩ ⟨k, hk k (.head _)⟩).2.1
    show (pieceP h k ++ pageK h ks).length ≤ _
    rw [List.length_append, List.length_cons]
    dsimp only at this
    omega
theorem tok3 : (alphaP.all fun a => alphaP.all fun b => alphaP.all fun c => (tokLook [a, b, c] tokT).isNone) = true := by decide +kernel
theorem tok2 : (alphaP.all fun a => alphaP.all fun b => (tokLook [a, b] tokT) == (if a = 60 ∧ b = 60 then some 33 else if a = 62 ∧ b = 62 then some 34 else none)) = true := by decide +kernel
theorem tok3_ {a b c : Nat} (ha : a ∈ alphaP) (hb : b ∈ alphaP) (hc : c ∈ alphaP) : (tokLook [a, b, c] tokT).isSome = false := by
  have := List.all_eq_true.mp (List.all_eq_true.mp (List.all_eq_true.mp tok3 a ha) b hb) c hc
  cases h : tokLook [a, b, c] tokT with
  | none => rfl
  | some n => rw [h] at this; cases this
theorem tok2_ {a b : Nat} (ha : a ∈ alphaP) (hb : b ∈ alphaP) : tokLook [a, b] tokT = if a = 60 ∧ b = 60 then some 33 else if a = 62 ∧ b = 62 then some 34 else none :=
  eq_of_beq (List.all_eq_true.mp (List.all_eq_true.mp tok2 a ha) b hb)
theorem symGo_len : ∀ (f : Nat) (l : List Nat), (symGo f l).length ≤ f
  | 0, _ => by simp [symGo]
  | f + 1, l => by
    unfold symGo
    split
    · simp
    · have := symGo_len f (l.drop (sizeP l))
      rw [List.length_cons]; omega
/-- two signs that are read as one -/
theorem sym_two {f a n : Nat} {r : List Nat} (ha : (a = 60 ∧ n = 33) ∨ (a = 62 ∧ n = 34)) (hr : ∀ c ∈ r, c ∈ alphaP) : symGo (f + 1) (a :: a :: r) = .num n :: symGo f r := by
  have hA : a ∈ alphaP := by rcases ha with ⟨rfl, _⟩ | ⟨rfl, _⟩ <;> decide
  have e2 : tokLook [a, a] tokT = some n := by
    rw [tok2_ hA hA]
    rcases ha with ⟨rfl, rfl⟩ | ⟨rfl, rfl⟩ <;> rfl
  have hs : symOf [a, a] = .num n := by unfold symOf; rw [e2]
  rw [symGo, if_neg (by simp)]
  cases r with
  | nil =>
    have : sizeP [a, a] = 3 := by
      unfold sizeP
      rw [show [a, a].take 3 = [a, a] from rfl, e2]; rfl
    rw [this]
    show symOf [a, a] :: symGo f [] = _
    rw [hs]
  | cons c r =>
    have : sizeP (a :: a :: c :: r) = 2 := by
      unfold sizeP
      rw [show (a :: a :: c :: r).take 3 = [a, a, c] from rfl, show (a :: a :: c :: r).take 2 = [a, a] from rfl, tok3_ hA hA (hr c (.head _)), e2]; rfl
    rw [this]
    show symOf [a, a] :: symGo f (c :: r) = _
    rw [hs]
theorem sym_one {f a : Nat} {r : List Nat} (hA : a ∈ alphaP) (hr : ∀ c ∈ r, c ∈ alphaP) (hn : (a ≠ 60 ∧ a ≠ 62) ∨ r.head? ≠ some a) : symGo (f + 1) (a :: r) = symOf [a] :: symGo f r := by
  rw [symGo, if_neg (by simp)]
  have two : ∀ b, r.head? = some b → b ∈ alphaP → tokLook [a, b] tokT = none := by
    intro b hb hB
    rw [tok2_ hA hB]
    rcases hn with ⟨h1, h2⟩ | h
    · simp [h1, h2]
    · rw [hb] at h
      have hab : a ≠ b := fun e => h (by rw [e])
      rw [if_neg (by omega), if_neg (by omega)]
  match r, hr, two with
  | [], _, _ =>
    have hz : sizeP [a] = 3 ∨ sizeP [a] = 2 ∨ sizeP [a] = 1 := by unfold sizeP; split <;> (try split) <;> simp
    rcases hz with h | h | h <;> rw [h] <;> rfl
  | [b], hr, two =>
    have e := two b rfl (hr b (.head _))
    have : sizeP [a, b] = 1 := by
      unfold sizeP
      rw [show [a, b].take 3 = [a, b] from rfl, show [a, b].take 2 = [a, b] from rfl, e]; rfl
    rw [this]; rfl
  | b :: c :: r, hr, two =>
    have e := two b rfl (hr b (.head _))
    have : sizeP (a :: b :: c :: r) = 1 := by
      unfold sizeP
      rw [show (a :: b :: c :: r).take 3 = [a, b, c] from rfl, show (a :: b :: c :: r).take 2 = [a, b] from rfl, tok3_ hA (hr b (.head _)) (hr c (.tail _ (.head _))), e]; rfl
    rw [this]; rfl
theorem tokens1 : symOf [124] = .num 18 ∧ symOf [38] = .num 19 ∧ symOf [60] = .num 20 ∧ symOf [62] = .num 21 ∧ symOf [59] = .num 13 ∧ symOf [97] = .txt [97] ∧ symOf [109] = .txt [109] ∧ symOf [112] = .txt [112] ∧ symOf [108] = .txt [108] ∧ symOf [116] = .txt [116] ∧ symOf [103] = .txt [103] := by
  refine ⟨rfl, rfl, rfl, rfl, rfl, rfl, rfl, rfl, rfl, rfl, rfl⟩
/-- the steps that a page tells -/
def ddP (h : Nat) : List Nat → List Nat
  | [] => []
  | [k] => [k + 1]
  | k :: j :: r => if k = j ∧ isRaw h k = true then (k + 1) :: ddP h r else (k + 1) :: ddP h (j :: r)
theorem ent_run (k : Nat) (hk : 1 ≤ k ∧ k < 4) (f : Nat) (r st nm : List Nat) (hr : ∀ c ∈ r, c ∈ alphaP) (hf : (entP k ++ r).length ≤ f) : ∃ f' nm', r.length ≤ f' ∧ stepsGo (symGo f (entP k ++ r)) st nm = stepsGo (symGo f' r) (st ++ [k + 1]) nm' := by
  obtain ⟨t1, t2, t3, t4, t5, t6, t7, t8, t9, t10, t11⟩ := tokens1
  have al : ∀ (l : List Nat), (∀ c ∈ l, c ∈ alphaP) → ∀ c ∈ l ++ r, c ∈ alphaP := fun l hl c hc => (List.mem_append.mp hc).elim (hl c) (hr c)
  have hk' : k = 1 ∨ k = 2 ∨ k = 3 := by omega
  rcases hk' with rfl | rfl | rfl
  · obtain ⟨f', rfl⟩ : ∃ f', f = f' + 5 := ⟨f - 5, by rw [List.length_append] at hf; simp [entP] at hf; omega⟩
    refine ⟨f', [97, 109, 112], by rw [List.length_append] at hf; simp [entP] at hf; omega, ?_⟩
    show stepsGo (symGo (f' + 5) (38 :: 97 :: 109 :: 112 :: 59 :: r)) st nm = _
    rw [sym_one (f := f' + 4) (a := 38) (r := 97 :: 109 :: 112 :: 59 :: r) (by decide) (al [97, 109, 112, 59] (by decide)) (.inl (by decide)), sym_one (f := f' + 3) (a := 97) (r := 109 :: 112 :: 59 :: r) (by decide) (al [109, 112, 59] (by decide)) (.inl (by decide)), sym_one (f := f' + 2) (a := 109) (r := 112 :: 59 :: r) (by decide) (al [112, 59] (by decide)) (.inl (by decide)), sym_one (f := f' + 1) (a := 112) (r := 59 :: r) (by decide) (al [59] (by decide)) (.inl (by decide)), sym_one (f := f') (a := 59) (r := r) (by decide) hr (.inl (by decide)), t2, t6, t7, t8, t5]
    rfl
  · obtain ⟨f', rfl⟩ : ∃ f', f = f' + 4 := ⟨f - 4, by rw [List.length_append] at hf; simp [entP] at hf; omega⟩
    refine ⟨f', [108, 116], by rw [List.length_append] at hf; simp [entP] at hf; omega, ?_⟩
    show stepsGo (symGo (f' + 4) (38 :: 108 :: 116 :: 59 :: r)) st nm = _
    rw [sym_one (f := f' + 3) (a := 38) (r := 108 :: 116 :: 59 :: r) (by decide) (al [108, 116, 59] (by decide)) (.inl (by decide)), sym_one (f := f' + 2) (a := 108) (r := 116 :: 59 :: r) (by decide) (al [116, 59] (by decide)) (.inl (by decide)), sym_one (f := f' + 1) (a := 116) (r := 59 :: r) (by decide) (al [59] (by decide)) (.inl (by decide)), sym_one (f := f') (a := 59) (r := r) (by decide) hr (.inl (by decide)), t2, t9, t10, t5]
    rfl
  · obtain ⟨f', rfl⟩ : ∃ f', f = f' + 4 := ⟨f - 4, by rw [List.length_append] at hf; simp [entP] at hf; omega⟩
    refine ⟨f', [103, 116], by rw [List.length_append] at hf; simp [entP] at hf; omega, ?_⟩
    show stepsGo (symGo (f' + 4) (38 :: 103 :: 116 :: 59 :: r)) st nm = _
    rw [sym_one (f := f' + 3) (a := 38) (r := 103 :: 116 :: 59 :: r) (by decide) (al [103, 116, 59] (by decide)) (.inl (by decide)), sym_one (f := f' + 2) (a := 103) (r := 116 :: 59 :: r) (by decide) (al [116, 59] (by decide)) (.inl (by decide)), sym_one (f := f' + 1) (a := 116) (r := 59 :: r) (by decide) (al [59] (by decide)) (.inl (by decide)), sym_one (f := f') (a := 59) (r := r) (by decide) hr (.inl (by decide)), t2, t11, t10, t5]
    rfl
end
section
set_option maxHeartbeats 4000000
theorem raw_head : ∀ h : _root_.Fin 5, ∀ k : _root_.Fin 4, ∀ j : _root_.Fin 4, isRaw h.val k.val = true → j ≠ k → (pieceP h.val j.val).head? ≠ some (signC k.val) ∧ pieceP h.val j.val ≠ [] := by decide +kernel
theorem raw_sign {h k : Nat} (hr : isRaw h k = true) : k = 2 ∨ k = 3 := by
  unfold isRaw at hr
  simp at hr
  omega
theorem ddP_cons {h k : Nat} {ks : List Nat} (hn : isRaw h k = false) : ddP h (k :: ks) = (k + 1) :: ddP h ks := by
  cases ks with
  | nil => rfl
  | cons j r => rw [ddP, if_neg (by simp [hn])]
theorem stepsGo_num {n : Nat} {ys : List Sym} {st nm : List Nat} {v : Nat} (h : stepSym (.num n) st nm = some (st ++ [v], nm)) : stepsGo (.num n :: ys) st nm = stepsGo ys (st ++ [v]) nm := by
  rw [stepsGo, h]
theorem page_run (h : Nat) (hh : h < 5) : ∀ (n : Nat) (ks : List Nat), ks.length ≤ n → (∀ k ∈ ks, k < 4) → ∀ (f : Nat) (st nm : List Nat), (pageK h ks).length ≤ f → stepsGo (symGo f (pageK h ks)) st nm = some (st ++ ddP h ks)
  | _, [], _, _, f, st, nm, _ => by
    have : symGo f [] = [] := by cases f <;> rfl
    show stepsGo (symGo f []) st nm = _
    rw [this, ddP, List.append_nil]; rfl
  | 0, k :: ks, hn, _, _, _, _, _ => by rw [List.length_cons] at hn; omega
  | n + 1, k :: ks, hn, hk, f, st, nm, hf => by
    rw [List.length_cons] at hn
    have k4 := hk k (.head _)
    have hks : ∀ x ∈ ks, x < 4 := fun x hx => hk x (.tail _ hx)
    have al := page_alpha h hh ks hks
    have hp := piece_tab ⟨h, hh⟩ ⟨k, k4⟩
    dsimp only at hp
    have epage : pageK h (k :: ks) = pieceP h k ++ pageK h ks := rfl
    rw [epage] at hf ⊢
    obtain ⟨t1, t2, t3, t4, t5, t6, t7, t8, t9, t10, t11⟩ := tokens1
    by_cases h0 : k = 0
    · subst h0
      rw [if_pos rfl] at hp
      rw [hp] at hf ⊢
      obtain ⟨f, rfl⟩ : ∃ f', f = f' + 1 := ⟨f - 1, by simp at hf; omega⟩
      show stepsGo (symGo (f + 1) (124 :: pageK h ks)) st nm = _
      rw [sym_one (by decide) al (.inl (by decide)), t1, stepsGo_num (v := 1) rfl, page_run h hh n ks (by omega) hks f _ _ (by simp at hf; omega), ddP_cons (by simp [isRaw])]
      simp
    · rw [if_neg h0] at hp
      cases hr : isRaw h k with
      | false =>
        rw [hr, if_neg (by decide)] at hp
        rw [hp] at hf ⊢
        obtain ⟨f', nm', hf', e⟩ := ent_run k (by omega) f (pageK h ks) st nm al hf
        rw [e, page_run h hh n ks (by omega) hks f' _ _ hf', ddP_cons hr]
        simp
      | true =>
        rw [hr, if_pos rfl] at hp
        rw [hp] at hf ⊢
        obtain ⟨f, rfl⟩ : ∃ f', f = f' + 1 := ⟨f - 1, by simp at hf; omega⟩
        have hf1 : (pageK h ks).length ≤ f := by simp at hf; omega
        have hA : signC k ∈ alphaP ∧ stepSym (symOf [signC k]) st nm = some (st ++ [k + 1], nm) ∧ ∃ m, symOf [signC k] = .num m := by
          rcases raw_sign hr with rfl | rfl
          · exact ⟨by decide, by show stepSym (symOf [60]) st nm = _; rw [t3]; rfl, _, t3⟩
          · exact ⟨by decide, by show stepSym (symOf [62]) st nm = _; rw [t4]; rfl, _, t4⟩
        obtain ⟨hA1, hA2, m, hm⟩ := hA
        show stepsGo (symGo (f + 1) (signC k :: pageK h ks)) st nm = _
        cases ks with
        | nil =>
          have hh0 : pageK h [] = [] := rfl
          rw [sym_one hA1 al (.inr (by rw [hh0]; simp)), hm, stepsGo_num (v := k + 1) (by rw [← hm]; exact hA2), page_run h hh n [] (by omega) hks f _ _ hf1]
          simp [ddP]
        | cons j r =>
          have j4 := hk j (.tail _ (.head _))
          by_cases hj : k = j
          · subst hj
            have epr : pageK h (k :: r) = signC k :: pageK h r := by show pieceP h k ++ pageK h r = _; rw [hp]; rfl
            rw [epr] at hf1 ⊢
            have alr : ∀ c ∈ pageK h r, c ∈ alphaP := page_alpha h hh r fun x hx => hks x (.tail _ hx)
            have h2 : ∃ m, ((signC k = 60 ∧ m = 33) ∨ (signC k = 62 ∧ m = 34)) ∧ stepSym (.num m) st nm = some (st ++ [k + 1], nm) := by
              rcases raw_sign hr with rfl | rfl
              · exact ⟨33, .inl ⟨rfl, rfl⟩, rfl⟩
              · exact ⟨34, .inr ⟨rfl, rfl⟩, rfl⟩
            obtain ⟨m, hm1, hm2⟩ := h2
            rw [sym_two hm1 alr, stepsGo_num hm2, page_run h hh n r (by simp at hn; omega) (fun x hx => hks x (.tail _ hx)) f _ _ (by simp at hf1; omega), ddP, if_pos ⟨rfl, hr⟩]
            simp
          · obtain ⟨g1, g2⟩ := raw_head ⟨h, hh⟩ ⟨k, k4⟩ ⟨j, j4⟩ hr (fun e => hj (congrArg Fin.val e).symm)
            dsimp only at g1 g2
            have ehd : (pageK h (j :: r)).head? = (pieceP h j).head? := by
              show (pieceP h j ++ pageK h r).head? = _
              cases hpj : pieceP h j with
              | nil => exact absurd hpj g2
              | cons a b => rfl
            rw [sym_one hA1 al (.inr (by rw [ehd]; exact g1)), hm, stepsGo_num (v := k + 1) (by rw [← hm]; exact hA2), page_run h hh n (j :: r) (by omega) hks f _ _ hf1, ddP, if_neg (by simp [hj])]
            simp
/-- a step done twice is done once -/
theorem stepP_twice {o : List Nat} {k : Nat} (ho : o.length = 6) (h1 : 1 ≤ k) (h5 : k ≤ 5) : stepP (stepP o k) k = stepP o k := by
  match o, ho with
  | [a, b, c, d, e, f], _ =>
    have hk : k = 1 ∨ k = 2 ∨ k = 3 ∨ k = 4 ∨ k = 5 := by omega
    rcases hk with rfl | rfl | rfl | rfl | rfl <;> (
      unfold stepP
      split
      · next h =>
        rw [if_neg]
        simp [exchP] at h ⊢
        omega
      · rfl)
theorem stepP_six {o : List Nat} {k : Nat} (ho : o.length = 6) (h1 : 1 ≤ k) (h5 : k ≤ 5) : (stepP o k).length = 6 := by
  unfold stepP
  split
  · rw [exchP_len h1 (by omega)]; exact ho
  · exact ho
theorem dd_order (h more : Nat) (hm : more ≤ 1) : ∀ (n : Nat) (ks : List Nat), ks.length ≤ n → (∀ k ∈ ks, k < 4) → ∀ o : List Nat, o.length = 6 → orderP ((ddP h ks).map (· + more)) o = orderP (ks.map fun k => k + 1 + more) o
  | _, [], _, _, _, _ => rfl
  | _, [k], _, _, _, _ => rfl
  | 0, k :: j :: r, hn, _, _, _ => by simp at hn
  | n + 1, k :: j :: r, hn, hk, o, ho => by
    have k4 := hk k (.head _)
    have o6 := stepP_six ho (k := k + 1 + more) (by omega) (by omega)
    rw [ddP]
    split
    · next hd =>
      obtain ⟨rfl, _⟩ := hd
      show orderP ((ddP h r).map (· + more)) (stepP o (k + 1 + more)) = orderP (r.map fun k => k + 1 + more) (stepP (stepP o (k + 1 + more)) (k + 1 + more))
      rw [stepP_twice ho (by omega) (by omega)]
      exact dd_order h more hm n r (by simp at hn; omega) (fun x hx => hk x (.tail _ (.tail _ hx))) _ o6
    · show orderP ((ddP h (j :: r)).map (· + more)) (stepP o (k + 1 + more)) = orderP ((j :: r).map fun k => k + 1 + more) (stepP o (k + 1 + more))
      exact dd_order h more hm n (j :: r) (by simp at hn ⊢; omega) (fun x hx => hk x (.tail _ hx)) _ o6
theorem dd_range (h : Nat) : ∀ (n : Nat) (ks : List Nat), ks.length ≤ n → (∀ k ∈ ks, k < 4) → (∀ k ∈ ddP h ks, 1 ≤ k ∧ k ≤ 4) ∧ (ddP h ks).length ≤ ks.length
  | _, [], _, _ => ⟨by simp [ddP], by simp [ddP]⟩
  | _, [k], _, hk => by
    have := hk k (.head _)
    exact ⟨by simp [ddP]; omega, by simp [ddP]⟩
  | 0, k :: j :: r, hn, _ => by simp at hn
  | n + 1, k :: j :: r, hn, hk => by
    have k4 := hk k (.head _)
    rw [ddP]
    split
    · obtain ⟨a, b⟩ := dd_range h n r (by simp at hn; omega) fun x hx => hk x (.tail _ (.tail _ hx))
      refine ⟨fun x hx => ?_, by simp; omega⟩
      rcases List.mem_cons.mp hx with rfl | hx
      · omega
      · exact a x hx
    · obtain ⟨a, b⟩ := dd_range h n (j :: r) (by simp at hn ⊢; omega) fun x hx => hk x (.tail _ hx)
      refine ⟨fun x hx => ?_, by simp at b ⊢; omega⟩
      rcases List.mem_cons.mp hx with rfl | hx
      · omega
      · exact a x hx
theorem orderP_six : ∀ (l o : List Nat), (∀ k ∈ l, 1 ≤ k ∧ k ≤ 5) → o.length = 6 → (orderP l o).length = 6
  | [], _, _, h => h
  | k :: l, o, hl, h => orderP_six l (stepP o k) (fun x hx => hl x (.tail _ hx)) (stepP_six h (hl k (.head _)).1 (hl k (.head _)).2)
theorem law_all1 (w : World) (mean : ExcName → Option Value) (mg mb : PySem.Str → Option Value) (ns : List Int) (hn : ns.length ≤ 63) : LawRun (W1 w mean mg mb) 7 149 [(PySem.Str.ofString "script", Slot.val (.lst (ns.map D.int)))] (.bool true) := by
  have hd := drawsP_len ns
  have key : ∀ ds : List Nat, ds.length = 5 → ∃ st o, (pageP (handP ds.sum) (signsP ds (moreP ds.sum))).length ≤ 100 ∧ stepsGo (symGo 100 (pageP (handP ds.sum) (signsP ds (moreP ds.sum)))) [] [] = some st ∧ (∀ k ∈ st, 1 ≤ k ∧ k ≤ 4) ∧ st.length ≤ 1000 ∧ orderP (st.map (· + moreP ds.sum)) [0, 1, 2, 3, 4, 5] = o ∧ orderP ((signsP ds (moreP ds.sum)).map fun k => k + 1 + moreP ds.sum) [0, 1, 2, 3, 4, 5] = o ∧ o.length = 6 ∧ fuelOk 5 o = true ∧ agreeP (shortF 5 o) (4 + moreP ds.sum) (baseP ds.sum) = true ∧ (shortF 5 o).length ≤ 1000 := by
    intro ds hd
    have hm : moreP ds.sum = 0 ∨ moreP ds.sum = 1 := by unfold moreP; omega
    have hh : handP ds.sum < 5 := by unfold handP; omega
    have hq : 2 ≤ baseP ds.sum ∧ baseP ds.sum ≤ 17 := by unfold baseP; omega
    have hk : ∀ k ∈ signsP ds (moreP ds.sum), k < 4 := by
      intro k hk
      obtain ⟨d, _, rfl⟩ := List.mem_map.mp hk
      exact Nat.mod_lt _ (by decide)
    have hl : (signsP ds (moreP ds.sum)).length = 5 - moreP ds.sum := by unfold signsP; rw [List.length_map, List.length_take]; omega
    have hpl := page_len (handP ds.sum) hh _ hk
    have hst := page_run (handP ds.sum) hh _ _ (Nat.le_refl _) hk 100 [] [] (by omega)
    obtain ⟨r1, r2⟩ := dd_range (handP ds.sum) _ _ (Nat.le_refl _) hk
    have ho := dd_order (handP ds.sum) (moreP ds.sum) (by omega) _ _ (Nat.le_refl _) hk [0, 1, 2, 3, 4, 5] rfl
    have h6 := orderP_six ((signsP ds (moreP ds.sum)).map fun k => k + 1 + moreP ds.sum) [0, 1, 2, 3, 4, 5] (fun k hk' => by
      obtain ⟨j, hj, rfl⟩ := List.mem_map.mp hk'
      have := hk j hj
      omega) rfl
    rw [pageP_eq]
    rw [List.nil_append] at hst
    refine ⟨_, _, by omega, hst, r1, by omega, ho, rfl, h6, ?_⟩
    rcases hm with hm | hm
    · rw [hm] at hl hk ⊢
      obtain ⟨f1, f2, f3⟩ := orders0 (baseP ds.sum) hq.1 hq.2 (signsP ds 0) hl hk _ rfl
      exact ⟨f1, f3, f2⟩
    · rw [hm] at hl hk ⊢
      obtain ⟨f1, f2, f3⟩ := orders1 (baseP ds.sum) hq.1 hq.2 (signsP ds 1) hl hk _ rfl
      exact ⟨f1, f3, f2⟩
  obtain ⟨st, o, k1, k2, k3, k4, k5, k6, k7, k8, k9, k10⟩ := key (drawsP ns) hd
  exact law_run w mean mg mb ns hn st o k1 k2 (symGo_len _ _) k3 k4 k5 k6 k7 k8 k9 k10
end
section
set_option maxHeartbeats 8000000
def scopeAt (K : Frag) (a : Addr) : Option (PySem.Str × Scope × List Stmt) := match K.lookup a with
  | some o => (match o.data with
    | .func fd => (match fd.body with
      | .stmts b => some (fd.qualname, fd.scope, b)
      | _ => none)
    | _ => none)
  | none => none
theorem VHs.ofInts {fz : GMap} : ∀ {vs : List Value} {ns : List Int}, IntsAre vs ns → VHs fz vs (ns.map D.int)
  | _, _, .nil => .nil
  | _, _, .cons n t h => .cons (.int n t) (VHs.ofInts h)
/-- from the head's last state to the walk -/
theorem law_join {W : WP} {s₁ : Shared} {h₁ : Heap} {tk₁ : Nat} {aL fa : Addr} {cd : Value} {vs : List Value} {ns : List Int} {m : PySem.Str → Option Value} {co : Obj} {qual : PySem.Str} {scope : Scope} {body : List Stmt} {k : Nat} {y : PySem.Str}
    {Q : Flow → Shared → Prop} {E : Value → Shared → Prop} (hX : ∀ A L f' cd', FOK k A (envOfC qual scope L f' cd') → X W A (envOfC qual scope L f' cd') [(PySem.Str.ofString "script", Slot.val (.lst (ns.map D.int)))] body (.ret (.bool true)))
    (KX : W.K.In s₁.heap) (T : Top W.p W.loose W.mean W.mg W.mb s₁.heap) (hL : s₁.heap.IsList aL vs.toArray) (hI : IntsAre vs ns) (F : Fr s₁.heap s₁.heap.objs.size h₁ m) (hco : h₁.get? (s₁.heap.objs.size + 1) = some co) (hcv : ∃ v, co.data = Data.cell v)
    (hm : m (PySem.Str.ofString "script") = some (.ref aL)) (hkind : scope.kind = .function) (hcells : cellsFrom (s₁.heap.objs.size + 1) scope.names [] = [(y, s₁.heap.objs.size + 1)]) (hsc : ∀ L f' cd', (envOfC qual scope L f' cd').kindOf (PySem.Str.ofString "script") = some .local)
    (hdp : callerA.depth + 1 + k < recursionLimit) (hun : callerA.units + 3 + 16 * k < cLine)
    (hQ : ∀ h tk, (∀ b o, s₁.heap.get? b = some o → h.get? b = some o) → Q (.ret (.bool true)) { s₁ with heap := h, toks := tk }) :
    wpAny W.M (callerA.deeper (envOfC qual scope s₁.heap.objs.size fa cd)) (execs body (envOfC qual scope s₁.heap.objs.size fa cd)) Q E { s₁ with heap := h₁, toks := tk₁ } := by
  obtain ⟨oL, hoL, hcls, nL, hdL⟩ := hL
  have hfr : s₁.heap.get? s₁.heap.objs.size = none := get_fresh _
  have hfr1 : s₁.heap.get? (s₁.heap.objs.size + 1) = none := by
    cases q : s₁.heap.get? (s₁.heap.objs.size + 1) with
    | none => rfl
    | some o => exact absurd (Heap.lt_size q) (by exact Nat.not_lt.mpr (Nat.le_succ _))
  have haL : aL < s₁.heap.objs.size := Heap.lt_size hoL
  have FK : FOK k (callerA.deeper (envOfC qual scope s₁.heap.objs.size fa cd)) (envOfC qual scope s₁.heap.objs.size fa cd) :=
    ⟨rfl, hkind, rfl, rfl, by show callerA.depth + 1 + k < _; exact hdp, by show callerA.units + 3 + 16 * k < _; exact hun⟩
  have cl : ∀ x c, (envOfC qual scope s₁.heap.objs.size fa cd).cells.lookup x = some c → x = y ∧ c = s₁.heap.objs.size + 1 := by
    intro x c h
    have h' : (cellsFrom (s₁.heap.objs.size + 1) scope.names []).lookup x = some c := h
    rw [hcells, List.lookup_cons] at h'
    split at h'
    · next hx => rw [beq_iff_eq] at hx; cases h'; exact ⟨hx, rfl⟩
    · cases h'
  refine hX _ _ _ _ FK (fun b => s₁.heap.get? b) (fun b => if b = aL then some oL else none) (fun b => if b = aL then some oL else none) (fun _ => 0) m _ Q E ?_ ?_
  · refine { wf := ⟨s₁.heap, KX, T, fun _ _ e => e⟩, kept := F.keep, fzIn := ?_, fz0 := fun _ _ e => e, fzNew := fun _ _ e => .inl e, ns := F.ns, nsK := hfr, nsF := ?_, cells := ?_, cinj := ?_, cfree := ?_, vars := ?_, own := ?_, inj := ?_ }
    · intro b o e
      by_cases hb : b = aL
      · rw [if_pos hb] at e; cases e; subst hb; exact F.keep _ _ hoL
      · rw [if_neg hb] at e; cases e
    · show (if s₁.heap.objs.size = aL then some oL else none) = none
      rw [if_neg (fun e => by have := haL; rw [← e] at this; exact absurd this (Nat.lt_irrefl _))]
    · intro x c h
      obtain ⟨_, rfl⟩ := cl x c h
      obtain ⟨v, hv⟩ := hcv
      exact ⟨v, co, hco, hv⟩
    · intro x z c hx hz
      exact (cl x c hx).1.trans (cl z c hz).1.symm
    · intro x c h _
      obtain ⟨_, rfl⟩ := cl x c h
      refine ⟨hfr1, ?_⟩
      show (if s₁.heap.objs.size + 1 = aL then some oL else none) = none
      rw [if_neg (fun e => by have := haL; rw [← e] at this; exact absurd this (Nat.not_lt.mpr (Nat.le_succ _)))]
    · intro x sl h
      have := List.mem_singleton.mp h
      cases this
      refine ⟨.ref aL, .inl ⟨hsc _ _ _, hm⟩, ?_⟩
      exact .lst (show (if aL = aL then some oL else none) = some oL by rw [if_pos rfl]) hcls hdL (VHs.ofInts hI)
    · intro x es h
      have := List.mem_singleton.mp h
      cases this
    · intro x z es es' h
      have := List.mem_singleton.mp h
      cases this
  · intro v fz h tk Fn hv
    cases hv
    exact hQ h tk Fn.kept
theorem law_fin1 {w : World} {mean : ExcName → Option Value} {mg mb : PySem.Str → Option Value} {s₁ : Shared} {h₁ : Heap} {tk₁ : Nat} {aL fa : Addr} {cd : Value} {vs : List Value} {ns : List Int} {m : PySem.Str → Option Value} {co : Obj} {qual : PySem.Str} {scope : Scope} {body : List Stmt} {y : PySem.Str}
    {Q : Flow → Shared → Prop} {E : Value → Shared → Prop} (KX : (hd.heap_39 w.params).In s₁.heap) (T : Top hd.view_39 (looseW hd.view_39 [PySem.Str.ofString "EXACT_TOKEN_TYPES"]) mean mg mb s₁.heap) (hL : s₁.heap.IsList aL vs.toArray) (hI : IntsAre vs ns) (hn : ¬ ((63 : Nat) : Int) < (ns.length : Int))
    (F : Fr s₁.heap s₁.heap.objs.size h₁ m) (hco : h₁.get? (s₁.heap.objs.size + 1) = some co) (hcv : ∃ v, co.data = Data.cell v)
    (hm : m (PySem.Str.ofString "script") = some (.ref aL)) (hsc : scopeAt (hd.heap_39 w.params) 149 = some (qual, scope, body)) (hkind : scope.kind = .function) (hcells : cellsFrom (s₁.heap.objs.size + 1) scope.names [] = [(y, s₁.heap.objs.size + 1)]) (hkd : ∀ L f' cd', (envOfC qual scope L f' cd').kindOf (PySem.Str.ofString "script") = some .local)
    (hQ : ∀ h tk, (∀ b o, s₁.heap.get? b = some o → h.get? b = some o) → Q (.ret (.bool true)) { s₁ with heap := h, toks := tk }) :
    wpAny (model PySem.Challenge.rw_tp0050_01.prog w) (callerA.deeper (envOfC qual scope s₁.heap.objs.size fa cd)) (execs body (envOfC qual scope s₁.heap.objs.size fa cd)) Q E { s₁ with heap := h₁, toks := tk₁ } := by
  obtain ⟨fc, od, osl, name, qual', params, body', scope', dV, kV, doc, pm, cdv, ct, an, hK, hX⟩ := law_all1 w mean mg mb ns (by omega)
  have h1 : scopeAt (hd.heap_39 w.params) 149 = some (qual', scope', body') := by
    unfold scopeAt
    rw [show List.lookup 149 (hd.heap_39 w.params) = _ from hK]
  rw [hsc] at h1
  cases h1
  exact law_join (W := W1 w mean mg mb) hX KX T hL hI F hco hcv hm hkind hcells hkd (by decide) (by decide) hQ
theorem join1 : PySem.Challenge.rw_tp0050_01.Holds := by
  refine hd ?_
  k_go0
  rename (hd.heap_39 _).In _ => KX
  rename Top _ _ _ _ _ _ => T
  rename IntsAre _ _ => hI
  rename Fr _ _ _ _ => F
  rename News _ _ _ _ => N0
  rename _ = Data.cell _ => hco
  rename Heap.IsList _ _ _ => hL
  rename ¬ _ => hn
  rename _ = #[] => hg
  refine law_fin1 KX T hL hI hn F (N0 _ (.head _)).1 ⟨_, hco⟩ rfl rfl rfl rfl (fun _ _ _ => rfl) fun h tk keep => ?_
  exact ⟨.inl ⟨_, .bool true, [], rfl, fun _ => rfl, .bool _, by wrow_post, fun _ => ⟨.nil, fun _ h => nomatch h⟩⟩, keep, rfl, hg⟩
end
end Mine
theorem PySem.Challenge.cw_tp0050_01_holds : PySem.Challenge.rw_tp0050_01.Holds := by
  exact Mine.join1
