import PyProof.Rows.All
import Wide.All
import OpenK.AllK
import Wide.FinOn
import OpenK.ZGo
import Lean
import PySem.Challenge.RW_ph0058_01
open PySem PySem.W PyProof.Rows
set_option Elab.async false
set_option linter.unusedSectionVars false
set_option linter.unusedVariables false
set_option linter.unusedSimpArgs false
set_option maxRecDepth 100000
namespace Mine
structure LXA where
  x : Addr
  dx : Addr
  pb : Addr
  fn : Addr
  fd : Addr
  gv : Addr
  ct : Addr
  ca : Addr
  at' : Addr
  it : Addr
  gc : Addr
  bm : Addr
  tb : Addr
  on : Bool
  rw : List Addr
structure LX where
  text : Str
  pos : Nat
  line : Int
  pb : List Str
  en : Bool
inductive D where
  | none
  | bool (b : Bool)
  | int (i : Int)
  | str (x : Str)
  | list (l : List D)
  | tup (l : List D)
  | dict (l : List (Str × D))
  | range (a b c : Int)
  | items (l : List (Str × D))
  | vals (l : List (Str × D))
  | inst (c : Addr) (l : List (Str × D))
  | lex
  | atl
  | fit
  | row (i : Nat)
def PlainTup (h : Heap) (a : Addr) (items : Array Value) : Prop := ∃ n, h.get? a = some { cls := .type "tuple", data := .seq items n }
noncomputable def LXA.mus (x : LXA) : List Addr := [x.dx, x.pb, x.at', x.it] ++ x.rw
noncomputable def LXA.fix (x : LXA) : List Addr := [x.x, x.fn, x.fd, x.gv, x.ct, x.ca, x.gc, x.tb]
def lexmu (X : Option LXA) (a : Addr) : Prop := ∃ x, X = some x ∧ a ∈ x.mus
def lexall (X : Option LXA) (a : Addr) : Prop := ∃ x, X = some x ∧ a ∈ x.mus ++ x.bm :: x.fix
theorem lexall_of {X : Option LXA} {a : Addr} (h : lexmu X a) : lexall X a := let ⟨x, e, h⟩ := h; ⟨x, e, List.mem_append_left _ h⟩
structure Cx where
  prog : Program
  w : World
  K : Frag
  X : Option LXA
  P : LXA → LX → Heap → Prop
  mg : Str → Option Value
  mb : Str → Option Value
mutual
inductive Rd (c : Cx) (z : Addr → Prop) (h : Heap) : Value → D → Prop
  | none : Rd c z h .none .none
  | bool (b) : Rd c z h (.bool b) (.bool b)
  | int (i t) : Rd c z h (.int i t) (.int i)
  | str (x t) : Rd c z h (.str x t) (.str x)
  | list {a vs l} : z a → h.PlainList a (List.toArray vs) → Rds c z h vs l → Rd c z h (.ref a) (.list l)
  | tup {a vs l} : z a → PlainTup h a (List.toArray vs) → Rds c z h vs l → Rd c z h (.ref a) (.tup l)
  | dict {a kvs l} : z a → (a == sysModules) = false → h.DictOf (strKind c.prog c.w) a kvs → RdsD c z h kvs l → Rd c z h (.ref a) (.dict l)
  | range {a i j k t u v} : z a → h.get? a = some { cls := .type "range", data := .fields #[.int i t, .int j u, .int k v] } → Rd c z h (.ref a) (.range i j k)
  | items {a b kvs l} : z a → z b → (b == sysModules) = false → h.get? a = some { cls := .type "dict_items", data := .fields #[.ref b] } → h.DictOf (strKind c.prog c.w) b kvs → RdsD c z h kvs l → Rd c z h (.ref a) (.items l)
  | vals {a b kvs l} : z a → z b → (b == sysModules) = false → h.get? a = some { cls := .type "dict_values", data := .fields #[.ref b] } → h.DictOf (strKind c.prog c.w) b kvs → RdsD c z h kvs l → Rd c z h (.ref a) (.vals l)
  | inst {a da cl kvs l} : z a → z da → h.get? a = some { cls := .ref cl, dict := some da, data := .plain } → h.DictOf (strKind c.prog c.w) da kvs → RdsD c z h kvs l → Rd c z h (.ref a) (.inst cl l)
  | lex {x} : c.X = some x → x.on = true → Rd c z h (.ref x.x) .lex
  | atl {x} : c.X = some x → x.on = true → Rd c z h (.ref x.at') .atl
  | fit {x} : c.X = some x → x.on = true → Rd c z h (.ref x.it) .fit
  | row {x i a} : c.X = some x → x.on = true → x.rw[i]? = some a → Rd c z h (.ref a) (.row i)
inductive Rds (c : Cx) (z : Addr → Prop) (h : Heap) : List Value → List D → Prop
  | nil : Rds c z h [] []
  | cons {v vs d ds} : Rd c z h v d → Rds c z h vs ds → Rds c z h (v :: vs) (d :: ds)
inductive RdsD (c : Cx) (z : Addr → Prop) (h : Heap) : List (Str × Value) → List (Str × D) → Prop
  | nil : RdsD c z h [] []
  | cons {k v vs d ds} : Rd c z h v d → RdsD c z h vs ds → RdsD c z h ((k, v) :: vs) ((k, d) :: ds)
end
theorem dictOf_at {prog : Program} {w : World} {h h' : Heap} {a : Addr} {kvs : List (Str × Value)} (x : h.DictOf (strKind prog w) a kvs) (hk : ∀ o, h.get? a = some o → h'.get? a = some o) : h'.DictOf (strKind prog w) a kvs :=
  let ⟨o, es, ep, ho, r⟩ := x; ⟨o, es, ep, hk o ho, r⟩
theorem plainTup_at {h h' : Heap} {a : Addr} {items : Array Value} (x : PlainTup h a items) (hk : ∀ o, h.get? a = some o → h'.get? a = some o) : PlainTup h' a items := let ⟨n, e⟩ := x; ⟨n, hk _ e⟩
section
variable {c : Cx} {z z' : Addr → Prop} {h h' : Heap} (hz : ∀ a, z a → z' a) (hk : ∀ a o, z a → h.get? a = some o → h'.get? a = some o)
include hz hk
theorem Rd.mono {v : Value} {d : D} (r : Rd c z h v d) : Rd c z' h' v d :=
  @Rd.rec c z h (fun v d _ => Rd c z' h' v d) (fun v d _ => Rds c z' h' v d) (fun v d _ => RdsD c z' h' v d) .none .bool .int .str (fun za p _ r => .list (hz _ za) (p.at fun o e => hk _ o za e) r) (fun za p _ r => .tup (hz _ za) (plainTup_at p fun o e => hk _ o za e) r) (fun za n p _ r => .dict (hz _ za) n (dictOf_at p fun o e => hk _ o za e) r) (fun za p => .range (hz _ za) (hk _ _ za p))
    (fun za zb n p q _ r => .items (hz _ za) (hz _ zb) n (hk _ _ za p) (dictOf_at q fun o e => hk _ o zb e) r) (fun za zb n p q _ r => .vals (hz _ za) (hz _ zb) n (hk _ _ za p) (dictOf_at q fun o e => hk _ o zb e) r) (fun za zb p q _ r => .inst (hz _ za) (hz _ zb) (hk _ _ za p) (dictOf_at q fun o e => hk _ o zb e) r) .lex .atl .fit .row .nil (fun _ _ a b => .cons a b) .nil (fun _ _ a b => .cons a b) v d r
theorem Rds.mono {vs : List Value} {ds : List D} (r : Rds c z h vs ds) : Rds c z' h' vs ds :=
  @Rds.rec c z h (fun v d _ => Rd c z' h' v d) (fun v d _ => Rds c z' h' v d) (fun v d _ => RdsD c z' h' v d) .none .bool .int .str (fun za p _ r => .list (hz _ za) (p.at fun o e => hk _ o za e) r) (fun za p _ r => .tup (hz _ za) (plainTup_at p fun o e => hk _ o za e) r) (fun za n p _ r => .dict (hz _ za) n (dictOf_at p fun o e => hk _ o za e) r) (fun za p => .range (hz _ za) (hk _ _ za p))
    (fun za zb n p q _ r => .items (hz _ za) (hz _ zb) n (hk _ _ za p) (dictOf_at q fun o e => hk _ o zb e) r) (fun za zb n p q _ r => .vals (hz _ za) (hz _ zb) n (hk _ _ za p) (dictOf_at q fun o e => hk _ o zb e) r) (fun za zb p q _ r => .inst (hz _ za) (hz _ zb) (hk _ _ za p) (dictOf_at q fun o e => hk _ o zb e) r) .lex .atl .fit .row .nil (fun _ _ a b => .cons a b) .nil (fun _ _ a b => .cons a b) vs ds r
theorem RdsD.mono {vs : List (Str × Value)} {ds : List (Str × D)} (r : RdsD c z h vs ds) : RdsD c z' h' vs ds :=
  @RdsD.rec c z h (fun v d _ => Rd c z' h' v d) (fun v d _ => Rds c z' h' v d) (fun v d _ => RdsD c z' h' v d) .none .bool .int .str (fun za p _ r => .list (hz _ za) (p.at fun o e => hk _ o za e) r) (fun za p _ r => .tup (hz _ za) (plainTup_at p fun o e => hk _ o za e) r) (fun za n p _ r => .dict (hz _ za) n (dictOf_at p fun o e => hk _ o za e) r) (fun za p => .range (hz _ za) (hk _ _ za p))
    (fun za zb n p q _ r => .items (hz _ za) (hz _ zb) n (hk _ _ za p) (dictOf_at q fun o e => hk _ o zb e) r) (fun za zb n p q _ r => .vals (hz _ za) (hz _ zb) n (hk _ _ za p) (dictOf_at q fun o e => hk _ o zb e) r) (fun za zb p q _ r => .inst (hz _ za) (hz _ zb) (hk _ _ za p) (dictOf_at q fun o e => hk _ o zb e) r) .lex .atl .fit .row .nil (fun _ _ a b => .cons a b) .nil (fun _ _ a b => .cons a b) vs ds r
end
noncomputable def RdI (c : Cx) (z : Addr → Prop) (h : Heap) (v : Value) : D → Prop
  | .none => v = .none
  | .bool b => v = .bool b
  | .int i => ∃ t, v = .int i t
  | .str x => ∃ t, v = .str x t
  | .list l => ∃ a vs, v = .ref a ∧ z a ∧ h.PlainList a (List.toArray vs) ∧ Rds c z h vs l
  | .tup l => ∃ a vs, v = .ref a ∧ z a ∧ PlainTup h a (List.toArray vs) ∧ Rds c z h vs l
  | .dict l => ∃ a kvs, v = .ref a ∧ z a ∧ (a == sysModules) = false ∧ h.DictOf (strKind c.prog c.w) a kvs ∧ RdsD c z h kvs l
  | .range i j k => ∃ a t u y, v = .ref a ∧ h.get? a = some { cls := .type "range", data := .fields #[.int i t, .int j u, .int k y] }
  | .items l => ∃ a b kvs, v = .ref a ∧ z b ∧ h.get? a = some { cls := .type "dict_items", data := .fields #[.ref b] } ∧ h.DictOf (strKind c.prog c.w) b kvs ∧ RdsD c z h kvs l
  | .vals l => ∃ a b kvs, v = .ref a ∧ z b ∧ h.get? a = some { cls := .type "dict_values", data := .fields #[.ref b] } ∧ h.DictOf (strKind c.prog c.w) b kvs ∧ RdsD c z h kvs l
  | .inst _ _ => ∃ a, v = .ref a ∧ ∃ o, h.get? a = some o
  | .lex => ∃ x, c.X = some x ∧ v = .ref x.x
  | .atl => ∃ x, c.X = some x ∧ v = .ref x.at'
  | .fit => ∃ x, c.X = some x ∧ v = .ref x.it
  | .row i => ∃ x a, c.X = some x ∧ v = .ref a ∧ x.rw[i]? = some a
theorem Rd.i {c : Cx} {z : Addr → Prop} {h : Heap} {v : Value} {d : D} (r : Rd c z h v d) : RdI c z h v d := by
  cases r with
  | none => rfl
  | bool => rfl
  | int _ t => exact ⟨t, rfl⟩
  | str _ t => exact ⟨t, rfl⟩
  | list za p r => exact ⟨_, _, rfl, za, p, r⟩
  | tup za p r => exact ⟨_, _, rfl, za, p, r⟩
  | dict za n p r => exact ⟨_, _, rfl, za, n, p, r⟩
  | range za e => exact ⟨_, _, _, _, rfl, e⟩
  | items za zb n e p r => exact ⟨_, _, _, rfl, zb, e, p, r⟩
  | vals za zb n e p r => exact ⟨_, _, _, rfl, zb, e, p, r⟩
  | inst za zb p q r => exact ⟨_, rfl, _, p⟩
  | lex e _ => exact ⟨_, e, rfl⟩
  | atl e _ => exact ⟨_, e, rfl⟩
  | fit e _ => exact ⟨_, e, rfl⟩
  | row e _ q => exact ⟨_, _, e, rfl, q⟩
noncomputable def RdsI (c : Cx) (z : Addr → Prop) (h : Heap) (vs : List Value) : List D → Prop
  | [] => vs = []
  | d :: ds => ∃ v vs', vs = v :: vs' ∧ Rd c z h v d ∧ Rds c z h vs' ds
theorem Rds.i {c : Cx} {z : Addr → Prop} {h : Heap} {vs : List Value} {ds : List D} (r : Rds c z h vs ds) : RdsI c z h vs ds := by
  cases r with
  | nil => rfl
  | cons r rs => exact ⟨_, _, rfl, r, rs⟩
def Al (h : Heap) (a : Addr) : Prop := ∃ o, h.get? a = some o
inductive FreshR (c : Cx) (z : Addr → Prop) (h : Heap) (O : Addr) : D → Prop
  | list {vs l} : h.PlainList O (List.toArray vs) → Rds c z h vs l → FreshR c z h O (.list l)
  | dict {kvs l} : (O == sysModules) = false → h.DictOf (strKind c.prog c.w) O kvs → RdsD c z h kvs l → FreshR c z h O (.dict l)
theorem FreshR.mono {c : Cx} {z z' : Addr → Prop} {h h' : Heap} {O : Addr} {d : D} (r : FreshR c z h O d) (hz : ∀ a, z a → z' a) (hk : ∀ a o, z a → h.get? a = some o → h'.get? a = some o) (hO : ∀ o, h.get? O = some o → h'.get? O = some o) : FreshR c z' h' O d := by
  cases r with
  | list p r => exact .list (p.at hO) (r.mono hz hk)
  | dict m p r => exact .dict m (dictOf_at p hO) (r.mono hz hk)
theorem FreshR.rd {c : Cx} {z : Addr → Prop} {h : Heap} {O : Addr} {d : D} (r : FreshR c z h O d) (hO : z O) : Rd c z h (.ref O) d := by
  cases r with
  | list p r => exact .list hO p r
  | dict m p r => exact .dict hO m p r
theorem FreshR.al {c : Cx} {z : Addr → Prop} {h : Heap} {O : Addr} {d : D} (r : FreshR c z h O d) : Al h O := by
  cases r with
  | list p r => exact let ⟨_, e⟩ := p; ⟨_, e⟩
  | dict m p r => exact let ⟨o, _, _, e, _⟩ := p; ⟨o, e⟩
noncomputable def FreshI (c : Cx) (z : Addr → Prop) (h : Heap) (O : Addr) : D → Prop
  | .list l => ∃ vs : List Value, h.PlainList O (List.toArray vs) ∧ Rds c z h vs l
  | .dict l => (O == sysModules) = false ∧ ∃ kvs, h.DictOf (strKind c.prog c.w) O kvs ∧ RdsD c z h kvs l
  | _ => False
theorem FreshR.i {c : Cx} {z : Addr → Prop} {h : Heap} {O : Addr} {d : D} (r : FreshR c z h O d) : FreshI c z h O d := by
  cases r with
  | list p r => exact ⟨_, p, r⟩
  | dict m p r => exact ⟨m, _, p, r⟩
def RdT (c : Cx) (z : Addr → Prop) (h : Heap) (v : Value) (d : D) : Prop := Rd c z h v d ∨ ∃ a, v = .ref a ∧ ¬ lexmu c.X a ∧ FreshR c z h a d
theorem RdT.mono {c : Cx} {z z' : Addr → Prop} {h h' : Heap} (hz : ∀ a, z a → z' a) (hd : ∀ a, z a → ¬ lexmu c.X a) (hk : ∀ a o, ¬ lexmu c.X a → h.get? a = some o → h'.get? a = some o)
    {v : Value} {d : D} (r : RdT c z h v d) : RdT c z' h' v d :=
  r.elim (fun r => .inl (r.mono hz fun a o za e => hk a o (hd a za) e)) fun ⟨a, e, n, r⟩ => .inr ⟨a, e, n, r.mono hz (fun a o za e => hk a o (hd a za) e) fun o e => hk a o n e⟩
noncomputable def RdTI (c : Cx) (z : Addr → Prop) (h : Heap) (v : Value) : D → Prop
  | .list l => ∃ a vs, v = .ref a ∧ h.PlainList a (List.toArray vs) ∧ Rds c z h vs l
  | .dict l => ∃ a kvs, v = .ref a ∧ (a == sysModules) = false ∧ h.DictOf (strKind c.prog c.w) a kvs ∧ RdsD c z h kvs l
  | d => RdI c z h v d
theorem RdT.i {c : Cx} {z : Addr → Prop} {h : Heap} {v : Value} {d : D} (r : RdT c z h v d) : RdTI c z h v d := by
  rcases r with r | ⟨a, rfl, _, r⟩
  · have q := r.i
    cases d with
    | list l => exact let ⟨a, vs, e, _, p, r⟩ := q; ⟨a, vs, e, p, r⟩
    | dict l => exact let ⟨a, vs, e, _, p, r⟩ := q; ⟨a, vs, e, p, r⟩
    | _ => exact q
  · cases r with
    | list p r => exact ⟨_, _, rfl, p, r⟩
    | dict m p r => exact ⟨_, _, rfl, m, p, r⟩
inductive Kd where
  | fz | own | bor
  deriving DecidableEq
structure LV where
  k : Kd
  d : D
noncomputable abbrev Loc := List (Str × LV)
noncomputable abbrev LS := Option LX
def LexOK (c : Cx) (ls : LS) (h : Heap) : Prop := (c.X = none ∧ ls = none) ∨ ∃ x l, c.X = some x ∧ ls = some l ∧ c.P x l h
structure FC where
  env : Env
  wn : List Str
inductive Slot (env : Env) (h : Heap) (x : Str) (v : Value) : Prop
  | loc : env.kindOf x = some .local → (∃ m, h.Ns env.locals m ∧ m x = some v) → Slot env h x v
  | cell {a} : env.kindOf x = some .cell → env.cells.lookup x = some a → h.IsCell a (some v) → Slot env h x v
  | free {a} : env.kindOf x = some .free → env.cells.lookup x = some a → h.IsCell a (some v) → Slot env h x v
inductive Wr (env : Env) (mu : Addr → Prop) (h : Heap) (x : Str) : Prop
  | loc : env.kindOf x = some .local → Wr env mu h x
  | cell {a v} : env.kindOf x = some .cell → env.cells.lookup x = some a → mu a → h.IsCell a v → Wr env mu h x
def LVr (c : Cx) (z mu : Addr → Prop) (h : Heap) (lv : LV) (v : Value) : Prop := match lv.k with
  | .fz => Rd c z h v lv.d
  | .bor => Rd c z h v lv.d ∨ ∃ a, v = .ref a ∧ ¬ mu a ∧ FreshR c z h a lv.d
  | .own => ∃ a, v = .ref a ∧ mu a ∧ ¬ lexall c.X a ∧ FreshR c z h a lv.d
theorem LVr.map {c : Cx} {z z' mu mu' : Addr → Prop} {h h' : Heap} {lv : LV} {v : Value} (r : LVr c z mu h lv v) (hz : ∀ a, z a → z' a) (hk : ∀ a o, z a → h.get? a = some o → h'.get? a = some o)
    (hb : ∀ a d, v = .ref a → FreshR c z h a d → ¬ mu a → lv.k = .bor → ¬ mu' a ∧ ∀ o, h.get? a = some o → h'.get? a = some o) (ho : ∀ a d, v = .ref a → FreshR c z h a d → mu a → ¬ lexall c.X a → lv.k = .own → mu' a ∧ ∀ o, h.get? a = some o → h'.get? a = some o) : LVr c z' mu' h' lv v := by
  obtain ⟨k, d⟩ := lv
  cases k with
  | fz => exact Rd.mono hz hk r
  | own => exact let ⟨a, e, m, n, f⟩ := r; let ⟨m', q⟩ := ho a d e f m n rfl; ⟨a, e, m', n, f.mono hz hk q⟩
  | bor => exact r.elim (fun r => .inl (Rd.mono hz hk r)) fun ⟨a, e, m, f⟩ => let ⟨m', q⟩ := hb a d e f m rfl; .inr ⟨a, e, m', f.mono hz hk q⟩
structure Stp (z mu : Addr → Prop) (s : Shared) (z' mu' : Addr → Prop) (s' : Shared) : Prop where
  al : ∀ a, Al s.heap a → Al s'.heap a
  zz : ∀ a, z a → z' a
  zn : ∀ a, Al s.heap a → z' a → z a ∨ mu a
  mm : ∀ a, Al s.heap a → mu' a → mu a
  kp : ∀ b o, s.heap.get? b = some o → ¬ mu b → s'.heap.get? b = some o
  ge : s'.gens = s.gens
  os : s'.os = s.os
  dr : s'.drawn = s.drawn
structure StpE (c : Cx) (z : Addr → Prop) (s : Shared) (z' : Addr → Prop) (s' : Shared) : Prop where
  al : ∀ a, Al s.heap a → Al s'.heap a
  zz : ∀ a, z a → z' a
  zn : ∀ a, Al s.heap a → z' a → z a
  za : ∀ a, z' a → Al s'.heap a
  zl : ∀ a, z' a → ¬ lexmu c.X a
  kp : ∀ b o, s.heap.get? b = some o → ¬ lexmu c.X b → s'.heap.get? b = some o
  ge : s'.gens = s.gens
  os : s'.os = s.os
  dr : s'.drawn = s.drawn
structure Rep (c : Cx) (F : FC) (z mu : Addr → Prop) (loc : Loc) (ls : LS) (s : Shared) : Prop where
  kin : c.K.In s.heap
  kz : ∀ a o, c.K.lookup a = some o → ¬ mu a
  zmu : ∀ a, z a → ¬ mu a
  lmu : ∀ a, lexmu c.X a → mu a
  zal : ∀ a, z a → Al s.heap a
  mal : ∀ a, mu a → Al s.heap a
  lx : LexOK c ls s.heap
  fmu : mu F.env.locals
  fl : ¬ lexall c.X F.env.locals
  ns : ∃ m, s.heap.Ns F.env.locals m
  cl : ∀ x a, F.env.cells.lookup x = some a → ¬ lexall c.X a ∧ a ≠ F.env.locals ∧ ¬ z a ∧ Al s.heap a
  cinj : ∀ x y a, F.env.cells.lookup x = some a → F.env.cells.lookup y = some a → x = y
  wr : ∀ x, x ∈ F.wn → Wr F.env mu s.heap x
  vars : ∀ x lv, loc.lookup x = some lv → ∃ v, Slot F.env s.heap x v ∧ LVr c z mu s.heap lv v
  osep : ∀ x d a, loc.lookup x = some ⟨.own, d⟩ → Slot F.env s.heap x (.ref a) → a ≠ F.env.locals ∧ ∀ y b, F.env.cells.lookup y = some b → a ≠ b
  oinj : ∀ x y d e a, loc.lookup x = some ⟨.own, d⟩ → loc.lookup y = some ⟨.own, e⟩ → Slot F.env s.heap x (.ref a) → Slot F.env s.heap y (.ref a) → x = y
structure Hy (c : Cx) : Prop where
  lst : ∀ x l h h', c.X = some x → c.P x l h → (∀ a o, lexall c.X a → h.get? a = some o → h'.get? a = some o) → c.P x l h'
  lal : ∀ x l h, c.X = some x → c.P x l h → ∀ a, lexall c.X a → Al h a
  big : ∃ a o, c.K.lookup a = some o ∧ 1 < a
  mg : ∀ h, c.K.In h → h.Ns mainGlobals c.mg
  mb : ∀ h, c.K.In h → h.Ns builtinsNs c.mb
  lim : ∀ h, c.K.In h → h.NoLimit
theorem Stp.refl (z mu : Addr → Prop) (s : Shared) : Stp z mu s z mu s := ⟨fun _ h => h, fun _ h => h, fun _ _ h => .inl h, fun _ _ h => h, fun _ _ h _ => h, rfl, rfl, rfl⟩
theorem Stp.trans {z mu z1 mu1 z2 mu2 : Addr → Prop} {s s1 s2 : Shared} (x : Stp z mu s z1 mu1 s1) (y : Stp z1 mu1 s1 z2 mu2 s2) : Stp z mu s z2 mu2 s2 :=
  ⟨fun a h => y.al a (x.al a h), fun a h => y.zz a (x.zz a h), fun a h k => (y.zn a (x.al a h) k).elim (fun k => x.zn a h k) fun k => .inr (x.mm a h k), fun a h k => x.mm a h (y.mm a (x.al a h) k),
    fun b o h n => y.kp b o (x.kp b o h n) fun k => n (x.mm b ⟨o, h⟩ k), y.ge.trans x.ge, y.os.trans x.os, y.dr.trans x.dr⟩
theorem StpE.trans {c : Cx} {z z1 z2 : Addr → Prop} {s s1 s2 : Shared} (x : StpE c z s z1 s1) (y : StpE c z1 s1 z2 s2) : StpE c z s z2 s2 :=
  ⟨fun a h => y.al a (x.al a h), fun a h => y.zz a (x.zz a h), fun a h k => x.zn a h (y.zn a (x.al a h) k), y.za, y.zl, fun b o h n => y.kp b o (x.kp b o h n) n, y.ge.trans x.ge, y.os.trans x.os, y.dr.trans x.dr⟩
theorem Slot.kp {env : Env} {h h' : Heap} {x : Str} {v : Value} (hL : ∀ o, h.get? env.locals = some o → h'.get? env.locals = some o) (hC : ∀ y a o, env.cells.lookup y = some a → h.get? a = some o → h'.get? a = some o) : Slot env h x v → Slot env h' x v
  | .loc k ⟨m, n, e⟩ => .loc k ⟨m, n.at' hL, e⟩
  | .cell k l ⟨o, e, d⟩ => .cell k l ⟨o, hC _ _ o l e, d⟩
  | .free k l ⟨o, e, d⟩ => .free k l ⟨o, hC _ _ o l e, d⟩
theorem ns_fun {h : Heap} {a : Addr} {m m' : Str → Option Value} (x : h.Ns a m) (y : h.Ns a m') : m = m' := by
  obtain ⟨o, es, ep, h1, h2, _, h3⟩ := x
  obtain ⟨o', es', ep', h1', h2', _, h3'⟩ := y
  rw [h1] at h1'
  cases h1'
  rw [h2] at h2'
  cases h2'
  funext n
  rw [← h3, ← h3']
theorem Slot.fn {env : Env} {h : Heap} {x : Str} {v v' : Value} (a : Slot env h x v) (b : Slot env h x v') : v = v' := by
  cases a with
  | loc k n =>
    obtain ⟨m, n, e⟩ := n
    cases b with
    | loc k' n' =>
      obtain ⟨m', n', e'⟩ := n'
      rw [ns_fun n n'] at e
      rw [e] at e'
      exact Option.some.inj e'
    | cell k' => rw [k] at k'; cases k'
    | free k' => rw [k] at k'; cases k'
  | cell k l n =>
    obtain ⟨o, n, e⟩ := n
    cases b with
    | loc k' => rw [k] at k'; cases k'
    | cell k' l' n' =>
      obtain ⟨o', n', e'⟩ := n'
      rw [l] at l'; cases l'
      rw [n] at n'; cases n'
      rw [e] at e'; cases e'; rfl
    | free k' => rw [k] at k'; cases k'
  | free k l n =>
    obtain ⟨o, n, e⟩ := n
    cases b with
    | loc k' => rw [k] at k'; cases k'
    | free k' l' n' =>
      obtain ⟨o', n', e'⟩ := n'
      rw [l] at l'; cases l'
      rw [n] at n'; cases n'
      rw [e] at e'; cases e'; rfl
    | cell k' => rw [k] at k'; cases k'
theorem Rep.move {c : Cx} {F : FC} {z z' mu mu' : Addr → Prop} {loc loc' : Loc} {ls ls' : LS} {s s' : Shared} (R : Rep c F z mu loc ls s)
    (kin : ∀ a o, c.K.lookup a = some o → s.heap.get? a = some o → s'.heap.get? a = some o) (kz : ∀ a o, c.K.lookup a = some o → s.heap.get? a = some o → ¬ mu' a) (zmu : ∀ a, z' a → ¬ mu' a) (lmu : ∀ a, lexmu c.X a → mu' a) (zal : ∀ a, z' a → Al s'.heap a) (mal : ∀ a, mu' a → Al s'.heap a)
    (lx : LexOK c ls' s'.heap) (fmu : mu' F.env.locals) (hL : ∀ o, s.heap.get? F.env.locals = some o → s'.heap.get? F.env.locals = some o) (hC : ∀ y a o, F.env.cells.lookup y = some a → s.heap.get? a = some o → s'.heap.get? a = some o) (cz : ∀ y a, F.env.cells.lookup y = some a → ¬ z a → ¬ z' a) (cm : ∀ y a, F.env.cells.lookup y = some a → mu a → mu' a)
    (hv : ∀ x lv, loc'.lookup x = some lv → ∃ lv0, loc.lookup x = some lv0 ∧ (lv.k = .own → lv0.k = .own) ∧ ∀ v, Slot F.env s.heap x v → LVr c z mu s.heap lv0 v → LVr c z' mu' s'.heap lv v) : Rep c F z' mu' loc' ls' s' := by
  have back : ∀ x lv v, loc'.lookup x = some lv → Slot F.env s'.heap x v → ∃ lv0, loc.lookup x = some lv0 ∧ (lv.k = .own → lv0.k = .own) ∧ Slot F.env s.heap x v := fun x lv v e hs =>
    let ⟨lv0, e0, k0, _⟩ := hv x lv e; let ⟨_, h0, _⟩ := R.vars x lv0 e0; ⟨lv0, e0, k0, (h0.kp hL hC).fn hs ▸ h0⟩
  refine ⟨fun a o e => kin a o e (R.kin a o e), fun a o e => kz a o e (R.kin a o e), zmu, lmu, zal, mal, lx, fmu, R.fl, let ⟨m, n⟩ := R.ns; ⟨m, n.at' hL⟩, fun x a l => let ⟨h1, h2, h3, o, h4⟩ := R.cl x a l; ⟨h1, h2, cz x a l h3, o, hC x a o l h4⟩, R.cinj, fun x hx => ?_, fun x lv e => ?_, fun x d a e hs => ?_, fun x y d e' a hx hy sx sy => ?_⟩
  · cases R.wr x hx with
    | loc k => exact .loc k
    | cell k l m n => exact .cell k l (cm _ _ l m) (let ⟨o, e, d⟩ := n; ⟨o, hC _ _ o l e, d⟩)
  · obtain ⟨lv0, e0, _, h0⟩ := hv x lv e
    obtain ⟨v, hs, hr⟩ := R.vars x lv0 e0
    exact ⟨v, hs.kp hL hC, h0 v hs hr⟩
  · obtain ⟨⟨k0, d0⟩, e0, hk, hs0⟩ := back x _ _ e hs
    cases (hk rfl : k0 = .own)
    exact R.osep x d0 a e0 hs0
  · obtain ⟨⟨k0, d0⟩, e0, hk, hs0⟩ := back x _ _ hx sx
    cases (hk rfl : k0 = .own)
    obtain ⟨⟨k1, d1⟩, e1, hk1, hs1⟩ := back y _ _ hy sy
    cases (hk1 rfl : k1 = .own)
    exact R.oinj x y d0 d1 a e0 e1 hs0 hs1
theorem same_vars {c : Cx} {F : FC} {z z' mu mu' : Addr → Prop} {loc : Loc} {s s' : Shared} (h : ∀ x lv v, loc.lookup x = some lv → Slot F.env s.heap x v → LVr c z mu s.heap lv v → LVr c z' mu' s'.heap lv v) :
    ∀ x lv, loc.lookup x = some lv → ∃ lv0, loc.lookup x = some lv0 ∧ (lv.k = .own → lv0.k = .own) ∧ ∀ v, Slot F.env s.heap x v → LVr c z mu s.heap lv0 v → LVr c z' mu' s'.heap lv v := fun x lv e => ⟨lv, e, id, fun v => h x lv v e⟩
theorem Rep.zl {c : Cx} {F : FC} {z mu : Addr → Prop} {loc : Loc} {ls : LS} {s : Shared} (R : Rep c F z mu loc ls s) : ∀ a, z a → ¬ lexmu c.X a := fun a za k => R.zmu a za (R.lmu a k)
theorem Rep.stpE {c : Cx} {F : FC} {z z' mu : Addr → Prop} {loc : Loc} {ls ls' : LS} {s s' : Shared} (H : Hy c) (R : Rep c F z mu loc ls s) (S : StpE c z s z' s') (hl : LexOK c ls' s'.heap) : Rep c F z' mu loc ls' s' :=
  R.move (fun a o k e => S.kp a o e fun q => R.kz a o k (R.lmu a q)) (fun a o k _ => R.kz a o k) (fun a k m => R.zmu a (S.zn a (R.mal a m) k) m) R.lmu S.za (fun a m => S.al a (R.mal a m)) hl R.fmu
    (fun o e => S.kp _ o e fun k => R.fl (lexall_of k)) (fun y a o l e => S.kp _ o e fun k => (R.cl y a l).1 (lexall_of k)) (fun y a l n k => n (S.zn a (R.cl y a l).2.2.2 k)) (fun _ _ _ m => m)
    (same_vars fun x lv v _ _ r => r.map S.zz (fun a o za e => S.kp a o e (R.zl a za)) (fun a d e f n _ => ⟨n, fun o e => S.kp a o e fun k => n (R.lmu a k)⟩) (fun a d e f m n _ => ⟨m, fun o e => S.kp a o e fun q => n (lexall_of q)⟩))
theorem StpE.lift {c : Cx} {F : FC} {z z' mu : Addr → Prop} {loc : Loc} {ls : LS} {s s' : Shared} (R : Rep c F z mu loc ls s) (S : StpE c z s z' s') : Stp z mu s z' mu s' :=
  ⟨S.al, S.zz, fun a h k => .inl (S.zn a h k), fun _ _ m => m, fun b o e n => S.kp b o e fun k => n (R.lmu b k), S.ge, S.os, S.dr⟩
theorem StpE.refl {c : Cx} {F : FC} {z mu : Addr → Prop} {loc : Loc} {ls : LS} {s : Shared} (R : Rep c F z mu loc ls s) : StpE c z s z s :=
  ⟨fun _ h => h, fun _ h => h, fun _ _ h => h, R.zal, fun a za k => R.zmu a za (R.lmu a k), fun _ _ e _ => e, rfl, rfl, rfl⟩
structure Fn where
  addr : Addr
  params : List Str
  body : List Stmt
  scope : Scope
inductive AF where
  | next | brk | cont
  | ret (d : D)
noncomputable def setL (x : Str) (v : LV) : Loc → Loc
  | [] => [(x, v)]
  | p :: r => if x == p.1 then (x, v) :: r else p :: setL x v r
noncomputable def frzLV (lv : LV) : LV := if lv.k = .own then ⟨.fz, lv.d⟩ else lv
noncomputable def frz (l : Loc) : Loc := l.map fun p => (p.1, frzLV p.2)
noncomputable def lookD (k : Str) : List (Str × D) → Option D
  | [] => none
  | p :: r => if p.1 = k then some p.2 else lookD k r
noncomputable def putD (l : List (Str × D)) (k : Str) (v : D) : List (Str × D) :=
  if l.any (fun p => p.1 = k) then l.map (fun p => if p.1 = k then (p.1, v) else p) else l ++ [(k, v)]
noncomputable def chr1 (c : Nat) : D := .str ⟨#[c]⟩
def small (i : Int) : Prop := -1000000000 ≤ i ∧ i ≤ 1000000000
inductive Bin : Operator → D → D → D → Prop
  | addI (a b : Int) : Bin .Add (.int a) (.int b) (.int (a + b))
  | subI (a b : Int) : Bin .Sub (.int a) (.int b) (.int (a - b))
  | mulI (a b : Int) : small a → Bin .Mult (.int a) (.int b) (.int (a * b))
  | divI (a b : Int) : 0 < b → b ≤ 1000 → Bin .FloorDiv (.int a) (.int b) (.int (a / b))
  | modI (a b : Int) : 0 < b → b ≤ 1000 → Bin .Mod (.int a) (.int b) (.int (a % b))
  | powI (a b : Int) : 0 ≤ b → b ≤ 1000 → small a → Bin .Pow (.int a) (.int b) (.int (a ^ b.toNat))
  | addS (a b : Str) : a.length + b.length ≤ 1000000 → Bin .Add (.str a) (.str b) (.str (a ++ b))
  | addL (a b : List D) : a.length + b.length ≤ 1000000 → Bin .Add (.list a) (.list b) (.list (a ++ b))
  | mulL (x : D) (n : Int) : 0 ≤ n → n ≤ 1000 → Bin .Mult (.list [x]) (.int n) (.list (List.replicate n.toNat x))
inductive Inp : Operator → D → D → D → Prop
  | addI (a b : Int) : Inp .Add (.int a) (.int b) (.int (a + b))
  | mulI (a b : Int) : small a → Inp .Mult (.int a) (.int b) (.int (a * b))
  | addS (a b : Str) : a.length + b.length ≤ 1000000 → Inp .Add (.str a) (.str b) (.str (a ++ b))
inductive Eqf : D → D → Bool → Prop
  | none : Eqf .none .none true
  | bool (a b : Bool) : Eqf (.bool a) (.bool b) (a == b)
  | int (a b : Int) : Eqf (.int a) (.int b) (a == b)
  | str (a b : Str) : Eqf (.str a) (.str b) (a == b)
inductive Eqs : List D → List D → Bool → Prop
  | nil : Eqs [] [] true
  | cons {x y : D} {xs ys : List D} {a b : Bool} : Eqf x y a → Eqs xs ys b → Eqs (x :: xs) (y :: ys) (a && b)
inductive Eql : D → D → Bool → Prop
  | flat {a b : D} {t : Bool} : Eqf a b t → Eql a b t
  | list {a b : List D} {t : Bool} : Eqs a b t → Eql (.list a) (.list b) t
  | lens {a b : List D} : a.length ≠ b.length → Eql (.list a) (.list b) false
  | tup {a b : List D} {t : Bool} : Eqs a b t → Eql (.tup a) (.tup b) t
inductive Eqd (q : D → D → Bool → Prop) (ys : List (Str × D)) : List (Str × D) → Bool → Prop
  | nil : Eqd q ys [] true
  | miss {k x xs} : lookD k ys = none → Eqd q ys ((k, x) :: xs) false
  | hit {k x xs y a b} : lookD k ys = some y → q x y a → Eqd q ys xs b → Eqd q ys ((k, x) :: xs) (a && b)
inductive Eq1 : D → D → Bool → Prop
  | low {a b : D} {t : Bool} : Eqf a b t → Eq1 a b t
  | dict {a b : List (Str × D)} {t : Bool} : a.length = b.length → Eqd Eqf b a t → Eq1 (.dict a) (.dict b) t
inductive Eq2 : D → D → Bool → Prop
  | low {a b : D} {t : Bool} : Eql a b t → Eq2 a b t
  | dict {a b : List (Str × D)} {t : Bool} : a.length = b.length → Eqd Eq1 b a t → Eq2 (.dict a) (.dict b) t
noncomputable def strsL (l : List Str) : List D := l.map .str
inductive Cmp : CmpOp → D → D → Bool → Prop
  | lt (a b : Int) : Cmp .Lt (.int a) (.int b) (decide (a < b))
  | gt (a b : Int) : Cmp .Gt (.int a) (.int b) (decide (a > b))
  | eq {a b : D} {t : Bool} : Eq2 a b t → Cmp .Eq a b t
  | ne {a b : D} {t : Bool} : Eq2 a b t → Cmp .NotEq a b (!t)
  | inS (n : Nat) (b : Str) : Cmp .In (.str ⟨#[n]⟩) (.str b) (decide (n ∈ b.cps.toList))
  | inD (a : Str) (b : List (Str × D)) : Cmp .In (.str a) (.dict b) (lookD a b).isSome
  | inL (a : Str) (l : List Str) : Cmp .In (.str a) (.list (strsL l)) (l.contains a)
  | notInL (a : Str) (l : List Str) : Cmp .NotIn (.str a) (.list (strsL l)) (!l.contains a)
inductive Sub : D → D → D → Prop
  | list {l : List D} {i : Int} {r : D} : 0 ≤ i → i ≤ 1000000000 → l[i.toNat]? = some r → Sub (.list l) (.int i) r
  | tup {l : List D} {i : Int} {j : Nat} {r : D} : small i → seqIndex? i l.length = some j → l[j]? = some r → Sub (.tup l) (.int i) r
  | str {x : Str} {i : Int} {j n : Nat} : small i → seqIndex? i x.length = some j → x.cps[j]? = some n → Sub (.str x) (.int i) (chr1 n)
  | dict {l : List (Str × D)} {k : Str} {r : D} : lookD k l = some r → Sub (.dict l) (.str k) r
inductive Truth : D → Bool → Prop
  | bool (b : Bool) : Truth (.bool b) b
  | int (i : Int) : Truth (.int i) (i != 0)
  | str (x : Str) : x.length ≤ 1000000 → Truth (.str x) (x.length != 0)
  | list (l : List D) : l.length ≤ 1000000 → Truth (.list l) (!l.isEmpty)
noncomputable def upL (a : Int) (n : Nat) : List D := (List.range n).map fun (i : Nat) => .int (a + (i : Int) * 1)
noncomputable def downL (a : Int) (n : Nat) : List D := (List.range n).map fun (i : Nat) => .int (a + (i : Int) * (-1))
noncomputable def isList : D → Bool
  | .list _ => true
  | _ => false
inductive Iter : D → List D → Prop
  | list {l : List D} : l.length ≤ 1000000 → Iter (.list l) l
  | tup {l : List D} : l.length ≤ 1000000 → Iter (.tup l) l
  | str {x : Str} : x.length ≤ 1000000 → Iter (.str x) (x.cps.toList.map chr1)
  | dict {l : List (Str × D)} : l.length ≤ 1000000 → Iter (.dict l) (l.map fun p => .str p.1)
  | up {a b : Int} : small a → small b → (b - a).toNat ≤ 1000000 → Iter (.range a b 1) (upL a (b - a).toNat)
  | down {a b : Int} : small a → small b → (a - b).toNat ≤ 1000000 → Iter (.range a b (-1)) (downL a (a - b).toNat)
  | vals {l : List (Str × D)} : l.length ≤ 1000000 → Iter (.vals l) (l.map (·.2))
noncomputable def argLoc : List Str → List (D × Bool) → Option Loc
  | [], [] => some []
  | x :: xs, d :: ds => (argLoc xs ds).map ((x, ⟨if d.2 then .fz else .bor, d.1⟩) :: ·)
  | _, _ => none
noncomputable def canW (sc : Scope) (n : Str) : Bool := match sc.names.lookup n with
  | some .local | some .cell => true
  | _ => false
inductive Bind (sc : Scope) : Expr → D → Loc → Loc → Prop
  | name {n : Str} {p : Pos} {d : D} {loc : Loc} : canW sc n = true → Bind sc (.Name n p) d loc (setL n ⟨.fz, d⟩ loc)
  | two {a b : Str} {p q r : Pos} {k : Nat} {u v : D} {loc : Loc} : canW sc a = true → canW sc b = true → Bind sc (.Tuple [.Name a p, .Name b q] k r) (.tup [u, v]) loc (setL b ⟨.fz, v⟩ (setL a ⟨.fz, u⟩ loc))
noncomputable def capt (sc : Scope) (loc : Loc) : Loc := sc.names.filterMap fun p => if p.2 = .free then (loc.lookup p.1).map fun lv => (p.1, if lv.k = .own then ⟨.bor, lv.d⟩ else lv) else none
noncomputable def capOK (sc csc : Scope) : Bool := csc.kind == .function && csc.names.all (fun p => p.2 != .free || (sc.names.lookup p.1 == some .cell || sc.names.lookup p.1 == some .free)) && csc.names.all (fun p => csc.names.lookup p.1 == some p.2)
noncomputable def isGlob (sc : Scope) (loc : Loc) (n : Str) : Bool := decide (sc.names.lookup n = some .globalImplicit) && (loc.lookup n).isNone && !(n == ("__debug__" : Str))
noncomputable def kindE : Expr → Nat
  | .Set .. => 1
  | .Tuple .. => 2
  | .SetComp .. | .ListComp .. | .DictComp .. => 3
  | .Slice .. => 4
  | .Name .. => 5
  | _ => 0
noncomputable def isSet (e : Expr) : Bool := Nat.beq (kindE e) 1
noncomputable def isTup (e : Expr) : Bool := Nat.beq (kindE e) 2
noncomputable def isComp (e : Expr) : Bool := Nat.beq (kindE e) 3
noncomputable def isSlice (e : Expr) : Bool := Nat.beq (kindE e) 4
noncomputable def plainN (x : Str) : Bool := !(x == ("__debug__" : Str)) && !(x == ("__classdict__" : Str))
theorem plainN_of {x : Str} (h : plainN x = true) : (x == ("__debug__" : Str)) = false ∧ (x == ("__classdict__" : Str)) = false := by
  unfold plainN at h
  simpa using h
theorem lk_eq (x : Str) (v : LV) (l : Loc) : ((x, v) :: l).lookup x = some v := by rw [List.lookup_cons, beq_self_eq_true]
theorem lk_ne {x y : Str} (h : y ≠ x) (v : LV) (l : Loc) : ((x, v) :: l).lookup y = l.lookup y := by rw [List.lookup_cons, beq_eq_false_iff_ne.mpr h]
theorem lookup_setL (x y : Str) (v : LV) : ∀ l : Loc, (setL x v l).lookup y = if y = x then some v else l.lookup y
  | [] => by
    by_cases h : y = x
    · rw [if_pos h, h]; exact lk_eq ..
    · rw [if_neg h]; exact lk_ne h ..
  | (k, u) :: r => by
    have ih := lookup_setL x y v r
    unfold setL
    by_cases h : x = k
    · rw [if_pos (beq_iff_eq.mpr h), ← h]
      by_cases q : y = x
      · rw [if_pos q, q]; exact lk_eq ..
      · rw [if_neg q, lk_ne q, lk_ne q]
    · rw [if_neg (fun e => h (beq_iff_eq.mp e))]
      by_cases q : y = k
      · rw [q, if_neg (Ne.symm h), lk_eq, lk_eq]
      · rw [lk_ne q, lk_ne q, ih]
def RdB (c : Cx) (b : Bool) (z : Addr → Prop) (h : Heap) (v : Value) (d : D) : Prop := match b with
  | true => Rd c z h v d
  | false => RdT c z h v d
theorem RdB.t {c : Cx} {b : Bool} {z : Addr → Prop} {h : Heap} {v : Value} {d : D} (r : RdB c b z h v d) : RdT c z h v d := by
  cases b with
  | true => exact .inl r
  | false => exact r
structure Room (A : Around) (n : Nat) : Prop where
  h : A.handled = none
  d : A.depth + n + 20 < 1000
  u : A.units + 100 * n + 200 < 9900
theorem Room.mono {A : Around} {n m : Nat} (r : Room A n) (h : m ≤ n) : Room A m := ⟨r.h, Nat.lt_of_le_of_lt (Nat.add_le_add_right (Nat.add_le_add_left h _) _) r.d, Nat.lt_of_le_of_lt (Nat.add_le_add_right (Nat.add_le_add_left (Nat.mul_le_mul_left _ h) _) _) r.u⟩
theorem Room.cl {A : Around} {n : Nat} (hr : Room A n) : A.units + 10 < cLine := Nat.lt_of_lt_of_le (Nat.lt_of_le_of_lt (Nat.add_le_add (Nat.le_add_right _ _) (by decide)) hr.u) (by decide)
structure ScOK (F : FC) (sc : Scope) : Prop where
  fk : F.env.scope.kind = .function
  gl : ∀ n, sc.names.lookup n = some .globalImplicit → F.env.kindOf n = some .globalImplicit
  wn : ∀ n, canW sc n = true → n ∈ F.wn
  cl : ∀ n, sc.names.lookup n = some .cell ∨ sc.names.lookup n = some .free → (∃ a, F.env.cells.lookup n = some a) ∧ (F.env.kindOf n = some .cell ∨ F.env.kindOf n = some .free)
  ge : F.env.globals = mainGlobals
  be : F.env.builtins = builtinsNs
def EvOK (c : Cx) (F : FC) (A : Around) (loc : Loc) (ls : LS) (t : Sem Value) (d : D) (b : Bool) (ls' : LS) : Prop :=
  ∀ (z mu : Addr → Prop) (s : Shared) (Q : Value → Shared → Prop) (E : Value → Shared → Prop), Rep c F z mu loc ls s →
    (∀ z' v s', StpE c z s z' s' → LexOK c ls' s'.heap → RdB c b z' s'.heap v d → Q v s') → wpAny (model c.prog c.w) A t Q E s
def TrOK (c : Cx) (F : FC) (A : Around) (loc : Loc) (ls : LS) (t : Sem Bool) (b : Bool) (ls' : LS) : Prop :=
  ∀ (z mu : Addr → Prop) (s : Shared) (Q : Bool → Shared → Prop) (E : Value → Shared → Prop), Rep c F z mu loc ls s →
    (∀ z' s', StpE c z s z' s' → LexOK c ls' s'.heap → Q b s') → wpAny (model c.prog c.w) A t Q E s
noncomputable def FlowR (c : Cx) (z : Addr → Prop) (h : Heap) (f : Flow) : AF → Prop
  | .next => f = .next
  | .brk => f = .brk
  | .cont => f = .cont
  | .ret d => ∃ v, f = .ret v ∧ Rd c z h v d
def ExOK (c : Cx) (F : FC) (A : Around) (loc : Loc) (ls : LS) (t : Sem Flow) (T : AF → Loc → LS → Prop) : Prop :=
  ∀ (z mu : Addr → Prop) (s : Shared) (Q : Flow → Shared → Prop) (E : Value → Shared → Prop), Rep c F z mu loc ls s →
    (∀ af loc' ls' f z' mu' s', T af loc' ls' → Stp z mu s z' mu' s' → Rep c F z' mu' loc' ls' s' → FlowR c z' s'.heap f af → Q f s') → wpAny (model c.prog c.w) A t Q E s
structure Ev (c : Cx) (n : Nat) (sc : Scope) (loc : Loc) (ls : LS) (e : Expr) (d : D) (b : Bool) (ls' : LS) : Prop where
  of ::
  go : ∀ F A, Room A n → ScOK F sc → EvOK c F A loc ls (eval e F.env) d b ls'
structure Tr (c : Cx) (n : Nat) (sc : Scope) (loc : Loc) (ls : LS) (e : Expr) (b : Bool) (ls' : LS) : Prop where
  of ::
  go : ∀ F A, Room A n → ScOK F sc → TrOK c F A loc ls (isTrue e F.env (eval e F.env)) b ls'
structure Ex (c : Cx) (n : Nat) (sc : Scope) (loc : Loc) (ls : LS) (st : List Stmt) (T : AF → Loc → LS → Prop) : Prop where
  of ::
  go : ∀ F A, Room A n → ScOK F sc → ExOK c F A loc ls (execs st F.env) T
structure E1 (c : Cx) (n : Nat) (sc : Scope) (loc : Loc) (ls : LS) (st : Stmt) (T : AF → Loc → LS → Prop) : Prop where
  of ::
  go : ∀ F A, Room A n → ScOK F sc → ExOK c F A loc ls (exec st F.env) T
section
variable {c : Cx} {F : FC} {A : Around} {z mu z' : Addr → Prop} {loc : Loc} {ls ls' : LS} {s s' : Shared}
theorem StpE.keep (R : Rep c F z mu loc ls s) {h' : Heap} {tk : Nat} (hk : ∀ b o, s.heap.get? b = some o → h'.get? b = some o) (N : Addr → Prop) (hn : ∀ a, N a → s.heap.get? a = none ∧ Al h' a) :
    StpE c z s (fun a => z a ∨ N a) { s with heap := h', toks := tk } :=
  ⟨fun a ⟨o, e⟩ => ⟨o, hk a o e⟩, fun a za => .inl za, fun a ⟨o, e⟩ k => k.elim (fun za => za) (fun n => by rw [(hn a n).1] at e; exact nomatch e), fun a k => k.elim (fun za => let ⟨o, e⟩ := R.zal a za; ⟨o, hk a o e⟩) (fun n => (hn a n).2),
    fun a k l => k.elim (fun za => R.zl a za l) (fun n => by obtain ⟨o, e⟩ := R.mal a (R.lmu a l); rw [(hn a n).1] at e; exact nomatch e),
    fun b o e _ => hk b o e, rfl, rfl, rfl⟩
theorem StpE.toks (R : Rep c F z mu loc ls s) (tk : Nat) : StpE c z s z { s with toks := tk } :=
  ⟨fun _ h => h, fun _ h => h, fun _ _ h => h, R.zal, R.zl, fun _ _ e _ => e, rfl, rfl, rfl⟩
theorem get_size (h : Heap) : h.get? h.objs.size = none := by
  cases e : h.get? h.objs.size with
  | none => rfl
  | some o => exact absurd (Heap.lt_size e) (Nat.lt_irrefl _)
theorem StpE.push (R : Rep c F z mu loc ls s) {o : Obj} {tk : Nat} (hf : o.isFreed = false) : StpE c z s (fun a => z a ∨ a = s.heap.objs.size) { s with heap := s.heap.push o, toks := tk } :=
  StpE.keep R (fun b o e => Heap.get?_push_of_some _ e) (fun a => a = s.heap.objs.size) fun a e => by
    subst e
    exact ⟨get_size _, ⟨_, Heap.get?_push_size _ hf⟩⟩
theorem LexOK.move (H : Hy c) {h h' : Heap} (l : LexOK c ls h) (hk : ∀ x b o, c.X = some x → lexall c.X b → h.get? b = some o → h'.get? b = some o) : LexOK c ls h' :=
  l.imp id fun ⟨x, lx, e, e', p⟩ => ⟨x, lx, e, e', H.lst x lx h h' e p fun a o ha q => hk x a o e ha q⟩
theorem LexOK.keep (H : Hy c) {h h' : Heap} (l : LexOK c ls h) (hk : ∀ b o, h.get? b = some o → h'.get? b = some o) : LexOK c ls h' := l.move H fun _ b o _ _ e => hk b o e
theorem LexOK.get {x : LXA} {h : Heap} (L : LexOK c ls h) (e : c.X = some x) : ∃ lx, ls = some lx ∧ c.P x lx h := by
  rcases L with ⟨e1, _⟩ | ⟨y, l, e1, e2, p⟩
  · rw [e] at e1; cases e1
  · rw [e] at e1; cases e1; exact ⟨l, e2, p⟩
theorem lexall_al (H : Hy c) (R : Rep c F z mu loc ls s) : ∀ a, lexall c.X a → Al s.heap a := fun a ha =>
  let ⟨x, ex, _⟩ := id ha; let ⟨l, _, p⟩ := R.lx.get ex; H.lal x l _ ex p a ha
theorem RdB.step {b : Bool} {v : Value} {d : D} (r : RdB c b z s.heap v d) (S : StpE c z s z' s') (hz : ∀ a, z a → ¬ lexmu c.X a) : RdB c b z' s'.heap v d := by
  cases b with
  | true => exact Rd.mono S.zz (fun a o za e => S.kp a o e (hz a za)) r
  | false => exact RdT.mono S.zz hz (fun a o n e => S.kp a o e n) r
theorem Rd.step {v : Value} {d : D} (r : Rd c z s.heap v d) (S : StpE c z s z' s') (hz : ∀ a, z a → ¬ lexmu c.X a) : Rd c z' s'.heap v d := Rd.mono S.zz (fun a o za e => S.kp a o e (hz a za)) r
theorem Rds.step {v : List Value} {d : List D} (r : Rds c z s.heap v d) (S : StpE c z s z' s') (hz : ∀ a, z a → ¬ lexmu c.X a) : Rds c z' s'.heap v d := Rds.mono S.zz (fun a o za e => S.kp a o e (hz a za)) r
theorem load_slot {x : Str} {v : Value} {Q : Value → Shared → Prop} {E : Value → Shared → Prop} {env : Env} (hk : env.scope.kind = .function) (hx : (x == ("__classdict__" : Str)) = false) (h : Slot env s.heap x v) (hq : Q v s) : wpAny (model c.prog c.w) A (loadName env x) Q E s := by
  cases h with
  | loc k n => obtain ⟨m, n, e⟩ := n; exact wpAny_loadName_local hk k n e hq
  | cell k l n => exact wpAny_loadName_cell hk k l n hq
  | free k l n => exact wpAny_loadName_free hk k l n hq hx
theorem RdT.of_lvr {lv : LV} {v : Value} (R : Rep c F z mu loc ls s) (r : LVr c z mu s.heap lv v) : RdB c (decide (lv.k = .fz)) z s.heap v lv.d := by
  obtain ⟨k, d⟩ := lv
  cases k with
  | fz => exact r
  | bor => exact r.imp id fun ⟨a, e, n, f⟩ => ⟨a, e, fun k => n (R.lmu _ k), f⟩
  | own => exact let ⟨a, e, _, n, f⟩ := r; .inr ⟨a, e, fun k => n (lexall_of k), f⟩
end
theorem ev_name {c : Cx} {F : FC} {A : Around} {loc : Loc} {ls : LS} {x : Str} {pos : Pos} {lv : LV} (hk : F.env.scope.kind = .function) (hd : (x == ("__debug__" : Str)) = false) (hx : (x == ("__classdict__" : Str)) = false) (h : loc.lookup x = some lv) :
    EvOK c F A loc ls (eval (.Name x pos) F.env) lv.d (decide (lv.k = .fz)) ls := by
  intro z mu s Q E R hq
  obtain ⟨v, hs, hv⟩ := R.vars x lv h
  exact wpAny_Name (load_slot hk hx hs (hq z v s (StpE.refl R) R.lx (RdT.of_lvr R hv))) hd
theorem ev_two {c : Cx} {F : FC} {A : Around} {loc : Loc} {ls ls1 ls2 : LS} {t u : Sem Value} {d e : D} {b b' : Bool} (H : Hy c) (ht : EvOK c F A loc ls t d b ls1) (hu : EvOK c F A loc ls1 u e b' ls2)
    {z mu : Addr → Prop} {s : Shared} {Q : Value → Value → Shared → Prop} {E : Value → Shared → Prop} (R : Rep c F z mu loc ls s)
    (hq : ∀ z' v w s', StpE c z s z' s' → LexOK c ls2 s'.heap → RdB c b z' s'.heap v d → RdB c b' z' s'.heap w e → Q v w s') :
    wpAny (model c.prog c.w) A t (fun v s₁ => wpAny (model c.prog c.w) A u (fun w s₂ => Q v w s₂) E s₁) E s := by
  refine ht z mu s _ E R fun z1 v s1 S1 L1 r1 => ?_
  have R1 := R.stpE H S1 L1
  refine hu z1 mu s1 _ E R1 fun z2 w s2 S2 L2 r2 => ?_
  exact hq z2 v w s2 (S1.trans S2) L2 (r1.step S2 R1.zl) r2
section
variable {c : Cx} {z : Addr → Prop} {h : Heap} {v : Value}
theorem Rds.len {vs : List Value} {ds : List D} (r : Rds c z h vs ds) : vs.length = ds.length := by
  induction ds generalizing vs with
  | nil => exact (r.i : vs = []) ▸ rfl
  | cons d ds ih => obtain ⟨v, vs', rfl, _, r⟩ := r.i; exact congrArg Nat.succ (ih r)
theorem RdsD.len {vs : List (Str × Value)} {ds : List (Str × D)} (r : RdsD c z h vs ds) : vs.length = ds.length :=
  @RdsD.rec c z h (fun _ _ _ => True) (fun _ _ _ => True) (fun v d _ => v.length = d.length) trivial (fun _ => trivial) (fun _ _ => trivial) (fun _ _ => trivial) (fun _ _ _ _ => trivial) (fun _ _ _ _ => trivial) (fun _ _ _ _ _ => trivial) (fun _ _ => trivial) (fun _ _ _ _ _ _ _ => trivial) (fun _ _ _ _ _ _ _ => trivial) (fun _ _ _ _ _ _ => trivial) (fun _ _ => trivial) (fun _ _ => trivial) (fun _ _ => trivial) (fun _ _ _ => trivial) trivial (fun _ _ _ _ => trivial) rfl (fun _ _ _ e => congrArg Nat.succ e) vs ds r
theorem Rds.append {vs ws : List Value} {ds es : List D} (r : Rds c z h vs ds) (q : Rds c z h ws es) : Rds c z h (vs ++ ws) (ds ++ es) := by
  induction ds generalizing vs with
  | nil => rw [(r.i : vs = [])]; exact q
  | cons d ds ih => obtain ⟨v, vs', rfl, x, r⟩ := r.i; exact .cons x (ih r)
theorem Rds.get {vs : List Value} {ds : List D} (r : Rds c z h vs ds) (i : Nat) {d : D} (e : ds[i]? = some d) : ∃ v, vs[i]? = some v ∧ Rd c z h v d := by
  induction ds generalizing vs i with
  | nil => cases e
  | cons d' ds ih =>
    obtain ⟨v, vs', rfl, x, r⟩ := r.i
    cases i with
    | zero => exact ⟨v, rfl, Option.some.inj e ▸ x⟩
    | succ i => exact ih r i e
theorem Rds.replicate (n : Nat) {v : Value} {d : D} (r : Rd c z h v d) : Rds c z h (List.replicate n v) (List.replicate n d) := by
  induction n with
  | zero => exact .nil
  | succ n ih => exact .cons r ih
end
theorem million {n : Nat} (h : n ≤ 1000000) : n ≤ sizeLine := Nat.le_trans h (by decide)
theorem bits_small {a : Int} (h : small a) : Builtin.Int.intBits a ≤ 64 := by
  obtain ⟨h1, h2⟩ := h
  exact intBits_le_64 (by omega) (by omega)
section
variable {c : Cx} {F : FC} {A : Around} {z mu : Addr → Prop} {loc : Loc} {ls : LS} {s : Shared} {Q : Value → Shared → Prop} {E : Value → Shared → Prop} {v w : Value}
theorem push_list (H : Hy c) (R : Rep c F z mu loc ls s) {vs : List Value} {l : List D} {tk : Nat} (r : Rds c z s.heap vs l)
    (hq : ∀ z' r s', StpE c z s z' s' → LexOK c ls s'.heap → Rd c z' s'.heap r (.list l) → Q r s') : Q (.ref s.heap.objs.size) { s with heap := s.heap.push { cls := .type "list", data := .seq vs.toArray }, toks := tk } :=
  have S : StpE c z s (fun a => z a ∨ a = s.heap.objs.size) { s with heap := s.heap.push { cls := .type "list", data := .seq vs.toArray }, toks := tk } := StpE.push R rfl
  hq _ _ _ S (R.lx.keep H fun b o e => Heap.get?_push_of_some _ e) (.list (.inr rfl) ⟨0, Heap.get?_push_size _ rfl⟩ (r.step S R.zl))
theorem fold_rep (v : Value) (k : Nat) : ∀ acc : Array Value, List.foldl (fun x1 x2 => x1 ++ x2) acc (List.replicate k [v].toArray) = acc ++ (List.replicate k v).toArray := by
  induction k with
  | zero => intro acc; simp
  | succ k ih => intro acc; rw [List.replicate_succ, List.foldl_cons, ih, List.replicate_succ]; apply Array.ext'; simp
theorem bin_ok (H : Hy c) (R : Rep c F z mu loc ls s) {op : Operator} {a b d : D} (h : Bin op a b d) (ra : RdT c z s.heap v a) (rb : RdT c z s.heap w b)
    (hq : ∀ z' r s', StpE c z s z' s' → LexOK c ls s'.heap → Rd c z' s'.heap r d → Q r s') : wpAny (model c.prog c.w) A (binaryOp op v w) Q E s := by
  have tk : ∀ r (k : Nat), (∀ z h, Rd c z h r d) → Q r { s with toks := k } := fun r k hr => hq z r _ (StpE.toks R k) R.lx (hr _ _)
  cases h with
  | addI => obtain ⟨t, rfl⟩ := ra.i; obtain ⟨u, rfl⟩ := rb.i; exact add_int (tk _ _ fun _ _ => .int _ _)
  | subI => obtain ⟨t, rfl⟩ := ra.i; obtain ⟨u, rfl⟩ := rb.i; exact sub_int (tk _ _ fun _ _ => .int _ _)
  | mulI _ _ hf => obtain ⟨t, rfl⟩ := ra.i; obtain ⟨u, rfl⟩ := rb.i; exact mul_int (tk _ _ fun _ _ => .int _ _) (IntMulOk.of_left (bits_small hf))
  | divI _ b h0 h1 =>
    obtain ⟨t, rfl⟩ := ra.i; obtain ⟨u, rfl⟩ := rb.i
    exact floordiv_int (Int.ne_of_gt h0) ((Int.fdiv_eq_ediv_of_nonneg _ (Int.le_of_lt h0)).symm ▸ tk _ _ fun _ _ => .int _ _) (.inl (PyProof.noPylong_small (by omega)))
  | modI _ b h0 h1 =>
    obtain ⟨t, rfl⟩ := ra.i; obtain ⟨u, rfl⟩ := rb.i
    exact mod_int' (Int.ne_of_gt h0) ((Int.fmod_eq_emod_of_nonneg _ (Int.le_of_lt h0)).symm ▸ tk _ _ fun _ _ => .int _ _)
  | powI _ b h0 h1 hf =>
    obtain ⟨t, rfl⟩ := ra.i; obtain ⟨u, rfl⟩ := rb.i
    exact pow_int_small h0 (by omega) (by have := hf.1; have := hf.2; omega) (tk _ _ fun _ _ => .int _ _)
  | addS _ _ hf => obtain ⟨t, rfl⟩ := ra.i; obtain ⟨u, rfl⟩ := rb.i; exact PyProof.Rows.add_str (fun t' k => tk _ _ fun _ _ => .str _ _) (million hf)
  | addL _ _ hf =>
    obtain ⟨l, vs, rfl, ⟨n, p⟩, r⟩ := ra.i; obtain ⟨l', vs', rfl, ⟨n', p'⟩, r'⟩ := rb.i
    refine PySem.P.add_list p p' ?_ (by rw [List.size_toArray, List.size_toArray, r.len, r'.len]; exact million hf)
    rw [List.append_toArray]
    exact push_list (Q := Q) (tk := s.toks) H R (r.append r') hq
  | mulL x y h0 h1 =>
    obtain ⟨l, vs, rfl, ⟨n, p⟩, r⟩ := ra.i; obtain ⟨u, rfl⟩ := rb.i
    obtain ⟨v1, vs', rfl, r1, r2⟩ := r.i
    cases (r2.i : vs' = [])
    have hy : y.toNat ≤ 1000 := by omega
    refine wpAny_binaryOp_repeat_ref (T := "list") (U := "int") (by decide) ⟨_, p, rfl⟩ (fun s' => typeIs_int s' _ u) noFill_list_mul PySem.F.fills_int_mul PySem.F.slot_int_rmul repeat_list PySem.F.slot_int_index.lookup
      (call_meets PySem.F.slot_int_rmul (typeIs_int s _ u) PySem.F.entry_int_rmul (PySem.F.args_int_rmul_2 _ _) (int___rmul___int_list _ u l _ n)
        ⟨p, rfl, ⟨_, p, rfl⟩, call_meets PySem.F.slot_list_mul ⟨_, p, rfl⟩ PySem.F.entry_list_mul (PySem.F.args_list_mul_2 _ _)
          (AutoListH.list___mul___list_int_3 l _ n _ u (by simp [Builtin.List.listFitsIndex]; omega) (by simp; omega) (by simp [Builtin.List.listTooLong, sizeLine]; omega)) ⟨p, ?_⟩⟩)
    rw [fold_rep, Array.empty_append]
    show Q _ { s with heap := s.heap.push { cls := .type "list", data := .seq (List.replicate y.toNat v1).toArray } }
    exact push_list (Q := Q) (tk := s.toks) H R (Rds.replicate y.toNat r1) hq
theorem inp_ok {op : Operator} {a b d : D} (h : Inp op a b d) (ra : RdT c z s.heap v a) (rb : RdT c z s.heap w b)
    (hq : ∀ r k, (∀ z h, Rd c z h r d) → Q r { s with toks := k }) : wpAny (model c.prog c.w) A (inplaceOp op v w) Q E s := by
  cases h with
  | addI => obtain ⟨t, rfl⟩ := ra.i; obtain ⟨u, rfl⟩ := rb.i; exact iadd_int (hq _ _ fun _ _ => .int _ _)
  | mulI _ _ hf => obtain ⟨t, rfl⟩ := ra.i; obtain ⟨u, rfl⟩ := rb.i; exact imul_int (hq _ _ fun _ _ => .int _ _) (IntMulOk.of_left (bits_small hf))
  | addS _ _ hf => obtain ⟨t, rfl⟩ := ra.i; obtain ⟨u, rfl⟩ := rb.i; exact PyProof.Rows.SBL.iadd (fun t' k _ => hq _ _ fun _ _ => .str _ _) (million hf)
end
theorem PlainTup.isTuple {h : Heap} {a : Addr} {items : Array Value} (p : PlainTup h a items) : h.IsTuple a items := let ⟨n, e⟩ := p; ⟨_, e, rfl, n, rfl⟩
theorem Eqs.len {l m : List D} {t : Bool} (h : Eqs l m t) : l.length = m.length := by
  induction h with
  | nil => rfl
  | cons _ _ ih => exact congrArg Nat.succ ih
section
variable {c : Cx} {F : FC} {A : Around} {z mu : Addr → Prop} {loc : Loc} {ls : LS} {s : Shared} {Q : Value → Shared → Prop} {E : Value → Shared → Prop} {v w : Value}
theorem eqf_at {a b : D} {t : Bool} (h : Eqf a b t) (ra : RdT c z s.heap v a) (rb : RdT c z s.heap w b) : SeqAt.EqAt A s v w t := by
  cases h with
  | none => rw [(ra.i : v = _), (rb.i : w = _)]; exact SeqAt.EqAt.same _
  | bool => rw [(ra.i : v = _), (rb.i : w = _)]; exact SeqAt.EqAt.bool_bool _ _
  | int => obtain ⟨_, rfl⟩ := ra.i; obtain ⟨_, rfl⟩ := rb.i; exact SeqAt.EqAt.int_int _ _ _ _
  | str => obtain ⟨_, rfl⟩ := ra.i; obtain ⟨_, rfl⟩ := rb.i; exact SeqAt.EqAt.str_str _ _ _ _
theorem rcf_at {a b : D} {t : Bool} (h : Eqf a b t) (ra : RdT c z s.heap v a) (rb : RdT c z s.heap w b) : SeqAt.RcAt A s v w t ∧ SeqAt.RcNeAt A s v w (!t) := by
  cases h with
  | none => rw [(ra.i : v = _), (rb.i : w = _)]; exact ⟨SeqAt.RcAt.none_none, SeqAt.RcNeAt.none_none⟩
  | bool => rw [(ra.i : v = _), (rb.i : w = _)]; exact ⟨SeqAt.RcAt.bool_bool _ _, SeqAt.RcNeAt.bool_bool _ _⟩
  | int => obtain ⟨_, rfl⟩ := ra.i; obtain ⟨_, rfl⟩ := rb.i; exact ⟨SeqAt.RcAt.int_int _ _ _ _, SeqAt.RcNeAt.int_int _ _ _ _⟩
  | str => obtain ⟨_, rfl⟩ := ra.i; obtain ⟨_, rfl⟩ := rb.i; exact ⟨SeqAt.RcAt.str_str _ _ _ _, SeqAt.RcNeAt.str_str _ _ _ _⟩
theorem eqs_at {l m : List D} {t : Bool} (h : Eqs l m t) : ∀ {vs ws : List Value}, Rds c z s.heap vs l → Rds c z s.heap ws m →
    ∃ e : Nat → Bool, (∀ j (h1 : j < vs.length) (h2 : j < ws.length), SeqAt.EqAt A s vs[j] ws[j] (e j)) ∧ (List.range vs.length).all e = t := by
  induction h with
  | nil => intro vs ws r _; cases (r.i : vs = []); exact ⟨fun _ => true, fun j h1 => absurd h1 (Nat.not_lt_zero _), rfl⟩
  | @cons x y xs ys a b hf _ ih =>
    intro vs ws r q
    obtain ⟨v, vs, rfl, r, rs⟩ := r.i; obtain ⟨w, ws, rfl, q, qs⟩ := q.i
    obtain ⟨e, he, ht⟩ := ih rs qs
    refine ⟨fun j => Nat.casesOn j a e, fun j h1 h2 => ?_, ?_⟩
    · cases j with
      | zero => exact eqf_at hf (.inl r) (.inl q)
      | succ j => exact he j (Nat.lt_of_succ_lt_succ h1) (Nat.lt_of_succ_lt_succ h2)
    · rw [List.length_cons, List.range_succ_eq_map, List.all_cons, List.all_map, ← ht]
      rfl
theorem arr_at {vs ws : List Value} {e : Nat → Bool} (he : ∀ j (h1 : j < vs.length) (h2 : j < ws.length), SeqAt.EqAt A s vs[j] ws[j] (e j)) : ∀ j (h1 : j < vs.toArray.size) (h2 : j < ws.toArray.size), SeqAt.EqAt A s vs.toArray[j] ws.toArray[j] (e j) := he
theorem rcl_at {a b : D} {t : Bool} (h : Eql a b t) (ra : RdT c z s.heap v a) (rb : RdT c z s.heap w b) (hu : A.units < cLine) : SeqAt.RcAt A s v w t ∧ SeqAt.RcNeAt A s v w (!t) := by
  cases h with
  | flat h => exact rcf_at h ra rb
  | list h =>
    obtain ⟨x, vs, rfl, p, r⟩ := ra.i; obtain ⟨y, ws, rfl, q, r'⟩ := rb.i
    obtain ⟨e, he, rfl⟩ := eqs_at (A := A.in1) h r r'
    have hs : vs.toArray.size = ws.toArray.size := r.len.trans (h.len.trans r'.len.symm)
    exact ⟨SeqAt.RcAt.lists p.isList q.isList hs hu (arr_at he), SeqAt.RcNeAt.lists p.isList q.isList hs hu (arr_at he)⟩
  | lens hl =>
    obtain ⟨x, vs, rfl, p, r⟩ := ra.i; obtain ⟨y, ws, rfl, q, r'⟩ := rb.i
    have hs : (vs.toArray.size != ws.toArray.size) = true := bne_iff_ne.mpr fun e => hl (r.len.symm.trans ((e : vs.length = ws.length).trans r'.len))
    exact ⟨SeqAt.RcAt.lists_lengths p.isList q.isList hs hu, SeqAt.RcNeAt.lists_lengths p.isList q.isList hs hu⟩
  | tup h =>
    obtain ⟨x, vs, rfl, _, p, r⟩ := ra.i; obtain ⟨y, ws, rfl, _, q, r'⟩ := rb.i
    obtain ⟨e, he, rfl⟩ := eqs_at (A := A.in1) h r r'
    have hs : vs.length = ws.length := r.len.trans (h.len.trans r'.len.symm)
    have x1 := SeqAt.RcAt.tuples p.isTuple q.isTuple hu (arr_at he)
    have x2 := SeqAt.RcNeAt.tuples p.isTuple q.isTuple hu (arr_at he)
    rw [List.size_toArray, List.size_toArray, ← hs, Nat.min_self, beq_self_eq_true, Bool.and_true] at x1 x2
    exact ⟨x1, x2⟩
theorem RdsD.look {h : Heap} {k : Str} {kvs : List (Str × Value)} {l : List (Str × D)} (r : RdsD c z h kvs l) : (lookD k l = none → valueAt kvs k = none) ∧ (∀ d, lookD k l = some d → ∃ v, valueAt kvs k = some v ∧ Rd c z h v d) :=
  @RdsD.rec c z h (fun _ _ _ => True) (fun _ _ _ => True) (fun kvs l _ => (lookD k l = none → valueAt kvs k = none) ∧ (∀ d, lookD k l = some d → ∃ v, valueAt kvs k = some v ∧ Rd c z h v d)) trivial (fun _ => trivial) (fun _ _ => trivial) (fun _ _ => trivial) (fun _ _ _ _ => trivial) (fun _ _ _ _ => trivial) (fun _ _ _ _ _ => trivial) (fun _ _ => trivial) (fun _ _ _ _ _ _ _ => trivial) (fun _ _ _ _ _ _ _ => trivial) (fun _ _ _ _ _ _ => trivial) (fun _ _ => trivial) (fun _ _ => trivial) (fun _ _ => trivial) (fun _ _ _ => trivial) trivial (fun _ _ _ _ => trivial) ⟨fun _ => rfl, fun d e => nomatch e⟩
    (fun {k'} v vs d ds r rs _ ih => by
      unfold lookD valueAt
      rw [List.find?_cons]
      by_cases e : k' = k
      · simp only [e, decide_true, if_true, Option.map_some]
        exact ⟨(fun x => nomatch x), fun d' x => ⟨_, rfl, Option.some.inj x ▸ r⟩⟩
      · simp only [e, decide_false, if_false]
        exact ih) kvs l r
theorem RdsD.isSome {h : Heap} {k : Str} {kvs : List (Str × Value)} {l : List (Str × D)} (r : RdsD c z h kvs l) : (valueAt kvs k).isSome = (lookD k l).isSome := by
  have := r.look (k := k)
  cases e : lookD k l with
  | none => rw [this.1 e]; rfl
  | some d => obtain ⟨v, e', _⟩ := this.2 d e; rw [e']; rfl
def EqW (c : Cx) (A : Around) (s : Shared) (v w : Value) (t : Bool) : Prop := ∀ (E : Value → Shared → Prop) (Q : Bool → Shared → Prop), Q t s → wpAny (model c.prog c.w) A (eqBool v w) Q E s
theorem EqW.of {t : Bool} (h : SeqAt.EqAt A s v w t) : EqW c A s v w t := fun E Q q => h _ _ E Q q
inductive Hits (c : Cx) (A : Around) (s : Shared) (kb : List (Str × Value)) : List (Str × Value) → Bool → Prop
  | nil : Hits c A s kb [] true
  | miss {k v r} : valueAt kb k = none → Hits c A s kb ((k, v) :: r) false
  | hit {k v y r e b} : valueAt kb k = some y → EqW c A s v y e → Hits c A s kb r b → Hits c A s kb ((k, v) :: r) (e && b)
noncomputable def HitI (c : Cx) (A : Around) (s : Shared) (kb : List (Str × Value)) (t : Bool) : List (Str × Value) → Prop
  | [] => t = true
  | (k, v) :: r => (valueAt kb k = none ∧ t = false) ∨ ∃ y e b, valueAt kb k = some y ∧ EqW c A s v y e ∧ Hits c A s kb r b ∧ t = (e && b)
theorem Hits.i {kb l : List (Str × Value)} {t : Bool} (h : Hits c A s kb l t) : HitI c A s kb t l := by
  cases h with
  | nil => rfl
  | miss e => exact .inl ⟨e, rfl⟩
  | hit a b d => exact .inr ⟨_, _, _, a, b, d, rfl⟩
noncomputable def RdsDI (c : Cx) (z : Addr → Prop) (h : Heap) (vs : List (Str × Value)) : List (Str × D) → Prop
  | [] => vs = []
  | (k, d) :: ds => ∃ v vs', vs = (k, v) :: vs' ∧ Rd c z h v d ∧ RdsD c z h vs' ds
theorem RdsD.i {h : Heap} {vs : List (Str × Value)} {ds : List (Str × D)} (r : RdsD c z h vs ds) : RdsDI c z h vs ds := by
  cases r with
  | nil => rfl
  | cons r rs => exact ⟨_, _, rfl, r, rs⟩
theorem hits_of {q : D → D → Bool → Prop} {lb : List (Str × D)} {kb : List (Str × Value)} (rb : RdsD c z s.heap kb lb)
    (hq : ∀ x y t v w, q x y t → Rd c z s.heap v x → Rd c z s.heap w y → EqW c A s v w t) {la : List (Str × D)} {t : Bool} (h : Eqd q lb la t) : ∀ {ka : List (Str × Value)}, RdsD c z s.heap ka la → Hits c A s kb ka t := by
  induction h with
  | nil => intro ka r; cases (r.i : ka = []); exact .nil
  | miss e => intro ka r; obtain ⟨v, vs, rfl, _, _⟩ := r.i; exact .miss (rb.look.1 e)
  | hit e ha _ ih =>
    intro ka r
    obtain ⟨v, vs, rfl, r, rs⟩ := r.i
    obtain ⟨u, eu, ru⟩ := rb.look.2 _ e
    exact .hit eu (hq _ _ _ _ _ ha r ru) (ih rs)
theorem same_pairs {nm : String} {a b : Addr} {ka kb : List (Str × Value)} {r : Bool} {Q : Bool → Shared → Prop} (ha : (a == sysModules) = false) (hb : (b == sysModules) = false)
    (da : s.heap.DictOf (strKind c.prog c.w) a ka) (db : s.heap.DictOf (strKind c.prog c.w) b kb) (hl : ka.length = kb.length) (hits : Hits c A s kb ka r) (hq : Q r s) :
    wpAny (model c.prog c.w) A (Builtin.Dict.samePairs nm a b) Q E s := by
  obtain ⟨oa, es, ep, hoa, _, hda, hka, hpa, _⟩ := da
  obtain ⟨ob, es', ep', hob, _, hdb, hkb, hpb, _⟩ := db
  have hla : ka.length = es.size := by rw [← hpa.length]; exact Array.length_toList
  have hlb : kb.length = es'.size := by rw [← hpb.length]; exact Array.length_toList
  have hsz : es.size = es'.size := by omega
  have hfind : ∀ k, findBy (strKind c.prog c.w).is es' k = valueAt kb k := fun k => by
    rw [← hpb.find k]
    clear hlb hpb hkb hdb hob hsz
    obtain ⟨l⟩ := es'
    simp [findBy]
  unfold Builtin.Dict.samePairs Builtin.Dict.showsAll
  rw [if_neg (by rw [ha]; exact Bool.false_ne_true), if_neg (by rw [hb]; exact Bool.false_ne_true)]
  refine wpAny_bind (wpAny_pure (wpAny_bind (wpAny_pure ?_)))
  refine wpAny_bind (wpAny_dictEntries hoa hda ?_)
  dsimp only
  refine wpAny_bind (wpAny_dictEntries hob hdb ?_)
  rw [if_neg (by rw [hsz]; simp)]
  refine wpAny_bind (wpAny_dictEpoch hoa hda ?_)
  refine wpAny_bind ?_
  rw [Std.Legacy.Range.forIn_eq_forIn_range']
  simp only [Std.Legacy.Range.size, Nat.sub_zero, Nat.add_sub_cancel, Nat.div_one]
  refine wpAny_forIn_list _ (fun rest q s' => s' = s ∧ q = (none, ()) ∧ ∃ i, rest = List.range' i (es.size - i) ∧ i ≤ es.size ∧ Hits c A s kb (ka.drop i) r) _ ?_ ?_ _ _ ⟨rfl, rfl, 0, by simp, Nat.zero_le _, hits⟩
  · rintro x rest q s' ⟨rfl, rfl, i, hr, hi, hpre⟩
    have hlt : i < es.size := by
      rcases Nat.lt_or_ge i es.size with h | h
      · exact h
      · rw [Nat.sub_eq_zero_of_le h] at hr; simp at hr
    obtain ⟨rfl, hrest⟩ : x = i ∧ rest = List.range' (i + 1) (es.size - (i + 1)) := by
      rw [show es.size - i = (es.size - (i + 1)) + 1 by omega, List.range'_succ] at hr
      injection hr with h1 h2
      exact ⟨h1, h2⟩
    refine wpAny_bind (wpAny_dictEntries hoa hda ?_)
    rw [Array.getElem?_eq_getElem hlt]
    have hlt' : x < ka.length := by rw [hla]; exact hlt
    obtain ⟨k, v, hkv⟩ : ∃ k v, ka[x] = (k, v) := ⟨_, _, rfl⟩
    have hdrop : ka.drop x = (k, v) :: ka.drop (x + 1) := by rw [← hkv]; exact List.drop_eq_getElem_cons hlt'
    obtain ⟨hkey, hval⟩ := hpa.get? (i := x) (e := es[x]) (k := k) (v := v) (by rw [Array.getElem?_toList]; exact Array.getElem?_eq_getElem hlt) (by rw [List.getElem?_eq_getElem hlt', hkv])
    obtain ⟨k', hk', hh⟩ := hka es[x] (Array.getElem_mem hlt)
    rw [(strKind c.prog c.w).inj _ _ _ hk' hkey] at hh
    rw [hdrop] at hpre
    show wpAny _ _ (holding [es[x].key, es[x].val] _ >>= _) _ _ _
    rw [hh]
    refine wpAny_bind (wpAny_holding (wpAny_bind (wpAny_dictFind_of hkey hob hdb hkb ?_)))
    cases hj : es'.findIdx? fun e => (strKind c.prog c.w).is k e.key with
    | none =>
      have hn : valueAt kb k = none := by rw [← hfind k, findBy_of_findIdx?, hj]
      rcases hpre.i with ⟨_, rfl⟩ | ⟨_, _, _, hy, _⟩
      · refine wpAny_pure ?_
        show wpAny _ _ (if (!false) = true then _ else _) _ _ _
        rw [if_pos (by decide)]
        exact wpAny_pure (wpAny_pure hq)
      · rw [hn] at hy; exact nomatch hy
    | some j =>
      obtain ⟨hjlt, _, _⟩ := Array.findIdx?_eq_some_iff_getElem.mp hj
      have hv' : valueAt kb k = some es'[j].val := by
        rw [← hfind k, findBy_of_findIdx?, hj]
        simp [Array.getElem?_eq_getElem hjlt]
      refine wpAny_bind (wpAny_dictEntries hob hdb ?_)
      rw [Array.getElem?_eq_getElem hjlt]
      rcases hpre.i with ⟨hn, _⟩ | ⟨y, e, b', hy, he, hrr, rfl⟩
      · rw [hv'] at hn; exact nomatch hn
      · have ey : es'[j].val = y := Option.some.inj (hv'.symm.trans hy)
        rw [← ey, ← hval] at he
        refine wpAny_holding (he _ _ ?_)
        cases e with
        | false =>
          show wpAny _ _ (if (!false) = true then _ else _) _ _ _
          rw [if_pos (by decide)]
          exact wpAny_pure (wpAny_pure hq)
        | true =>
          show wpAny _ _ (if (!true) = true then _ else _) _ _ _
          rw [if_neg (by decide)]
          refine wpAny_bind (wpAny_dictEpoch hoa hda ?_)
          rw [if_neg (by simp)]
          exact wpAny_pure ⟨rfl, rfl, x + 1, hrest, hlt, hrr⟩
  · rintro q s' ⟨rfl, rfl, i, hr, hi, hpre⟩
    have hin : i = es.size := by
      rcases Nat.lt_or_ge i es.size with h | h
      · rw [show es.size - i = (es.size - (i + 1)) + 1 by omega, List.range'_succ] at hr; exact nomatch hr
      · exact Nat.le_antisymm hi h
    refine wpAny_pure ?_
    rw [hin, ← hla, List.drop_length] at hpre
    cases (hpre.i : r = true)
    exact hq
theorem dict_eq {a b : Addr} {ka kb : List (Str × Value)} {r : Bool} (ha : (a == sysModules) = false) (hb : (b == sysModules) = false)
    (da : s.heap.DictOf (strKind c.prog c.w) a ka) (db : s.heap.DictOf (strKind c.prog c.w) b kb) (hu : A.units < cLine) (hl : ka.length = kb.length) (hits : Hits c A.in1 s kb ka r) (hq : Q (.bool r) s) :
    wpAny (model c.prog c.w) A (richCompare .Eq (.ref a) (.ref b)) Q E s := by
  refine wpAny_richCompare_same_room (op := .Eq) da.typeIs db.typeIs PySem.F.slot_dict_eq (wpAny_call_entry PySem.F.slot_dict_eq da.typeIs PySem.F.entry_dict_eq ?_ (PySem.F.args_dict_eq_2 _ _)) hu
  show wpAny _ _ (Builtin.Dict.dictSlotArgs "__eq__" ⟨[.ref a, .ref b], []⟩ >>= _) _ _ s
  refine wpAny_bind ?_
  unfold Builtin.Dict.dictSlotArgs
  refine wpAny_bind (wpAny_notOrdered_dict da.typeIs ?_)
  show wpAny _ _ (pure (Value.ref a, Value.ref b)) _ _ s
  refine wpAny_pure ?_
  refine wpAny_bind (wpAny_isInstance (T := "dict") db.typeIs PySem.F.sub_dict_dict ?_)
  simp only [Bool.not_true, Bool.false_eq_true, if_false]
  refine wpAny_bind (wpAny_pure (wpAny_bind (wpAny_pure ?_)))
  refine wpAny_bind (same_pairs ha hb da db hl hits ?_)
  exact wpAny_pure ⟨_, rfl, (fun x => nomatch x), by cases r <;> exact hq⟩
theorem dict_ne {a b : Addr} {ka kb : List (Str × Value)} {r : Bool} (ha : (a == sysModules) = false) (hb : (b == sysModules) = false)
    (da : s.heap.DictOf (strKind c.prog c.w) a ka) (db : s.heap.DictOf (strKind c.prog c.w) b kb) (hu : A.units < cLine) (hl : ka.length = kb.length) (hits : Hits c A.in1 s kb ka r) (hq : Q (.bool (!r)) s) :
    wpAny (model c.prog c.w) A (compareOp .NotEq (.ref a) (.ref b)) Q E s := by
  refine wpAny_richCompare_same_room (op := .NotEq) da.typeIs db.typeIs PySem.F.slot_dict_ne (wpAny_call_entry PySem.F.slot_dict_ne da.typeIs PySem.F.entry_dict_ne ?_ (PySem.F.args_dict_ne_2 _ _)) hu
  show wpAny _ _ (Builtin.Dict.dictSlotArgs "__ne__" ⟨[.ref a, .ref b], []⟩ >>= _) _ _ s
  refine wpAny_bind ?_
  unfold Builtin.Dict.dictSlotArgs
  refine wpAny_bind (wpAny_notOrdered_dict da.typeIs ?_)
  show wpAny _ _ (pure (Value.ref a, Value.ref b)) _ _ s
  refine wpAny_pure ?_
  refine wpAny_bind (wpAny_isInstance (T := "dict") db.typeIs PySem.F.sub_dict_dict ?_)
  simp only [Bool.not_true, Bool.false_eq_true, if_false]
  refine wpAny_bind (wpAny_pure (wpAny_bind (wpAny_pure ?_)))
  refine wpAny_bind (same_pairs ha hb da db hl hits ?_)
  exact wpAny_pure ⟨_, rfl, (fun x => nomatch x), by cases r <;> exact hq⟩
theorem eqf_fun {a b : D} {t : Bool} {h : Heap} (q : Eqf a b t) (ra : Rd c z h v a) (rb : Rd c z h v b) : t = true := by
  cases q with
  | none => rfl
  | bool => have e := (ra.i : v = _).symm.trans (rb.i : v = _); cases e; exact beq_self_eq_true _
  | int => obtain ⟨_, rfl⟩ := ra.i; obtain ⟨_, e⟩ := rb.i; cases e; exact beq_self_eq_true _
  | str => obtain ⟨_, rfl⟩ := ra.i; obtain ⟨_, e⟩ := rb.i; cases e; exact beq_self_eq_true _
theorem RdT.same_dict {h : Heap} {a : Addr} {kvs kvs' : List (Str × Value)} (p : h.DictOf (strKind c.prog c.w) a kvs) (q : h.DictOf (strKind c.prog c.w) a kvs') : kvs = kvs' := by
  obtain ⟨o, es, ep, h1, _, h2, _, h3, _⟩ := p
  obtain ⟨o', es', ep', h1', _, h2', _, h3', _⟩ := q
  rw [h1] at h1'; cases h1'
  rw [h2] at h2'; cases h2'
  have : ∀ {es : List DictEntry} {k k' : List (Str × Value)}, Pairs (strKind c.prog c.w) es k → Pairs (strKind c.prog c.w) es k' → k = k' := by
    intro es k k' x
    induction x generalizing k' with
    | nil => intro y; cases y; rfl
    | cons x1 x2 _ ih =>
      intro y
      cases y with
      | cons y1 y2 y3 =>
        rw [ih y3]
        congr 1
        exact Prod.ext ((strKind c.prog c.w).inj _ _ _ x1 y1) (x2.symm.trans y2)
  exact this h3 h3'
theorem value_mem : ∀ {kb : List (Str × Value)} {k : Str} {v : Value}, (kb.map (·.1)).Nodup → (k, v) ∈ kb → valueAt kb k = some v
  | p :: ps, k, v, nd, hm => by
    rw [List.map_cons, List.nodup_cons] at nd
    unfold valueAt
    rw [List.find?_cons]
    by_cases e : p.1 = k
    · simp only [e, decide_true, Option.map_some]
      rcases List.mem_cons.mp hm with h | h
      · rw [← h]
      · exact absurd (List.mem_map.mpr ⟨(k, v), h, e.symm⟩) nd.1
    · simp only [e, decide_false]
      rcases List.mem_cons.mp hm with h | h
      · exact absurd (by rw [← h]) e
      · exact value_mem nd.2 h
theorem DictOf.nd {h : Heap} {a : Addr} {kvs : List (Str × Value)} (p : h.DictOf (strKind c.prog c.w) a kvs) : (kvs.map (·.1)).Nodup := by
  obtain ⟨_, _, _, _, _, _, _, _, n⟩ := p; exact n
theorem eqd_fun {h : Heap} {la lb : List (Str × D)} {t : Bool} (q : Eqd Eqf lb la t) {kb : List (Str × Value)} (rb : RdsD c z h kb lb) (nd : (kb.map (·.1)).Nodup) : ∀ {ka : List (Str × Value)}, RdsD c z h ka la → (∀ p ∈ ka, p ∈ kb) → t = true := by
  induction q with
  | nil => intro _ _ _; rfl
  | miss e =>
    intro ka r sub
    obtain ⟨v, vs, rfl, _, _⟩ := r.i
    have hv := value_mem nd (sub _ List.mem_cons_self)
    rw [rb.look.1 e] at hv; cases hv
  | hit e ha _ ih =>
    intro ka r sub
    obtain ⟨v, vs, rfl, r, rs⟩ := r.i
    obtain ⟨u, eu, ru⟩ := rb.look.2 _ e
    cases (Option.some.inj ((value_mem nd (sub _ List.mem_cons_self)).symm.trans eu) : v = u)
    rw [eqf_fun ha r ru, ih rs fun p hp => sub p (List.mem_cons_of_mem _ hp)]; rfl
theorem eqw_refs {l b : Addr} {t : Bool} (hne : l ≠ b) (h : ∀ (E : Value → Shared → Prop) (Q : Value → Shared → Prop), Q (.bool t) s → wpAny (model c.prog c.w) A (richCompare .Eq (.ref l) (.ref b)) Q E s) : EqW c A s (.ref l) (.ref b) t := fun E Q q => by
  unfold eqBool
  refine wpAny_holding ?_
  refine wpAny_ite_split (fun hab => absurd (by have := eq_of_beq hab; injection this) hne) (fun _ => ?_)
  exact wpAny_bind (h E _ (wpAny_truthy_bool q))
theorem eq1_w {a b : D} {t : Bool} (h : Eq1 a b t) (ra : Rd c z s.heap v a) (rb : Rd c z s.heap w b) (hu : A.units + 1 < cLine) : EqW c A s v w t := by
  cases h with
  | low h => exact EqW.of (eqf_at h (.inl ra) (.inl rb))
  | dict hl h =>
    obtain ⟨x, ka, rfl, _, nx, p, r⟩ := ra.i; obtain ⟨y, kb, rfl, _, ny, q, r'⟩ := rb.i
    by_cases e : x = y
    · subst e
      cases RdT.same_dict p q
      rw [eqd_fun h r' (DictOf.nd p) r fun p hp => hp]
      exact EqW.of (SeqAt.EqAt.same _)
    · exact eqw_refs e fun E Q hq => dict_eq nx ny p q (Nat.lt_of_succ_lt hu) (r.len.trans (hl.trans r'.len.symm)) (hits_of r' (fun x y t v w h1 h2 h3 => EqW.of (eqf_at h1 (.inl h2) (.inl h3))) h r) hq
noncomputable def strEq (a : Str) : Value → Bool
  | .str x _ => x == a
  | _ => false
theorem strs_at {h : Heap} {l : List Str} : ∀ {vs : List Value}, Rds c z h vs (strsL l) → ∃ ps : List (Str × Tok), vs = strValues ps ∧ ps.map (·.1) = l := by
  induction l with
  | nil => intro vs r; cases (r.i : vs = []); exact ⟨[], rfl, rfl⟩
  | cons x l ih =>
    intro vs r
    obtain ⟨v, vs, rfl, r, rs⟩ := r.i
    obtain ⟨t, rfl⟩ := r.i
    obtain ⟨ps, rfl, h2⟩ := ih rs
    exact ⟨(x, t) :: ps, rfl, congrArg (x :: ·) h2⟩
theorem any_strs (a : Str) : ∀ ps : List (Str × Tok), (strValues ps).any (strEq a) = (ps.map (·.1)).contains a
  | [] => rfl
  | p :: ps => by
    rw [List.map_cons, List.contains_cons, ← any_strs a ps, BEq.comm]; rfl
theorem str_hit (a : Str) (t : Tok) {ps : List (Str × Tok)} {y : Value} (hy : y ∈ strValues ps) : SeqAt.EqAt A s y (.str a t) (strEq a y) := by
  obtain ⟨p, _, rfl⟩ := List.mem_map.mp hy
  exact SeqAt.EqAt.str_str _ _ _ _
theorem cmp_ok (R : Rep c F z mu loc ls s) {op : CmpOp} {a b : D} {t : Bool} (h : Cmp op a b t) (ra : RdT c z s.heap v a) (rb : RdT c z s.heap w b) (hu : A.units + 10 < cLine)
    (hq : ∀ k, Q (.bool t) { s with toks := k }) : wpAny (model c.prog c.w) A (compareOp op v w) Q E s := by
  have hq0 : Q (.bool t) s := hq s.toks
  have hu1 : A.units + 1 + 1 < cLine := Nat.lt_of_le_of_lt (by rw [Nat.add_assoc]; exact Nat.add_le_add_left (by decide) _) hu
  have hu0 : A.units < cLine := Nat.lt_of_succ_lt (Nat.lt_of_succ_lt hu1)
  cases h with
  | lt => obtain ⟨_, rfl⟩ := ra.i; obtain ⟨_, rfl⟩ := rb.i; exact lt_int hq0
  | gt => obtain ⟨_, rfl⟩ := ra.i; obtain ⟨_, rfl⟩ := rb.i; exact gt_int hq0
  | eq h =>
    cases h with
    | low h => exact (rcl_at h ra rb hu0).1 _ _ _ _ hq0
    | dict hl h =>
      obtain ⟨x, ka, rfl, nx, p, r⟩ := ra.i; obtain ⟨y, kb, rfl, ny, q, r'⟩ := rb.i
      exact dict_eq nx ny p q hu0 (r.len.trans (hl.trans r'.len.symm)) (hits_of r' (fun x y t v w h1 h2 h3 => eq1_w h1 h2 h3 hu1) h r) hq0
  | ne h =>
    cases h with
    | low h => exact (rcl_at h ra rb hu0).2 _ _ _ _ hq0
    | dict hl h =>
      obtain ⟨x, ka, rfl, nx, p, r⟩ := ra.i; obtain ⟨y, kb, rfl, ny, q, r'⟩ := rb.i
      exact dict_ne nx ny p q hu0 (r.len.trans (hl.trans r'.len.symm)) (hits_of r' (fun x y t v w h1 h2 h3 => eq1_w h1 h2 h3 hu1) h r) hq0
  | inS n b =>
    obtain ⟨_, rfl⟩ := ra.i; obtain ⟨_, rfl⟩ := rb.i
    refine PySem.P.in_str ?_
    rw [StrLaws.found_one]
    exact hq0
  | inD =>
    obtain ⟨_, rfl⟩ := ra.i; obtain ⟨y, kb, rfl, ny, q, r'⟩ := rb.i
    exact wpAny_in_of (strKind_is _ _ _ _) ny q.mapOf (by rw [r'.isSome]; exact hq _)
  | inL =>
    obtain ⟨_, rfl⟩ := ra.i; obtain ⟨y, ws, rfl, q, r'⟩ := rb.i
    obtain ⟨ps, rfl, rfl⟩ := strs_at r'
    exact SeqAt.in_listAt _ q.isList (fun y hy => str_hit _ _ (by simpa using hy)) (by rw [List.any_toArray, any_strs]; exact hq0)
  | notInL =>
    obtain ⟨_, rfl⟩ := ra.i; obtain ⟨y, ws, rfl, q, r'⟩ := rb.i
    obtain ⟨ps, rfl, rfl⟩ := strs_at r'
    exact SeqAt.notIn_listAt _ q.isList (fun y hy => str_hit _ _ (by simpa using hy)) (by rw [List.any_toArray, any_strs]; exact hq0)
end
section
variable {c : Cx} {F : FC} {A : Around} {z mu : Addr → Prop} {loc : Loc} {ls : LS} {s : Shared} {Q : Value → Shared → Prop} {E : Value → Shared → Prop} {v w : Value}
theorem nz_nat (n : Nat) : ((n : Int) != 0) = (n != 0) := by cases n <;> rfl
theorem truth_ok {Q : Bool → Shared → Prop} {d : D} {t : Bool} (h : Truth d t) (r : RdT c z s.heap v d) (hq : ∀ k, Q t { s with toks := k }) : wpAny (model c.prog c.w) A (truthy v) Q E s := by
  cases h with
  | bool => rw [(r.i : v = _)]; exact wpAny_truthy_bool (hq s.toks)
  | int => obtain ⟨_, rfl⟩ := r.i; exact PySem.P.truthy_int (hq s.toks)
  | str x hf =>
    obtain ⟨_, rfl⟩ := r.i
    exact PySem.P.truthy_str (by omega) ((nz_nat x.length).symm ▸ hq _)
  | list l hf =>
    obtain ⟨a, vs, rfl, p, rs⟩ := r.i
    refine wpAny_truthy_list p.isList (by rw [List.size_toArray, rs.len]; omega) ?_
    have e : (!vs.toArray.isEmpty) = !l.isEmpty := by
      rw [List.isEmpty_toArray]
      cases l with
      | nil => cases (rs.i : vs = []); rfl
      | cons => obtain ⟨_, _, rfl, _⟩ := rs.i; rfl
    rw [e]
    exact hq _
theorem sub_ok {d k r : D} (h : Sub d k r) (rd : RdT c z s.heap v d) (rk : RdT c z s.heap w k) (hq : ∀ u n, Rd c z s.heap u r → Q u { s with toks := n }) :
    ∃ T id, typeLookup (.type T) "__getitem__" = pure (some (.builtin id)) ∧ s.TypeIs v T ∧ wpAny (model c.prog c.w) A (getItem v w) Q E s := by
  cases h with
  | list h0 h1 h =>
    obtain ⟨a, vs, rfl, p, rs⟩ := rd.i; obtain ⟨_, rfl⟩ := rk.i
    obtain ⟨u, hu, ru⟩ := rs.get _ h
    exact ⟨"list", _, slot_list_getitem.lookup, p.isList.typeIs, wpAny_getItem_list p.isList h0 (by omega) (by simpa using hu) (hq u s.toks ru)⟩
  | tup hf hj h =>
    obtain ⟨a, vs, rfl, _, ⟨n, e⟩, rs⟩ := rd.i; obtain ⟨_, rfl⟩ := rk.i
    obtain ⟨u, hu, ru⟩ := rs.get _ h
    exact ⟨"tuple", _, slot_tuple_getitem.lookup, ⟨_, e, rfl⟩, getItem_tuple ⟨_, e, rfl, n, rfl⟩ (by have := hf.1; omega) (by have := hf.2; omega) (by rw [List.size_toArray, rs.len]; exact hj) (by simpa using hu) (hq u s.toks ru)⟩
  | str hf hj hn =>
    obtain ⟨_, rfl⟩ := rd.i; obtain ⟨_, rfl⟩ := rk.i
    exact ⟨"str", _, slot_str_getitem.lookup, typeIs_str _ _ _, PySem.P.getItem_str (by have := hf.1; have := hf.2; simp; omega) (Option.bind_eq_some_iff.mpr ⟨_, hj, hn⟩) (hq _ _ (.str _ _))⟩
  | dict h =>
    obtain ⟨a, kvs, rfl, n, p, rs⟩ := rd.i; obtain ⟨_, rfl⟩ := rk.i
    obtain ⟨u, hu, ru⟩ := rs.look.2 _ h
    exact ⟨"dict", _, slot_dict_getitem.lookup, p.typeIs, wpAny_getItem_of (strKind_is _ _ _ _) p.mapOf hu (hq u _ ru)⟩
structure Itr (c : Cx) (A : Around) (z : Addr → Prop) (s : Shared) (b : Bool) (d : D) (items : List D) (I : Addr) (fp : List Addr) (P : Nat → Value → Prop) (St : Nat → Heap → Prop) : Prop where
  w : Walks c.prog c.w A I fp [I] items.length P St
  al : ∀ i h, St i h → Al h I
  ff : ∀ a ∈ fp, a = I ∨ (Al s.heap a ∧ ¬ lexmu c.X a)
  fz : b = true → ∀ a ∈ fp, a = I ∨ z a
  it : ∀ i u, i < items.length → P i u → ∃ e, items[i]? = some e ∧ Rd c z s.heap u e
  li : isList d = true → ∀ i h, St i h → ∃ o, h.get? I = some o ∧ o.cls = .type "list_iterator"
  nl : ∀ i h, St i h → ∃ o, h.get? I = some o ∧ o.cls ≠ .type "list" ∧ o.cls ≠ .type "dict"
  n : items.length ≤ 1000000
theorem Rds.get' {h : Heap} {vs : List Value} {ds : List D} (r : Rds c z h vs ds) {i : Nat} {u : Value} (e : vs[i]? = some u) : ∃ d, ds[i]? = some d ∧ Rd c z h u d := by
  have hi : i < ds.length := by rw [← r.len]; exact (List.getElem?_eq_some_iff.mp e).1
  have he : ds[i]? = some ds[i] := List.getElem?_eq_getElem hi
  obtain ⟨u', h1, h2⟩ := r.get i he
  cases (Option.some.inj (e.symm.trans h1) : u = u')
  exact ⟨_, he, h2⟩
theorem RdsD.vals {h : Heap} {l : List (Str × D)} : ∀ {kvs : List (Str × Value)}, RdsD c z h kvs l → Rds c z h (kvs.map (·.2)) (l.map (·.2)) := by
  induction l with
  | nil => intro kvs r; cases (r.i : kvs = []); exact .nil
  | cons p l ih => intro kvs r; obtain ⟨v, vs, rfl, r, rs⟩ := r.i; exact .cons r (ih rs)
theorem RdsD.keys {h : Heap} {l : List (Str × D)} : ∀ {kvs : List (Str × Value)}, RdsD c z h kvs l → kvs.map (·.1) = l.map (·.1) := by
  induction l with
  | nil => intro kvs r; cases (r.i : kvs = []); rfl
  | cons p l ih => intro kvs r; obtain ⟨v, vs, rfl, r, rs⟩ := r.i; exact congrArg (p.1 :: ·) (ih rs)
theorem fp2 {I a : Addr} {P : Addr → Prop} (h : P a) : ∀ x ∈ [I, a], x = I ∨ P x := fun x hx => (List.mem_cons.mp hx).imp id fun h' => by rw [List.mem_singleton.mp h']; exact h
theorem cls_of {h : Heap} {I : Addr} {t : String} (hI : ∃ o, h.get? I = some o ∧ o.cls = .type t) (ht : (Value.type t ≠ .type "list") ∧ (Value.type t ≠ .type "dict")) : ∃ o, h.get? I = some o ∧ o.cls ≠ .type "list" ∧ o.cls ≠ .type "dict" :=
  let ⟨o, e, e'⟩ := hI; ⟨o, e, by rw [e']; exact ht⟩
theorem itr_over {b : Bool} {d : D} {a : Addr} {items : List D} {P : Nat → Value → Prop} {St : Nat → Heap → Prop} {t : String} (hn1 : items.length ≤ 1000000) (w : Walks c.prog c.w A s.heap.objs.size [s.heap.objs.size, a] [s.heap.objs.size] items.length P St) (cl : ∀ i h, St i h → ∃ o, h.get? s.heap.objs.size = some o ∧ o.cls = .type t)
    (ht : (Value.type t ≠ .type "list") ∧ (Value.type t ≠ .type "dict")) (hd : isList d = true → t = "list_iterator") (al : Al s.heap a) (hn : ¬ lexmu c.X a) (hz : b = true → z a) (it : ∀ i u, i < items.length → P i u → ∃ e, items[i]? = some e ∧ Rd c z s.heap u e) : Itr c A z s b d items s.heap.objs.size [s.heap.objs.size, a] P St :=
  ⟨w, fun i h st => let ⟨o, e, _⟩ := cl i h st; ⟨o, e⟩, fp2 ⟨al, hn⟩, fun hb => fp2 (hz hb), it, fun hl i h st => let ⟨o, e, e'⟩ := cl i h st; ⟨o, e, by rw [e', hd hl]⟩, fun i h st => cls_of (cl i h st) ht, hn1⟩
theorem itr_self {b : Bool} {d : D} (hd : isList d = false) {I : Addr} {l : List D} (hf : l.length ≤ 1000000) {P : Nat → Value → Prop} {St : Nat → Heap → Prop} {t : String} (W : Walks c.prog c.w A I [I] [I] l.length P St) (cl : ∀ i h, St i h → ∃ o, h.get? I = some o ∧ o.cls = .type t) (ht : (Value.type t ≠ .type "list") ∧ (Value.type t ≠ .type "dict"))
    (it : ∀ i u, i < l.length → P i u → ∃ e, l[i]? = some e ∧ Rd c z s.heap u e) : Itr c A z s b d l I [I] P St :=
  ⟨W, fun i h st => let ⟨o, e, _⟩ := cl i h st; ⟨o, e⟩, fun x hx => .inl (List.mem_singleton.mp hx), fun _ x hx => .inl (List.mem_singleton.mp hx), it, (fun hl => by rw [hd] at hl; exact nomatch hl), fun i h st => cls_of (cl i h st) ht, hf⟩
theorem RdB.top {b : Bool} {d : D} (r : RdB c b z s.heap v d) (hzl : ∀ a, z a → ¬ lexmu c.X a) (hd : (∃ l, d = .list l) ∨ ∃ l, d = .dict l) : ∃ a, v = .ref a ∧ FreshR c z s.heap a d ∧ ¬ lexmu c.X a ∧ (b = true → z a) := by
  have key : Rd c z s.heap v d → ∃ a, v = .ref a ∧ FreshR c z s.heap a d ∧ ¬ lexmu c.X a ∧ z a := fun r => by
    rcases hd with ⟨l, rfl⟩ | ⟨l, rfl⟩
    · obtain ⟨a, vs, rfl, za, p, rs⟩ := r.i; exact ⟨a, rfl, .list p rs, hzl _ za, za⟩
    · obtain ⟨a, vs, rfl, za, m, p, rs⟩ := r.i; exact ⟨a, rfl, .dict m p rs, hzl _ za, za⟩
  cases b with
  | true => exact let ⟨a, e, f, n, za⟩ := key r; ⟨a, e, f, n, fun _ => za⟩
  | false => exact r.elim (fun r => let ⟨a, e, f, n, za⟩ := key r; ⟨a, e, f, n, fun _ => za⟩) fun ⟨a, e, n, f⟩ => ⟨a, e, f, n, fun x => nomatch x⟩
theorem range_it {b : Bool} {d : D} (hh : A.handled = none) (hd : isList d = false) {items : List D} {i k : Int} {n : Nat} {j : Int} {a : Addr} {t u y : Tok} (e : s.heap.get? a = some { cls := .type "range", data := .fields #[.int i t, .int j u, .int k y] }) (hn : n ≤ 1000000) (hr : Builtin.Range.rangeSize i j k = (n : Int)) (hs : Builtin.Range.small i j k = true) (hi : items = (List.range n).map (fun (x : Nat) => D.int (i + (x : Int) * k)))
    (hq : ∀ o fp P St, o.isFreed = false → Itr c A z s b d items s.heap.objs.size fp P St → St 0 (s.heap.push o) → Q (.ref s.heap.objs.size) { s with heap := s.heap.push o }) : wpAny (model c.prog c.w) A (pyIter (.ref a)) Q E s := by
  refine wpAny_pyIter_range e hs ?_
  rw [hr]
  have hl : items.length = n := by rw [hi]; simp
  refine hq _ _ (fun x v => ∃ t, v = .int (i + x * k) t) (fun x h => IsRangeIter h s.heap.objs.size (i + (x : Nat) * k) ((n : Int) - (x : Nat)) k) rfl (itr_self (t := "range_iterator") hd (hl.symm ▸ hn) (by rw [hl]; exact Walks.range hh _ i k n) (fun x h e => ⟨_, e, rfl⟩) (by decide) ?_) ?_
  · rintro x u hx ⟨t, rfl⟩
    rw [hl] at hx
    exact ⟨.int (i + x * k), by rw [hi, List.getElem?_map, List.getElem?_range hx]; rfl, .int _ _⟩
  · have := Heap.get?_push_size s.heap (o := { cls := .type "range_iterator", data := .fields #[rawInt i, rawInt n, rawInt k] }) rfl
    simpa using this
theorem itr_ok (hh : A.handled = none) {b : Bool} {d : D} {items : List D} (h : Iter d items) (r : RdB c b z s.heap v d) (hzl : ∀ a, z a → ¬ lexmu c.X a)
    (hq : ∀ o fp P St, o.isFreed = false → Itr c A z s b d items s.heap.objs.size fp P St → St 0 (s.heap.push o) → Q (.ref s.heap.objs.size) { s with heap := s.heap.push o }) :
    wpAny (model c.prog c.w) A (pyIter v) Q E s := by
  cases h with
  | list hf =>
    obtain ⟨a, rfl, f, hn, hz⟩ := r.top hzl (.inl ⟨_, rfl⟩)
    obtain ⟨vs, p, rs⟩ := f.i
    have hl := rs.len
    obtain ⟨n, e⟩ := id p
    exact wpAny_pyIter_list p.isList (hq _ _ _ (fun i h => h.IsListIter s.heap.objs.size a i ∧ h.IsList a vs.toArray) rfl (itr_over (t := "list_iterator") hf (by rw [← hl]; exact Walks.list (prog := c.prog) (w := c.w) hh s.heap.objs.size a (Nat.ne_of_lt (Heap.lt_size e)) vs.toArray) (fun i h st => let ⟨⟨o, e, e', _⟩, _⟩ := st; ⟨o, e, e'⟩) (by decide) (fun _ => rfl) ⟨_, e⟩ hn hz fun i u _ hu => rs.get' (by simpa using hu)) ⟨⟨_, Heap.get?_push_size _ rfl, rfl, rfl⟩, p.isList.push _⟩)
  | tup hf =>
    obtain ⟨a, vs, rfl, za, p, rs⟩ : ∃ a vs, v = .ref a ∧ z a ∧ PlainTup s.heap a (List.toArray vs) ∧ Rds c z s.heap vs items := r.t.i
    have hl := rs.len
    obtain ⟨n, e⟩ := id p
    exact wpAny_pyIter_tuple p.isTuple (hq _ _ _ (fun i h => h.IsTupleIter s.heap.objs.size a i ∧ h.IsTuple a vs.toArray) rfl (itr_over (t := "tuple_iterator") hf (by rw [← hl]; exact Walks.tuple (prog := c.prog) (w := c.w) hh s.heap.objs.size a (Nat.ne_of_lt (Heap.lt_size e)) vs.toArray) (fun i h st => let ⟨⟨o, e, e', _⟩, _⟩ := st; ⟨o, e, e'⟩) (by decide) (fun h => nomatch h) ⟨_, e⟩ (hzl _ za) (fun _ => za) fun i u _ hu => rs.get' (by simpa using hu)) ⟨⟨_, Heap.get?_push_size _ rfl, rfl, rfl⟩, ⟨_, Heap.get?_push_of_some _ e, rfl, n, rfl⟩⟩)
  | @str x hf =>
    obtain ⟨t, rfl⟩ := r.t.i
    have hsz : (x.cps.toList.map chr1).length = x.cps.size := by rw [List.length_map, Array.length_toList]
    have hl : (x.cps.toList.map chr1).length ≤ 1000000 := hsz.symm ▸ hf
    have it : ∀ i u, i < (x.cps.toList.map chr1).length → SignAt x i u → ∃ e, (x.cps.toList.map chr1)[i]? = some e ∧ Rd c z s.heap u e := by
      rintro i u _ ⟨n, k, h1, rfl⟩
      exact ⟨chr1 n, by rw [List.getElem?_map, Array.getElem?_toList, h1]; rfl, .str _ _⟩
    cases ha : x.cps.all (· < 128) with
    | true =>
      exact wpAny_pyIter_ascii ha (hq _ _ (SignAt x) (fun i h => h.IsStrIter s.heap.objs.size "str_ascii_iterator" x t i) rfl (itr_self rfl hl (hsz.symm ▸ Walks.strAscii hh _ x t) (fun i h ⟨o, e, e', _⟩ => ⟨o, e, e'⟩) (by decide) it) ⟨_, Heap.get?_push_size _ rfl, rfl, rfl⟩)
    | false =>
      exact wpAny_pyIter_wide ha (hq _ _ (SignAt x) (fun i h => h.IsStrIter s.heap.objs.size "str_iterator" x t i) rfl (itr_self rfl hl (hsz.symm ▸ Walks.strWide hh _ x t) (fun i h ⟨o, e, e', _⟩ => ⟨o, e, e'⟩) (by decide) it) ⟨_, Heap.get?_push_size _ rfl, rfl, rfl⟩)
  | @dict l hf =>
    obtain ⟨a, rfl, f, hn, hz⟩ := r.top hzl (.inr ⟨_, rfl⟩)
    obtain ⟨m, kvs, p, rs⟩ := f.i
    obtain ⟨ep, p⟩ := p.dictAt
    obtain ⟨o, es, e, r⟩ := id p
    have hl := rs.len
    refine wpAny_pyIter_dict m p (hq _ _ _ (fun i h => h.IsKeyIter s.heap.objs.size a i kvs.length ep ∧ h.DictAt (strKind c.prog c.w) a kvs ep) rfl (itr_over (t := "dict_keyiterator") (by rw [List.length_map]; exact hf) (by rw [List.length_map, ← hl]; exact Walks.dictKeys (A := A) (knd := strKind c.prog c.w) hh s.heap.objs.size a (Nat.ne_of_lt (Heap.lt_size e)) kvs ep) (fun i h st => let ⟨⟨o, e, e', _⟩, _⟩ := st; ⟨o, e, e'⟩) (by decide) (fun h => nomatch h) ⟨_, e⟩ hn hz ?_) ⟨⟨_, Heap.get?_push_size _ rfl, rfl, rfl⟩, ⟨o, es, Heap.get?_push_of_some _ e, r⟩⟩)
    rintro i u _ ⟨k, x, h1, h2⟩
    obtain ⟨t, rfl⟩ := Value.isStrOf_shape h2
    refine ⟨.str k, ?_, .str _ _⟩
    have := congrArg (fun l : List Str => (l[i]?).map D.str) rs.keys
    simp only [List.getElem?_map, h1, Option.map_some] at this
    rw [List.getElem?_map, this, Option.map_map]; rfl
  | @up a' b' ha hb hn =>
    obtain ⟨a, t, u, y, rfl, e⟩ := r.t.i
    refine range_it hh rfl e hn ?_ ?_ rfl hq
    · unfold Builtin.Range.rangeSize
      simp
      split <;> omega
    · have hr : Builtin.Range.rangeSize a' b' 1 = (((b' - a').toNat : Nat) : Int) := by
        unfold Builtin.Range.rangeSize
        simp
        split <;> omega
      unfold Builtin.Range.small Builtin.Range.rangeFitsLong
      rw [hr]
      have := ha.1; have := ha.2; have := hb.1; have := hb.2
      simp; omega
  | @down a' b' ha hb hn =>
    obtain ⟨a, t, u, y, rfl, e⟩ := r.t.i
    have hr : Builtin.Range.rangeSize a' b' (-1) = (((a' - b').toNat : Nat) : Int) := by
      unfold Builtin.Range.rangeSize
      simp
      split <;> omega
    refine range_it hh rfl e hn hr ?_ rfl hq
    unfold Builtin.Range.small Builtin.Range.rangeFitsLong
    rw [hr]
    have := ha.1; have := ha.2; have := hb.1; have := hb.2
    simp; omega
  | @vals l hf =>
    obtain ⟨x, a, kvs, rfl, za, e0, p, rs⟩ := r.t.i
    obtain ⟨ep, p⟩ := p.dictAt
    obtain ⟨o, es, e, r⟩ := id p
    have hl := rs.len
    exact wpAny_pyIter_values ⟨_, e0, rfl, rfl⟩ p (hq _ _ (fun i v => ∃ k, kvs[i]? = some (k, v)) (fun i h => h.IsValIter s.heap.objs.size a i kvs.length ep ∧ h.DictAt (strKind c.prog c.w) a kvs ep) rfl (itr_over (t := "dict_valueiterator") (by rw [List.length_map]; exact hf) (by rw [List.length_map, ← hl]; exact Walks.dictValues (A := A) (knd := strKind c.prog c.w) hh s.heap.objs.size a (Nat.ne_of_lt (Heap.lt_size e)) kvs ep) (fun i h st => let ⟨⟨o, e, e', _⟩, _⟩ := st; ⟨o, e, e'⟩) (by decide) (fun h => nomatch h) ⟨_, e⟩ (hzl _ za) (fun _ => za) fun i u _ hu => let ⟨k, h1⟩ := hu; rs.vals.get' (by rw [List.getElem?_map, h1]; rfl)) ⟨⟨_, Heap.get?_push_size _ rfl, rfl, rfl⟩, ⟨o, es, Heap.get?_push_of_some _ e, r⟩⟩)
end
inductive Evs (c : Cx) (n : Nat) (sc : Scope) (loc : Loc) : LS → List Expr → List (D × Bool) → LS → Prop
  | nil {ls} : Evs c n sc loc ls [] [] ls
  | cons {ls ls1 ls2 e r d b ds} : isStarred e = false → Ev c n sc loc ls e d b ls1 → Evs c n sc loc ls1 r ds ls2 → Evs c n sc loc ls (e :: r) ((d, b) :: ds) ls2
inductive RdBs (c : Cx) (z : Addr → Prop) (h : Heap) : List Value → List (D × Bool) → Prop
  | nil : RdBs c z h [] []
  | cons {v vs d ds} : RdB c d.2 z h v d.1 → RdBs c z h vs ds → RdBs c z h (v :: vs) (d :: ds)
noncomputable def RdBsI (c : Cx) (z : Addr → Prop) (h : Heap) (vs : List Value) : List (D × Bool) → Prop
  | [] => vs = []
  | d :: ds => ∃ v vs', vs = v :: vs' ∧ RdB c d.2 z h v d.1 ∧ RdBs c z h vs' ds
section
variable {c : Cx} {F : FC} {A : Around} {z mu z' : Addr → Prop} {loc : Loc} {ls : LS} {s s' : Shared} {Q : Value → Shared → Prop} {E : Value → Shared → Prop} {v w : Value}
theorem RdBs.i {h : Heap} {vs : List Value} {ds : List (D × Bool)} (r : RdBs c z h vs ds) : RdBsI c z h vs ds := by
  cases r with
  | nil => rfl
  | cons r rs => exact ⟨_, _, rfl, r, rs⟩
theorem RdBs.len {h : Heap} {vs : List Value} {ds : List (D × Bool)} (r : RdBs c z h vs ds) : vs.length = ds.length := by
  induction r with
  | nil => rfl
  | cons _ _ ih => exact congrArg Nat.succ ih
noncomputable def fz (l : List D) : List (D × Bool) := l.map (·, true)
theorem RdBs.fz {h : Heap} {ds : List D} : ∀ {vs : List Value}, RdBs c z h vs (fz ds) → Rds c z h vs ds := by
  induction ds with
  | nil => intro vs r; cases (r.i : vs = []); exact .nil
  | cons d ds ih => intro vs r; obtain ⟨v, vs, rfl, r, rs⟩ := r.i; exact .cons r (ih rs)
theorem starEach_cons {e : Expr} (h : isStarred e = false) (r : List Expr) (env : Env) : starEach (e :: r) env = (false, eval e env) :: starEach r env := by
  cases e <;> first | rfl | exact nomatch h
theorem evs_ok (H : Hy c) {n : Nat} (hr : Room A n) {sc : Scope} (hs : ScOK F sc) (pos : Pos) {args : List Expr} {ds : List (D × Bool)} {ls' : LS} (h : Evs c n sc loc ls args ds ls') :
    ∀ (z mu : Addr → Prop) (s : Shared) (Q : List Value → Shared → Prop) (E : Value → Shared → Prop), Rep c F z mu loc ls s →
        (∀ z' vs s', StpE c z s z' s' → LexOK c ls' s'.heap → RdBs c z' s'.heap vs ds → Q vs s') → wpAny (model c.prog c.w) A (spliced (backTo pos (starEach args F.env))) Q E s := by
  induction h with
  | nil => intro z mu s Q E R hq; exact Calls.spliced_nil (hq z [] s (StpE.refl R) R.lx .nil)
  | cons hst he _ ih =>
    intro z mu s Q E R hq
    rw [starEach_cons hst]
    exact Calls.spliced_cons (he.go F A hr hs z mu s _ E R fun z1 v s1 S1 L1 r1 =>
      have R1 := R.stpE H S1 L1
      ih z1 mu s1 _ E R1 fun z2 vs s2 S2 L2 r2 => hq z2 _ s2 (S1.trans S2) L2 (.cons (r1.step S2 R1.zl) r2))
theorem backTo_plain (pos : Pos) : ∀ (args : List Expr) (env : Env), args.any isStarred = false → ((backTo pos (starEach args env)).any (·.1)) = false
  | [], _, _ => rfl
  | e :: r, env, h => by
    simp only [List.any_cons, Bool.or_eq_false_iff] at h
    rw [starEach_cons h.1]
    show (false || (backTo pos (starEach r env)).any (·.1)) = false
    rw [backTo_plain pos r env h.2]; rfl
theorem Evs.plain {n : Nat} {sc : Scope} {args : List Expr} {ds : List (D × Bool)} {ls' : LS} (h : Evs c n sc loc ls args ds ls') : args.any isStarred = false := by
  induction h with
  | nil => rfl
  | cons hst _ _ ih => rw [List.any_cons, hst, ih]; rfl
theorem call_with {f : Value} {first : List Value} {pos : Pos} {args : List Expr} {P : Heap → Prop} (hp : args.any isStarred = false)
    (hk : ∀ h, P h → ∃ k, (k = Keeper.frame ∨ k = Keeper.machine ∨ k = Keeper.boundFrame) ∧ Looks (model c.prog c.w) h (keeperOf f) k)
    (h : wpAny (model c.prog c.w) A (spliced (backTo pos (starEach args F.env))) (fun vs s₁ => P s₁.heap ∧ wpAny (model c.prog c.w) A (call f (first ++ vs)) Q E s₁) E s) :
    wpAny (model c.prog c.w) A (callWith pos f first (backTo pos (starEach args F.env)) []) Q E s := by
  refine callWith_of (by rw [backTo_plain pos args F.env hp]; rfl) hk ?_
  cases args with
  | nil =>
    exact fun Γ p hΓ => h Γ p hΓ
  | cons e r =>
    simp only [List.any_cons, Bool.or_eq_false_iff] at hp
    rw [starEach_cons hp.1] at h ⊢
    exact Calls.evalArgs_plain h
theorem load_glob (H : Hy c) (R : Rep c F z mu loc ls s) {sc : Scope} (hs : ScOK F sc) {f : Str} {v : Value} (hf : sc.names.lookup f = some .globalImplicit) (hv : c.mg f = some v ∨ (c.mg f = none ∧ c.mb f = some v)) (hq : Q v s) :
    wpAny (model c.prog c.w) A (loadName F.env f) Q E s := by
  unfold loadName
  simp only [Env.blockKind, hs.fk, hs.gl f hf, ScopeKind.isAnnotationScope, Bool.false_and, Bool.false_eq_true, if_false]
  unfold loadGlobal
  rw [hs.ge, hs.be]
  refine wpAny_bind (wpAny_nsGet (H.mg _ R.kin) ?_)
  rcases hv with h | ⟨h1, h2⟩
  · rw [h]; exact wpAny_pure hq
  · rw [h1]
    refine wpAny_bind (wpAny_nsGet (H.mb _ R.kin) ?_)
    rw [h2]; exact wpAny_pure hq
theorem push_frozen (H : Hy c) (R : Rep c F z mu loc ls s) {o : Obj} {tk : Nat} {d : D} (ho : o.isFreed = false) (r : ∀ z' h', (∀ a, z a → z' a) → (∀ a o, z a → s.heap.get? a = some o → h'.get? a = some o) → z' s.heap.objs.size → h'.get? s.heap.objs.size = some o → Rd c z' h' (.ref s.heap.objs.size) d)
    (hq : ∀ z' r s', StpE c z s z' s' → LexOK c ls s'.heap → Rd c z' s'.heap r d → Q r s') : Q (.ref s.heap.objs.size) { s with heap := s.heap.push o, toks := tk } :=
  have S : StpE c z s (fun a => z a ∨ a = s.heap.objs.size) { s with heap := s.heap.push o, toks := tk } := StpE.push R ho
  hq _ _ _ S (R.lx.keep H fun b o e => Heap.get?_push_of_some _ e) (r _ _ S.zz (fun a o za e => S.kp a o e (R.zl a za)) (.inr rfl) (Heap.get?_push_size _ ho))
inductive Blt : Str → List (D × Bool) → D → Prop
  | lenL {b : Bool} (l : List D) : l.length ≤ 1000000 → Blt "len" [(.list l, b)] (.int l.length)
  | lenT {b : Bool} (l : List D) : l.length ≤ 1000000 → Blt "len" [(.tup l, b)] (.int l.length)
  | lenS {b : Bool} (x : Str) : x.length ≤ 1000000 → Blt "len" [(.str x, b)] (.int x.length)
  | range1 {b : Bool} (j : Int) : Blt "range" [(.int j, b)] (.range 0 j 1)
  | range2 {b b' : Bool} (i j : Int) : Blt "range" [(.int i, b), (.int j, b')] (.range i j 1)
  | range3 {b b' b'' : Bool} (i j : Int) : Blt "range" [(.int i, b), (.int j, b'), (.int (-1), b'')] (.range i j (-1))
  | sum {b : Bool} (l : List Int) : l.length ≤ 1000000 → Blt "sum" [(.list (l.map .int), b)] (.int l.sum)
  | tuple {b : Bool} (l : List D) : l.length ≤ 1000000 → Blt "tuple" [(.list l, b)] (.tup l)
noncomputable def bval (n : Str) : Option Value :=
  if n = "len" then some (.builtin "len") else if n = "range" then some (.type "range") else if n = "sum" then some (.builtin "sum") else if n = "tuple" then some (.type "tuple") else none
theorem one_arg {h : Heap} {d : D} {b : Bool} {vs : List Value} (r : RdBs c z h vs [(d, b)]) : ∃ v, vs = [v] ∧ RdT c z h v d := by
  obtain ⟨v, vs', rfl, q, rs⟩ := r.i
  cases (rs.i : vs' = [])
  exact ⟨v, rfl, q.t⟩
theorem two_args {h : Heap} {d d' : D} {b b' : Bool} {vs : List Value} (r : RdBs c z h vs [(d, b), (d', b')]) : ∃ v w, vs = [v, w] ∧ RdT c z h v d ∧ RdT c z h w d' := by
  obtain ⟨v, vs', rfl, q, rs⟩ := r.i
  obtain ⟨w, rfl, q'⟩ := one_arg rs
  exact ⟨v, w, rfl, q.t, q'⟩
def CallB (c : Cx) (A : Around) (z : Addr → Prop) (s : Shared) (ls : LS) (f : Value) (as : List (D × Bool)) (d : D) : Prop := ∀ (vs : List Value) (Q : Value → Shared → Prop) (E : Value → Shared → Prop), RdBs c z s.heap vs as → (∀ z' r s', StpE c z s z' s' → LexOK c ls s'.heap → Rd c z' s'.heap r d → Q r s') → wpAny (model c.prog c.w) A (call f vs) Q E s
theorem sum_ok (R : Rep c F z mu loc ls s) (H : Hy c) (hh : A.handled = none) {l : List Int} (hl : l.length ≤ 1000000) {vs : List Value} {x : Addr} (p : s.heap.PlainList x vs.toArray) (rs : Rds c z s.heap vs (l.map .int)) (hq : ∀ z' r s', StpE c z s z' s' → LexOK c ls s'.heap → Rd c z' s'.heap r (.int l.sum) → Q r s') : wpAny (model c.prog c.w) A (call (.builtin "sum") [.ref x]) Q E s := by
  obtain ⟨k, pe⟩ := id p
  have hlen : vs.length = l.length := by rw [rs.len, List.length_map]
  refine call_sum_walkAnyS (wpAny_pyIter_list p.isList ⟨s.heap.objs.size, [s.heap.objs.size, x], [s.heap.objs.size], _, vs.toArray.size, _, _, fun i => l.getD i 0, rfl,
    (Walks.list (prog := c.prog) (w := c.w) (A := A.in1) hh s.heap.objs.size x (Nat.ne_of_lt (Heap.lt_size pe)) vs.toArray).toS, ⟨⟨_, Heap.get?_push_size _ rfl, rfl, rfl⟩, p.isList.push _⟩, fun b hb => ?_, fun i u hu => ?_, fun s' t' M => ?_⟩)
  · rw [Heap.size_push]
    rcases List.mem_cons.mp hb with e | e
    · rw [e]; exact Nat.lt_succ_self _
    · rw [List.mem_singleton.mp e]; exact Nat.lt_succ_of_lt (Heap.lt_size pe)
  · obtain ⟨dd, h1, h2⟩ := rs.get' (by simpa using hu)
    rw [List.getElem?_map, Option.map_eq_some_iff] at h1
    obtain ⟨y, h3, rfl⟩ := h1
    obtain ⟨t, rfl⟩ := h2.i
    exact ⟨t, congrArg (Value.int · t) (by show y = l.getD i 0; rw [List.getD_eq_getElem?_getD, h3]; rfl)⟩
  · rw [PyProof.Rows.preSum_getD, List.size_toArray, hlen, List.take_length]
    have hk : ∀ b o, s.heap.get? b = some o → s'.heap.get? b = some o := fun b o e => M.heap b o (by simpa using Nat.ne_of_lt (Heap.lt_size e)) (Heap.get?_push_of_some _ e)
    exact hq z _ _ ⟨fun a ⟨o, e⟩ => ⟨o, hk a o e⟩, fun _ h => h, fun _ _ h => h, fun a za => let ⟨o, e⟩ := R.zal a za; ⟨o, hk a o e⟩, R.zl, fun b o e _ => hk b o e, M.gens, M.os, M.drawn⟩ (R.lx.keep H hk) (.int _ _)
theorem built_ok (H : Hy c) (R : Rep c F z mu loc ls s) (hh : A.handled = none) {n : Str} {as : List (D × Bool)} {d : D} {f : Value} (hf : bval n = some f) (h : Blt n as d) : CallB c A z s ls f as d := by
  intro vs Q E r hq
  have tk : ∀ r (k : Nat), (∀ z h, Rd c z h r d) → Q r { s with toks := k } := fun r k hr => hq z r _ (StpE.toks R k) R.lx (hr _ _)
  have rng : ∀ (i j k : Int) (t u y : Tok) (tk : Nat), d = .range i j k → Q (.ref s.heap.objs.size) { s with heap := s.heap.push { cls := .type "range", data := .fields #[.int i t, .int j u, .int k y] }, toks := tk } := by
    rintro i j k t u y tk rfl
    exact push_frozen H R rfl (fun z' h' _ _ hz he => .range hz he) hq
  cases h with
  | lenL l hl =>
    obtain ⟨v, rfl, q⟩ := one_arg r
    cases hf
    obtain ⟨x, vs, rfl, p, rs⟩ := q.i
    refine PyProof.Rows.len_list p.isList (by rw [List.size_toArray, rs.len]; omega) ?_
    rw [List.size_toArray, rs.len]
    exact tk _ _ fun _ _ => .int _ _
  | lenT l hl =>
    obtain ⟨v, rfl, q⟩ := one_arg r
    cases hf
    obtain ⟨x, vs, rfl, _, p, rs⟩ := q.i
    refine PyProof.Rows.len_tuple p.isTuple (by rw [List.size_toArray, rs.len]; omega) ?_
    rw [List.size_toArray, rs.len]
    exact tk _ _ fun _ _ => .int _ _
  | lenS x hl =>
    obtain ⟨v, rfl, q⟩ := one_arg r
    cases hf
    obtain ⟨t, rfl⟩ := q.i
    exact SBL.len (by omega) (tk _ _ fun _ _ => .int _ _)
  | range1 =>
    obtain ⟨v, rfl, q⟩ := one_arg r
    cases hf
    obtain ⟨t, rfl⟩ := q.i
    exact call_range_1 (rng _ _ _ _ _ _ _ rfl)
  | range2 =>
    obtain ⟨v, w, rfl, q, q'⟩ := two_args r
    cases hf
    obtain ⟨t, rfl⟩ := q.i; obtain ⟨u, rfl⟩ := q'.i
    exact call_range_2 (rng _ _ _ _ _ _ _ rfl)
  | range3 =>
    cases hf
    obtain ⟨v, vs', rfl, q, rs⟩ := r.i
    obtain ⟨w, u, rfl, r1, r2⟩ := two_args rs
    obtain ⟨t, rfl⟩ := q.t.i; obtain ⟨u, rfl⟩ := r1.i; obtain ⟨u', rfl⟩ := r2.i
    exact call_range_3 (by decide) (rng _ _ _ _ _ _ _ rfl) (.inl (PyProof.noPylong_small (by decide)))
  | sum l hl =>
    obtain ⟨v, rfl, q⟩ := one_arg r
    cases hf
    obtain ⟨x, vs, rfl, p, rs⟩ := q.i
    exact sum_ok R H hh hl p rs hq
  | tuple l hl =>
    obtain ⟨v, rfl, q⟩ := one_arg r
    cases hf
    obtain ⟨x, vs, rfl, p, rs⟩ := q.i
    refine call_tuple_list p.isList (fun h' hk => ?_) (by rw [List.size_toArray, rs.len]; exact million hl)
    have S : StpE c z s (fun a => z a ∨ a = h'.objs.size) { s with heap := h'.push { cls := .type "tuple", data := .seq vs.toArray } } :=
      StpE.keep (tk := s.toks) R (fun b o e => Heap.get?_push_of_some _ (hk b o e)) (fun a => a = h'.objs.size) fun a ea => by
        subst ea
        refine ⟨?_, ⟨_, Heap.get?_push_size _ rfl⟩⟩
        cases e : s.heap.get? h'.objs.size with
        | none => rfl
        | some o => exact absurd (Heap.lt_size (hk _ _ e)) (Nat.lt_irrefl _)
    exact hq _ _ _ S (R.lx.keep H fun b o e => Heap.get?_push_of_some _ (hk b o e)) (.tup (.inr rfl) ⟨0, Heap.get?_push_size _ rfl⟩ (rs.step S R.zl))
end
def BaseOK (o : Expr) : Prop := ∀ name env, attributeBase o name env (eval o env) = eval o env
theorem base_name {x : Str} {p : Pos} : BaseOK (.Name x p) := fun _ _ => rfl
theorem base_const {x : Const} {k : Nat} {p : Pos} : BaseOK (.Constant x k p) := fun _ _ => rfl
inductive Meth : D → Bool → Str → List (D × Bool) → D → Prop
  | join {b b' : Bool} (x : Str) (xs : List Str) : JoinOk x xs → Meth (.str x) b "join" [(.list (strsL xs), b')] (.str (Txt.join x xs))
  | count {b b' : Bool} (x a : Str) : Meth (.str x) b "count" [(.str a, b')] (.int (Txt.count x a))
  | index {b b' : Bool} (x a : Str) {i : Nat} {r : List Nat} : Builtin.Str.occurrences x a 0 x.length 1 = i :: r → Meth (.str x) b "index" [(.str a, b')] (.int i)
  | lcount {b b' : Bool} (l : List Str) (a : Str) : Meth (.list (strsL l)) b "count" [(.str a, b')] (.int (l.count a))
  | get {b b' : Bool} (l : List (Str × D)) (k : Str) (x : D) : Meth (.dict l) b "get" [(.str k, b'), (x, true)] ((lookD k l).getD x)
  | items (l : List (Str × D)) : Meth (.dict l) true "items" [] (.items l)
  | values (l : List (Str × D)) : Meth (.dict l) true "values" [] (.vals l)
def Recv (h : Shared) (v : Value) (T : String) : Prop := h.TypeIs v T ∧ ∀ a, v = .ref a → ∃ ob, h.heap.get? a = some ob ∧ ob.dict = none
def MSlot (T : String) (n : Str) (id : String) : Prop := PlainAttrs T ∧ PySem.Slot T n id ∧ typeOf (.builtin id) = pure (.type "method_descriptor")
section
variable {c : Cx} {F : FC} {A : Around} {z mu z' : Addr → Prop} {loc : Loc} {ls : LS} {s s' : Shared} {Q : Value → Shared → Prop} {E : Value → Shared → Prop} {v w : Value}
theorem countP_strs (a : Str) (ps : List (Str × Tok)) (e : Value → Bool) (he : ∀ p ∈ ps, e (.str p.1 p.2) = (p.1 == a)) : (strValues ps).countP e = (ps.map (·.1)).count a := by
  induction ps with
  | nil => rfl
  | cons p ps ih =>
    rw [List.map_cons, List.count_cons, ← ih fun q hq => he q (List.mem_cons_of_mem _ hq)]
    show List.countP e (Value.str p.1 p.2 :: strValues ps) = _
    rw [List.countP_cons, he p List.mem_cons_self]
theorem recv_str {x : Str} (r : RdT c z s.heap v (.str x)) : Recv s v "str" := by obtain ⟨t, rfl⟩ := r.i; exact ⟨typeIs_str _ _ _, fun a e => nomatch e⟩
theorem recv_list {l : List D} (r : RdT c z s.heap v (.list l)) : Recv s v "list" := by obtain ⟨a, vs, rfl, ⟨k, p⟩, _⟩ := r.i; exact ⟨⟨_, p, rfl⟩, fun a e => by cases e; exact ⟨_, p, rfl⟩⟩
theorem recv_dict {l : List (Str × D)} (r : RdT c z s.heap v (.dict l)) : Recv s v "dict" := by obtain ⟨a, kvs, rfl, _, p, _⟩ := r.i; exact ⟨p.typeIs, p.mapOf.noDict⟩
def MethOK (c : Cx) (d : D) (b : Bool) (n : Str) (as : List (D × Bool)) (x : D) : Prop := ∃ T id, MSlot T n id ∧ (∀ z s v, RdB c b z s.heap v d → Recv s v T) ∧
  ∀ (F : FC) (A : Around) (z mu : Addr → Prop) (loc : Loc) (ls : LS) (s : Shared) (v : Value) (vs : List Value) (Q E : Value → Shared → Prop), Rep c F z mu loc ls s → RdB c b z s.heap v d → RdBs c z s.heap vs as →
    (∀ z' r s', StpE c z s z' s' → LexOK c ls s'.heap → Rd c z' s'.heap r x → Q r s') → wpAny (model c.prog c.w) A (call (.builtin id) (v :: vs)) Q E s
theorem meth_ok (H : Hy c) {d : D} {b : Bool} {n : Str} {as : List (D × Bool)} {x : D} (h : Meth d b n as x) : MethOK c d b n as x := by
  have tk : ∀ {F : FC} {z mu : Addr → Prop} {loc : Loc} {ls : LS} {s : Shared} {Q : Value → Shared → Prop} {x : D}, Rep c F z mu loc ls s → (∀ z' r s', StpE c z s z' s' → LexOK c ls s'.heap → Rd c z' s'.heap r x → Q r s') → ∀ r (k : Nat), (∀ z h, Rd c z h r x) → Q r { s with toks := k } := fun R hq r k hr => hq _ r _ (StpE.toks R k) R.lx (hr _ _)
  cases h with
  | join x xs hj =>
    refine ⟨_, _, ⟨PySem.F.plainAttrs_str, PySem.F.slot_str_join, PySem.F.type_str_join⟩, fun _ _ _ r => recv_str r.t, fun F A z mu loc ls s v vs Q E R r rs hq => ?_⟩
    obtain ⟨t, rfl⟩ := r.t.i; obtain ⟨w, rfl, q⟩ := one_arg rs
    obtain ⟨a, us, rfl, p, ru⟩ := q.i
    obtain ⟨ps, rfl, hp⟩ := strs_at ru
    exact SC.join p.isList hp hj fun t' k => tk R hq _ _ fun _ _ => .str _ _
  | count =>
    refine ⟨_, _, ⟨PySem.F.plainAttrs_str, PySem.F.slot_str_count, PySem.F.type_str_count⟩, fun _ _ _ r => recv_str r.t, fun F A z mu loc ls s v vs Q E R r rs hq => ?_⟩
    obtain ⟨t, rfl⟩ := r.t.i; obtain ⟨w, rfl, q⟩ := one_arg rs
    obtain ⟨u, rfl⟩ := q.i
    exact SC.count (tk R hq _ _ fun _ _ => .int _ _)
  | index _ _ ho =>
    refine ⟨_, _, ⟨PySem.F.plainAttrs_str, PySem.F.slot_str_index, PySem.F.type_str_index⟩, fun _ _ _ r => recv_str r.t, fun F A z mu loc ls s v vs Q E R r rs hq => ?_⟩
    obtain ⟨t, rfl⟩ := r.t.i; obtain ⟨w, rfl, q⟩ := one_arg rs
    obtain ⟨u, rfl⟩ := q.i
    exact SC.index ho (tk R hq _ _ fun _ _ => .int _ _)
  | lcount l a =>
    refine ⟨_, _, ⟨PySem.F.plainAttrs_list, PySem.F.slot_list_count, PySem.F.type_list_count⟩, fun _ _ _ r => recv_list r.t, fun F A z mu loc ls s v vs Q E R r rs hq => ?_⟩
    obtain ⟨y, us, rfl, ⟨k, p⟩, ru⟩ := r.t.i; obtain ⟨w, rfl, q⟩ := one_arg rs
    obtain ⟨u, rfl⟩ := q.i
    obtain ⟨ps, rfl, rfl⟩ := strs_at ru
    refine call_meets PySem.F.slot_list_count ⟨_, p, rfl⟩ PySem.F.entry_list_count (PySem.F.args_list_count_2 _ _) (SeqAt.list_countAt y _ k none #[] (.str a u) (strEq a)) ⟨p, fun q hq' => str_hit _ _ (by simpa using hq'), ?_⟩
    rw [show List.countP (strEq a) (strValues ps).toArray.toList = List.count a (ps.map (·.1)) from countP_strs a ps _ fun _ _ => rfl]
    exact tk R hq _ _ fun _ _ => .int _ _
  | get l k dx =>
    refine ⟨_, _, ⟨PySem.F.plainAttrs_dict, PySem.F.slot_dict_get, PySem.F.type_dict_get⟩, fun _ _ _ r => recv_dict r.t, fun F A z mu loc ls s v vs Q E R r rs hq => ?_⟩
    obtain ⟨a, kvs, rfl, m, p, rd⟩ := r.t.i
    obtain ⟨v1, vs', rfl, r1, rs⟩ := rs.i
    obtain ⟨v2, vs', rfl, r2, rs⟩ := rs.i
    cases (rs.i : vs' = [])
    obtain ⟨u, rfl⟩ := r1.t.i
    obtain ⟨o, es, ep, ho, hx⟩ := id p
    refine kdg_get2 (h₀ := {}) (L := a + 1) (news := [(a, o)]) (fun q hq' => ?_) List.mem_cons_self ⟨es, ep, hx⟩ m (strKind_is c.prog c.w k u) _ rfl (hq z _ _ (StpE.toks R _) R.lx ?_)
    · cases List.mem_singleton.mp hq'
      exact ⟨ho, Nat.ne_of_lt (Nat.lt_succ_self _), rfl⟩
    · have hl := rd.look (k := k)
      cases e : lookD k l with
      | none => rw [hl.1 e]; exact r2
      | some y =>
        obtain ⟨u', eu, ru⟩ := hl.2 y e
        rw [eu]; exact ru
  | items l =>
    refine ⟨_, _, ⟨PySem.F.plainAttrs_dict, PySem.F.slot_dict_items, PySem.F.type_dict_items⟩, fun _ _ _ r => recv_dict r.t, fun F A z mu loc ls s v vs Q E R r rs hq => ?_⟩
    cases (rs.i : vs = [])
    obtain ⟨a, kvs, rfl, za, m, p, rd⟩ := Rd.i r
    exact call_meetsIn PySem.F.slot_dict_items p.typeIs PySem.F.entry_dict_items (PySem.F.args_dict_items_1 _) (meets_dict_items (strKind c.prog c.w) _ m) ⟨⟨_, p⟩,
      push_frozen (tk := s.toks) H R rfl (fun z' h' hz hk h1 h2 => .items h1 (hz _ za) m h2 (dictOf_at p fun o e => hk _ _ za e) (rd.mono hz hk)) hq⟩
  | values l =>
    refine ⟨_, _, ⟨PySem.F.plainAttrs_dict, PySem.F.slot_dict_values, PySem.F.type_dict_values⟩, fun _ _ _ r => recv_dict r.t, fun F A z mu loc ls s v vs Q E R r rs hq => ?_⟩
    cases (rs.i : vs = [])
    obtain ⟨a, kvs, rfl, za, m, p, rd⟩ := Rd.i r
    exact call_meetsIn PySem.F.slot_dict_values p.typeIs PySem.F.entry_dict_values (PySem.F.args_dict_values_1 _) (meets_dict_values (strKind c.prog c.w) _ m) ⟨⟨_, p⟩,
      push_frozen (tk := s.toks) H R rfl (fun z' h' hz hk h1 h2 => .vals h1 (hz _ za) m h2 (dictOf_at p fun o e => hk _ _ za e) (rd.mono hz hk)) hq⟩
theorem call_method {M : Model} {env : Env} {o : Expr} {name : Str} {apos pos : Pos} {args : List Expr} (hb : BaseOK o) (hp : args.any isStarred = false) (hn : args.length < 20) (hline : (apos.endLine == pos.line) = true)
    (h : wpAny M A (eval o env) (fun ov s₁ => ∀ pl, wpAny M A (getMethod ov name pl) (fun fx s₂ => wpAny M A (callWith pos fx.1 fx.2 (backTo pos (starEach args env)) []) Q E s₂) E s₁) E s) :
    wpAny M A (eval (.Call (.Attribute o name apos) args [] pos) env) Q E s := by
  rw [arm_eval_Call, hb name env]
  refine wpAny_bind (wpAny_mono h (fun ov s₁ h₁ => ?_) fun _ _ e => e)
  refine wpAny_bind (wpAny_standAt ?_)
  have hall : (backTo pos (starEach args env)).all (fun x => !x.1) = true := by
    have := backTo_plain pos args env hp
    rw [List.any_eq_false] at this
    rw [List.all_eq_true]
    intro x hx
    have := this x hx
    simpa using this
  have hfew : ((backTo pos (starEach args env)).all (fun x => !x.1) && (backToKw pos (keywordEach [] env)).all (fun x => x.1.isSome)
      && decide (args.length + ([] : List Keyword).length + (if ([] : List Keyword).isEmpty then 0 else 1) < 30)) = true := by
    rw [hall]
    exact decide_eq_true (show args.length + 0 + 0 < 30 by omega)
  have hform : methodCallForm (args.length + ([] : List Keyword).length) (backTo pos (starEach args env)) (backToKw pos (keywordEach [] env)) = true := hfew
  have hpos : methodCallPos true o env apos pos = pure pos := by unfold methodCallPos; simp [hline]
  unfold methodCall
  rw [hform]
  refine wpAny_bind (wpAny_holding (wpAny_mono (h₁ _) (fun fx s₂ h₂ => ?_) fun _ _ e => e))
  exact wpAny_bind (wpAny_of_eq hpos h₂)
theorem keep_non {M : Model} {f : Value} (hf : ∀ a, f ≠ .ref a) (h : Heap) : ∃ k, (k = Keeper.frame ∨ k = Keeper.machine ∨ k = Keeper.boundFrame) ∧ Looks M h (keeperOf f) k := by
  refine ⟨.machine, .inr (.inl rfl), ?_⟩
  unfold keeperOf
  split
  · rename_i a; exact absurd rfl (hf a)
  · exact Looks.now
theorem name_glob (H : Hy c) (R : Rep c F z mu loc ls s) {sc : Scope} (hs : ScOK F sc) {f : Str} {p : Pos} {v : Value} (hg : isGlob sc loc f = true) (hv : c.mg f = some v ∨ (c.mg f = none ∧ c.mb f = some v)) (hq : Q v s) : wpAny (model c.prog c.w) A (eval (.Name f p) F.env) Q E s := by
  unfold isGlob at hg
  simp only [Bool.and_eq_true, decide_eq_true_eq, Bool.not_eq_true'] at hg
  exact wpAny_Name (load_glob H R hs hg.1.1 hv hq) hg.2
end
def BltG (c : Cx) (f : Str) : Prop := ∃ v, bval f = some v ∧ (∀ a, v ≠ .ref a) ∧ c.mg f = none ∧ c.mb f = some v
section
variable {c : Cx} {n : Nat} {sc : Scope} {loc : Loc} {ls ls1 ls2 : LS} {d x : D} {b : Bool} {as : List (D × Bool)} {args : List Expr} {p pos ap : Pos} {o : Expr} {f nm : Str}
theorem Ev.blt (H : Hy c) (hb : BltG c f) (hg : isGlob sc loc f = true) (ha : Evs c n sc loc ls args as ls1) (h : Blt f as d) : Ev c n sc loc ls (.Call (.Name f p) args [] pos) d true ls1 := by
  refine .of ?_
  intro F A hr hs z mu s Q E R hq
  obtain ⟨v, h1, h2, h3, h4⟩ := hb
  exact wpAny_Call_NameR (name_glob H R hs hg (.inr ⟨h3, h4⟩) (call_with (P := fun _ => True) ha.plain (fun h _ => keep_non h2 h) (evs_ok H hr hs pos ha z mu s _ _ R fun z1 vs s1 S1 L1 r1 =>
    ⟨trivial, built_ok H (R.stpE H S1 L1) hr.h h1 h vs _ _ r1 fun z2 r s2 S2 L2 rd => hq z2 r s2 (S1.trans S2) L2 rd⟩)))
theorem Ev.meth (H : Hy c) (hb : BaseOK o) (hl : (ap.endLine == pos.line) = true) (hn : args.length < 20) (ho : Ev c n sc loc ls o d b ls1) (ha : Evs c n sc loc ls1 args as ls2) (h : Meth d b nm as x) : Ev c n sc loc ls (.Call (.Attribute o nm ap) args [] pos) x true ls2 := by
  refine .of ?_
  intro F A hr hs z mu s Q E R hq
  obtain ⟨T, id, ⟨pa, slot, hty⟩, hv, hc⟩ := meth_ok H h
  refine call_method hb ha.plain hn hl (ho.go F A hr hs z mu s _ _ R fun z1 ov s1 S1 L1 r1 pl => ?_)
  have R1 := R.stpE H S1 L1
  obtain ⟨hT, hd⟩ := hv _ _ _ r1
  exact getMethod_builtin hT pa slot hty hd (call_with (P := fun _ => True) ha.plain (fun h _ => keep_non (f := .builtin id) (fun a e => nomatch e) h) (evs_ok H hr hs pos ha z1 mu s1 _ _ R1 fun z2 vs s2 S2 L2 r2 =>
    ⟨trivial, hc F A z2 mu loc ls2 s2 ov vs Q E (R1.stpE H S2 L2) (r1.step S2 R1.zl) r2 fun z3 r s3 S3 L3 rd => hq z3 r s3 ((S1.trans S2).trans S3) L3 rd⟩))
end
structure StpC (z M : Addr → Prop) (s : Shared) (z' : Addr → Prop) (s' : Shared) : Prop where
  al : ∀ a, Al s.heap a → Al s'.heap a
  zz : ∀ a, z a → z' a
  zn : ∀ a, Al s.heap a → z' a → z a
  kp : ∀ b o, s.heap.get? b = some o → ¬ M b → s'.heap.get? b = some o
  ge : s'.gens = s.gens
  os : s'.os = s.os
  dr : s'.drawn = s.drawn
theorem StpC.refl (z M : Addr → Prop) (s : Shared) : StpC z M s z s := ⟨fun _ h => h, fun _ h => h, fun _ _ h => h, fun _ _ e _ => e, rfl, rfl, rfl⟩
theorem StpC.trans {z z1 z2 M : Addr → Prop} {s s1 s2 : Shared} (x : StpC z M s z1 s1) (y : StpC z1 M s1 z2 s2) : StpC z M s z2 s2 :=
  ⟨fun a h => y.al a (x.al a h), fun a h => y.zz a (x.zz a h), fun a h k => x.zn a h (y.zn a (x.al a h) k), fun b o e n => y.kp b o (x.kp b o e n) n, y.ge.trans x.ge, y.os.trans x.os, y.dr.trans x.dr⟩
theorem StpC.le {z M M' z' : Addr → Prop} {s s' : Shared} (x : StpC z M s z' s') (h : ∀ a, Al s.heap a → M a → M' a) : StpC z M' s z' s' :=
  ⟨x.al, x.zz, x.zn, fun b o e n => x.kp b o e fun m => n (h b ⟨o, e⟩ m), x.ge, x.os, x.dr⟩
theorem StpE.c {c : Cx} {z z' : Addr → Prop} {s s' : Shared} (x : StpE c z s z' s') : StpC z (lexmu c.X) s z' s' := ⟨x.al, x.zz, x.zn, x.kp, x.ge, x.os, x.dr⟩
theorem StpC.stp {z z' mu : Addr → Prop} {s s' : Shared} (x : StpC z mu s z' s') : Stp z mu s z' mu s' := ⟨x.al, x.zz, fun a h k => .inl (x.zn a h k), fun _ _ m => m, x.kp, x.ge, x.os, x.dr⟩
theorem al_but {h h' : Heap} {r : Addr} (hs : Heap.SameBut r h h') (hr : Al h' r) {a : Addr} (x : Al h a) : Al h' a := by
  by_cases e : a = r
  · rw [e]; exact hr
  · exact let ⟨o, e'⟩ := x; ⟨o, hs.extBut a o e e'⟩
structure Off (c : Cx) (F : FC) (mu : Addr → Prop) (I : Addr) : Prop where
  nm : ¬ mu I
  nk : c.K.lookup I = none
  nx : ¬ lexall c.X I
  nc : ∀ y b, F.env.cells.lookup y = some b → b ≠ I
structure AccAt (c : Cx) (F : FC) (mu : Addr → Prop) (O : Addr) : Prop where
  m : mu O
  l : O ≠ F.env.locals
  x : ¬ lexall c.X O
  c : ∀ y b, F.env.cells.lookup y = some b → b ≠ O
def FM (F : FC) (mu : Addr → Prop) : Addr → Prop := fun a => mu a ∧ (a = F.env.locals ∨ ∃ y, F.env.cells.lookup y = some a)
section
variable {c : Cx} {F : FC} {A : Around} {z mu z' : Addr → Prop} {loc loc' : Loc} {ls ls' : LS} {s s' s1 : Shared} {E : Value → Shared → Prop} {v w : Value} {O : Addr} {d d' : D}
theorem LexOK.but (H : Hy c) {h h' : Heap} {r : Addr} (hr : ¬ lexall c.X r) (hk : ∀ b o, b ≠ r → h.get? b = some o → h'.get? b = some o) (l : LexOK c ls h) : LexOK c ls h' := l.move H fun x b o _ hb e => hk b o (fun q => hr (q ▸ hb)) e
theorem StpC.but {r : Addr} (hr : mu r) {h' : Heap} {tk : Nat} (hs : Heap.SameBut r s.heap h') (hra : Al h' r) : StpC z mu s z { s with heap := h', toks := tk } :=
  ⟨fun a x => al_but hs hra x, fun _ h => h, fun _ _ h => h, fun b o e n => hs.extBut b o (fun e' => n (e' ▸ hr)) e, rfl, rfl, rfl⟩
theorem StpE.same (R : Rep c F z mu loc ls s) {h' : Heap} {tk : Nat} (hk : ∀ b o, s.heap.get? b = some o → h'.get? b = some o) : StpE c z s z { s with heap := h', toks := tk } :=
  ⟨fun a ⟨o, e⟩ => ⟨o, hk a o e⟩, fun _ h => h, fun _ _ h => h, fun a za => let ⟨o, e⟩ := R.zal a za; ⟨o, hk a o e⟩, R.zl, fun b o e _ => hk b o e, rfl, rfl, rfl⟩
theorem StpC.same {M : Addr → Prop} {h' : Heap} {tk : Nat} (hk : ∀ b o, s.heap.get? b = some o → h'.get? b = some o) : StpC z M s z { s with heap := h', toks := tk } :=
  ⟨fun a ⟨o, e⟩ => ⟨o, hk a o e⟩, fun _ h => h, fun _ _ h => h, fun b o e _ => hk b o e, rfl, rfl, rfl⟩
theorem StpC.fm (x : StpC z (FM F mu) s z' s') : StpC z mu s z' s' := x.le fun _ _ h => h.1
theorem extBut_size {h h' : Heap} (x : Heap.ExtBut h.objs.size h h') : ∀ b o, h.get? b = some o → h'.get? b = some o := fun b o e => x b o (Nat.ne_of_lt (Heap.lt_size e)) e
theorem StpE.stpC (R : Rep c F z mu loc ls s) (S : StpE c z s z' s') : StpC z mu s z' s' := S.c.le fun a _ h => R.lmu a h
theorem alive_ne {h : Heap} {a I : Addr} (x : Al h a) (hI : h.get? I = none) : a ≠ I := by
  rintro rfl
  obtain ⟨o, e⟩ := x
  rw [hI] at e; cases e
theorem lv_own {lv : LV} (h : lv.k = .own) : lv = ⟨.own, lv.d⟩ := by obtain ⟨k, d⟩ := lv; exact congrArg (LV.mk · d) h
theorem Off.fresh (H : Hy c) (R : Rep c F z mu loc ls s) {I : Addr} (hI : s.heap.get? I = none) : Off c F mu I ∧ ¬ z I :=
  ⟨⟨fun m => alive_ne (R.mal I m) hI rfl, by
    cases e : c.K.lookup I with
    | none => rfl
    | some o => exact absurd rfl (alive_ne ⟨o, R.kin I o e⟩ hI), fun l => alive_ne (lexall_al H R I l) hI rfl, fun y b l => alive_ne (R.cl y b l).2.2.2 hI⟩, fun za => alive_ne (R.zal I za) hI rfl⟩
theorem Rep.at1 (H : Hy c) (R : Rep c F z mu loc ls s) {I : Addr} (nl : F.env.locals ≠ I) (nk : c.K.lookup I = none ∨ mu I) (nx : ¬ lexall c.X I) (nc : ∀ y b, F.env.cells.lookup y = some b → b ≠ I) (hz : ¬ z I) {h' : Heap} {tk : Nat}
    (hb : ∀ x lv a d, loc.lookup x = some lv → Slot F.env s.heap x (.ref a) → FreshR c z s.heap a d → ¬ mu a → a ≠ I) (ho : ∀ x d a, loc.lookup x = some ⟨.own, d⟩ → Slot F.env s.heap x (.ref a) → (∃ d, FreshR c z s.heap a d) → a ≠ I) (hk : ∀ b o, b ≠ I → s.heap.get? b = some o → h'.get? b = some o) (hal : mu I → Al h' I) : Rep c F z mu loc ls { s with heap := h', toks := tk } :=
  have al : ∀ a, a ≠ I → Al s.heap a → Al h' a := fun a n ⟨o, e⟩ => ⟨o, hk a o n e⟩
  R.move (fun a o k e => hk a o (fun q => nk.elim (fun n => by rw [q, n] at k; cases k) fun m => R.kz a o k (q ▸ m)) e) (fun a o k _ => R.kz a o k) R.zmu R.lmu (fun a za => al a (fun q => hz (q ▸ za)) (R.zal a za)) (fun a m => by
      by_cases q : a = I
      · rw [q]; exact hal (q ▸ m)
      · exact al a q (R.mal a m)) (R.lx.but H nx hk) R.fmu (fun o e => hk _ o nl e) (fun y a o l e => hk a o (nc y a l) e) (fun _ _ _ n => n) (fun _ _ _ m => m)
    (same_vars fun x lv v e hs r => r.map (fun _ h => h) (fun a o za e => hk a o (fun q => hz (q ▸ za)) e) (fun a d ev f n k => ⟨n, fun o e' => hk a o (hb x lv a d e (ev ▸ hs) f n) e'⟩) (fun a d ev f m _ k => ⟨m, fun o e' => hk a o (ho x lv.d a (e.trans (congrArg some (lv_own k))) (ev ▸ hs) ⟨d, f⟩) e'⟩))
theorem FreshR.ne {h : Heap} {a I : Addr} (f : FreshR c z h a d) (hcl : ∃ o, h.get? I = some o ∧ o.cls ≠ .type "list" ∧ o.cls ≠ .type "dict") : a ≠ I := by
  rintro rfl
  obtain ⟨o, e, h1, h2⟩ := hcl
  cases f with
  | list p _ => obtain ⟨n, e'⟩ := p; rw [e] at e'; cases e'; exact h1 rfl
  | dict _ p _ => obtain ⟨o', _, _, e', hx, _⟩ := p; rw [e] at e'; cases e'; exact h2 hx.1
theorem Rep.butI (H : Hy c) (R : Rep c F z mu loc ls s) {I : Addr} (hO : Off c F mu I) (hz : ¬ z I) (hcl : ∃ o, s.heap.get? I = some o ∧ o.cls ≠ .type "list" ∧ o.cls ≠ .type "dict") {h' : Heap} {tk : Nat}
    (hk : ∀ b o, b ≠ I → s.heap.get? b = some o → h'.get? b = some o) : Rep c F z mu loc ls { s with heap := h', toks := tk } :=
  R.at1 (I := I) H (fun (e : F.env.locals = I) => hO.nm (e ▸ R.fmu)) (.inl hO.nk) hO.nx hO.nc hz (fun _ _ _ _ _ _ f _ => f.ne hcl) (fun _ _ _ _ _ ⟨_, f⟩ => f.ne hcl) hk fun m => absurd m hO.nm
theorem Rep.butV (H : Hy c) (R : Rep c F z mu loc ls s) {I : Addr} (hO : Off c F mu I) (hz : ¬ z I) (hv : ∀ x lv a, loc.lookup x = some lv → Slot F.env s.heap x (.ref a) → a ≠ I) {h' : Heap} {tk : Nat}
    (hk : ∀ b o, b ≠ I → s.heap.get? b = some o → h'.get? b = some o) : Rep c F z mu loc ls { s with heap := h', toks := tk } :=
  R.at1 (I := I) H (fun (e : F.env.locals = I) => hO.nm (e ▸ R.fmu)) (.inl hO.nk) hO.nx hO.nc hz (fun x lv a _ e hs _ _ => hv x lv a e hs) (fun x d a e hs _ => hv x _ a e hs) hk fun m => absurd m hO.nm
theorem Rep.butD (H : Hy c) (R : Rep c F z mu loc ls s) (hD : AccAt c F mu O) (ho : ∀ x d a, loc.lookup x = some ⟨.own, d⟩ → Slot F.env s.heap x (.ref a) → a ≠ O) {h' : Heap} {tk : Nat} (hs : Heap.SameBut O s.heap h') (hal : Al h' O) : Rep c F z mu loc ls { s with heap := h', toks := tk } :=
  R.at1 H (Ne.symm hD.l) (.inr hD.m) hD.x hD.c (fun k => R.zmu _ k hD.m) (fun _ _ _ _ _ _ _ n q => n (q ▸ hD.m)) (fun x d a e hs _ => ho x d a e hs) (fun b o n e => hs.extBut b o n e) fun _ => hal
theorem Rep.place (H : Hy c) (R : Rep c F z mu loc ls s) {r : Addr} (hm : mu r) (nx : ¬ lexall c.X r) {h' : Heap} {tk : Nat} (hs : Heap.SameBut r s.heap h') (hal : Al h' r) {x : Str} {lv : LV} (hns : ∃ m, h'.Ns F.env.locals m) (hwr : ∀ y, y ∈ F.wn → Wr F.env mu h' y) (sne : ∀ y u, y ≠ x → Slot F.env s.heap y u → Slot F.env h' y u) (sx : Slot F.env h' x v) (hlv : LVr c z mu s.heap lv v)
    (hor : r = F.env.locals ∨ ∃ y, F.env.cells.lookup y = some r) (hown : ∀ a, lv.k = .own → v = .ref a → a ≠ F.env.locals ∧ (∀ y b, F.env.cells.lookup y = some b → a ≠ b) ∧ ∀ y d, y ≠ x → loc.lookup y = some ⟨.own, d⟩ → ¬ Slot F.env s.heap y (.ref a)) : Rep c F z mu (setL x lv loc) ls { s with heap := h', toks := tk } := by
  have ner : ∀ a, a ≠ F.env.locals ∧ (∀ y b, F.env.cells.lookup y = some b → a ≠ b) → a ≠ r := fun a n q => hor.elim (fun e => n.1 (q.trans e)) fun ⟨y, l⟩ => n.2 y r l q
  have kz : ∀ a o, z a → s.heap.get? a = some o → h'.get? a = some o := fun a o za e => hs.extBut a o (fun q => R.zmu a za (q ▸ hm)) e
  have hmap : ∀ {lv : LV} {v : Value}, LVr c z mu s.heap lv v → (∀ a, lv.k = .own → v = .ref a → a ≠ r) → LVr c z mu h' lv v := fun q ho => q.map (fun _ h => h) kz (fun a d e f n k => ⟨n, fun o e' => hs.extBut a o (fun q => n (q ▸ hm)) e'⟩) fun a d e f m _ k => ⟨m, fun o e' => hs.extBut a o (ho a k e) e'⟩
  have old : ∀ y u ly, y ≠ x → (setL x lv loc).lookup y = some ly → loc.lookup y = some ly ∧ (Slot F.env h' y u → Slot F.env s.heap y u) := fun y u ly hy e => by
    rw [lookup_setL, if_neg hy] at e
    obtain ⟨u0, h0, _⟩ := R.vars y ly e
    exact ⟨e, fun q => (sne y u0 hy h0).fn q ▸ h0⟩
  have new : ∀ ly, (setL x lv loc).lookup x = some ly → lv = ly := fun ly e => by rw [lookup_setL, if_pos rfl] at e; exact Option.some.inj e
  refine ⟨fun a o e => hs.extBut a o (fun e' => R.kz a o e (e' ▸ hm)) (R.kin a o e), R.kz, R.zmu, R.lmu, fun a za => al_but hs hal (R.zal a za), fun a m => al_but hs hal (R.mal a m), R.lx.but H nx fun b o n e => hs.extBut b o n e, R.fmu, R.fl, hns, fun y a l => let ⟨h1, h2, h3, h4⟩ := R.cl y a l; ⟨h1, h2, h3, al_but hs hal h4⟩, R.cinj, hwr, fun y ly e => ?_, fun y d a e hsl => ?_, fun y1 y2 d1 d2 a e1 e2 s1 s2 => ?_⟩
  · by_cases hy : y = x
    · subst hy
      cases new _ e
      exact ⟨v, sx, hmap hlv fun a k e => ner a ⟨(hown a k e).1, (hown a k e).2.1⟩⟩
    · obtain ⟨e, _⟩ := old y v ly hy e
      obtain ⟨u, h1, h2⟩ := R.vars y ly e
      exact ⟨u, sne y u hy h1, hmap h2 fun a k q => ner a (R.osep y ly.d a (e.trans (congrArg some (lv_own k))) (q ▸ h1))⟩
  · by_cases hy : y = x
    · subst hy
      cases new _ e
      exact ⟨(hown a rfl (sx.fn hsl)).1, (hown a rfl (sx.fn hsl)).2.1⟩
    · obtain ⟨e, q⟩ := old y (.ref a) _ hy e
      exact R.osep y d a e (q hsl)
  · by_cases h1 : y1 = x
    · by_cases h2 : y2 = x
      · rw [h1, h2]
      · subst h1
        cases new _ e1
        obtain ⟨e, q⟩ := old y2 (.ref a) _ h2 e2
        exact absurd (q s2) ((hown a rfl (sx.fn s1)).2.2 y2 d2 h2 e)
    · obtain ⟨e, q⟩ := old y1 (.ref a) _ h1 e1
      by_cases h2 : y2 = x
      · subst h2
        cases new _ e2
        exact absurd (q s1) ((hown a rfl (sx.fn s2)).2.2 y1 d1 h1 e)
      · obtain ⟨e', q'⟩ := old y2 (.ref a) _ h2 e2
        exact R.oinj y1 y2 d1 d2 a e e' (q s1) (q' s2)
theorem store_okS (H : Hy c) (R : Rep c F z mu loc ls s) (hfk : F.env.scope.kind = .function) {x : Str} (hx : x ∈ F.wn) {lv : LV} (hlv : LVr c z mu s.heap lv v) {Q : Unit → Shared → Prop}
    (hown : ∀ a, lv.k = .own → v = .ref a → a ≠ F.env.locals ∧ (∀ y b, F.env.cells.lookup y = some b → a ≠ b) ∧ ∀ y d, y ≠ x → loc.lookup y = some ⟨.own, d⟩ → ¬ Slot F.env s.heap y (.ref a))
    (hq : ∀ s', StpC z (FM F mu) s z s' → Rep c F z mu (setL x lv loc) ls s' → (∀ y u, y ≠ x → Slot F.env s.heap y u → Slot F.env s'.heap y u) → Slot F.env s'.heap x v → Q () s') : wpAny (model c.prog c.w) A (storeName F.env x v) Q E s := by
  cases R.wr x hx with
  | loc k =>
    obtain ⟨m, hn⟩ := R.ns
    refine wpAny_storeName_local k hn (fun h' hn' hs' => ?_) (by rw [hfk]; rfl)
    have hal : Al h' F.env.locals := let ⟨o, _, _, e, _⟩ := hn'; ⟨o, e⟩
    have sx : Slot F.env h' x v := .loc k ⟨_, hn', by simp⟩
    have sne : ∀ y u, y ≠ x → Slot F.env s.heap y u → Slot F.env h' y u := by
      intro y u hy hsl
      cases hsl with
      | loc ky n =>
        obtain ⟨m0, n0, e0⟩ := n
        refine .loc ky ⟨_, hn', ?_⟩
        rw [if_neg hy, ns_fun hn n0]
        exact e0
      | cell ky l n => exact .cell ky l (n.sameBut hs' (R.cl _ _ l).2.1)
      | free ky l n => exact .free ky l (n.sameBut hs' (R.cl _ _ l).2.1)
    refine hq _ (StpC.but (tk := s.toks + 1) ⟨R.fmu, .inl rfl⟩ hs' hal) (R.place H R.fmu R.fl hs' hal ⟨_, hn'⟩ (fun y hy => ?_) sne sx hlv (.inl rfl) hown) sne sx
    cases R.wr y hy with
    | loc k => exact .loc k
    | cell k l m n => exact .cell k l m (n.sameBut hs' (R.cl _ _ l).2.1)
  | @cell r v0 k l hm n =>
    refine wpAny_storeName_cell hfk k l n (fun h' hn' hs' => ?_)
    have hal : Al h' r := let ⟨o, e, _⟩ := hn'; ⟨o, e⟩
    have sx : Slot F.env h' x v := .cell k l hn'
    have nlr : F.env.locals ≠ r := fun e => (R.cl x r l).2.1 e.symm
    have sne : ∀ y u, y ≠ x → Slot F.env s.heap y u → Slot F.env h' y u := by
      intro y u hy hsl
      cases hsl with
      | loc ky n => exact let ⟨m0, n0, e0⟩ := n; .loc ky ⟨m0, n0.sameBut hs' nlr, e0⟩
      | cell ky l' n => exact .cell ky l' (n.sameBut hs' fun e => hy (R.cinj y x _ l' (e ▸ l)))
      | free ky l' n => exact .free ky l' (n.sameBut hs' fun e => hy (R.cinj y x _ l' (e ▸ l)))
    refine hq _ (StpC.but (tk := s.toks) ⟨hm, .inr ⟨x, l⟩⟩ hs' hal) (R.place H hm (R.cl x r l).1 hs' hal (let ⟨m, n⟩ := R.ns; ⟨m, n.sameBut hs' nlr⟩) (fun y hy => ?_) sne sx hlv (.inr ⟨x, l⟩) hown) sne sx
    cases R.wr y hy with
    | loc k => exact .loc k
    | @cell r2 _ k2 l2 m2 n2 =>
      by_cases e : r2 = r
      · subst e; exact .cell k2 l2 m2 hn'
      · exact .cell k2 l2 m2 (n2.sameBut hs' e)
theorem store_fz (H : Hy c) (R : Rep c F z mu loc ls s) (hfk : F.env.scope.kind = .function) {x : Str} (hx : x ∈ F.wn) (hv : Rd c z s.heap v d) {Q : Unit → Shared → Prop}
    (hq : ∀ s', StpC z (FM F mu) s z s' → Rep c F z mu (setL x ⟨.fz, d⟩ loc) ls s' → Q () s') : wpAny (model c.prog c.w) A (storeName F.env x v) Q E s :=
  store_okS (lv := ⟨.fz, d⟩) H R hfk hx hv (fun a h => nomatch h) fun s' S R' _ _ => hq s' S R'
theorem Rd.al (H : Hy c) (R : Rep c F z mu loc ls s) {a : Addr} (r : Rd c z s.heap (.ref a) d) : Al s.heap a := by
  cases d with
  | none => exact nomatch (r.i : Value.ref a = _)
  | bool => exact nomatch (r.i : Value.ref a = _)
  | int => obtain ⟨_, e⟩ := r.i; exact nomatch e
  | str => obtain ⟨_, e⟩ := r.i; exact nomatch e
  | list => obtain ⟨_, _, e, za, _⟩ := r.i; cases e; exact R.zal _ za
  | tup => obtain ⟨_, _, e, za, _⟩ := r.i; cases e; exact R.zal _ za
  | dict => obtain ⟨_, _, e, za, _⟩ := r.i; cases e; exact R.zal _ za
  | range => obtain ⟨_, _, _, _, e, q⟩ := r.i; cases e; exact ⟨_, q⟩
  | items => obtain ⟨_, _, _, e, _, q, _⟩ := r.i; cases e; exact ⟨_, q⟩
  | vals => obtain ⟨_, _, _, e, _, q, _⟩ := r.i; cases e; exact ⟨_, q⟩
  | inst => obtain ⟨_, e, q⟩ := r.i; cases e; exact q
  | lex => obtain ⟨x, q, e⟩ := r.i; cases e; exact lexall_al H R _ ⟨_, q, List.mem_append_right _ (.tail _ (.head _))⟩
  | atl => obtain ⟨x, q, e⟩ := r.i; cases e; exact lexall_al H R _ ⟨_, q, List.mem_append_left _ (.tail _ (.tail _ (.head _)))⟩
  | fit => obtain ⟨x, q, e⟩ := r.i; cases e; exact lexall_al H R _ ⟨_, q, List.mem_append_left _ (.tail _ (.tail _ (.tail _ (.head _))))⟩
  | row => obtain ⟨x, a, q, e, r⟩ := r.i; cases e; exact lexall_al H R _ ⟨_, q, List.mem_append_left _ (List.mem_append_right _ (List.mem_of_getElem? r))⟩
theorem LVr.al (H : Hy c) (R : Rep c F z mu loc ls s) {a : Addr} {lv : LV} (r : LVr c z mu s.heap lv (.ref a)) : Al s.heap a := by
  obtain ⟨k, d⟩ := lv
  cases k with
  | fz => exact Rd.al H R r
  | own => exact let ⟨b, e, _, _, f⟩ := r; by cases e; exact f.al
  | bor => exact r.elim (fun r => Rd.al H R r) fun ⟨b, e, _, f⟩ => by cases e; exact f.al
end
def EvN (c : Cx) (F : FC) (A : Around) (loc : Loc) (ls : LS) (t : Sem Value) (d : D) (ls' : LS) : Prop :=
  ∀ (z mu : Addr → Prop) (s : Shared) (Q : Value → Shared → Prop) (E : Value → Shared → Prop), Rep c F z mu loc ls s →
    (∀ z' O s', StpE c z s z' s' → LexOK c ls' s'.heap → s.heap.get? O = none → Al s'.heap O → ¬ z' O → FreshR c z' s'.heap O d → Q (.ref O) s') → wpAny (model c.prog c.w) A t Q E s
theorem lk_map (f : Str → LV → LV) (x : Str) : ∀ loc : Loc, (loc.map fun p => (p.1, f p.1 p.2)).lookup x = (loc.lookup x).map (f x)
  | [] => rfl
  | (k, v) :: r => by
    rw [List.map_cons]
    by_cases h : x = k
    · rw [h, lk_eq, lk_eq]; rfl
    · rw [lk_ne h, lk_ne h]; exact lk_map f x r
theorem frz_lookup (x : Str) (loc : Loc) : (frz loc).lookup x = (loc.lookup x).map fun lv => if true then frzLV lv else lv := lk_map (fun _ => frzLV) x loc
section
variable {c : Cx} {F : FC} {A : Around} {z mu z' : Addr → Prop} {loc loc' : Loc} {ls ls' : LS} {s s' s1 : Shared} {E : Value → Shared → Prop} {v w : Value} {O : Addr} {d d' : D}
theorem StpE.more (R : Rep c F z mu loc ls s) (S : StpE c z s z' s') (h1 : s.heap.get? O = none) (h2 : Al s'.heap O) : StpE c z s (fun a => z' a ∨ a = O) s' :=
  ⟨S.al, fun a h => .inl (S.zz a h), fun a h k => k.elim (S.zn a h) (fun e' => absurd e' (alive_ne h h1)), fun a k => k.elim (S.za a) (fun e => e ▸ h2),
    fun a k l => k.elim (fun k => S.zl a k l) (fun e => alive_ne (R.mal a (R.lmu a l)) h1 e), S.kp, S.ge, S.os, S.dr⟩
theorem EvN.ok {t : Sem Value} (h : EvN c F A loc ls t d ls') : EvOK c F A loc ls t d true ls' := fun z mu s Q E R hq =>
  h z mu s Q E R fun z' O s' S L h1 h2 h3 r => hq _ _ _ (S.more R h1 h2) L ((r.mono (fun _ h => .inl h) (fun _ _ _ e => e) (fun _ e => e)).rd (.inr rfl))
theorem Rep.grow (H : Hy c) (R : Rep c F z mu loc ls s) (S : StpE c z s z' s') (L : LexOK c ls' s'.heap) (N : Addr → Prop) (hN : ∀ a, N a → s.heap.get? a = none ∧ Al s'.heap a ∧ ¬ z' a) : Rep c F z' (fun a => mu a ∨ N a) loc ls' s' :=
  have new : ∀ a, Al s.heap a → ¬ N a := fun a x n => alive_ne x (hN a n).1 rfl
  R.move (fun a o k e => S.kp a o e fun q => R.kz a o k (R.lmu a q)) (fun a o k e m => m.elim (R.kz a o k) (new a ⟨o, e⟩)) (fun a k m => m.elim (fun m => R.zmu a (S.zn a (R.mal a m) k) m) fun n => (hN a n).2.2 k) (fun a l => .inl (R.lmu a l)) S.za (fun a m => m.elim (fun m => S.al a (R.mal a m)) fun n => (hN a n).2.1) L (.inl R.fmu)
    (fun o e => S.kp _ o e fun k => R.fl (lexall_of k)) (fun y a o l e => S.kp _ o e fun k => (R.cl y a l).1 (lexall_of k)) (fun y a l n k => n (S.zn a (R.cl y a l).2.2.2 k)) (fun _ _ _ m => .inl m)
    (same_vars fun x lv v _ _ r => r.map S.zz (fun a o za e => S.kp a o e (R.zl a za)) (fun a d e f n _ => ⟨fun m => m.elim n (new a f.al), fun o e => S.kp a o e fun k => n (R.lmu a k)⟩) (fun a d e f m n _ => ⟨.inl m, fun o e => S.kp a o e fun q => n (lexall_of q)⟩))
theorem store_new (H : Hy c) (R : Rep c F z mu loc ls s) (hfk : F.env.scope.kind = .function) (S : StpE c z s z' s1) (L : LexOK c ls' s1.heap) (h1 : s.heap.get? O = none) (h2 : Al s1.heap O) (h3 : ¬ z' O) {d : D} (r : FreshR c z' s1.heap O d) {x : Str} (hx : x ∈ F.wn) (b : Bool) {Q : Unit → Shared → Prop}
    (hq : ∀ z2 mu2 s2, Stp z mu s z2 mu2 s2 → Rep c F z2 mu2 (setL x ⟨if b then .own else .fz, d⟩ loc) ls' s2 → (∀ y lv a, (setL x ⟨if b then .own else .fz, d⟩ loc).lookup y = some lv → Slot F.env s2.heap y (.ref a) → Al s.heap a ∨ a = O) →
      (∀ a o, s.heap.get? a = none → a ≠ O → s1.heap.get? a = some o → s2.heap.get? a = some o) → (∀ a, mu2 a → mu a ∨ a = O) → (∀ a, z2 a → z' a ∨ a = O) → Q () s2) : wpAny (model c.prog c.w) A (storeName F.env x (.ref O)) Q E s1 := by
  have alO : ∀ a, Al s.heap a → a ≠ O := fun a ⟨o, e⟩ e' => by rw [e', h1] at e; cases e
  have slotS : ∀ y u, Slot F.env s.heap y u → Slot F.env s1.heap y u := fun y u h => h.kp (fun o e => S.kp _ o e fun k => R.fl (lexall_of k)) fun y a o l e => S.kp _ o e fun k => (R.cl y a l).1 (lexall_of k)
  have nlx : ¬ lexall c.X O := fun h => alO O (lexall_al H R O h) rfl
  have neL : F.env.locals ≠ O := alO _ (R.mal _ R.fmu)
  have main : ∀ (zz : Addr → Prop) (mm : Addr → Prop) (lv : LV), StpE c z s zz s1 → (∀ a, zz a → z' a ∨ a = O) → Rep c F zz mm loc ls' s1 → (∀ a, mu a → mm a) → (∀ a, mm a → mu a ∨ a = O) → LVr c zz mm s1.heap lv (.ref O) → lv = ⟨if b then .own else .fz, d⟩ → wpAny (model c.prog c.w) A (storeName F.env x (.ref O)) Q E s1 := by
    intro zz mm lv S' hz R' hmu hm hl he
    have held : ∀ y d, loc.lookup y = some d → ∀ u, Slot F.env s1.heap y u → ∃ u0, u0 = u ∧ Slot F.env s.heap y u ∧ ∀ a, u = .ref a → Al s.heap a := by
      intro y lv e u hsl
      obtain ⟨u0, e1, e2⟩ := R.vars y lv e
      have := (slotS y u0 e1).fn hsl
      subst this
      exact ⟨_, rfl, e1, fun a e => by subst e; exact e2.al H R⟩
    refine store_okS H R' hfk hx hl (fun a e1 e2 => ?_) fun s2 S2 R2 sne sx => ?_
    · cases e2
      refine ⟨Ne.symm neL, fun y b l e => alO _ (R.cl y b l).2.2.2 e.symm, fun y d hy e hsl => ?_⟩
      obtain ⟨_, _, _, ha⟩ := held y _ e _ hsl
      exact alO O (ha O rfl) rfl
    · rw [he] at R2
      refine hq zz mm s2 ⟨fun a h => S2.al a (S.al a h), fun a h => S2.zz a (S'.zz a h), fun a h k => .inl (S'.zn a h k), fun a h k => (hm a k).elim id fun e => absurd e (alO a h), fun b' o e n => ?_, S2.ge.trans S.ge, S2.os.trans S.os, S2.dr.trans S.dr⟩ R2 ?_ ?_ hm hz
      · refine S2.kp b' o (S.kp b' o e fun k => n (R.lmu _ k)) fun k => (hm b' k.1).elim n fun e' => alO b' ⟨o, e⟩ e'
      · intro y lv' a e hsl
        by_cases hy : y = x
        · subst hy
          have := sx.fn hsl
          cases this
          exact .inr rfl
        · rw [lookup_setL, if_neg hy] at e
          obtain ⟨u0, e1, e2⟩ := R.vars y lv' e
          have := (sne y u0 hy (slotS y u0 e1)).fn hsl
          subst this
          exact .inl (e2.al H R)
      · intro a o e1 e2 e3
        refine S2.kp a o e3 fun k => ?_
        rcases k.2 with k | ⟨y, k⟩
        · obtain ⟨o', e'⟩ := R.mal _ R.fmu
          rw [← k, e1] at e'; cases e'
        · obtain ⟨o', e'⟩ := (R.cl y a k).2.2.2
          rw [e1] at e'; cases e'
  cases b with
  | true =>
    refine main z' (fun a => mu a ∨ a = O) ⟨.own, d⟩ S (fun a h => .inl h) (R.grow H S L (fun a => a = O) fun a e => by subst e; exact ⟨h1, h2, h3⟩) (fun a h => .inl h) (fun a h => h) ⟨O, rfl, .inr rfl, nlx, r⟩ rfl
  | false =>
    refine main (fun a => z' a ∨ a = O) mu ⟨.fz, d⟩ (S.more R h1 h2) (fun a h => h) (R.stpE H (S.more R h1 h2) L) (fun a h => h) (fun a h => .inl h) ((r.mono (fun _ h => .inl h) (fun _ _ _ e => e) (fun _ e => e)).rd (.inr rfl) : Rd c _ _ _ _) rfl
theorem Rep.freeze (R : Rep c F z mu loc ls s) (P : Str → Bool) (hl : ∀ x, loc'.lookup x = (loc.lookup x).map fun lv => if P x then frzLV lv else lv) :
    ∃ z' mu', Stp z mu s z' mu' s ∧ Rep c F z' mu' loc' ls s := by
  let Fz : Addr → Prop := fun a => ∃ x d, P x = true ∧ loc.lookup x = some ⟨.own, d⟩ ∧ Slot F.env s.heap x (.ref a)
  have fzmu : ∀ a, Fz a → mu a ∧ ¬ lexall c.X a := by
    rintro a ⟨x, d, _, e, hs⟩
    obtain ⟨u, h1, b, e1, m, n, _⟩ := R.vars x _ e
    cases (h1.fn hs).symm.trans e1
    exact ⟨m, n⟩
  have nc : ∀ x a, F.env.cells.lookup x = some a → ¬ Fz a := fun x a l ⟨y, d, _, e, hs⟩ => (R.osep y d _ e hs).2 x a l rfl
  have zz : ∀ a, z a → z a ∨ Fz a := fun a h => .inl h
  have hk : ∀ a o, z a → s.heap.get? a = some o → s.heap.get? a = some o := fun _ _ _ e => e
  refine ⟨fun a => z a ∨ Fz a, fun a => mu a ∧ ¬ Fz a, ⟨fun _ h => h, zz, fun a _ k => k.imp id fun f => (fzmu a f).1, fun a _ m => m.1, fun _ _ e _ => e, rfl, rfl, rfl⟩, R.move (fun _ _ _ e => e) (fun a o e _ m => R.kz a o e m.1) (fun a k m => k.elim (fun k => R.zmu a k m.1) m.2) (fun a l => ⟨R.lmu a l, fun f => (fzmu a f).2 (lexall_of l)⟩) (fun a k => k.elim (R.zal a) fun f => R.mal a (fzmu a f).1) (fun a m => R.mal a m.1) R.lx ⟨R.fmu, fun ⟨x, d, _, e, hs⟩ => (R.osep x d _ e hs).1 rfl⟩ (fun _ e => e) (fun _ _ _ _ e => e) (fun x a l n k => k.elim n (nc x a l)) (fun x a l m => ⟨m, nc x a l⟩) fun x lv e => ?_⟩
  rw [hl, Option.map_eq_some_iff] at e
  obtain ⟨lv0, e0, e1⟩ := e
  cases hp : P x with
  | true =>
    rw [if_pos hp] at e1
    unfold frzLV at e1
    split at e1
    · rename_i hkk
      subst e1
      refine ⟨lv0, e0, fun h => (nomatch h), fun v hs r => ?_⟩
      have e0' := e0.trans (congrArg some (lv_own hkk))
      rw [lv_own hkk] at r
      obtain ⟨a, rfl, m, n, f⟩ := r
      exact (f.mono zz hk fun _ e => e).rd (.inr ⟨x, _, hp, e0', hs⟩)
    · rename_i hkk
      subst e1
      exact ⟨lv0, e0, id, fun v hs r => r.map zz hk (fun a d e f n _ => ⟨fun m => n m.1, fun _ e => e⟩) (fun a d e f m n k => absurd k hkk)⟩
  | false =>
    rw [hp] at e1
    cases (e1 : lv0 = lv)
    refine ⟨lv0, e0, id, fun v hs r => r.map zz hk (fun a d e f n _ => ⟨fun m => n m.1, fun _ e => e⟩) (fun a d e f m n k => ⟨⟨m, fun ⟨y, d1, py, ey, hsy⟩ => ?_⟩, fun _ e => e⟩)⟩
    have := R.oinj x y lv0.d d1 a (e0.trans (congrArg some (lv_own k))) ey (e ▸ hs) hsy
    rw [← this, hp] at py; cases py
theorem Rep.frz (R : Rep c F z mu loc ls s) : ∃ z' mu', Stp z mu s z' mu' s ∧ Rep c F z' mu' (frz loc) ls s := R.freeze (fun _ => true) fun x => frz_lookup x loc
def SubL (loc' loc : Loc) : Prop := ∀ x lv, loc'.lookup x = some lv → loc.lookup x = some lv
theorem Rep.sub (R : Rep c F z mu loc ls s) (h : SubL loc' loc) : Rep c F z mu loc' ls s :=
  ⟨R.kin, R.kz, R.zmu, R.lmu, R.zal, R.mal, R.lx, R.fmu, R.fl, R.ns, R.cl, R.cinj, R.wr, fun x lv e => R.vars x lv (h x lv e), fun x d a e => R.osep x d a (h x _ e), fun x y d e a hx hy => R.oinj x y d e a (h x _ hx) (h y _ hy)⟩
theorem own_at (R : Rep c F z mu loc ls s) {x : Str} (hx : loc.lookup x = some ⟨.own, d⟩) : ∃ a, Slot F.env s.heap x (.ref a) ∧ mu a ∧ ¬ lexall c.X a ∧ FreshR c z s.heap a d := by
  obtain ⟨u, h1, a, rfl, m, n, f⟩ := R.vars x _ hx
  exact ⟨a, h1, m, n, f⟩
theorem Rep.own (H : Hy c) (R : Rep c F z mu loc ls s) {x : Str} {a : Addr} (hx : loc.lookup x = some ⟨.own, d⟩) (hsl : Slot F.env s.heap x (.ref a)) (m : mu a) (nx : ¬ lexall c.X a) {h' : Heap} {tk : Nat} (hs : Heap.SameBut a s.heap h') (hnew : FreshR c z h' a d') :
    Rep c F z mu (setL x ⟨.own, d'⟩ loc) ls { s with heap := h', toks := tk } ∧ StpC z mu s z { s with heap := h', toks := tk } := by
  have hal := hnew.al
  obtain ⟨neL, neC⟩ := R.osep x d a hx hsl
  refine ⟨R.move (fun b o k e => hs.extBut b o (fun e' => R.kz b o k (e' ▸ m)) e) (fun b o k _ => R.kz b o k) R.zmu R.lmu (fun b zb => al_but hs hal (R.zal b zb)) (fun b mb => al_but hs hal (R.mal b mb)) (R.lx.but H nx fun b o n e => hs.extBut b o n e) R.fmu (fun o e => hs.extBut _ o (Ne.symm neL) e) (fun y b o l e => hs.extBut _ o (fun e' => neC y b l e'.symm) e) (fun _ _ _ n => n) (fun _ _ _ m => m) fun y lv e => ?_, StpC.but m hs hal⟩
  by_cases hy : y = x
  · rw [lookup_setL, if_pos hy] at e
    cases e
    refine ⟨_, hy ▸ hx, fun _ => rfl, fun v hv _ => ?_⟩
    cases (hy ▸ hv : Slot F.env s.heap x v).fn hsl
    exact ⟨a, rfl, m, nx, hnew⟩
  · rw [lookup_setL, if_neg hy] at e
    exact ⟨lv, e, id, fun v hv r => r.map (fun _ h => h) (fun b o zb e => hs.extBut b o (fun e' => R.zmu b zb (e' ▸ m)) e) (fun b d e f n _ => ⟨n, fun o e => hs.extBut b o (fun e' => n (e' ▸ m)) e⟩) fun b d1 ev f mb _ k => ⟨mb, fun o e' => hs.extBut b o (fun q => hy (R.oinj y x lv.d d a (e.trans (congrArg some (lv_own k))) hx (q ▸ ev ▸ hv) hsl)) e'⟩⟩
theorem setItem_plain {l : Addr} {items : Array Value} {k : Int} {t : Tok} {v : Value} {Q : Unit → Shared → Prop} {E : Value → Shared → Prop} (hl : s.heap.PlainList l items) (h0 : 0 ≤ k) (hn : k < items.size) (hsz : items.size ≤ 1000000)
    (hQ : ∀ h', h'.PlainList l (items.setIfInBounds k.toNat v) → Heap.SameBut l s.heap h' → Q () { s with heap := h' }) : wpAny (model c.prog c.w) A (setItem (.ref l) (.int k t) v) Q E s := by
  obtain ⟨n, ho⟩ := hl
  have ho' : s.heap.get? l = some (listOf items n) := ho
  refine ki_setAt ho' h0 (by omega) hn (hQ _ ⟨_, Heap.get?_update_self _ ho ?_⟩ (Heap.SameBut.update ..))
  rfl
theorem RdsD.any {h : Heap} {k : Str} {kvs : List (Str × Value)} {l : List (Str × D)} (r : RdsD c z h kvs l) : kvs.any (fun p => p.1 = k) = l.any (fun p => p.1 = k) := by
  have := congrArg (fun l : List Str => l.any (· = k)) r.keys
  rwa [List.any_map, List.any_map] at this
theorem RdsD.mapPut {h : Heap} {k : Str} (rv : Rd c z h v d) {l : List (Str × D)} : ∀ {kvs : List (Str × Value)}, RdsD c z h kvs l → RdsD c z h (kvs.map fun p => if p.1 = k then (p.1, v) else p) (l.map fun p => if p.1 = k then (p.1, d) else p) := by
  induction l with
  | nil => intro kvs r; cases (r.i : kvs = []); exact .nil
  | cons p l ih =>
    intro kvs r
    obtain ⟨v0, vs, rfl, r0, rs⟩ := r.i
    rw [List.map_cons, List.map_cons]
    by_cases e : p.1 = k
    · rw [if_pos e, if_pos e]; exact .cons rv (ih rs)
    · rw [if_neg e, if_neg e]; exact .cons r0 (ih rs)
theorem RdsD.snoc {h : Heap} {k : Str} (rv : Rd c z h v d) {l : List (Str × D)} : ∀ {kvs : List (Str × Value)}, RdsD c z h kvs l → RdsD c z h (kvs ++ [(k, v)]) (l ++ [(k, d)]) := by
  induction l with
  | nil => intro kvs r; cases (r.i : kvs = []); exact .cons rv .nil
  | cons p l ih => intro kvs r; obtain ⟨v0, vs, rfl, r0, rs⟩ := r.i; exact .cons r0 (ih rs)
theorem put_rd {h : Heap} {k : Str} (rv : Rd c z h v d) {kvs : List (Str × Value)} {l : List (Str × D)} (r : RdsD c z h kvs l) : RdsD c z h (stored kvs k v) (putD l k d) := by
  unfold stored putD
  rw [r.any]
  split
  · exact r.mapPut rv
  · exact r.snoc rv
theorem Rds.set {h : Heap} {v : Value} {ds : List D} : ∀ {vs : List Value} (i : Nat), Rds c z h vs ds → Rd c z h v d → Rds c z h (vs.set i v) (ds.set i d) := by
  induction ds with
  | nil => intro vs i r _; cases (r.i : vs = []); exact .nil
  | cons e ds ih =>
    intro vs i r rv
    obtain ⟨v0, vs, rfl, r0, rs⟩ := r.i
    cases i with
    | zero => exact .cons rv rs
    | succ i => exact .cons r0 (ih i rs rv)
inductive Put : D → D → D → D → Prop
  | dict {l : List (Str × D)} {k : Str} {v : D} : l.length ≤ 1000000 → Put (.dict l) (.str k) v (.dict (putD l k v))
  | list {l : List D} {i : Int} {v : D} : 0 ≤ i → i < l.length → l.length ≤ 1000000 → Put (.list l) (.int i) v (.list (l.set i.toNat v))
theorem put_ok (H : Hy c) (R : Rep c F z mu loc ls s) {x : Str} {dx k : D} {a : Addr} (hx : loc.lookup x = some ⟨.own, dx⟩) (hsl : Slot F.env s.heap x (.ref a)) (hp : Put dx k d d') (rv : Rd c z s.heap v d) (rk : RdT c z s.heap w k) {Q : Unit → Shared → Prop} {E : Value → Shared → Prop}
    (hq : ∀ s', StpC z mu s z s' → Rep c F z mu (setL x ⟨.own, d'⟩ loc) ls s' → Q () s') : wpAny (model c.prog c.w) A (setItem (.ref a) w v) Q E s := by
  obtain ⟨a', hs', m, nx, r⟩ := own_at R hx
  cases hs'.fn hsl
  have fin : ∀ (h' : Heap) (tk : Nat), Heap.SameBut a s.heap h' → ((∀ b o, z b → s.heap.get? b = some o → h'.get? b = some o) → FreshR c z h' a d') → Q () { s with heap := h', toks := tk } := fun h' tk hs2 f =>
    have ⟨R2, S2⟩ := R.own (tk := tk) H hx hsl m nx hs2 (f fun b o zb e => hs2.extBut b o (fun e' => R.zmu b zb (e' ▸ m)) e)
    hq _ S2 R2
  cases hp with
  | dict hf =>
    obtain ⟨t, rfl⟩ := rk.i
    obtain ⟨ny, kvs, p, rs⟩ := r.i
    exact wpAny_setItem_pairs (knd := strKind c.prog c.w) (strKind_is _ _ _ _) p (fun h' p' hs2 => fin h' _ hs2 fun keep => .dict ny p' (put_rd (rv.mono (fun _ h => h) keep) (rs.mono (fun _ h => h) keep))) (by rw [rs.len]; exact million hf)
  | list h0 h1 hf =>
    obtain ⟨t, rfl⟩ := rk.i
    obtain ⟨vs, p, rs⟩ := r.i
    exact setItem_plain p h0 (by rw [List.size_toArray, rs.len]; exact h1) (by rw [List.size_toArray, rs.len]; exact hf) fun h' p' hs2 => fin h' _ hs2 fun keep => .list (by rw [List.setIfInBounds_toArray] at p'; exact p') ((rs.mono (fun _ h => h) keep).set _ (rv.mono (fun _ h => h) keep))
theorem bind_ok (H : Hy c) (hh : A.handled = none) {sc : Scope} (hs : ScOK F sc) {t : Expr} (h : Bind sc t d loc loc') (R : Rep c F z mu loc ls s) (r : Rd c z s.heap v d) {Q : Unit → Shared → Prop} {E : Value → Shared → Prop}
    (hq : ∀ s', StpC z (FM F mu) s z s' → Rep c F z mu loc' ls s' → Q () s') : wpAny (model c.prog c.w) A (assign t F.env v) Q E s := by
  cases h with
  | name hw => exact wpAny_assign_Name (store_fz H R hs.fk (hs.wn _ hw) r hq)
  | @two a b p q pos k u w _ ha hb =>
    obtain ⟨x, vs, rfl, za, pt, rs⟩ := r.i
    obtain ⟨v1, vs, rfl, r1, rs⟩ := rs.i
    obtain ⟨v2, vs, rfl, r2, rs⟩ := rs.i
    cases (rs.i : vs = [])
    refine wpAny_bind (wpAny_standAt (wpAny_unpack_tuple hh pt.isTuple rfl rfl fun h' he => ?_))
    have hk := extBut_size he
    have S := StpE.same (tk := s.toks) R hk
    have R' := R.stpE H S (R.lx.keep H hk)
    refine wpAny_bind (wpAny_holding (wpAny_assign_Name (store_fz H R' hs.fk (hs.wn a ha) (r1.step S R.zl) fun s1 S1 R1 => ?_)))
    refine wpAny_bind (wpAny_holding (wpAny_assign_Name (store_fz H R1 hs.fk (hs.wn b hb) ((r2.step S R.zl).mono (fun _ h => h) fun a o za e => S1.kp a o e fun m => R.zmu a za m.1) fun s2 S2 R2 => wpAny_pure (hq s2 (((StpC.same (s := s) (tk := s.toks) hk).trans S1).trans S2) R2))))
end
structure FnOK (c : Cx) (f : Fn) : Prop where
  fn : ∃ o fd, c.K.lookup f.addr = some o ∧ o.data = .func fd ∧ fd.body = .stmts f.body ∧ fd.scope = f.scope ∧ fd.closure = [] ∧ fd.globals = mainGlobals ∧ fd.builtins = builtinsNs ∧
    (∀ vals : List Value, vals.length = f.params.length → bindArgs fd ⟨vals, []⟩ = pure (f.params.zip vals)) ∧ (∀ h, c.K.In h → h.CodeRec fd.code fd.qualname)
  co : f.scope.isCoroutine = false
  ge : f.scope.isGenerator = false
  ki : f.scope.kind = .function
  pa : ∀ x ∈ f.params, canW f.scope x = true
  nd : f.params.Nodup
  nf : ∀ n, f.scope.names.lookup n ≠ some .free
noncomputable def wnOf (sc : Scope) : List Str := (sc.names.map (·.1)).filter (canW sc)
theorem lkn_eq {α : Type} (x : Str) (v : α) (l : List (Str × α)) : ((x, v) :: l).lookup x = some v := by rw [List.lookup_cons, beq_self_eq_true]
theorem lkn_ne {α : Type} {x y : Str} (h : y ≠ x) (v : α) (l : List (Str × α)) : ((x, v) :: l).lookup y = l.lookup y := by rw [List.lookup_cons, beq_eq_false_iff_ne.mpr h]
theorem cells_in (x : Str) : ∀ (names : List (Str × NameKind)) (n : Nat) (acc : List (Str × Addr)), (∃ a, acc.lookup x = some a) → ∃ a, (cellsFrom n names acc).lookup x = some a
  | [], _, _, h => h
  | p :: r, n, acc, h => by
    unfold cellsFrom
    split
    · refine cells_in x r _ _ ?_
      by_cases e : x = p.1
      · rw [e]; exact ⟨_, lkn_eq ..⟩
      · rw [lkn_ne e]; exact h
    · exact cells_in x r _ _ h
theorem lookup_cells (x : Str) : ∀ (names : List (Str × NameKind)) (n : Nat) (acc : List (Str × Addr)), names.lookup x = some .cell → ∃ a, (cellsFrom n names acc).lookup x = some a
  | [], _, _, h => nomatch h
  | (y, k) :: r, n, acc, h => by
    unfold cellsFrom
    by_cases e : x = y
    · rw [e, lkn_eq] at h
      cases h
      rw [if_pos (show (NameKind.cell == NameKind.cell) = true from rfl), e]
      exact cells_in y r _ _ ⟨n, lkn_eq ..⟩
    · rw [lkn_ne e] at h
      split
      · exact lookup_cells x r _ _ h
      · exact lookup_cells x r _ _ h
theorem bindL_later {kindOf : Str → Option NameKind} {x : Str} : ∀ {binds : List (Str × Value)} {m : Str → Option Value}, x ∉ binds.map (·.1) → bindL kindOf binds m x = m x
  | [], _, _ => rfl
  | p :: r, m, hx => by
    rw [List.map_cons, List.mem_cons, not_or] at hx
    unfold bindL
    rw [bindL_later hx.2]
    split
    · exact if_neg hx.1
    · rfl
theorem bindC_later {kindOf : Str → Option NameKind} {x : Str} : ∀ {binds : List (Str × Value)} {m : Str → Option Value}, x ∉ binds.map (·.1) → bindC kindOf binds m x = m x
  | [], _, _ => rfl
  | p :: r, m, hx => by
    rw [List.map_cons, List.mem_cons, not_or] at hx
    unfold bindC
    rw [bindC_later hx.2]
    split
    · rfl
    · exact if_neg hx.1
theorem bindL_at {kindOf : Str → Option NameKind} {x : Str} {v : Value} (hk : kindOf x = some .local) : ∀ {binds : List (Str × Value)} {m : Str → Option Value}, (binds.map (·.1)).Nodup → (x, v) ∈ binds → bindL kindOf binds m x = some v
  | p :: r, m, nd, h => by
    rw [List.map_cons, List.nodup_cons] at nd
    unfold bindL
    rcases List.mem_cons.mp h with e | h
    · subst e
      rw [bindL_later nd.1]
      simp [hk]
    · exact bindL_at hk nd.2 h
theorem bindC_at {kindOf : Str → Option NameKind} {x : Str} {v : Value} (hk : kindOf x = some .cell) : ∀ {binds : List (Str × Value)} {m : Str → Option Value}, (binds.map (·.1)).Nodup → (x, v) ∈ binds → bindC kindOf binds m x = some v
  | p :: r, m, nd, h => by
    rw [List.map_cons, List.nodup_cons] at nd
    unfold bindC
    rcases List.mem_cons.mp h with e | h
    · subst e
      rw [bindC_later nd.1]
      simp [hk]
    · exact bindC_at hk nd.2 h
section
variable {c : Cx} {F : FC} {A : Around} {z mu z' : Addr → Prop} {loc : Loc} {ls : LS} {s s' : Shared} {Q : Value → Shared → Prop} {E : Value → Shared → Prop} {v w : Value}
theorem argLoc_len : ∀ {ps : List Str} {ds : List (D × Bool)} {l : Loc}, argLoc ps ds = some l → ps.length = ds.length
  | [], [], _, _ => rfl
  | x :: xs, d :: ds, l, h => let ⟨l', h, _⟩ := Option.map_eq_some_iff.mp h; congrArg Nat.succ (argLoc_len h)
theorem argLoc_at {h : Heap} {mu : Addr → Prop} (hmu : ∀ a, Al h a → mu a → lexmu c.X a) : ∀ {ps : List Str} {ds : List (D × Bool)} {vs : List Value} {l : Loc}, argLoc ps ds = some l → RdBs c z h vs ds → ∀ x lv, l.lookup x = some lv → ∃ v, (x, v) ∈ ps.zip vs ∧ LVr c z mu h lv v ∧ lv.k ≠ .own
  | [], [], _, _, e, _, x, lv, q => by cases e; cases q
  | p :: ps, (d, b) :: ds, _, l, e, r, x, lv, q => by
    obtain ⟨l', e1, rfl⟩ := Option.map_eq_some_iff.mp e
    obtain ⟨v, vs, rfl, r, rs⟩ := r.i
    by_cases hx : x = p
    · rw [hx, lk_eq] at q
      cases q
      rw [hx]
      refine ⟨v, List.mem_cons_self, ?_⟩
      cases b with
      | true => exact ⟨r, fun h => nomatch h⟩
      | false => exact ⟨r.imp id fun ⟨a, e, n, f⟩ => ⟨a, e, fun k => n (hmu a f.al k), f⟩, fun h => nomatch h⟩
    · rw [lk_ne hx] at q
      obtain ⟨v, h1, h2⟩ := argLoc_at hmu e1 rs x lv q
      exact ⟨v, List.mem_cons_of_mem _ h1, h2⟩
theorem LVr.keep {h h' : Heap} {lv : LV} (hk : ∀ b o, h.get? b = some o → h'.get? b = some o) (r : LVr c z mu h lv v) : LVr c z mu h' lv v := r.map (fun _ h => h) (fun a o _ e => hk a o e) (fun a d e f n _ => ⟨n, hk a⟩) fun a d e f m _ _ => ⟨m, hk a⟩
theorem canW_kind {sc : Scope} {x : Str} (h : canW sc x = true) : sc.names.lookup x = some .local ∨ sc.names.lookup x = some .cell := by
  unfold canW at h
  split at h
  · rename_i e; exact .inl e
  · rename_i e; exact .inr e
  · cases h
theorem zip_fst (ps : List Str) (vs : List Value) (h : ps.length = vs.length) : (ps.zip vs).map (·.1) = ps := List.map_fst_zip (Nat.le_of_eq h)
def Cl (c : Cx) (n : Nat) (f : Fn) (as : List (D × Bool)) (ls : LS) (d : D) (ls' : LS) : Prop := ∃ loc0, argLoc f.params as = some loc0 ∧ Ex c n f.scope loc0 ls f.body fun af _ ls1 => (af = .ret d ∨ af = .next ∧ d = .none) ∧ ls1 = ls'
structure Pre (c : Cx) (z : Addr → Prop) (ls : LS) (s : Shared) : Prop where
  kin : c.K.In s.heap
  kl : ∀ a o, c.K.lookup a = some o → ¬ lexmu c.X a
  zal : ∀ a, z a → Al s.heap a
  zl : ∀ a, z a → ¬ lexmu c.X a
  lal : ∀ a, lexall c.X a → Al s.heap a
  lx : LexOK c ls s.heap
theorem callC_ok (H : Hy c) {n : Nat} (hr : Room A (n + 1)) {f : Fn} (hf : FnOK c f) {as : List (D × Bool)} {d : D} {ls' : LS} (h : Cl c n f as ls d ls') {vs : List Value}
    (R : Pre c z ls s) (rv : RdBs c z s.heap vs as) (hq : ∀ z' r s', StpE c z s z' s' → LexOK c ls' s'.heap → Rd c z' s'.heap r d → Q r s') : codeAny (model c.prog c.w) A (.call (.ref f.addr) ⟨vs, []⟩) (fun r s' => match r with | .ok (.ret v) => Q v s' | .ok _ => False | .error e => E e s') s := by
  obtain ⟨loc0, hloc, hex⟩ := h
  obtain ⟨o, fd, ho, hd, hbody, hsc, hclo, hgl, hbi, hbind, hcd⟩ := hf.fn
  have hlen : f.params.length = vs.length := by rw [argLoc_len hloc, rv.len]
  have hfst := zip_fst f.params vs hlen
  have hkind : ∀ x ∈ f.params.zip vs, fd.scope.names.lookup x.1 = some .local ∨ (fd.scope.names.lookup x.1 = some .cell ∧ ((cellsFrom (s.heap.objs.size + 1) fd.scope.names []).lookup x.1).isSome = true) := by
    intro x hx
    rw [hsc]
    rcases canW_kind (hf.pa x.1 (by rw [← hfst]; exact List.mem_map_of_mem hx)) with e | e
    · exact .inl e
    · obtain ⟨a, ha⟩ := lookup_cells x.1 f.scope.names (s.heap.objs.size + 1) [] e
      exact .inr ⟨e, by rw [ha]; rfl⟩
  refine codeAny_call_cells (by have := hr.d; unfold recursionLimit; omega) (R.kin _ _ ho) hd (H.lim _ R.kin) (hcd _ R.kin) hbody (hbind vs hlen.symm) hclo hkind (fun s₁ X => ?_) (by rw [hsc]; exact hf.co) (by rw [hsc]; exact hf.ge) (by rw [hsc]; exact hf.ki)
  obtain ⟨⟨⟨h1, tk, rfl⟩, hns, hkeep, hfresh⟩, hcell, hap, hab⟩ := X
  let env := callEnvC fd s.heap.objs.size f.addr
  let F' : FC := ⟨env, wnOf f.scope⟩
  have hkindOf : ∀ x, env.kindOf x = f.scope.names.lookup x := fun x => by show fd.scope.names.lookup x = _; rw [hsc]
  have newL : s.heap.get? s.heap.objs.size = none := get_size _
  have hnew : ∀ n a, (n, a) ∈ env.cells → s.heap.get? a = none := fun n a hm => by
    cases e : s.heap.get? a with
    | none => rfl
    | some o' => exact absurd (Heap.lt_size e) (Nat.not_lt.mpr (Nat.le_of_lt (hab n a hm)))
  let mu' : Addr → Prop := fun a => lexmu c.X a ∨ a = s.heap.objs.size ∨ ∃ n, env.cells.lookup n = some a
  have mu_old : ∀ a, Al s.heap a → mu' a → lexmu c.X a := by
    rintro a ⟨o', e⟩ (h | h | ⟨n, h⟩)
    · exact h
    · rw [h, newL] at e; cases e
    · rw [hnew n a (mem_of_lookup h)] at e; cases e
  have hlx := R.lal
  have hal : ∀ a, Al s.heap a → Al h1 a := fun a ⟨o', e⟩ => ⟨o', hkeep a o' e⟩
  have notz : ∀ a, s.heap.get? a = none → ¬ z a := fun a e za => by obtain ⟨o', e'⟩ := R.zal a za; rw [e] at e'; cases e'
  have notx : ∀ a, s.heap.get? a = none → ¬ lexall c.X a := fun a e h => by obtain ⟨o', e'⟩ := hlx a h; rw [e] at e'; cases e'
  have R' : Rep c F' z mu' loc0 ls { s with heap := h1, toks := tk } := by
    refine ⟨fun a o' e => hkeep a o' (R.kin a o' e), fun a o' e m => R.kl a o' e (mu_old a ⟨_, R.kin a o' e⟩ m), fun a za m => R.zl a za (mu_old a (R.zal a za) m), fun a h => .inl h, fun a za => hal a (R.zal a za), ?_, R.lx.keep H hkeep, .inr (.inl rfl), notx _ newL, ⟨_, hns⟩, ?_, ?_, ?_, ?_, ?_, ?_⟩
    · rintro a (h | h | ⟨n, h⟩)
      · exact hal a (R.lal a (lexall_of h))
      · rw [h]
        obtain ⟨o', _, _, e, _⟩ := hns
        exact ⟨o', e⟩
      · obtain ⟨o', e, _⟩ := hcell n a h
        exact ⟨o', e⟩
    · intro x a e
      have hm := mem_of_lookup e
      obtain ⟨o', e', _⟩ := hcell x a e
      exact ⟨notx _ (hnew x a hm), Nat.ne_of_gt (hab x a hm), notz _ (hnew x a hm), ⟨o', e'⟩⟩
    · intro x y a ex ey
      exact name_of_addr hap (mem_of_lookup ex) (mem_of_lookup ey)
    · intro x hx
      obtain ⟨_, hx⟩ := List.mem_filter.mp hx
      rcases canW_kind hx with e | e
      · exact .loc (by rw [hkindOf]; exact e)
      · obtain ⟨a, ha⟩ := lookup_cells x f.scope.names (s.heap.objs.size + 1) [] e
        have ha' : env.cells.lookup x = some a := by show (cellsFrom _ fd.scope.names []).lookup x = _; rw [hsc]; exact ha
        exact .cell (by rw [hkindOf]; exact e) ha' (.inr (.inr ⟨x, ha'⟩)) (hcell x a ha')
    · intro x lv e
      obtain ⟨v, hv, hl, _⟩ := argLoc_at (mu := mu') mu_old hloc rv x lv e
      refine ⟨v, ?_, hl.keep hkeep⟩
      rcases canW_kind (hf.pa x (by rw [← hfst]; exact List.mem_map_of_mem (f := (·.1)) hv)) with e | e
      · exact .loc (by rw [hkindOf]; exact e) ⟨_, hns, bindL_at (by rw [hkindOf]; exact e) (by rw [hfst]; exact hf.nd) hv⟩
      · obtain ⟨a, ha⟩ := lookup_cells x f.scope.names (s.heap.objs.size + 1) [] e
        have ha' : env.cells.lookup x = some a := by show (cellsFrom _ fd.scope.names []).lookup x = _; rw [hsc]; exact ha
        have hc := hcell x a ha'
        rw [bindC_at (by rw [hkindOf]; exact e) (by rw [hfst]; exact hf.nd) hv] at hc
        exact .cell (by rw [hkindOf]; exact e) ha' hc
    · intro x d' a e _
      obtain ⟨_, _, _, hk⟩ := argLoc_at (mu := mu') mu_old hloc rv x _ e
      exact absurd rfl hk
    · intro x y d' e' a ex _ _ _
      obtain ⟨_, _, _, hk⟩ := argLoc_at (mu := mu') mu_old hloc rv x _ ex
      exact absurd rfl hk
  have hs' : ScOK F' f.scope := by
    refine ⟨by show fd.scope.kind = _; rw [hsc]; exact hf.ki, fun n e => by rw [hkindOf]; exact e, fun n hn => ?_, ?_, hgl, hbi⟩
    · refine List.mem_filter.mpr ⟨?_, hn⟩
      rcases canW_kind hn with e | e
      · exact List.mem_map_of_mem (f := (·.1)) (mem_of_lookup e)
      · exact List.mem_map_of_mem (f := (·.1)) (mem_of_lookup e)
    · rintro n (e | e)
      · obtain ⟨a, ha⟩ := lookup_cells n f.scope.names (s.heap.objs.size + 1) [] e
        exact ⟨⟨a, by show (cellsFrom _ fd.scope.names []).lookup n = _; rw [hsc]; exact ha⟩, .inl (by rw [hkindOf]; exact e)⟩
      · exact absurd e (hf.nf n)
  have hr' : Room (A.deeper env) n := ⟨hr.h, by have := hr.d; show A.depth + 1 + n + 20 < 1000; omega, by have := hr.u; show A.units + 3 + 100 * n + 200 < 9900; omega⟩
  refine wpAny_mono (hex.go F' (A.deeper env) hr' hs' z mu' _ _ (fun _ _ => False) R' fun af _ _ fl z2 mu2 s2 ⟨hfl, hls⟩ S2 R2 hf2 => ?_) (fun _ _ h => h) (fun _ _ h => h.elim)
  have S : StpE c z s z2 s2 := ⟨fun a h => S2.al a (hal a h), S2.zz, fun a h k => (S2.zn a (hal a h) k).elim id fun m => absurd (mu_old a h m) (R2.zl a k), R2.zal, R2.zl, fun b o' e nl => S2.kp b o' (hkeep b o' e) fun m => nl (mu_old b ⟨_, e⟩ m), S2.ge, S2.os, S2.dr⟩
  cases hls
  rcases hfl with rfl | ⟨rfl, rfl⟩
  · obtain ⟨v, rfl, r⟩ := hf2
    exact hq _ _ _ S R2.lx r
  · cases (hf2 : fl = _)
    exact hq _ _ _ S R2.lx .none
theorem Rep.pre (H : Hy c) (R : Rep c F z mu loc ls s) : Pre c z ls s := ⟨R.kin, fun a o e m => R.kz a o e (R.lmu a m), R.zal, R.zl, lexall_al H R, R.lx⟩
theorem callF_ok (H : Hy c) {n : Nat} (hr : Room A (n + 1)) {f : Fn} (hf : FnOK c f) {as : List (D × Bool)} {d : D} {ls' : LS} (h : Cl c n f as ls d ls') {vs : List Value}
    (R : Rep c F z mu loc ls s) (rv : RdBs c z s.heap vs as) (hq : ∀ z' r s', StpE c z s z' s' → LexOK c ls' s'.heap → Rd c z' s'.heap r d → Q r s') : wpAny (model c.prog c.w) A (call (.ref f.addr) vs) Q E s := wpAny_call (callC_ok H hr hf h (R.pre H) rv hq)
end
structure FnG (c : Cx) (f : Str) (fn : Fn) : Prop where
  ok : FnOK c fn
  mg : c.mg f = some (.ref fn.addr)
  kp : keepIn c.K (.ref fn.addr) = true
section
variable {c : Cx} {n : Nat} {sc : Scope} {loc : Loc} {ls ls1 ls2 : LS} {d x : D} {b : Bool} {as : List (D × Bool)} {args : List Expr} {p pos ap : Pos} {o : Expr} {f nm : Str} {fn : Fn}
theorem Ev.defn (H : Hy c) (hf : FnG c f fn) (hg : isGlob sc loc f = true) (ha : Evs c (n + 1) sc loc ls args as ls1) (h : Cl c n fn as ls1 d ls2) : Ev c (n + 1) sc loc ls (.Call (.Name f p) args [] pos) d true ls2 := by
  refine .of ?_
  intro F A hr hs z mu s Q E R hq
  exact wpAny_Call_NameR (name_glob H R hs hg (.inl hf.mg) (call_with (P := c.K.In) ha.plain (keeps_K hf.kp) (evs_ok H hr hs pos ha z mu s _ _ R fun z1 vs s1 S1 L1 r1 =>
    have R1 := R.stpE H S1 L1
    ⟨R1.kin, callF_ok H hr hf.ok h R1 r1 fun z2 r s2 S2 L2 rd => hq z2 r s2 (S1.trans S2) L2 rd⟩)))
end
theorem marks_of {op : CmpOp} {r : Expr} (h : isSet r = false) : behindInMarks op r = false := by
  cases r <;> first | rfl | exact nomatch h
def PlainT (e : Expr) : Prop := ∀ (env : Env) (whole : Sem Value), isTrue e env whole = (do let v ← whole; standAt e.pos; holding [v] (truthy v))
def SubsOK (i : Expr) : Prop := ∀ o i', subscripted i false o i' = operate [o, i'] (getItem o i')
inductive Part (c : Cx) (n : Nat) (sc : Scope) (loc : Loc) : LS → Option Expr → Option Int → LS → Prop
  | none {ls} : Part c n sc loc ls none none ls
  | some {ls ls' e q x} : Ev c n sc loc ls e (.int q) x ls' → Part c n sc loc ls (some e) (some q) ls'
section
variable {c : Cx} {F : FC} {A : Around} {loc loc' : Loc} {ls ls1 ls2 ls3 ls' : LS} {d a b : D} {x y t u : Bool} {n : Nat} {sc : Scope} {l r e v i : Expr} {pos p : Pos} {op : Operator} {k : Nat} {z mu : Addr → Prop} {s : Shared}
theorem Ev.bool {q : Bool} : Ev c n sc loc ls (.Constant (.bool q) k pos) (.bool q) true ls := .of fun F A _ _ z mu s Q E R hq => wpAny_Constant_bool (hq z _ s (StpE.refl R) R.lx (.bool _))
theorem Ev.int {q : Int} : Ev c n sc loc ls (.Constant (.int q) k pos) (.int q) true ls := .of fun F A _ _ z mu s Q E R hq => wpAny_Constant_int (hq z _ _ (StpE.toks R _) R.lx (.int _ _))
theorem Ev.str {q : Str} : Ev c n sc loc ls (.Constant (.str q) k pos) (.str q) true ls := .of fun F A _ _ z mu s Q E R hq => wpAny_Constant_str (hq z _ _ (StpE.toks R _) R.lx (.str _ _))
theorem Ev.name {w : Str} {lv : LV} (hp : plainN w = true) (h : loc.lookup w = some lv) : Ev c n sc loc ls (.Name w pos) lv.d (decide (lv.k = .fz)) ls := .of fun F A _ hs => ev_name hs.fk (plainN_of hp).1 (plainN_of hp).2 h
theorem Ev.nameF {w : Str} (hp : plainN w = true) (h : loc.lookup w = some ⟨.fz, d⟩) : Ev c n sc loc ls (.Name w pos) d true ls := Ev.name hp h
theorem Ev.nameB {w : Str} (hp : plainN w = true) (h : loc.lookup w = some ⟨.bor, d⟩) : Ev c n sc loc ls (.Name w pos) d false ls := Ev.name hp h
theorem Ev.nameO {w : Str} (hp : plainN w = true) (h : loc.lookup w = some ⟨.own, d⟩) : Ev c n sc loc ls (.Name w pos) d false ls := Ev.name hp h
theorem Ev.bin (H : Hy c) (h1 : Ev c n sc loc ls l a x ls1) (h2 : Ev c n sc loc ls1 r b y ls2) (h : Bin op a b d) : Ev c n sc loc ls (.BinOp l op r pos) d true ls2 := .of fun F A hr hs z mu s Q E R hq =>
  wpAny_BinOp (ev_two H (h1.go F A hr hs) (h2.go F A hr hs) R fun z1 v w s1 S1 L1 r1 r2 => bin_ok H (R.stpE H S1 L1) h r1.t r2.t fun z2 r s2 S2 L2 rd => hq z2 r s2 (S1.trans S2) L2 rd)
theorem Ev.cmp (H : Hy c) {op : CmpOp} (hset : isSet r = false) (h1 : Ev c n sc loc ls l a x ls1) (h2 : Ev c n sc loc ls1 r b y ls2) (h : Cmp op a b t) : Ev c n sc loc ls (.Compare l [op] [r] pos) (.bool t) true ls2 := .of fun F A hr hs z mu s Q E R hq =>
  wpAny_Compare1 (ev_two H (h1.go F A hr hs) (h2.go F A hr hs) R fun z1 v w s1 S1 L1 r1 r2 => have R1 := R.stpE H S1 L1; cmp_ok R1 h r1.t r2.t hr.cl fun k => hq z1 _ _ (S1.trans (StpE.toks R1 k)) R1.lx (.bool _)) (marks_of hset)
theorem Tr.cmp (H : Hy c) {op : CmpOp} (hset : isSet r = false) (h1 : Ev c n sc loc ls l a x ls1) (h2 : Ev c n sc loc ls1 r b y ls2) (h : Cmp op a b t) : Tr c n sc loc ls (.Compare l [op] [r] pos) t ls2 := .of fun F A hr hs z mu s Q E R hq =>
  wpAny_isTrue_Compare1 (ev_two H (h1.go F A hr hs) (h2.go F A hr hs) R fun z1 v w s1 S1 L1 r1 r2 => have R1 := R.stpE H S1 L1; cmp_ok R1 h r1.t r2.t hr.cl fun k => wpAny_truthy_bool (hq z1 _ (S1.trans (StpE.toks R1 k)) R1.lx)) (marks_of hset)
theorem Ev.ifT (H : Hy c) (h1 : Tr c n sc loc ls e true ls1) (h2 : Ev c n sc loc ls1 l d y ls2) : Ev c n sc loc ls (.IfExp e l r pos) d y ls2 := .of fun F A hr hs z mu s Q E R hq =>
  wpAny_IfExp (h1.go F A hr hs z mu s _ _ R fun z1 s1 S1 L1 => h2.go F A hr hs z1 mu s1 _ _ (R.stpE H S1 L1) fun z2 v s2 S2 L2 r2 => hq z2 v s2 (S1.trans S2) L2 r2)
theorem Ev.ifF (H : Hy c) (h1 : Tr c n sc loc ls e false ls1) (h2 : Ev c n sc loc ls1 r d y ls2) : Ev c n sc loc ls (.IfExp e l r pos) d y ls2 := .of fun F A hr hs z mu s Q E R hq =>
  wpAny_IfExp (h1.go F A hr hs z mu s _ _ R fun z1 s1 S1 L1 => h2.go F A hr hs z1 mu s1 _ _ (R.stpE H S1 L1) fun z2 v s2 S2 L2 r2 => hq z2 v s2 (S1.trans S2) L2 r2)
theorem Ev.neg (H : Hy c) {q : Int} (h1 : Ev c n sc loc ls e (.int q) y ls1) : Ev c n sc loc ls (.UnaryOp .USub e pos) (.int (-q)) true ls1 := by
  refine .of ?_
  intro F A hr hs z mu s Q E R hq
  refine wpAny_UnaryOp (h1.go F A hr hs z mu s _ _ R fun z1 v s1 S1 L1 r1 => ?_)
  have R1 := R.stpE H S1 L1
  obtain ⟨t, rfl⟩ := r1.t.i
  exact neg_int (hq z1 _ _ (S1.trans (StpE.toks R1 _)) R1.lx (.int _ _))
theorem Ev.sub (H : Hy c) (hi : SubsOK i) (h1 : Ev c n sc loc ls v a x ls1) (h2 : Ev c n sc loc ls1 i b y ls2) (h : Sub a b d) : Ev c n sc loc ls (.Subscript v i pos) d true ls2 := .of fun F A hr hs z mu s Q E R hq =>
  Subscript_ (ev_two H (h1.go F A hr hs) (h2.go F A hr hs) R fun z1 v w s1 S1 L1 r1 r2 =>
    have R1 := R.stpE H S1 L1
    let ⟨T, id, h3, h4, h5⟩ := sub_ok (Q := Q) (A := A) (E := E) h r1.t r2.t fun u n ru => hq z1 u _ (S1.trans (StpE.toks R1 n)) R1.lx ru
    tail_any h4 h3 h5 (hi _ _))
theorem Tr.not (h1 : Tr c n sc loc ls e t ls1) : Tr c n sc loc ls (.UnaryOp .Not e pos) (!t) ls1 := .of fun F A hr hs z mu s Q E R hq => wpAny_isTrue_Not (h1.go F A hr hs z mu s _ _ R fun z1 s1 S1 L1 => hq z1 s1 S1 L1)
theorem Tr.val (H : Hy c) (hp : PlainT e) (h1 : Ev c n sc loc ls e a x ls1) (h : Truth a t) : Tr c n sc loc ls e t ls1 := .of fun F A hr hs z mu s Q E R hq =>
  wpAny_isTrue_value (h1.go F A hr hs z mu s _ _ R fun z1 v s1 S1 L1 r1 => have R1 := R.stpE H S1 L1; truth_ok h r1.t fun k => hq z1 _ (S1.trans (StpE.toks R1 k)) R1.lx) (hp _ _)
structure AllT (c : Cx) (n : Nat) (sc : Scope) (loc : Loc) (op : BoolOp) (ls : LS) (es : List Expr) (t : Bool) (ls' : LS) : Prop where
  of ::
  go : ∀ F A, Room A n → ScOK F sc → TrOK c F A loc ls (allTrue op es F.env) t ls'
theorem AllT.nil {op : BoolOp} : AllT c n sc loc op ls [] (op == .And) ls := .of fun F A hr hs z mu s Q E R hq => wpAny_pure (hq z s (StpE.refl R) R.lx)
theorem AllT.andF {es : List Expr} (h : Tr c n sc loc ls e false ls1) : AllT c n sc loc .And ls (e :: es) false ls1 := .of fun F A hr hs z mu s Q E R hq => wpAny_bind (h.go F A hr hs z mu s _ _ R fun z1 s1 S1 L1 => wpAny_pure (hq z1 s1 S1 L1))
theorem AllT.andT (H : Hy c) {es : List Expr} (h : Tr c n sc loc ls e true ls1) (h2 : AllT c n sc loc .And ls1 es t ls2) : AllT c n sc loc .And ls (e :: es) t ls2 := .of fun F A hr hs z mu s Q E R hq => wpAny_bind (h.go F A hr hs z mu s _ _ R fun z1 s1 S1 L1 => h2.go F A hr hs z1 mu s1 _ _ (R.stpE H S1 L1) fun z2 s2 S2 L2 => hq z2 s2 (S1.trans S2) L2)
theorem AllT.orF (H : Hy c) {es : List Expr} (h : Tr c n sc loc ls e false ls1) (h2 : AllT c n sc loc .Or ls1 es t ls2) : AllT c n sc loc .Or ls (e :: es) t ls2 := .of fun F A hr hs z mu s Q E R hq => wpAny_bind (h.go F A hr hs z mu s _ _ R fun z1 s1 S1 L1 => h2.go F A hr hs z1 mu s1 _ _ (R.stpE H S1 L1) fun z2 s2 S2 L2 => hq z2 s2 (S1.trans S2) L2)
theorem Tr.boolop {op : BoolOp} {es : List Expr} (h : AllT c n sc loc op ls es t ls1) : Tr c n sc loc ls (.BoolOp op es pos) t ls1 := .of fun F A hr hs z mu s Q E R hq => wpAny_isTrue_BoolOp (h.go F A hr hs z mu s _ _ R hq)
theorem Ev.orT {l r : Expr} (h1 : Ev c n sc loc ls l (.bool true) y ls1) : Ev c n sc loc ls (.BoolOp .Or [l, r] pos) (.bool true) true ls1 := .of fun F A hr hs z mu s Q E R hq => wpAny_Or2 (h1.go F A hr hs z mu s _ _ R fun z1 v s1 S1 L1 r1 => by
  rw [(r1.t.i : v = _)]
  exact wpAny_truthy_bool (hq z1 _ s1 S1 L1 (.bool _)))
theorem Ev.orF (H : Hy c) {l r : Expr} (h1 : Ev c n sc loc ls l (.bool false) y ls1) (h2 : Ev c n sc loc ls1 r d u ls2) : Ev c n sc loc ls (.BoolOp .Or [l, r] pos) d u ls2 := .of fun F A hr hs z mu s Q E R hq => wpAny_Or2 (h1.go F A hr hs z mu s _ _ R fun z1 v s1 S1 L1 r1 => by
  rw [(r1.t.i : v = _)]
  exact wpAny_truthy_bool (h2.go F A hr hs z1 mu s1 _ _ (R.stpE H S1 L1) fun z2 v s2 S2 L2 r2 => hq z2 v s2 (S1.trans S2) L2 r2))
theorem new_of (R : Rep c F z mu loc ls s) {z1 : Addr → Prop} {s1 : Shared} (S1 : StpE c z s z1 s1) {I : Addr} (hI : s1.heap.get? I = none) : s.heap.get? I = none := by
  cases e : s.heap.get? I with
  | none => rfl
  | some o => exact absurd rfl (alive_ne (S1.al _ ⟨o, e⟩) hI)
theorem list_evN (H : Hy c) (hr : Room A n) (hs : ScOK F sc) {es : List Expr} {ds : List D} (h : Evs c n sc loc ls es (fz ds) ls') (hf : ds.length ≤ 1000000) : EvN c F A loc ls (eval (.List es pos) F.env) (.list ds) ls' := by
  intro z mu s Q E R hq
  refine wpAny_List (evs_ok H hr hs pos h z mu s _ _ R fun z1 vs s1 S1 L1 r1 => ⟨by rw [r1.fz.len]; exact million hf, ?_⟩)
  have R1 := R.stpE H S1 L1
  have hk : ∀ b o, s1.heap.get? b = some o → (s1.heap.push { cls := .type "list", data := .seq vs.toArray }).get? b = some o := fun b o e => Heap.get?_push_of_some _ e
  exact hq z1 s1.heap.objs.size _ (S1.trans (StpE.same (tk := s1.toks) R1 hk)) (R1.lx.keep H hk) (new_of R S1 (get_size _)) ⟨_, Heap.get?_push_size _ rfl⟩ (Off.fresh H R1 (get_size _)).2 (.list ⟨_, Heap.get?_push_size _ rfl⟩ (r1.fz.mono (fun _ h => h) fun a o _ e => hk a o e))
theorem Ev.list (H : Hy c) {es : List Expr} {ds : List D} (h : Evs c n sc loc ls es (fz ds) ls') (hf : ds.length ≤ 1000000) : Ev c n sc loc ls (.List es pos) (.list ds) true ls' := .of fun F A hr hs => (list_evN H hr hs h hf).ok
theorem Ev.tuple (H : Hy c) {es : List Expr} {ds : List D} (h : Evs c n sc loc ls es (fz ds) ls') (hf : ds.length ≤ 1000000) : Ev c n sc loc ls (.Tuple es k pos) (.tup ds) true ls' := by
  refine .of ?_
  intro F A hr hs z mu s Q E R hq
  refine wpAny_Tuple (evs_ok H hr hs pos h z mu s _ _ R fun z1 vs s1 S1 L1 r1 => ⟨by rw [r1.fz.len]; exact million hf, ?_⟩)
  exact push_frozen (Q := Q) (tk := s1.toks) (d := .tup ds) H (R.stpE H S1 L1) rfl (fun z' h' hz hk hO e => .tup hO ⟨_, e⟩ (r1.fz.mono hz hk)) fun z' r s' S' L' r' => hq z' r s' (S1.trans S') L' r'
theorem big_size (H : Hy c) (R : Rep c F z mu loc ls s) : 1 < s.heap.objs.size := let ⟨_, _, e, h⟩ := H.big; Nat.lt_trans h (Heap.lt_size (R.kin _ _ e))
theorem nsys {O : Addr} (h : 1 < O) : (O == sysModules) = false := beq_eq_false_iff_ne.mpr (Nat.ne_of_gt h)
theorem dict0_evN (H : Hy c) : EvN c F A loc ls (eval (.Dict [] [] pos) F.env) (.dict []) ls := by
  intro z mu s Q E R hq
  have hk : ∀ b o, s.heap.get? b = some o → (s.heap.push { cls := .type "dict", data := .dict #[] }).get? b = some o := fun b o e => Heap.get?_push_of_some _ e
  exact wpAny_Dict_empty (hq z s.heap.objs.size _ (StpE.same (tk := s.toks) R hk) (R.lx.keep H hk) (get_size _) ⟨_, Heap.get?_push_size _ rfl⟩ (Off.fresh H R (get_size _)).2 (.dict (nsys (big_size H R)) (Heap.DictOf.new _) .nil))
theorem Ev.dict0 (H : Hy c) : Ev c n sc loc ls (.Dict [] [] pos) (.dict []) true ls := .of fun F A _ _ => (dict0_evN H).ok
theorem dict1_evN (H : Hy c) (hr : Room A n) (hs : ScOK F sc) {q w : Expr} {g : Str} (h1 : Ev c n sc loc ls q (.str g) x ls1) (h2 : Ev c n sc loc ls1 w d true ls') : EvN c F A loc ls (eval (.Dict [some q] [w] pos) F.env) (.dict [(g, d)]) ls' := by
  intro z mu s Q E R hq
  refine wpAny_Dict_pairs (knd := strKind c.prog c.w) (pairs := [(eval q F.env, do let x ← eval w F.env; standAt pos; pure x)]) rfl (by simp) (by simp) ?_
  have hk : ∀ b o, s.heap.get? b = some o → (s.heap.push { cls := .type "dict", data := .dict #[] }).get? b = some o := fun b o e => Heap.get?_push_of_some _ e
  have S0 : StpE c z s z { s with heap := s.heap.push { cls := .type "dict", data := .dict #[] } } := StpE.same (tk := s.toks) R hk
  have R0 := R.stpE H S0 (R.lx.keep H hk)
  obtain ⟨hO, nz⟩ := Off.fresh H R (get_size s.heap)
  have p0 : (s.heap.push { cls := .type "dict", data := .dict #[] }).DictOf (strKind c.prog c.w) s.heap.objs.size [] := Heap.DictOf.new _
  have a0 : Al (s.heap.push { cls := .type "dict", data := .dict #[] }) s.heap.objs.size := ⟨_, Heap.get?_push_size _ rfl⟩
  refine wpAny_bind (h1.go F A hr hs z mu _ _ _ R0 fun z1 kv s1 S1 L1 r1 => ?_)
  have R1 := R0.stpE H S1 L1
  obtain ⟨t, rfl⟩ := r1.t.i
  refine wpAny_bind (wpAny_holding (wpAny_bind (h2.go F A hr hs z1 mu s1 _ _ R1 fun z2 vv s2 S2 L2 r2 => wpAny_bind (wpAny_standAt (wpAny_pure ?_)))))
  have R2 := R1.stpE H S2 L2
  have S12 := S1.trans S2
  refine wpAny_bind (wpAny_holding (wpAny_pure (wpAny_pure ⟨[(g, vv)], ⟨strKind_is _ _ _ _, rfl, trivial⟩, dictOf_at p0 (fun o e => S12.kp _ o e fun k => hO.nx (lexall_of k)), fun h' p' hs' => ?_⟩)))
  have ne : ∀ a, Al s.heap a → a ≠ s.heap.objs.size := fun a x => alive_ne x (get_size _)
  have nz2 : ¬ z2 s.heap.objs.size := fun k => nz (S12.zn _ a0 k)
  have hk2 : ∀ a o, a ≠ s.heap.objs.size → s2.heap.get? a = some o → h'.get? a = some o := fun a o n e => hs'.extBut a o n e
  exact hq z2 s.heap.objs.size _ ⟨fun a h => let ⟨o, e⟩ := S12.al a (S0.al a h); ⟨o, hk2 a o (ne a h) e⟩, fun a h => S12.zz a h, fun a h k => S12.zn a (S0.al a h) k, fun a h => let ⟨o, e⟩ := R2.zal a h; ⟨o, hk2 a o (fun e' => nz2 (e' ▸ h)) e⟩, R2.zl, fun b o e nl => hk2 b o (ne b ⟨o, e⟩) (S12.kp b o (hk b o e) nl), S12.ge, S12.os, S12.dr⟩ (R2.lx.but H hO.nx fun b o n e => hk2 b o n e) (get_size _) (let ⟨o, _, _, e, _⟩ := p'; ⟨o, e⟩) nz2 (.dict (nsys (big_size H R)) p' (.cons (Rd.mono (fun _ h => h) (fun a o za e => hk2 a o (fun e' => nz2 (e' ▸ za)) e) r2) .nil))
theorem Ev.dict1 (H : Hy c) {q w : Expr} {g : Str} (h1 : Ev c n sc loc ls q (.str g) x ls1) (h2 : Ev c n sc loc ls1 w d true ls') : Ev c n sc loc ls (.Dict [some q] [w] pos) (.dict [(g, d)]) true ls' := .of fun F A hr hs => (dict1_evN H hr hs h1 h2).ok
noncomputable def IntPart (v : Value) : Option Int → Prop
  | none => v = .none
  | some i => ∃ t, v = .int i t
theorem IntPart.part {v : Value} {o : Option Int} (h : IntPart v o) : IsPart v o := by
  cases o with
  | none => cases (h : v = _); exact .none
  | some i => obtain ⟨t, rfl⟩ := h; exact .int i t
theorem part_ok (hr : Room A n) (hs : ScOK F sc) {e : Option Expr} {o : Option Int} (h : Part c n sc loc ls e o ls1) {Q : Value → Shared → Prop} {E : Value → Shared → Prop} (R : Rep c F z mu loc ls s)
    (hq : ∀ z' v s', StpE c z s z' s' → LexOK c ls1 s'.heap → IntPart v o → Q v s') : wpAny (model c.prog c.w) A (evalPart e F.env) Q E s := by
  cases h with
  | none => exact evalPart_none_step (hq z .none s (StpE.refl R) R.lx rfl)
  | some he => exact evalPart_some_step (he.go F A hr hs z mu s _ _ R fun z1 v s1 S1 L1 r1 => hq z1 _ s1 S1 L1 (r1.t.i : ∃ t, v = .int _ t))
end
structure ClsG (c : Cx) (f : Str) (C : Addr) (attr : Str) (rm : Nat) : Prop where
  mg : c.mg f = some (.ref C)
  kp : keepIn c.K (.ref C) = true
  call : ∀ (F : FC) (A : Around) (z mu : Addr → Prop) (loc : Loc) (ls : LS) (s : Shared) (Q E : Value → Shared → Prop) (v : Value) (d : D), Room A rm → Rep c F z mu loc ls s → Rd c z s.heap v d →
      (∀ z' r s', StpE c z s z' s' → LexOK c ls s'.heap → Rd c z' s'.heap r (.inst C [(attr, d)]) → Q r s') → wpAny (model c.prog c.w) A (PySem.call (.ref C) [v]) Q E s
structure MethG (c : Cx) (C : Addr) (nm : Str) (fn : Fn) : Prop where
  ok : FnOK c fn
  kp : keepIn c.K (.ref fn.addr) = true
  get : ∀ (A : Around) (z : Addr → Prop) (s : Shared) (a : Addr) (l : List (Str × D)) (pl : Sem Bool) (Q : Value × List Value → Shared → Prop) (E : Value → Shared → Prop),
    c.K.In s.heap → Rd c z s.heap (.ref a) (.inst C l) → lookD nm l = none → Q (.ref fn.addr, [.ref a]) s → wpAny (model c.prog c.w) A (getMethod (.ref a) nm pl) Q E s
def AttG (c : Cx) (C : Addr) (nm : Str) : Prop := ∀ (A : Around) (z : Addr → Prop) (s : Shared) (a : Addr) (l : List (Str × D)) (r : D) (Q E : Value → Shared → Prop), c.K.In s.heap → Rd c z s.heap (.ref a) (.inst C l) → lookD nm l = some r →
    (∀ v tk, Rd c z s.heap v r → Q v { s with toks := tk }) → wpAny (model c.prog c.w) A (getAttr (.ref a) nm true) Q E s
structure LexG (c : Cx) (nm : Str) (f : Addr) (rm : Nat) (lm : LX → List D → D → LX → Prop) : Prop where
  kp : keepIn c.K (.ref f) = true
  get : ∀ x lx, c.X = some x → ∀ (A : Around) (s : Shared) (pl : Sem Bool) (Q : Value × List Value → Shared → Prop) (E : Value → Shared → Prop),
    c.K.In s.heap → c.P x lx s.heap → Q (.ref f, [.ref x.x]) s → wpAny (model c.prog c.w) A (getMethod (.ref x.x) nm pl) Q E s
  call : ∀ lx as r lx', lm lx as r lx' → ∀ x, c.X = some x → ∀ (F : FC) (A : Around) (z mu : Addr → Prop) (loc : Loc) (s : Shared) (Q E : Value → Shared → Prop) (vs : List Value), Room A rm → Rep c F z mu loc (some lx) s → Rds c z s.heap vs as →
      (∀ z' v s', StpE c z s z' s' → LexOK c (some lx') s'.heap → Rd c z' s'.heap v r → Q v s') → wpAny (model c.prog c.w) A (PySem.call (.ref f) (.ref x.x :: vs)) Q E s
def LexA (c : Cx) (nm : Str) (la : LX → D) : Prop := ∀ lx x, c.X = some x → ∀ (A : Around) (z : Addr → Prop) (s : Shared) (Q E : Value → Shared → Prop), c.K.In s.heap → c.P x lx s.heap → (∀ v tk, Rd c z s.heap v (la lx) → Q v { s with toks := tk }) → wpAny (model c.prog c.w) A (getAttr (.ref x.x) nm true) Q E s
def At0 (c : Cx) : Prop := ∀ x lx, c.X = some x → ∀ (A : Around) (s : Shared) (Q E : Value → Shared → Prop) (t : Tok), c.P x lx s.heap → (∀ u tk, Q (.int lx.pos u) { s with toks := tk }) →
    s.TypeIs (.ref x.at') "list" ∧ wpAny (model c.prog c.w) A (getItem (.ref x.at') (.int 0 t)) Q E s
structure FitG (c : Cx) (rm : Nat) (nx : LX → Option D → LX → Prop) : Prop where
  next : ∀ lx r lx', nx lx r lx' → ∀ x, c.X = some x → ∀ (F : FC) (A : Around) (z mu : Addr → Prop) (loc : Loc) (s : Shared) (Q : Option Value → Shared → Prop) (E : Value → Shared → Prop), Room A rm → Rep c F z mu loc (some lx) s →
      (∀ z' v s', StpE c z s z' s' → LexOK c (some lx') s'.heap → (match r, v with | none, none => True | some d, some u => Rd c z' s'.heap u d | _, _ => False) → Q v s') → wpAny (model c.prog c.w) A (pyNext (.ref x.it)) Q E s
  iter : ∀ lx, (∃ r lx', nx lx r lx') → ∀ x, c.X = some x → ∀ (A : Around) (s : Shared) (Q E : Value → Shared → Prop), c.P x lx s.heap → Q (.ref x.it) s → wpAny (model c.prog c.w) A (pyIter (.ref x.it)) Q E s
structure IsTup (c : Cx) : Prop where
  n1 : c.mg "isinstance" = none
  n2 : c.mb "isinstance" = some (.builtin "isinstance")
  n3 : c.mg "tuple" = none
  n4 : c.mb "tuple" = some (.type "tuple")
  is : ∀ (A : Around) (s : Shared) (Q E : Value → Shared → Prop) (i : Int) (t : Tok), c.K.In s.heap → (∀ tk, Q (.bool false) { s with toks := tk }) → wpAny (model c.prog c.w) A (PySem.call (.builtin "isinstance") [.int i t, .type "tuple"]) Q E s
section
variable {c : Cx} {F : FC} {A : Around} {loc loc' : Loc} {ls ls1 ls2 ls3 ls' : LS} {d a b r : D} {x y t u : Bool} {n rm : Nat} {sc : Scope} {l e v i o : Expr} {pos p p' ap : Pos} {k : Nat} {z mu : Addr → Prop} {s : Shared} {f nm w : Str} {C : Addr} {attr : Str} {as : List (D × Bool)} {ds : List D} {args : List Expr} {fl : List (Str × D)} {g : Fn} {lx lx' : LX}
theorem Ev.cls (H : Hy c) (hc : ClsG c f C attr rm) (hn : rm ≤ n) (hg : isGlob sc loc f = true) (ha : Evs c n sc loc ls args (fz [d]) ls1) : Ev c n sc loc ls (.Call (.Name f p) args [] pos) (.inst C [(attr, d)]) true ls1 := .of fun F A hr hs z mu s Q E R hq =>
  wpAny_Call_NameR (name_glob H R hs hg (.inl hc.mg) (call_with (P := c.K.In) ha.plain (keeps_K hc.kp) (evs_ok H hr hs pos ha z mu s _ _ R fun z1 vs s1 S1 L1 r1 => by
    have R1 := R.stpE H S1 L1
    obtain ⟨v, rfl, rv⟩ := one_arg r1
    obtain ⟨v', vs', e, rv, _⟩ := r1.i
    cases e
    exact ⟨R1.kin, hc.call F A z1 mu loc _ s1 Q E _ d (hr.mono hn) R1 rv fun z2 r s2 S2 L2 rd => hq z2 r s2 (S1.trans S2) L2 rd⟩)))
theorem Ev.own (H : Hy c) (hm : MethG c C nm g) (hb : BaseOK o) (hl : (ap.endLine == pos.line) = true) (hn : args.length < 20) (ho : Ev c (n + 1) sc loc ls o (.inst C fl) x ls1) (hf : lookD nm fl = Option.none) (ha : Evs c (n + 1) sc loc ls1 args as ls2) (h : Cl c n g ((.inst C fl, x) :: as) ls2 r ls3) : Ev c (n + 1) sc loc ls (.Call (.Attribute o nm ap) args [] pos) r true ls3 := by
  refine .of ?_
  intro F A hr hs z mu s Q E R hq
  refine call_method hb ha.plain hn hl (ho.go F A hr hs z mu s _ _ R fun z1 ov s1 S1 L1 r1 pl => ?_)
  have R1 := R.stpE H S1 L1
  have rx : Rd c z1 s1.heap ov (.inst C fl) := by
    cases x with
    | true => exact r1
    | false => exact r1.elim id fun ⟨_, _, _, q⟩ => (q.i : False).elim
  obtain ⟨y, rfl, _⟩ := rx.i
  exact hm.get A z1 s1 y fl pl _ _ R1.kin rx hf (call_with (P := c.K.In) ha.plain (keeps_K hm.kp) (evs_ok H hr hs pos ha z1 mu s1 _ _ R1 fun z2 vs s2 S2 L2 r2 =>
    have R2 := R1.stpE H S2 L2
    ⟨R2.kin, callF_ok H hr hm.ok h R2 (.cons (r1.step S2 R1.zl) r2) fun z3 r s3 S3 L3 rd => hq z3 r s3 ((S1.trans S2).trans S3) L3 rd⟩))
theorem Ev.lexM (H : Hy c) {fa : Addr} {lm : LX → List D → D → LX → Prop} (hm : LexG c nm fa rm lm) (hrm : rm ≤ n) (hb : BaseOK o) (hl : (ap.endLine == pos.line) = true) (hn : args.length < 20) (ho : Ev c n sc loc ls o .lex x ls1) (ha : Evs c n sc loc ls1 args (fz ds) (some lx)) (h : lm lx ds r lx') : Ev c n sc loc ls (.Call (.Attribute o nm ap) args [] pos) r true (some lx') := by
  refine .of ?_
  intro F A hr hs z mu s Q E R hq
  refine call_method hb ha.plain hn hl (ho.go F A hr hs z mu s _ _ R fun z1 ov s1 S1 L1 r1 pl => ?_)
  have R1 := R.stpE H S1 L1
  obtain ⟨y, ex, rfl⟩ := r1.t.i
  obtain ⟨lx1, _, hP1⟩ := L1.get ex
  exact hm.get y lx1 ex A s1 pl _ _ R1.kin hP1 (call_with (P := c.K.In) ha.plain (keeps_K hm.kp) (evs_ok H hr hs pos ha z1 mu s1 _ _ R1 fun z2 vs s2 S2 L2 r2 =>
    have R2 := R1.stpE H S2 L2
    ⟨R2.kin, hm.call lx ds r lx' h y ex F A z2 mu loc s2 Q E vs (hr.mono hrm) R2 r2.fz fun z3 r s3 S3 L3 rd => hq z3 r s3 ((S1.trans S2).trans S3) L3 rd⟩))
theorem Ev.att (H : Hy c) (hm : AttG c C nm) (ho : Ev c n sc loc ls (.Name w p) (.inst C fl) true ls1) (hf : lookD nm fl = some r) : Ev c n sc loc ls (.Attribute (.Name w p) nm pos) r true ls1 := by
  refine .of ?_
  intro F A hr hs z mu s Q E R hq
  rw [arm_eval_Attribute, base_name nm F.env]
  refine wpAny_bind (ho.go F A hr hs z mu s _ _ R fun z1 v s1 S1 L1 r1 => ?_)
  have R1 := R.stpE H S1 L1
  obtain ⟨y, rfl, _⟩ := Rd.i r1
  exact wpAny_bind (wpAny_standAt (wpAny_bind (wpAny_holding (hm A z1 s1 y fl r _ _ R1.kin r1 hf fun v tk rv => wpAny_bind (wpAny_pure (wpAny_pure (hq z1 v _ (S1.trans (StpE.toks R1 tk)) R1.lx rv)))))))
theorem Ev.lexA (H : Hy c) {la : LX → D} (hm : LexA c nm la) (ho : Ev c n sc loc ls (.Name w p) .lex x (some lx)) : Ev c n sc loc ls (.Attribute (.Name w p) nm pos) (la lx) true (some lx) := by
  refine .of ?_
  intro F A hr hs z mu s Q E R hq
  rw [arm_eval_Attribute, base_name nm F.env]
  refine wpAny_bind (ho.go F A hr hs z mu s _ _ R fun z1 v s1 S1 L1 r1 => ?_)
  have R1 := R.stpE H S1 L1
  obtain ⟨y, ex, rfl⟩ := r1.t.i
  obtain ⟨lx1, e, hP⟩ := L1.get ex
  cases e
  exact wpAny_bind (wpAny_standAt (wpAny_bind (wpAny_holding (hm lx y ex A z1 s1 _ _ R1.kin hP fun v tk rv => wpAny_bind (wpAny_pure (wpAny_pure (hq z1 v _ (S1.trans (StpE.toks R1 tk)) R1.lx rv)))))))
theorem Ev.at0 (H : Hy c) (hT : At0 c) (hi : SubsOK i) (h1 : Ev c n sc loc ls v .atl x ls1) (h2 : Ev c n sc loc ls1 i (.int 0) y (some lx)) : Ev c n sc loc ls (.Subscript v i pos) (.int lx.pos) true (some lx) := .of fun F A hr hs z mu s Q E R hq =>
  Subscript_ (ev_two H (h1.go F A hr hs) (h2.go F A hr hs) R fun z1 v w s1 S1 L1 r1 r2 => by
    have R1 := R.stpE H S1 L1
    obtain ⟨t, rfl⟩ := r2.t.i
    obtain ⟨y, ex, rfl⟩ := r1.t.i
    obtain ⟨lx1, e, hP⟩ := L1.get ex
    cases e
    obtain ⟨h4, h5⟩ := hT y lx ex A s1 Q E t hP fun u tk => hq z1 _ _ (S1.trans (StpE.toks R1 tk)) R1.lx (.int _ _)
    exact tail_any h4 slot_list_getitem.lookup h5 (hi _ _))
theorem Ev.isTup (H : Hy c) (hi : IsTup c) (hst : isStarred e = false) (gf : isGlob sc loc "isinstance" = true) (gt : isGlob sc loc "tuple" = true) {q : Int} (h : Ev c n sc loc ls e (.int q) x ls1) : Ev c n sc loc ls (.Call (.Name "isinstance" p) [e, .Name "tuple" p'] [] pos) (.bool false) true ls1 := by
  refine .of ?_
  intro F A hr hs z mu s Q E R hq
  refine wpAny_Call_NameR (name_glob H R hs gf (.inr ⟨hi.n1, hi.n2⟩) (call_with (P := fun _ => True) (by rw [List.any_cons, hst]; rfl) (fun h _ => keep_non (f := .builtin "isinstance") (fun a e => nomatch e) h) ?_))
  rw [starEach_cons hst, starEach_cons (show isStarred (.Name "tuple" p') = false from rfl)]
  refine Calls.spliced_cons (h.go F A hr hs z mu s _ E R fun z1 v s1 S1 L1 r1 => ?_)
  have R1 := R.stpE H S1 L1
  obtain ⟨t, rfl⟩ := r1.t.i
  exact Calls.spliced_cons (name_glob H R1 hs gt (.inr ⟨hi.n3, hi.n4⟩) (Calls.spliced_nil ⟨trivial, hi.is A s1 _ _ q t R1.kin fun tk => hq z1 _ _ (S1.trans (StpE.toks R1 tk)) R1.lx (.bool _)⟩))
theorem Rds.take {h : Heap} {ds : List D} : ∀ {vs : List Value}, Rds c z h vs ds → ∀ k : Nat, Rds c z h (vs.take k) (ds.take k) := by
  induction ds with
  | nil => intro vs r k; cases (r.i : vs = []); cases k <;> exact .nil
  | cons d ds ih =>
    intro vs r k
    obtain ⟨v, vs, rfl, r0, rs⟩ := r.i
    cases k with
    | zero => exact .nil
    | succ k => exact .cons r0 (ih rs k)
theorem letgo_name : ∀ o r, letTemporaryGo (.Name w p) o r = pure () := fun _ _ => rfl
theorem Ev.sliceL (H : Hy c) {lo hi : Option Expr} {ld : List D} {q : Int} (h1 : Ev c n sc loc ls (.Name w p) (.list ld) x ls1) (h2 : Part c n sc loc ls1 lo Option.none ls2) (h3 : Part c n sc loc ls2 hi (some q) ls3) (h0 : 0 ≤ q) (hq1 : q ≤ ld.length) (hf : ld.length ≤ 1000000) : Ev c n sc loc ls (.Subscript (.Name w p) (.Slice lo hi Option.none p') pos) (.list (ld.take q.toNat)) true ls3 := by
  refine .of ?_
  intro F A hr hs z mu s Q E R hq
  refine wpAny_Subscript_list_slice (h1.go F A hr hs z mu s _ _ R fun z1 ov s1 S1 L1 r1 => ?_) letgo_name
  have R1 := R.stpE H S1 L1
  refine part_ok hr hs h2 R1 fun z2 vl s2 S2 L2 hl => ?_
  have R2 := R1.stpE H S2 L2
  refine part_ok hr hs h3 R2 fun z3 vu s3 S3 L3 hu => ?_
  have R3 := R2.stpE H S3 L3
  obtain ⟨a, vs, rfl, pl, rs⟩ := ((r1.step S2 R1.zl).step S3 R2.zl).t.i
  have hlen := rs.len
  refine ⟨a, vs.toArray, Option.none, some q, rfl, pl.isList, by rw [List.size_toArray, hlen]; exact million hf, hl.part, hu.part, ?_⟩
  rw [show q = ((q.toNat : Nat) : Int) by omega, slicePick_upto _ _ (by rw [List.size_toArray]; omega)]
  have k1 : ∀ (q' : Addr) o, s3.heap.get? q' = some o → ((s3.heap.push { cls := .type "slice", data := .fields #[vl, vu, .none] }).push { cls := .type "list", data := .seq (vs.take q.toNat).toArray }).get? q' = some o := fun q o e => Heap.get?_push_of_some _ (Heap.get?_push_of_some _ e)
  have hnew := Heap.get?_push_size (s3.heap.push { cls := .type "slice", data := .fields #[vl, vu, .none] }) (o := { cls := .type "list", data := .seq (vs.take q.toNat).toArray }) rfl
  rw [Heap.size_push] at hnew
  have S4 := StpE.keep (tk := s3.toks) R3 k1 (fun q => q = s3.heap.objs.size + 1) fun q e => by
    subst e
    exact ⟨Heap.get?_none_of_le (Nat.le_succ _), ⟨_, hnew⟩⟩
  exact hq _ _ _ (((S1.trans S2).trans S3).trans S4) (L3.keep H k1) (Rd.list (.inr rfl) ⟨0, hnew⟩ (Rds.mono (fun _ h => .inl h) (fun q o _ e => k1 q o e) (rs.take q.toNat)))
theorem Ev.sliceS (H : Hy c) {lo hi : Option Expr} {g : Str} {q q' : Int} (h1 : Ev c n sc loc ls (.Name w p) (.str g) x ls1) (h2 : Part c n sc loc ls1 lo (some q) ls2) (h3 : Part c n sc loc ls2 hi (some q') ls3) (hf : g.length ≤ 1000000) : Ev c n sc loc ls (.Subscript (.Name w p) (.Slice lo hi Option.none p') pos) (.str (Txt.slice g (some q) (some q'))) true ls3 := by
  refine .of ?_
  intro F A hr hs z mu s Q E R hq
  refine wpAny_Subscript_str_slice (h1.go F A hr hs z mu s _ _ R fun z1 ov s1 S1 L1 r1 => ?_) letgo_name
  obtain ⟨t, rfl⟩ := r1.t.i
  have R1 := R.stpE H S1 L1
  refine part_ok hr hs h2 R1 fun z2 vl s2 S2 L2 hl => ?_
  have R2 := R1.stpE H S2 L2
  refine part_ok hr hs h3 R2 fun z3 vu s3 S3 L3 hu => ?_
  have R3 := R2.stpE H S3 L3
  obtain ⟨tl, rfl⟩ := hl
  obtain ⟨tu, rfl⟩ := hu
  refine ⟨g, t, some (q, tl), some (q', tu), rfl, rfl, rfl, post_val_or_str ⟨Nat.le_trans (Txt.slice_le g _ _) (million hf), fun t' k => ?_⟩⟩
  exact hq _ _ _ (((S1.trans S2).trans S3).trans (StpE.push (tk := k) R3 (o := { cls := .type "slice", data := .fields #[.int q tl, .int q' tu, .none] }) rfl)) (L3.keep H fun q o e => Heap.get?_push_of_some _ e) (Rd.str _ _)
end
inductive Trs (c : Cx) (n : Nat) (sc : Scope) (loc : Loc) : LS → List Expr → Bool → LS → Prop
  | nil {ls} : Trs c n sc loc ls [] true ls
  | cons {ls ls1 ls2 e r t} : Tr c n sc loc ls e true ls1 → Trs c n sc loc ls1 r t ls2 → Trs c n sc loc ls (e :: r) t ls2
  | stop {ls ls1 e r} : Tr c n sc loc ls e false ls1 → Trs c n sc loc ls (e :: r) false ls1
def BodyW (c : Cx) (A : Around) (e : Expr) (gens : List Comprehension) (emit : Sem Unit) (depth : Nat) (acc : Value) (env : Env) (Q : Shared → Prop) (s : Shared) : Prop := match gens[depth + 1]? with
  | some g' => wpAny (model c.prog c.w) A (eval g'.iter env) (fun x s1 => wpAny (model c.prog c.w) A (pyIter x) (fun it s2 => wpAny (model c.prog c.w) A (runOwn (.compStart e (depth + 1) it acc env) env) (fun _ s3 => Q s3) (fun _ _ => False) s2) (fun _ _ => False) s1) (fun _ _ => False) s
  | none => wpAny (model c.prog c.w) A emit (fun _ s' => Q s') (fun _ _ => False) s
def TurnRule (c : Cx) (A : Around) (e : Expr) (gens : List Comprehension) (emit : Sem Unit) (acc : Value) (env : Env) : Prop :=
  ∀ (depth : Nat) (g : Comprehension) (it : Value) (R : Result → Shared → Prop) (s : Shared), gens[depth]? = some g → g.is_async = 0 → (∀ g', gens[depth + 1]? = some g' → g'.is_async = 0 ∧ isSet g'.iter = false) →
    wpAny (model c.prog c.w) A (pyNext it) (fun r s₁ => match r with
      | none => R (.ok .next) s₁
      | some v => wpAny (model c.prog c.w) A (letOwnedTupleGo g.target it v) (fun _ s₁' => wpAny (model c.prog c.w) A (assign g.target env v) (fun _ s₂ =>
          wpAny (model c.prog c.w) A (forIn g.ifs true fun c r => if r = true then do let ok ← isTrue c env (eval c env); pure (ForInStep.yield ok) else pure (ForInStep.yield r)) (fun ok s₃ =>
            if ok = true then BodyW c A e gens emit depth acc env (fun s₄ => codeAny (model c.prog c.w) A (.compLoop e depth it acc env) R s₄) s₃
            else codeAny (model c.prog c.w) A (.compLoop e depth it acc env) R s₃) (fun _ _ => False) s₂) (fun _ _ => False) s₁') (fun _ _ => False) s₁) (fun _ _ => False) s →
    codeAny (model c.prog c.w) A (.compLoop e depth it acc env) R s
theorem folded_id {e : Expr} (h : isSet e = false) (env : Env) (x : Value) : foldedSetIterable e env x = pure x := by
  cases e <;> first | rfl | exact nomatch h
def StartRule (c : Cx) (A : Around) (e : Expr) (gens : List Comprehension) (acc : Value) (env : Env) : Prop :=
  ∀ (depth : Nat) (g : Comprehension) (it : Value) (R : Result → Shared → Prop) (s : Shared), gens[depth]? = some g → g.is_async = 0 → codeAny (model c.prog c.w) A (.compLoop e depth it acc env) R s →
    wpAny (model c.prog c.w) A (pyIter it) (fun it' s' => codeAny (model c.prog c.w) A (.compLoop e depth it' acc env) R s') (fun _ _ => False) s → codeAny (model c.prog c.w) A (.compStart e depth it acc env) R s
def NoOwn (loc : Loc) : Prop := ∀ x lv, loc.lookup x = some lv → lv.k ≠ .own
theorem NoOwn.set {loc : Loc} {x : Str} {d : D} (h : NoOwn loc) : NoOwn (setL x ⟨.fz, d⟩ loc) := by
  intro y lv e
  rw [lookup_setL] at e
  split at e
  · rw [← Option.some.inj e]; exact fun h => nomatch h
  · exact h y lv e
theorem NoOwn.bind {loc loc' : Loc} {sc : Scope} {t : Expr} {d : D} (h : NoOwn loc) (hb : Bind sc t d loc loc') : NoOwn loc' := by
  cases hb with
  | name => exact h.set
  | two => exact h.set.set
def AccMono {α : Type} (O : Addr) (AccR : (Addr → Prop) → Heap → α → Prop) : Prop :=
  ∀ (z z' : Addr → Prop) (h h' : Heap) (a : α), (∀ x, z x → z' x) → (∀ x o, z x → h.get? x = some o → h'.get? x = some o) → (∀ o, h.get? O = some o → h'.get? O = some o) → AccR z h a → AccR z' h' a
noncomputable abbrev Cont (α : Type) := Loc → LS → α → Loc → α → LS → Prop
inductive CItems {α : Type} (c : Cx) (n : Nat) (sc : Scope) (g : Comprehension) (rest : Cont α) : List D → Loc → LS → α → Loc → α → LS → Prop
  | nil {loc ls acc} : CItems c n sc g rest [] loc ls acc loc acc ls
  | pass {d ds loc ls acc loc1 ls1 loc2 acc2 ls2 locE accE lsE} : Bind sc g.target d loc loc1 → Trs c n sc loc1 ls g.ifs true ls1 → rest loc1 ls1 acc loc2 acc2 ls2 → CItems c n sc g rest ds loc2 ls2 acc2 locE accE lsE → CItems c n sc g rest (d :: ds) loc ls acc locE accE lsE
  | skip {d ds loc ls acc loc1 ls1 locE accE lsE} : Bind sc g.target d loc loc1 → Trs c n sc loc1 ls g.ifs false ls1 → CItems c n sc g rest ds loc1 ls1 acc locE accE lsE → CItems c n sc g rest (d :: ds) loc ls acc locE accE lsE
noncomputable def CRest {α : Type} (c : Cx) (n : Nat) (sc : Scope) (em : Cont α) : List Comprehension → Cont α
  | [] => em
  | g :: gs => fun loc ls acc loc' acc' ls' => ∃ d ls1 items, isSet g.iter = false ∧ g.is_async = 0 ∧ Ev c n sc loc ls g.iter d true ls1 ∧ (isTup g.target = true → isList d = true) ∧ Iter d items ∧ CItems c n sc g (CRest c n sc em gs) items loc ls1 acc loc' acc' ls'
def RestOK {α : Type} (c : Cx) (F : FC) (A : Around) (mu : Addr → Prop) (O : Addr) (AccR : (Addr → Prop) → Heap → α → Prop) (e : Expr) (gens : List Comprehension) (emit : Sem Unit) (depth : Nat) (rest : Cont α) : Prop :=
  ∀ (z : Addr → Prop) (loc : Loc) (ls : LS) (acc : α) (loc' : Loc) (acc' : α) (ls' : LS) (s : Shared) (Q : Shared → Prop), rest loc ls acc loc' acc' ls' → Rep c F z mu loc ls s → NoOwn loc → AccR z s.heap acc →
    (∀ z' s', StpC z mu s z' s' → Rep c F z' mu loc' ls' s' → NoOwn loc' → AccR z' s'.heap acc' → Q s') → BodyW c A e gens emit depth (.ref O) F.env Q s
def EmitOK {α : Type} (c : Cx) (F : FC) (A : Around) (mu : Addr → Prop) (AccR : (Addr → Prop) → Heap → α → Prop) (emit : Sem Unit) (em : Cont α) : Prop :=
  ∀ (z : Addr → Prop) (loc : Loc) (ls : LS) (acc : α) (loc' : Loc) (acc' : α) (ls' : LS) (s : Shared) (Q : Shared → Prop), em loc ls acc loc' acc' ls' → Rep c F z mu loc ls s → NoOwn loc → AccR z s.heap acc →
      (∀ z' s', StpC z mu s z' s' → Rep c F z' mu loc' ls' s' → NoOwn loc' → AccR z' s'.heap acc' → Q s') → wpAny (model c.prog c.w) A emit (fun _ s' => Q s') (fun _ _ => False) s
structure Held (z0 : Addr → Prop) (s0 : Shared) (I : Addr) (P : Heap → Prop) (z : Addr → Prop) (s : Shared) : Prop where
  nz : ¬ z I
  zz : ∀ a, z0 a → z a
  zk : ∀ a o, z0 a → s0.heap.get? a = some o → s.heap.get? a = some o
  st : P s.heap
structure StpX (z : Addr → Prop) (I : Addr) (M : Addr → Prop) (s : Shared) (z' : Addr → Prop) (s' : Shared) : Prop where
  al : ∀ a, a ≠ I → Al s.heap a → Al s'.heap a
  zz : ∀ a, z a → z' a
  zn : ∀ a, a ≠ I → Al s.heap a → z' a → z a
  kp : ∀ b o, b ≠ I → s.heap.get? b = some o → ¬ M b → s'.heap.get? b = some o
  ge : s'.gens = s.gens
  os : s'.os = s.os
  dr : s'.drawn = s.drawn
theorem StpC.x {M : Addr → Prop} {I : Addr} (x : StpC z M s z' s') : StpX z I M s z' s' := ⟨fun a _ h => x.al a h, x.zz, fun a _ => x.zn a, fun b o _ => x.kp b o, x.ge, x.os, x.dr⟩
theorem StpX.trans {z1 z2 M : Addr → Prop} {I : Addr} {s1 s2 : Shared} (x : StpX z I M s z1 s1) (y : StpX z1 I M s1 z2 s2) : StpX z I M s z2 s2 :=
  ⟨fun a n h => y.al a n (x.al a n h), fun a h => y.zz a (x.zz a h), fun a n h k => x.zn a n h (y.zn a n (x.al a n h) k), fun b o n e m => y.kp b o n (x.kp b o n e m) m, y.ge.trans x.ge, y.os.trans x.os, y.dr.trans x.dr⟩
theorem StpX.butI {I : Addr} {M : Addr → Prop} {h' : Heap} {tk : Nat} (hk : ∀ b o, b ≠ I → s.heap.get? b = some o → h'.get? b = some o) : StpX z I M s z { s with heap := h', toks := tk } :=
  ⟨fun a n ⟨o, e⟩ => ⟨o, hk a o n e⟩, fun _ h => h, fun _ _ _ h => h, fun b o n e _ => hk b o n e, rfl, rfl, rfl⟩
section
variable {c : Cx} {A : Around}
theorem turn_list {elt : Expr} {gens : List Comprehension} {csc : Scope} {pos : Pos} {acc : Value} {env : Env} :
    TurnRule c A (.ListComp elt gens csc pos) gens (do let x ← eval elt env; let _ ← call (.builtin "list.append") [acc, x]; pure ()) acc env := by
  intro depth g it R s hg ha hg' h
  refine codeAny_of_tree ?_
  rw [show A.under (.compLoop (.ListComp elt gens csc pos) depth it acc env) = A from Around.under_of_weight rfl]
  show wpAny _ A ((compTurn (.ListComp elt gens csc pos) depth it acc env).onRaise (fun x => do noteFrame x env; theTreesLotGoes x)) _ _ s
  refine wpAny_noted ?_
  unfold compTurn
  simp only [hg, ha]
  refine wpAny_bind (wpAny_standAt ?_)
  rw [if_neg (by decide)]
  refine wpAny_bind (wpAny_mono h (fun r s₁ h₁ => ?_) fun _ _ x => x.elim)
  cases r with
  | none => exact wpAny_pure h₁
  | some v =>
    refine wpAny_bind (wpAny_mono h₁ (fun _ s₁' h₁' => wpAny_bind (wpAny_mono h₁' (fun _ s₂ h₂ => wpAny_bind (wpAny_mono h₂ (fun ok s₃ h₃ => ?_) fun _ _ x => x.elim)) fun _ _ x => x.elim)) fun _ _ x => x.elim)
    cases ok with
    | false => exact wpAny_pure ⟨rfl, h₃⟩
    | true =>
      rw [if_pos rfl] at h₃ ⊢
      unfold BodyW at h₃
      cases e : gens[depth + 1]? with
      | none =>
        rw [e] at h₃
        exact wpAny_bind (wpAny_mono h₃ (fun _ s₄ h₄ => wpAny_pure ⟨rfl, h₄⟩) fun _ _ x => x.elim)
      | some g' =>
        rw [e] at h₃
        obtain ⟨ha', hi'⟩ := hg' g' e
        simp only [ha', folded_id hi']
        refine wpAny_bind (wpAny_mono h₃ (fun x s4 h4 => wpAny_bind (wpAny_standAt ?_)) fun _ _ x => x.elim)
        rw [if_neg (by decide)]
        refine wpAny_bind (wpAny_pure (wpAny_bind (wpAny_holding ?_)))
        rw [if_neg (by decide)]
        exact wpAny_mono h4 (fun it' s5 h5 => wpAny_bind (wpAny_mono h5 (fun _ s6 h6 => wpAny_pure ⟨rfl, h6⟩) fun _ _ x => x.elim)) fun _ _ x => x.elim
theorem turn_dict {k vx : Expr} {gens : List Comprehension} {csc : Scope} {pos : Pos} {D : Addr} {env : Env} :
    TurnRule c A (.DictComp k vx gens csc pos) gens (do let kv ← eval k env; let vv ← holding [kv] (eval vx env); standAt { k.pos with endLine := vx.pos.endLine, endCol := vx.pos.endCol }; holding [kv, vv] (dictSet D kv vv)) (.ref D) env := by
  intro depth g it R s hg ha hg' h
  refine codeAny_of_tree ?_
  rw [show A.under (.compLoop (.DictComp k vx gens csc pos) depth it (.ref D) env) = A from Around.under_of_weight rfl]
  show wpAny _ A ((compTurn (.DictComp k vx gens csc pos) depth it (.ref D) env).onRaise (fun x => do noteFrame x env; theTreesLotGoes x)) _ _ s
  refine wpAny_noted ?_
  unfold compTurn
  simp only [hg, ha]
  refine wpAny_bind (wpAny_standAt ?_)
  rw [if_neg (by decide)]
  refine wpAny_bind (wpAny_mono h (fun r s₁ h₁ => ?_) fun _ _ x => x.elim)
  cases r with
  | none => exact wpAny_pure h₁
  | some v =>
    refine wpAny_bind (wpAny_mono h₁ (fun _ s₁' h₁' => wpAny_bind (wpAny_mono h₁' (fun _ s₂ h₂ => wpAny_bind (wpAny_mono h₂ (fun ok s₃ h₃ => ?_) fun _ _ x => x.elim)) fun _ _ x => x.elim)) fun _ _ x => x.elim)
    cases ok with
    | false => exact wpAny_pure ⟨rfl, h₃⟩
    | true =>
      rw [if_pos rfl] at h₃ ⊢
      unfold BodyW at h₃
      cases e : gens[depth + 1]? with
      | none =>
        rw [e] at h₃
        exact wpAny_bind (wpAny_mono h₃ (fun _ s₄ h₄ => wpAny_pure ⟨rfl, h₄⟩) fun _ _ x => x.elim)
      | some g' =>
        rw [e] at h₃
        obtain ⟨ha', hi'⟩ := hg' g' e
        simp only [ha', folded_id hi']
        refine wpAny_bind (wpAny_mono h₃ (fun x s4 h4 => wpAny_bind (wpAny_standAt ?_)) fun _ _ x => x.elim)
        rw [if_neg (by decide)]
        refine wpAny_bind (wpAny_pure (wpAny_bind (wpAny_holding ?_)))
        rw [if_neg (by decide)]
        exact wpAny_mono h4 (fun it' s5 h5 => wpAny_bind (wpAny_mono h5 (fun _ s6 h6 => wpAny_pure ⟨rfl, h6⟩) fun _ _ x => x.elim)) fun _ _ x => x.elim
theorem start_list {elt : Expr} {gens : List Comprehension} {csc : Scope} {pos : Pos} {acc : Value} {env : Env} : StartRule c A (.ListComp elt gens csc pos) gens acc env := by
  intro depth g it R s hg ha h0 h
  refine codeAny_of_tree ?_
  show wpAny _ _ ((compStart (.ListComp elt gens csc pos) depth it acc env).onRaise (fun x => do noteFrame x env; standAt theWindowsPlace)) _ _ s
  refine wpAny_notedAt ?_
  unfold compStart
  have e1 : (clausesOf (.ListComp elt gens csc pos))[depth]? = some g := hg
  simp only [e1, Option.elim_some, ha]
  show wpAny _ _ (ask >>= _) _ _ s
  refine wpAny_bind (wpAny_askSetting (wpAny_ite ?_))
  split
  · first
      | exact wpAny_bind (wpAny_pure (wpAny_pure (And.intro rfl h0)))
      | exact wpAny_pure (And.intro rfl h0)
  · refine wpAny_bind (wpAny_rule ?_)
    exact wpAny_bind (wpAny_standAt (wpAny_bind (wpAny_mono h (fun it' s' h' => wpAny_pure (And.intro rfl h')) fun _ _ x => x.elim)))
theorem start_dict {k vx : Expr} {gens : List Comprehension} {csc : Scope} {pos : Pos} {acc : Value} {env : Env} : StartRule c A (.DictComp k vx gens csc pos) gens acc env := by
  intro depth g it R s hg ha h0 h
  refine codeAny_of_tree ?_
  show wpAny _ _ ((compStart (.DictComp k vx gens csc pos) depth it acc env).onRaise (fun x => do noteFrame x env; standAt theWindowsPlace)) _ _ s
  refine wpAny_notedAt ?_
  unfold compStart
  have e1 : (clausesOf (.DictComp k vx gens csc pos))[depth]? = some g := hg
  simp only [e1, Option.elim_some, ha]
  show wpAny _ _ (ask >>= _) _ _ s
  refine wpAny_bind (wpAny_askSetting (wpAny_ite ?_))
  split
  · first
      | exact wpAny_bind (wpAny_pure (wpAny_pure (And.intro rfl h0)))
      | exact wpAny_pure (And.intro rfl h0)
  · refine wpAny_bind (wpAny_rule ?_)
    exact wpAny_bind (wpAny_standAt (wpAny_bind (wpAny_mono h (fun it' s' h' => wpAny_pure (And.intro rfl h')) fun _ _ x => x.elim)))
end
section
variable {c : Cx} {F : FC} {A : Around} {z mu z' : Addr → Prop} {loc loc' : Loc} {ls : LS} {s s' : Shared} {E : Value → Shared → Prop} {v w : Value} {O : Addr}
theorem let_go {sc : Scope} {t : Expr} {d : D} {I : Addr} {Q : Unit → Shared → Prop} (hb : Bind sc t d loc loc') (r : Rd c z s.heap v d) (h : isTup t = true → ∃ o, s.heap.get? I = some o ∧ o.cls = .type "list_iterator") (hq : Q () s) : wpAny (model c.prog c.w) A (letOwnedTupleGo t (.ref I) v) Q E s := by
  cases hb with
  | name => exact wpAny_pure hq
  | two =>
    obtain ⟨a, _, rfl, _⟩ := r.i
    obtain ⟨⟨cl, di, da⟩, e, hc⟩ := h rfl
    cases (hc : cl = _)
    refine wpAny_bind (wpAny_load e ?_)
    cases da with
    | fields vs =>
      have hf : (["enumerate", "zip", "dict_itemiterator", "dict_reverseitemiterator", "odict_iterator", "itertools.zip_longest", "itertools.pairwise"] : List String).contains "list_iterator" = false := by decide +kernel
      dsimp only
      rw [hf]
      exact wpAny_pure hq
    | _ => exact wpAny_pure hq
theorem stop_ok (l : List Expr) {Q : Bool → Shared → Prop} : ∀ s : Shared, Q false s → wpAny (model c.prog c.w) A (forIn l false fun c r => if r = true then do let ok ← isTrue c F.env (eval c F.env); pure (ForInStep.yield ok) else pure (ForInStep.yield r)) Q E s := by
  induction l with
  | nil => intro s hq; rw [List.forIn_nil]; exact wpAny_pure hq
  | cons x l ih =>
    intro s hq
    rw [List.forIn_cons]
    refine wpAny_bind ?_
    rw [if_neg (by decide)]
    exact wpAny_pure (ih s hq)
theorem trs_ok (H : Hy c) {n : Nat} (hr : Room A n) {sc : Scope} (hs : ScOK F sc) {es : List Expr} {ls' : LS} {b : Bool} (h : Trs c n sc loc ls es b ls') : ∀ (z : Addr → Prop) (s : Shared) (Q : Bool → Shared → Prop), Rep c F z mu loc ls s →
    (∀ z' s', StpE c z s z' s' → LexOK c ls' s'.heap → Q b s') →
    wpAny (model c.prog c.w) A (forIn es true fun c r => if r = true then do let ok ← isTrue c F.env (eval c F.env); pure (ForInStep.yield ok) else pure (ForInStep.yield r)) Q E s := by
  induction h with
  | nil => intro z s Q R hq; rw [List.forIn_nil]; exact wpAny_pure (hq z s (StpE.refl R) R.lx)
  | cons he _ ih =>
    intro z s Q R hq
    rw [List.forIn_cons]
    refine wpAny_bind ?_
    rw [if_pos rfl]
    exact wpAny_bind (he.go F A hr hs z mu s _ E R fun z1 s1 S1 L1 => wpAny_pure (ih z1 s1 Q (R.stpE H S1 L1) fun z2 s2 S2 L2 => hq z2 s2 (S1.trans S2) L2))
  | stop he =>
    intro z s Q R hq
    rw [List.forIn_cons]
    refine wpAny_bind ?_
    rw [if_pos rfl]
    exact wpAny_bind (he.go F A hr hs z mu s _ E R fun z1 s1 S1 L1 => wpAny_pure (stop_ok _ s1 (hq z1 s1 S1 L1)))
theorem drop_cons {α : Type} {l : List α} {i : Nat} {d : α} {ds : List α} (h : l.drop i = d :: ds) : l[i]? = some d ∧ l.drop (i + 1) = ds := by
  refine ⟨?_, ?_⟩
  · have := congrArg (fun l : List α => l[0]?) h
    simpa using this
  · have := congrArg List.tail h
    simpa using this
theorem items_ok (H : Hy c) {n : Nat} (hr : Room A n) {sc : Scope} (hs : ScOK F sc) {α : Type} {AccR : (Addr → Prop) → Heap → α → Prop} (hA : AccMono O AccR) (hD : AccAt c F mu O)
    {e : Expr} {gens : List Comprehension} {emit : Sem Unit} (hT : TurnRule c A e gens emit (.ref O) F.env) {depth : Nat} {g : Comprehension} (hg : gens[depth]? = some g) (ha : g.is_async = 0) (hg' : ∀ g', gens[depth + 1]? = some g' → g'.is_async = 0 ∧ isSet g'.iter = false)
    {rest : Cont α} (hrest : RestOK c F A mu O AccR e gens emit depth rest)
    {z0 : Addr → Prop} {s0 : Shared} {b : Bool} {d : D} {items : List D} {I : Addr} {fp : List Addr} {P : Nat → Value → Prop} {St : Nat → Heap → Prop} (W : Itr c A z0 s0 b d items I fp P St) (hO : Off c F mu I) (hfp : ∀ a ∈ fp, a = I ∨ ¬ mu a) (htl : isTup g.target = true → isList d = true)
    {locE : Loc} {accE : α} {lsE : LS} {Rr : Result → Shared → Prop} {ds : List D} {acc : α} (h : CItems c n sc g rest ds loc ls acc locE accE lsE) :
    ∀ (i : Nat) (z : Addr → Prop) (s : Shared), items.drop i = ds → i + ds.length = items.length → Rep c F z mu loc ls s → NoOwn loc → AccR z s.heap acc → Held z0 s0 I (St i) z s →
      (∀ z' s', StpX z I mu s z' s' → Rep c F z' mu locE lsE s' → NoOwn locE → AccR z' s'.heap accE → Rr (.ok .next) s') → codeAny (model c.prog c.w) A (.compLoop e depth (.ref I) (.ref O) F.env) Rr s := by
  have hDI : O ≠ I := fun e => hO.nm (e ▸ hD.m)
  have nFM : ¬ FM F mu O := fun ⟨_, h⟩ => h.elim hD.l fun ⟨y, h⟩ => hD.c y O h rfl
  have turn : ∀ {d' : D} {ds : List D} {loc loc1 : Loc} {ls ls1 : LS} {acc : α} {t : Bool}, Bind sc g.target d' loc loc1 → Trs c n sc loc1 ls g.ifs t ls1 → ∀ (i : Nat) (z : Addr → Prop) (s : Shared), items.drop i = d' :: ds → i + (d' :: ds).length = items.length → Rep c F z mu loc ls s → NoOwn loc → AccR z s.heap acc → Held z0 s0 I (St i) z s →
      (∀ z3 s3, StpX z I mu s z3 s3 → Rep c F z3 mu loc1 ls1 s3 → NoOwn loc1 → AccR z3 s3.heap acc → Held z0 s0 I (St (i + 1)) z3 s3 → items.drop (i + 1) = ds → i + 1 + ds.length = items.length → if t = true then BodyW c A e gens emit depth (.ref O) F.env (fun s₄ => codeAny (model c.prog c.w) A (.compLoop e depth (.ref I) (.ref O) F.env) Rr s₄) s3 else codeAny (model c.prog c.w) A (.compLoop e depth (.ref I) (.ref O) F.env) Rr s3) →
      codeAny (model c.prog c.w) A (.compLoop e depth (.ref I) (.ref O) F.env) Rr s := by
    intro d' ds loc loc1 ls ls1 acc t hb ht i z s hd hl R no ac hh hk
    have hi : i < items.length := by rw [← hl, List.length_cons]; omega
    obtain ⟨hdi, hdr⟩ := drop_cons hd
    refine hT depth g (.ref I) Rr s hg ha hg' (W.w.item i s _ _ hi hh.st fun v h' tk hv st' hk0 => ?_)
    have hk' : ∀ b o, b ≠ I → s.heap.get? b = some o → h'.get? b = some o := fun b o hb e => hk0 b o (by simpa using hb) e
    have R1 : Rep c F z mu loc ls { s with heap := h', toks := tk } := R.butI H hO hh.nz (W.nl _ _ hh.st) hk'
    have ac1 : AccR z h' acc := hA z z _ _ _ (fun _ h => h) (fun x o hx e => hk' x o (fun e' => hh.nz (e' ▸ hx)) e) (fun o e => hk' O o hDI e) ac
    have zk1 : ∀ a o, z0 a → s0.heap.get? a = some o → h'.get? a = some o := fun a o za e => hk' a o (fun e' => hh.nz (e' ▸ hh.zz a za)) (hh.zk a o za e)
    have r0 : Rd c z h' v d' := by
      obtain ⟨e', h1, h2⟩ := W.it i v hi hv
      cases (Option.some.inj (hdi.symm.trans h1) : d' = e')
      exact h2.mono hh.zz zk1
    refine let_go hb r0 (fun ht => W.li (htl ht) _ _ st') ?_
    refine bind_ok H hr.h hs hb R1 r0 fun s2 S2 R2 => ?_
    have ac2 : AccR z s2.heap acc := hA z z _ _ _ (fun _ h => h) (fun x o hx e => S2.kp x o e fun m => R.zmu x hx m.1) (fun o e => S2.kp O o e nFM) ac1
    refine trs_ok H hr hs ht z s2 _ R2 fun z3 s3 S3 L3 => ?_
    have S23 := S2.fm.trans (StpE.stpC R2 S3)
    refine hk z3 s3 (StpX.trans (StpX.butI hk') S23.x) (R2.stpE H S3 L3) (no.bind hb) (hA z z3 _ _ _ S3.zz (fun x o hx e => S3.kp x o e (R2.zl x hx)) (fun o e => S3.kp O o e fun k => hD.x (lexall_of k)) ac2) ⟨fun k => hh.nz (S23.zn I (W.al _ _ st') k), fun a za => S23.zz a (hh.zz a za), fun a o za e => S23.kp a o (zk1 a o za e) (R.zmu a (hh.zz a za)), W.w.frame _ _ _ st' fun b hb o e => S23.kp b o e ((hfp b hb).elim (fun e' => e' ▸ hO.nm) id)⟩ hdr (by rw [← hl, List.length_cons]; omega)
  induction h with
  | nil =>
    intro i z s hd hl R no ac hh hq
    obtain rfl : i = items.length := hl
    refine hT depth g (.ref I) Rr s hg ha hg' (W.w.done s _ _ hh.st fun h' tk hk => ?_)
    have hk' : ∀ b o, b ≠ I → s.heap.get? b = some o → h'.get? b = some o := fun b o hb e => hk b o (by simpa using hb) e
    exact hq z _ (StpX.butI hk') (R.butI H hO hh.nz (W.nl _ _ hh.st) hk') no (hA z z _ _ _ (fun _ h => h) (fun x o hx e => hk' x o (fun e' => hh.nz (e' ▸ hx)) e) (fun o e => hk' O o hDI e) ac)
  | pass hb ht hre _ ih =>
    intro i z s hd hl R no ac hh hq
    refine turn hb ht i z s hd hl R no ac hh fun z3 s3 X3 R3 no3 ac3 hh3 hdr hl3 => ?_
    rw [if_pos rfl]
    exact hrest z3 _ _ _ _ _ _ s3 _ hre R3 no3 ac3 fun z4 s4 S4 R4 no4 ac4 => ih (i + 1) z4 s4 hdr hl3 R4 no4 ac4 ⟨fun k => hh3.nz (S4.zn I (W.al _ _ hh3.st) k), fun a za => S4.zz a (hh3.zz a za), fun a o za e => S4.kp a o (hh3.zk a o za e) (R3.zmu a (hh3.zz a za)), W.w.frame _ _ _ hh3.st fun b hb o e => S4.kp b o e ((hfp b hb).elim (fun e' => e' ▸ hO.nm) id)⟩ fun z' s' X R' no' ac' => hq z' s' (X3.trans (S4.x.trans X)) R' no' ac'
  | skip hb ht _ ih =>
    intro i z s hd hl R no ac hh hq
    refine turn hb ht i z s hd hl R no ac hh fun z3 s3 X3 R3 no3 ac3 hh3 hdr hl3 => ?_
    rw [if_neg (by decide)]
    exact ih (i + 1) z3 s3 hdr hl3 R3 no3 ac3 hh3 fun z' s' X R' no' ac' => hq z' s' (X3.trans X) R' no' ac'
end
theorem cellsFrom_app : ∀ (names : List (Str × NameKind)) (n : Nat) (acc : List (Str × Addr)), cellsFrom n names acc = cellsFrom n names [] ++ acc
  | [], _, _ => rfl
  | (x, k) :: r, n, acc => by
    unfold cellsFrom
    split
    · rw [cellsFrom_app r (n + 1) ((x, n) :: acc), cellsFrom_app r (n + 1) [(x, n)]]; simp
    · exact cellsFrom_app r n acc
theorem cellsFrom_mem : ∀ (names : List (Str × NameKind)) (n : Nat) (x : Str) (a : Addr), (x, a) ∈ cellsFrom n names [] → (x, NameKind.cell) ∈ names
  | [], _, _, _, h => by cases h
  | (y, k) :: r, n, x, a, h => by
    unfold cellsFrom at h
    split at h
    · rename_i hk
      rw [cellsFrom_app] at h
      rcases List.mem_append.mp h with h | h
      · exact List.mem_cons_of_mem _ (cellsFrom_mem r _ x a h)
      · simp only [List.mem_cons, List.not_mem_nil, or_false, Prod.mk.injEq] at h
        rw [h.1]
        have : k = .cell := by simpa using hk
        rw [this]; exact List.mem_cons_self
    · exact List.mem_cons_of_mem _ (cellsFrom_mem r _ x a h)
noncomputable def clFrom (cells : List (Str × Addr)) : List (Str × NameKind) → List (Str × Addr) → List (Str × Addr)
  | [], acc => acc
  | (n, k) :: r, acc => if k == .free then clFrom cells r ((n, (cells.lookup n).getD 0) :: acc) else clFrom cells r acc
theorem clFrom_app (cells : List (Str × Addr)) : ∀ (names : List (Str × NameKind)) (acc : List (Str × Addr)), clFrom cells names acc = clFrom cells names [] ++ acc
  | [], _ => rfl
  | (x, k) :: r, acc => by
    unfold clFrom
    split
    · rw [clFrom_app cells r (_ :: acc), clFrom_app cells r [_]]; simp
    · exact clFrom_app cells r acc
theorem clFrom_mem (cells : List (Str × Addr)) : ∀ (names : List (Str × NameKind)) (x : Str) (a : Addr), (x, a) ∈ clFrom cells names [] → (x, NameKind.free) ∈ names ∧ a = (cells.lookup x).getD 0
  | [], _, _, h => by cases h
  | (y, k) :: r, x, a, h => by
    unfold clFrom at h
    split at h
    · rename_i hk
      rw [clFrom_app] at h
      rcases List.mem_append.mp h with h | h
      · exact ⟨List.mem_cons_of_mem _ (clFrom_mem cells r x a h).1, (clFrom_mem cells r x a h).2⟩
      · simp only [List.mem_cons, List.not_mem_nil, or_false, Prod.mk.injEq] at h
        obtain ⟨rfl, rfl⟩ := h
        have : k = .free := by simpa using hk
        rw [this]; exact ⟨List.mem_cons_self, rfl⟩
    · exact ⟨List.mem_cons_of_mem _ (clFrom_mem cells r x a h).1, (clFrom_mem cells r x a h).2⟩
theorem lookup_of_mem {α : Type} {x : Str} {a : α} : ∀ {l : List (Str × α)}, (x, a) ∈ l → ∃ b, l.lookup x = some b
  | (k, v) :: r, h => by
    by_cases e : x = k
    · rw [e]; exact ⟨_, lkn_eq ..⟩
    · rw [lkn_ne e]
      exact lookup_of_mem ((List.mem_cons.mp h).resolve_left fun q => e (congrArg Prod.fst q))
theorem clFrom_has (cells : List (Str × Addr)) : ∀ (names : List (Str × NameKind)) (x : Str), (x, NameKind.free) ∈ names → (x, (cells.lookup x).getD 0) ∈ clFrom cells names []
  | [], _, h => by cases h
  | (y, k) :: r, x, h => by
    unfold clFrom
    rcases List.mem_cons.mp h with e | h
    · cases e
      rw [if_pos (by decide), clFrom_app]
      exact List.mem_append_right _ List.mem_cons_self
    · split
      · rw [clFrom_app]; exact List.mem_append_left _ (clFrom_has cells r x h)
      · exact clFrom_has cells r x h
theorem closure_eq {env : Env} {csc : Scope} (h : ∀ x, (x, NameKind.free) ∈ csc.names → ∃ a, env.cells.lookup x = some a) : closureFor csc env = pure (clFrom env.cells csc.names []) := by
  have main : ∀ (names : List (Str × NameKind)) (acc : List (Str × Addr)), (∀ x, (x, NameKind.free) ∈ names → ∃ a, env.cells.lookup x = some a) →
      (forIn names acc fun (p : Str × NameKind) cs => (if p.2 == .free then do let a ← cellOf env p.1; pure (ForInStep.yield ((p.1, a) :: cs)) else pure (ForInStep.yield cs) : Sem _)) = pure (clFrom env.cells names acc) := by
    intro names
    induction names with
    | nil => intro acc _; rfl
    | cons p r ih =>
      intro acc h
      obtain ⟨n, k⟩ := p
      rw [List.forIn_cons]
      unfold clFrom
      by_cases hk : k = .free
      · subst hk
        obtain ⟨a, ha⟩ := h n List.mem_cons_self
        have e1 : cellOf env n = pure a := by unfold cellOf; rw [ha]
        simp only [beq_self_eq_true, if_true, e1, ha, Option.getD_some]
        exact ih _ fun x hx => h x (List.mem_cons_of_mem _ hx)
      · have hk' : (k == NameKind.free) = false := by simpa using hk
        simp only [hk', Bool.false_eq_true, if_false]
        exact ih _ fun x hx => h x (List.mem_cons_of_mem _ hx)
  unfold closureFor
  have := main csc.names [] h
  simp only [bind_pure]
  refine Eq.trans ?_ this
  congr 1
theorem lookup_relabel {env : Env} {scope : Scope} (x : Str) : (relabel scope env).names.lookup x = (scope.names.lookup x).map fun k => if (k == NameKind.free && env.scope.kind == .function && env.kindOf x == some .cell) then .cell else k := by
  unfold relabel
  induction scope.names with
  | nil => rfl
  | cons p r ih =>
    obtain ⟨n, k⟩ := p
    rw [List.map_cons]
    have e1 : ∀ b : Bool, (if b = true then (n, NameKind.cell) else (n, k)) = (n, if b = true then NameKind.cell else k) := fun b => by cases b <;> rfl
    dsimp only at ih ⊢
    rw [e1, List.lookup_cons, List.lookup_cons]
    by_cases hx : x = n
    · subst hx
      simp only [beq_self_eq_true, Option.map_some]
    · have hx' : (x == n) = false := by simpa using hx
      rw [hx']
      exact ih
structure CapF (F : FC) (sc csc : Scope) : Prop where
  ki : csc.kind = .function
  fr : ∀ x, (x, NameKind.free) ∈ csc.names → (∃ a, F.env.cells.lookup x = some a) ∧ (F.env.kindOf x = some .cell ∨ F.env.kindOf x = some .free)
  co : ∀ x k, (x, k) ∈ csc.names → csc.names.lookup x = some k
theorem capF {F : FC} {sc csc : Scope} (hs : ScOK F sc) (h : capOK sc csc = true) : CapF F sc csc := by
  unfold capOK at h
  simp only [Bool.and_eq_true, List.all_eq_true, beq_iff_eq, Bool.or_eq_true] at h
  obtain ⟨⟨h1, h2⟩, h3⟩ := h
  refine ⟨h1, fun x hx => ?_, fun x k hx => h3 (x, k) hx⟩
  have := h2 (x, .free) hx
  rcases this with h | h
  · simp at h
  · exact hs.cl x h
noncomputable def cEnv (csc : Scope) (C : Addr) (env : Env) : Env :=
  { scope := relabel csc env, locals := C, globals := env.globals, cells := cellsFrom (C + 1) csc.names (clFrom env.cells csc.names []), qual := env.qual, func := none, code := env.code, frame := env.frame, builtins := env.builtins }
noncomputable def cFC (csc : Scope) (C : Addr) (env : Env) : FC := ⟨cEnv csc C env, wnOf csc⟩
section
variable {c : Cx} {F : FC} {A : Around} {z mu z' : Addr → Prop} {loc loc' : Loc} {ls : LS} {s s' : Shared} {E : Value → Shared → Prop} {v w : Value} {O : Addr}
theorem newEnv_ok {csc : Scope} {env : Env} {Q : Env → Shared → Prop} {cl : List (Str × Addr)}
    (h : Q { scope := csc, locals := s.heap.objs.size, globals := env.globals, cells := cellsFrom (s.heap.objs.size + 1) csc.names cl, qual := env.qual, func := none, code := env.code, frame := env.frame, builtins := env.builtins } { s with heap := pushCells (s.heap.push { cls := .type "dict", data := .dict #[] }) csc.names }) :
    wpAny (model c.prog c.w) A (newFunctionEnv csc env.globals cl [] env.qual none .none (some env)) Q E s := by
  simp only [newFunctionEnv, Option.isSome_some, if_true]
  refine wpAny_bind (wpAny_alloc ?_)
  refine wpAny_bind (wpAny_layCells _ (fun name kind cells => by cases hkc : kind == NameKind.cell <;> simp [hkc]) _ _ _ _ ?_)
  rw [show ({ s with heap := s.heap.push { cls := .type "dict", data := .dict #[] } } : Shared).heap.objs.size = s.heap.objs.size + 1 from Heap.size_push ..]
  exact wpAny_pure h
theorem capt_lookup {csc : Scope} {x : Str} {lv : LV} (h : (capt csc loc).lookup x = some lv) : (x, NameKind.free) ∈ csc.names ∧ ∃ lv0, loc.lookup x = some lv0 ∧ lv = if lv0.k = .own then ⟨.bor, lv0.d⟩ else lv0 := by
  have hm := mem_of_lookup h
  unfold capt at hm
  obtain ⟨⟨n, k⟩, h1, h2⟩ := List.mem_filterMap.mp hm
  dsimp only at h2
  split at h2
  · rename_i hk
    subst hk
    cases e : loc.lookup n with
    | none => rw [e] at h2; cases h2
    | some lv0 =>
      rw [e] at h2
      simp only [Option.map_some, Option.some.injEq, Prod.mk.injEq] at h2
      obtain ⟨rfl, rfl⟩ := h2
      exact ⟨h1, lv0, e, rfl⟩
  · cases h2
theorem comp_frame (H : Hy c) {sc csc : Scope} (hs : ScOK F sc) (hc : CapF F sc csc) (R : Rep c F z mu loc ls s) {h1 : Heap} {O : Addr} (hk : ∀ b o, s.heap.get? b = some o → h1.get? b = some o) (hO : s.heap.get? O = none) (hOa : Al h1 O) (hsz : s.heap.objs.size ≤ h1.objs.size) :
    ∃ mu', Rep c (cFC csc h1.objs.size F.env) z mu' (capt csc loc) ls { s with heap := pushCells (h1.push { cls := .type "dict", data := .dict #[] }) csc.names } ∧ ScOK (cFC csc h1.objs.size F.env) csc ∧ AccAt c (cFC csc h1.objs.size F.env) mu' O ∧ NoOwn (capt csc loc) ∧
      (∀ a, Al s.heap a → mu' a → lexmu c.X a) ∧ (∀ a, mu' a → lexmu c.X a ∨ a = O ∨ h1.objs.size ≤ a) ∧ (∀ y b, (cEnv csc h1.objs.size F.env).cells.lookup y = some b → Al s.heap b ∨ h1.objs.size ≤ b) := by
  generalize hCe : h1.objs.size = C at *
  have hl1 : h1.get? C = none := by rw [← hCe]; exact get_size _
  have hlS : s.heap.get? C = none := by
    cases e : s.heap.get? C with
    | none => rfl
    | some o => rw [hk _ _ e] at hl1; cases hl1
  have hOC : O ≠ C := by rintro rfl; obtain ⟨o, e⟩ := hOa; rw [hl1] at e; cases e
  generalize hH : pushCells (h1.push { cls := .type "dict", data := .dict #[] }) csc.names = H2
  have hkP : ∀ b o, h1.get? b = some o → H2.get? b = some o := fun b o e => by rw [← hH]; exact pushCells_keeps _ _ b o (Heap.get?_push_of_some _ e)
  have hk2 : ∀ b o, s.heap.get? b = some o → H2.get? b = some o := fun b o e => hkP b o (hk b o e)
  have ok : CellsOk H2 (C + 1) (cellsFrom (C + 1) csc.names []) := by
    have := cellsFrom_ok csc.names (h1.push { cls := .type "dict", data := .dict #[] }) (C + 1) [] ⟨fun _ _ hm => (nomatch hm), List.Pairwise.nil⟩ (by rw [Heap.size_push, hCe]; exact Nat.le_refl _)
    rw [Heap.size_push, hCe, hH] at this
    exact this
  have hns : H2.Ns C fun _ => none := by
    rw [← hH, ← hCe]
    exact (Heap.Ns.new h1 (.type "dict")).keeps (pushCells_keeps _ _)
  have hsz' : s.heap.objs.size ≤ C := hsz
  have old : ∀ a : Nat, Al s.heap a → a < C := fun a ⟨o, e⟩ => Nat.lt_of_lt_of_le (Heap.lt_size e) hsz'
  let own := cellsFrom (C + 1) csc.names []
  let cl := clFrom F.env.cells csc.names []
  have hcells : (cEnv csc C F.env).cells = own ++ cl := cellsFrom_app _ _ _
  have ownM : ∀ x a, (x, a) ∈ own → H2.IsCell a none ∧ C + 1 ≤ a ∧ (x, NameKind.cell) ∈ csc.names := fun x a h => ⟨(ok.empty x a h).1, (ok.empty x a h).2, cellsFrom_mem _ _ _ _ h⟩
  have clM : ∀ x a, (x, a) ∈ cl → (x, NameKind.free) ∈ csc.names ∧ F.env.cells.lookup x = some a := fun x a h => by
    obtain ⟨h1, h2⟩ := clFrom_mem _ _ _ _ h
    obtain ⟨⟨b, hb⟩, _⟩ := hc.fr x h1
    rw [hb] at h2
    exact ⟨h1, by rw [hb, h2]; rfl⟩
  have look : ∀ x a, (cEnv csc C F.env).cells.lookup x = some a → (own.lookup x = some a) ∨ (cl.lookup x = some a) := fun x a h => by
    rw [hcells, List.lookup_append] at h
    cases e : own.lookup x with
    | none => rw [e] at h; exact .inr h
    | some b => rw [e] at h; exact .inl h
  have lookF : ∀ x, (x, NameKind.free) ∈ csc.names → ∃ a, F.env.cells.lookup x = some a ∧ (cEnv csc C F.env).cells.lookup x = some a := fun x hx => by
    obtain ⟨⟨a, ha⟩, _⟩ := hc.fr x hx
    refine ⟨a, ha, ?_⟩
    rw [hcells, List.lookup_append]
    have h1 : own.lookup x = none := by
      cases e : own.lookup x with
      | none => rfl
      | some b =>
        have := hc.co x _ (ownM x b (mem_of_lookup e)).2.2
        rw [hc.co x _ hx] at this; cases this
    have h2 : cl.lookup x = some a := by
      obtain ⟨b, hb⟩ := lookup_of_mem (clFrom_has F.env.cells csc.names x hx)
      have := (clM x b (mem_of_lookup hb)).2
      rw [ha] at this
      show cl.lookup x = _
      rw [hb, this]
    rw [h1, h2]; rfl
  have lookC : ∀ x, csc.names.lookup x = some .cell → ∃ a, own.lookup x = some a ∧ (cEnv csc C F.env).cells.lookup x = some a := fun x hx => by
    obtain ⟨a, ha⟩ := lookup_cells x csc.names (C + 1) [] hx
    exact ⟨a, ha, by rw [hcells, List.lookup_append]; show (List.lookup x own).or _ = _; rw [show own.lookup x = some a from ha]; rfl⟩
  have kindC : ∀ x k, csc.names.lookup x = some k → k ≠ .free → (cEnv csc C F.env).kindOf x = some k := fun x k h hk => by
    show (relabel csc F.env).names.lookup x = _
    rw [lookup_relabel, h]
    have : (k == NameKind.free) = false := by simpa using hk
    simp only [Option.map_some, this, Bool.false_and, Bool.false_eq_true, if_false]
  have kindF : ∀ x, csc.names.lookup x = some .free → (cEnv csc C F.env).kindOf x = some .cell ∨ (cEnv csc C F.env).kindOf x = some .free := fun x h => by
    show (relabel csc F.env).names.lookup x = _ ∨ (relabel csc F.env).names.lookup x = _
    rw [lookup_relabel, h]
    simp only [Option.map_some]
    split
    · exact .inl rfl
    · exact .inr rfl
  have al2 : ∀ a, Al s.heap a → Al H2 a := fun a ⟨o, e⟩ => ⟨o, hk2 a o e⟩
  let mu' : Addr → Prop := fun a => lexmu c.X a ∨ a = O ∨ a = C ∨ ∃ n, own.lookup n = some a
  have mu_old : ∀ a, Al s.heap a → mu' a → lexmu c.X a := by
    rintro a ha (h | h | h | ⟨n, h⟩)
    · exact h
    · obtain ⟨o, e⟩ := ha; rw [h, hO] at e; cases e
    · obtain ⟨o, e⟩ := ha; rw [h, hlS] at e; cases e
    · exact absurd (old a ha) (Nat.not_lt.mpr (Nat.le_of_succ_le (ownM n a (mem_of_lookup h)).2.1))
  have alL := lexall_al H R
  have newN : ∀ a : Nat, C ≤ a → ¬ Al s.heap a := fun a h ha => by have := old a ha; omega
  refine ⟨mu', ⟨fun a o e => hk2 a o (R.kin a o e), fun a o e m => R.kz a o e (R.lmu a (mu_old a ⟨o, R.kin a o e⟩ m)), fun a za m => R.zl a za (mu_old a (R.zal a za) m), fun a h => .inl h, fun a za => al2 a (R.zal a za), ?_, R.lx.keep H hk2, .inr (.inr (.inl rfl)), fun h => newN C (Nat.le_refl _) (alL C h), ⟨_, hns⟩, ?_, ?_, ?_, ?_, ?_, ?_⟩, ?_, ⟨.inr (.inl rfl), hOC, fun h => ?_, ?_⟩, ?_, mu_old, ?_, ?_⟩
  · rintro a (h | h | h | ⟨n, h⟩)
    · exact al2 a (R.mal a (R.lmu a h))
    · rw [h]; obtain ⟨o, e⟩ := hOa; exact ⟨o, hkP _ o e⟩
    · rw [h]; obtain ⟨o, _, _, e, _⟩ := hns; exact ⟨o, e⟩
    · obtain ⟨⟨o, e, _⟩, _⟩ := ownM n a (mem_of_lookup h); exact ⟨o, e⟩
  · intro x a h
    rcases look x a h with h | h
    · obtain ⟨⟨o, e, _⟩, hle, _⟩ := ownM x a (mem_of_lookup h)
      exact ⟨fun h => newN a (by omega) (alL a h), Nat.ne_of_gt hle, fun za => newN a (by omega) (R.zal a za), ⟨o, e⟩⟩
    · obtain ⟨h1, h2, h3, h4⟩ := R.cl x a (clM x a (mem_of_lookup h)).2
      exact ⟨h1, Nat.ne_of_lt (old a h4), h3, al2 a h4⟩
  · intro x y a hx hy
    rcases look x a hx with hx | hx <;> rcases look y a hy with hy | hy
    · exact name_of_addr ok.apart (mem_of_lookup hx) (mem_of_lookup hy)
    · have h1 := (ownM x a (mem_of_lookup hx)).2.1
      have h2 := old a (R.cl y a (clM y a (mem_of_lookup hy)).2).2.2.2
      omega
    · have h1 := (ownM y a (mem_of_lookup hy)).2.1
      have h2 := old a (R.cl x a (clM x a (mem_of_lookup hx)).2).2.2.2
      omega
    · exact R.cinj x y a (clM x a (mem_of_lookup hx)).2 (clM y a (mem_of_lookup hy)).2
  · intro x hx
    obtain ⟨_, hx⟩ := List.mem_filter.mp hx
    rcases canW_kind hx with e | e
    · exact .loc (kindC x _ e (by decide))
    · obtain ⟨a, h1, h2⟩ := lookC x e
      exact .cell (kindC x _ e (by decide)) h2 (.inr (.inr (.inr ⟨x, h1⟩))) (ownM x a (mem_of_lookup h1)).1
  · intro x lv e
    obtain ⟨hf, lv0, h1, h2⟩ := capt_lookup e
    obtain ⟨v, hsl, hlv⟩ := R.vars x lv0 h1
    obtain ⟨a, ha, hac⟩ := lookF x hf
    refine ⟨v, ?_, ?_⟩
    · have hcell : s.heap.IsCell a (some v) := by
        obtain ⟨_, hkk⟩ := hc.fr x hf
        cases hsl with
        | loc k _ => rcases hkk with hkk | hkk <;> (rw [k] at hkk; cases hkk)
        | cell _ l n => rw [ha] at l; cases l; exact n
        | free _ l n => rw [ha] at l; cases l; exact n
      have hcell' : H2.IsCell a (some v) := hcell.keeps hk2
      rcases kindF x (hc.co x _ hf) with k | k
      · exact .cell k hac hcell'
      · exact .free k hac hcell'
    · have nm : ∀ a, Al s.heap a → ¬ lexmu c.X a → ¬ mu' a := fun a h1 h2 h3 => h2 (mu_old a h1 h3)
      have hz : ∀ a o, z a → s.heap.get? a = some o → H2.get? a = some o := fun a o _ e => hk2 a o e
      rw [h2]
      by_cases ho : lv0.k = .own
      · rw [if_pos ho]
        rw [lv_own ho] at hlv
        obtain ⟨a, rfl, m, n, f⟩ := hlv
        exact .inr ⟨a, rfl, nm a f.al fun k => n (lexall_of k), f.mono (fun _ h => h) hz fun o e => hk2 a o e⟩
      · rw [if_neg ho]
        exact hlv.map (fun _ h => h) hz (fun a d e f n _ => ⟨nm a f.al fun k => n (R.lmu a k), fun o e => hk2 a o e⟩) fun a d e f m n k => absurd k ho
  · intro x d a e _
    obtain ⟨_, lv0, _, h2⟩ := capt_lookup e
    split at h2
    · cases h2
    · rename_i hn; rw [← h2] at hn; exact absurd rfl hn
  · intro x y d e' a e _ _ _
    obtain ⟨_, lv0, _, h2⟩ := capt_lookup e
    split at h2
    · cases h2
    · rename_i hn; rw [← h2] at hn; exact absurd rfl hn
  · refine ⟨hc.ki, fun n e => kindC n _ e (by decide), fun n hn => ?_, ?_, hs.ge, hs.be⟩
    · refine List.mem_filter.mpr ⟨?_, hn⟩
      rcases canW_kind hn with e | e
      · exact List.mem_map_of_mem (f := (·.1)) (mem_of_lookup e)
      · exact List.mem_map_of_mem (f := (·.1)) (mem_of_lookup e)
    · rintro n (e | e)
      · obtain ⟨a, _, ha⟩ := lookC n e
        exact ⟨⟨a, ha⟩, .inl (kindC n _ e (by decide))⟩
      · obtain ⟨a, _, ha⟩ := lookF n (mem_of_lookup e)
        exact ⟨⟨a, ha⟩, kindF n e⟩
  · obtain ⟨o, e⟩ := alL O h; rw [hO] at e; cases e
  · rintro y b h rfl
    rcases look y b h with h | h
    · have h1 := (ownM y b (mem_of_lookup h)).2.1
      obtain ⟨o, e⟩ := hOa
      have h2 := Heap.lt_size e
      rw [hCe] at h2
      exact absurd h2 (Nat.not_lt.mpr (Nat.le_of_succ_le h1))
    · obtain ⟨o, e⟩ := (R.cl y b (clM y b (mem_of_lookup h)).2).2.2.2
      rw [hO] at e; cases e
  · intro x lv e
    obtain ⟨_, lv0, _, h2⟩ := capt_lookup e
    subst h2
    split
    · exact fun h => nomatch h
    · assumption
  · rintro a (h | h | h | ⟨n, h⟩)
    · exact .inl h
    · exact .inr (.inl h)
    · rw [h]; exact .inr (.inr (Nat.le_refl _))
    · have := (ownM n a (mem_of_lookup h)).2.1
      exact .inr (.inr (by omega))
  · intro y b h
    rcases look y b h with h | h
    · exact .inr (Nat.le_of_succ_le (ownM y b (mem_of_lookup h)).2.1)
    · exact .inl (R.cl y b (clM y b (mem_of_lookup h)).2).2.2.2
end
noncomputable def EmL (c : Cx) (n : Nat) (sc : Scope) (elt : Expr) : Cont (List D) := fun loc ls acc loc' acc' ls' => ∃ d, Ev c n sc loc ls elt d true ls' ∧ acc.length ≤ 1000000 ∧ loc' = loc ∧ acc' = acc ++ [d]
noncomputable def EmD (c : Cx) (n : Nat) (sc : Scope) (k v : Expr) : Cont (List (Str × D)) := fun loc ls acc loc' acc' ls' => ∃ x ls1 d, Ev c n sc loc ls k (.str x) true ls1 ∧ Ev c n sc loc ls1 v d true ls' ∧ acc.length ≤ 1000000 ∧ loc' = loc ∧ acc' = putD acc x d
def CompG {α : Type} (c : Cx) (n : Nat) (sc : Scope) (loc : Loc) (ls : LS) (csc : Scope) (gens : List Comprehension) (em : Cont α) (acc : α) (acc' : α) (ls' : LS) : Prop := ∃ g gs d b ls1 items loc', gens = g :: gs ∧ isSet g.iter = false ∧ g.is_async = 0 ∧ capOK sc csc = true ∧ (∀ g' ∈ gs, g'.is_async = 0 ∧ isSet g'.iter = false) ∧
  Ev c n sc loc ls g.iter d b ls1 ∧ (isTup g.target = true → isList d = true) ∧ Iter d items ∧ CItems c n csc g (CRest c n csc em gs) items (capt csc loc) ls1 acc loc' acc' ls'
section
variable {c : Cx} {F : FC} {A : Around} {z mu z' : Addr → Prop} {loc loc' : Loc} {ls ls' : LS} {s s' : Shared} {E : Value → Shared → Prop} {v w : Value} {O : Addr}
theorem start_ok {e : Expr} {gens : List Comprehension} {acc : Value} {depth : Nat} {g : Comprehension} (hS : StartRule c A e gens acc F.env) (hg : gens[depth]? = some g) (ha : g.is_async = 0)
    {z0 : Addr → Prop} {s0 : Shared} {b : Bool} {d : D} {items : List D} {I : Addr} {fp : List Addr} {P : Nat → Value → Prop} {St : Nat → Heap → Prop} (W : Itr c A z0 s0 b d items I fp P St) (st : St 0 s.heap) {Rr : Result → Shared → Prop}
    (h : codeAny (model c.prog c.w) A (.compLoop e depth (.ref I) acc F.env) Rr s) : codeAny (model c.prog c.w) A (.compStart e depth (.ref I) acc F.env) Rr s :=
  hS depth g (.ref I) Rr s hg ha h (W.w.self 0 s _ _ st h)
theorem StpX.stpC {M : Addr → Prop} {h1 : Heap} {I : Addr} {z1 : Addr → Prop} {tk : Nat} (X : StpX z I M { s with heap := h1, toks := tk } z1 s') (hk : ∀ b o, s.heap.get? b = some o → h1.get? b = some o) (hI : s.heap.get? I = none) : StpC z M s z1 s' :=
  ⟨fun a h => X.al a (alive_ne h hI) (let ⟨o, e⟩ := h; ⟨o, hk a o e⟩), X.zz, fun a h k => X.zn a (alive_ne h hI) (let ⟨o, e⟩ := h; ⟨o, hk a o e⟩) k, fun b o e m => X.kp b o (alive_ne ⟨o, e⟩ hI) (hk b o e) m, X.ge, X.os, X.dr⟩
theorem rest_ok (H : Hy c) {n : Nat} (hr : Room A n) {sc : Scope} (hs : ScOK F sc) {α : Type} {AccR : (Addr → Prop) → Heap → α → Prop} (hA : AccMono O AccR) (hD : AccAt c F mu O)
    {e : Expr} {gens : List Comprehension} {emit : Sem Unit} (hT : TurnRule c A e gens emit (.ref O) F.env) (hS : StartRule c A e gens (.ref O) F.env) {em : Cont α} (hemit : EmitOK c F A mu AccR emit em) :
    ∀ (gs : List Comprehension) (depth : Nat), gens.drop (depth + 1) = gs → (∀ g ∈ gs, g.is_async = 0 ∧ isSet g.iter = false) → RestOK c F A mu O AccR e gens emit depth (CRest c n sc em gs)
  | [], depth, hd, _ => by
    intro z loc ls acc loc' acc' ls' s Q h R no ac hq
    have hn : gens[depth + 1]? = none := by
      have := congrArg (fun l : List Comprehension => l[0]?) hd
      simpa using this
    unfold BodyW
    rw [hn]
    exact hemit z loc ls acc loc' acc' ls' s Q h R no ac hq
  | g :: gs, depth, hd, hgs => by
    intro z loc ls acc loc' acc' ls' s Q ⟨d, ls1, items, hset, ha, hev, htup, hit, hci⟩ R no ac hq
    obtain ⟨hn, hdr⟩ := drop_cons hd
    unfold BodyW
    rw [hn]
    refine hev.go F A hr hs z mu s _ _ R fun z1 x s1 S1 L1 r1 => ?_
    have R1 := R.stpE H S1 L1
    refine itr_ok (b := true) hr.h hit r1 R1.zl fun o fp P St hf W st => ?_
    have hI : s1.heap.get? s1.heap.objs.size = none := get_size _
    obtain ⟨hO, nz⟩ := Off.fresh H R1 hI
    have hk : ∀ b o', s1.heap.get? b = some o' → (s1.heap.push o).get? b = some o' := fun b o' e => Heap.get?_push_of_some _ e
    have R2 := R1.stpE H (StpE.same (tk := s1.toks) R1 hk) (R1.lx.keep H hk)
    refine wpAny_runOwn (start_ok hS hn ha W st (items_ok H hr hs hA hD hT hn ha (fun g' e' => hgs g' ?_) (rest_ok H hr hs hA hD hT hS hemit gs (depth + 1) hdr fun g' hg' => hgs g' (List.mem_cons_of_mem _ hg')) W hO (fun a hfa => (W.fz rfl a hfa).imp id fun za => R1.zmu a za) htup hci 0 z1 _ rfl (Nat.zero_add _) R2 no ?_ ⟨nz, fun _ h => h, fun a o' _ e => hk a o' e, st⟩ fun z' s' X R' no' ac' => hq z' s' ((StpE.stpC R S1).trans (X.stpC (tk := s1.toks) hk hI)) R' no' ac'))
    · have : g' ∈ gens.drop (depth + 1 + 1) := List.mem_of_getElem? (i := 0) (by simpa using e')
      rw [hdr] at this
      exact List.mem_cons_of_mem _ this
    · exact hA z z1 _ _ _ S1.zz (fun x o' hx e => hk _ _ (S1.kp x o' e (R.zl x hx))) (fun o' e => hk _ _ (S1.kp O o' e fun k => hD.x (lexall_of k))) ac
theorem comp_ok (H : Hy c) {n : Nat} (hr : Room A n) {sc csc : Scope} (hs : ScOK F sc) {α : Type} {AccR : Addr → (Addr → Prop) → Heap → α → Prop} (hA : ∀ O, AccMono O (AccR O))
    {e : Expr} {gens : List Comprehension} {pos : Pos} {newAcc : Sem Value} {emit : Addr → Env → Sem Unit} {em : Cont α} {acc0 acc' : α} {ls' : LS} {use : Option (Value → Sem Unit)} {Q : Value → Shared → Prop}
    (hcl : clausesOf e = gens)
    (hT : ∀ O env, TurnRule c A e gens (emit O env) (.ref O) env) (hS : ∀ O env, StartRule c A e gens (.ref O) env)
    (hnew : ∀ (s : Shared) (Q : Value → Shared → Prop) (E : Value → Shared → Prop), 1 < s.heap.objs.size → (∀ o, o.isFreed = false → (∀ z, AccR s.heap.objs.size z (s.heap.push o) acc0) → Q (.ref s.heap.objs.size) { s with heap := s.heap.push o }) → wpAny (model c.prog c.w) A newAcc Q E s)
    (hemit : ∀ F' mu' O, ScOK F' csc → AccAt c F' mu' O → EmitOK c F' A mu' (AccR O) (emit O F'.env) em)
    (h : CompG c n sc loc ls csc gens em acc0 acc' ls') (R : Rep c F z mu loc ls s)
    (hq : ∀ z' O C m s', StpE c z s z' s' → LexOK c ls' s'.heap → s.heap.get? O = none → s.heap.get? C = none → O ≠ C → Al s'.heap O → ¬ z' O → ¬ z' C → s'.heap.Ns C m → AccR O z' s'.heap acc' → compPost (model c.prog c.w) A E use Q (.ref O) C (.ok .next) s') :
    wpAny (model c.prog c.w) A (comprehension e csc F.env (firstIterPos gens pos) newAcc (firstAsync gens) (firstIter gens F.env) use) Q E s := by
  obtain ⟨g, gs, d, b, ls1, items, locE, rfl, hset, has, hcap, hgs, hev, htup, hit, hci⟩ := h
  have hc := capF hs hcap
  have e1 : firstAsync (g :: gs) = false := by obtain ⟨_, _, _, a⟩ := g; cases (has : a = 0); rfl
  have e2 : firstIter (g :: gs) F.env = eval g.iter F.env := by obtain ⟨_, _, _, _⟩ := g; rfl
  rw [e1, e2]
  refine wpAny_comprehension_free hcl (folded_id hset F.env) (closure_eq fun x hx => (hc.fr x hx).1) hc.ki (fun x hx hl => hc.co x.1 .local (hl ▸ hx)) ?_
  refine hev.go F A hr hs z mu s _ _ R fun z1 x s1 S1 L1 r1 => ?_
  have R1 := R.stpE H S1 L1
  refine itr_ok (b := b) hr.h hit r1 R1.zl fun oI fp P St hfI W st => ?_
  refine hnew _ _ _ (by rw [Heap.size_push]; exact Nat.lt_succ_of_lt (big_size H R1)) fun oA hfA hacc => ?_
  refine newEnv_ok ?_
  dsimp only at hacc ⊢
  have hOs : (s1.heap.push oI).objs.size = s1.heap.objs.size + 1 := Heap.size_push ..
  have hCs : ((s1.heap.push oI).push oA).objs.size = s1.heap.objs.size + 1 + 1 := by rw [Heap.size_push, Heap.size_push]
  generalize hOe : (s1.heap.push oI).objs.size = O at *
  have hkI : ∀ b o', s1.heap.get? b = some o' → (s1.heap.push oI).get? b = some o' := fun b o' e => Heap.get?_push_of_some _ e
  have hkA : ∀ b o', (s1.heap.push oI).get? b = some o' → ((s1.heap.push oI).push oA).get? b = some o' := fun b o' e => Heap.get?_push_of_some _ e
  have hfresh : ∀ a : Nat, s1.heap.objs.size ≤ a → s1.heap.get? a = none := fun a ha => by
    cases e : s1.heap.get? a with
    | none => rfl
    | some o' => exact absurd (Heap.lt_size e) (Nat.not_lt.mpr ha)
  have hO1 : s1.heap.get? O = none := hfresh O (by rw [hOs]; exact Nat.le_succ _)
  have hOa : Al ((s1.heap.push oI).push oA) O := ⟨oA, by rw [← hOe]; exact Heap.get?_push_size _ hfA⟩
  obtain ⟨mu', R', hs', hD, hno, mold, mnew, mcell⟩ := comp_frame H hs hc R1 (fun b o' e => hkA b o' (hkI b o' e)) hO1 hOa (by rw [hCs]; omega)
  generalize hCe : ((s1.heap.push oI).push oA).objs.size = C at *
  generalize hH : pushCells (((s1.heap.push oI).push oA).push { cls := .type "dict", data := .dict #[] }) csc.names = H2 at *
  have hkP : ∀ b o', ((s1.heap.push oI).push oA).get? b = some o' → H2.get? b = some o' := fun b o' e => by rw [← hH]; exact pushCells_keeps _ _ b o' (Heap.get?_push_of_some _ e)
  have hk : ∀ b o', s1.heap.get? b = some o' → H2.get? b = some o' := fun b o' e => hkP b o' (hkA b o' (hkI b o' e))
  obtain ⟨offI, nzI⟩ := Off.fresh H R1 (get_size s1.heap)
  have hIO : s1.heap.objs.size ≠ O := by rw [hOs]; exact Nat.ne_of_lt (Nat.lt_succ_self _)
  have hIC : ¬ C ≤ s1.heap.objs.size := by rw [hCs]; omega
  have offI' : Off c (cFC csc C F.env) mu' s1.heap.objs.size := by
    refine ⟨fun m => ?_, offI.nk, offI.nx, fun y b l e' => ?_⟩
    · rcases mnew _ m with h | h | h
      · exact offI.nx (lexall_of h)
      · exact hIO h
      · exact hIC h
    · rcases mcell y b l with h | h
      · obtain ⟨o', e2⟩ := h
        rw [e', get_size] at e2; cases e2
      · rw [e'] at h; exact hIC h
  have st' : St 0 H2 := W.w.frame _ _ _ st fun b _ o' e => hkP b o' (hkA b o' e)
  have hlex : ∀ a, Al s1.heap a → ¬ lexmu c.X a → ¬ mu' a := fun a h1 h2 h3 => h2 (mold a h1 h3)
  refine start_ok (F := cFC csc C F.env) (hS O _) (depth := 0) (g := g) rfl has W st' (items_ok H hr hs' (hA O) hD (hT O _) (depth := 0) (g := g) rfl has (fun g' e' => hgs g' (List.mem_of_getElem? (i := 0) (by simpa using e'))) (rest_ok H hr hs' (hA O) hD (hT O _) (hS O _) (hemit (cFC csc C F.env) mu' O hs' hD) gs 0 rfl hgs) W offI' (fun a hfa => (W.ff a hfa).imp id fun ha => hlex a ha.1 ha.2) htup hci 0 z1 _ rfl (Nat.zero_add _) R' hno (hA O z1 z1 _ _ _ (fun _ h => h) (fun x o' hx e => hkP x o' e) (fun o' e => hkP O o' e) (hacc z1)) ⟨nzI, fun _ h => h, fun a o' _ e => hk a o' e, st'⟩ fun z' s' X R'' no' ac' => ?_)
  have hI1 := get_size s1.heap
  obtain ⟨m, hm⟩ := R''.ns
  have hsn : ∀ a : Nat, s1.heap.get? a = none → s.heap.get? a = none := fun a h => new_of R S1 h
  exact hq z' O C m s' (S1.trans ⟨fun a h => X.al a (alive_ne h hI1) (let ⟨o', e⟩ := h; ⟨o', hk a o' e⟩), X.zz, fun a h k => X.zn a (alive_ne h hI1) (let ⟨o', e⟩ := h; ⟨o', hk a o' e⟩) k, R''.zal, R''.zl, fun b o' e nl => X.kp b o' (alive_ne ⟨o', e⟩ hI1) (hk b o' e) (hlex b ⟨o', e⟩ nl), X.ge, X.os, X.dr⟩) R''.lx (hsn O hO1) (hsn C (hfresh C (by rw [hCs]; omega))) (by rw [hOs, hCs]; exact Nat.ne_of_lt (Nat.lt_succ_self _)) (R''.mal O hD.m) (fun k => R''.zmu O k hD.m) (fun k => R''.zmu C k R''.fmu) hm ac'
def AccL (c : Cx) (O : Addr) (z : Addr → Prop) (h : Heap) (acc : List D) : Prop := ∃ vs : List Value, h.PlainList O vs.toArray ∧ Rds c z h vs acc
def AccD (c : Cx) (O : Addr) (z : Addr → Prop) (h : Heap) (acc : List (Str × D)) : Prop := 1 < O ∧ ∃ kvs : List (Str × Value), h.DictOf (strKind c.prog c.w) O kvs ∧ RdsD c z h kvs acc
theorem accL_mono (O : Addr) : AccMono O (AccL c O) := by
  rintro z z' h h' a hz hk hO ⟨vs, p, r⟩
  exact ⟨vs, p.at hO, r.mono hz hk⟩
theorem accD_mono (O : Addr) : AccMono O (AccD c O) := by
  rintro z z' h h' a hz hk hO ⟨h1, vs, p, r⟩
  exact ⟨h1, vs, dictOf_at p hO, r.mono hz hk⟩
theorem emitL_ok (H : Hy c) {n : Nat} (hr : Room A n) {csc : Scope} (hs : ScOK F csc) (hD : AccAt c F mu O) {elt : Expr} :
    EmitOK c F A mu (AccL c O) (do let x ← eval elt F.env; let _ ← call (.builtin "list.append") [.ref O, x]; pure ()) (EmL c n csc elt) := by
  rintro z loc ls acc loc' acc' ls' s Q ⟨d, hev, hf, rfl, rfl⟩ R no ac hq
  refine wpAny_bind (hev.go F A hr hs z mu s _ _ R fun z1 x s1 S1 L1 r1 => ?_)
  have R1 := R.stpE H S1 L1
  obtain ⟨vs, p, r⟩ := accL_mono O z z1 _ _ _ S1.zz (fun x o hx e => S1.kp x o e (R.zl x hx)) (fun o e => S1.kp O o e fun k => hD.x (lexall_of k)) ac
  refine wpAny_bind (wpAny_list_append_plain p (fun h' p' hs' => wpAny_pure ?_) (by rw [List.size_toArray, r.len]; exact million hf))
  have hal : Al h' O := let ⟨k, e⟩ := p'; ⟨_, e⟩
  have keep : ∀ a o, z1 a → s1.heap.get? a = some o → h'.get? a = some o := fun a o za e => hs'.extBut a o (fun e' => R1.zmu a za (e' ▸ hD.m)) e
  exact hq z1 _ ((StpE.stpC R S1).trans (StpC.but (tk := s1.toks) hD.m hs' hal)) (R1.butD (tk := s1.toks) H hD (fun x d a e _ => absurd rfl (no x _ e)) hs' hal) no ⟨vs ++ [x], by rw [List.push_toArray] at p'; exact p', (r.mono (fun _ h => h) keep).append (.cons (Rd.mono (fun _ h => h) keep r1) .nil)⟩
theorem emitD_ok (H : Hy c) {n : Nat} (hr : Room A n) {csc : Scope} (hs : ScOK F csc) (hD : AccAt c F mu O) {k vx : Expr} :
    EmitOK c F A mu (AccD c O) (do let kv ← eval k F.env; let vv ← holding [kv] (eval vx F.env); standAt { k.pos with endLine := vx.pos.endLine, endCol := vx.pos.endCol }; holding [kv, vv] (dictSet O kv vv)) (EmD c n csc k vx) := by
  rintro z loc ls acc loc' acc' ls' s Q ⟨x, ls1, d, hev, hev2, hf, rfl, rfl⟩ R no ac hq
  refine wpAny_bind (hev.go F A hr hs z mu s _ _ R fun z1 kv s1 S1 L1 r1 => ?_)
  have R1 := R.stpE H S1 L1
  refine wpAny_bind (wpAny_holding (hev2.go F A hr hs z1 mu s1 _ _ R1 fun z2 vv s2 S2 L2 r2 => ?_))
  have R2 := R1.stpE H S2 L2
  have S12 := S1.trans S2
  obtain ⟨h1, kvs, p, r⟩ := accD_mono O z z2 _ _ _ S12.zz (fun x o hx e => S12.kp x o e (R.zl x hx)) (fun o e => S12.kp O o e fun k => hD.x (lexall_of k)) ac
  obtain ⟨t, rfl⟩ := Rd.i r1
  refine wpAny_bind (wpAny_standAt (wpAny_holding (wpAny_dictSet_pairs (knd := strKind c.prog c.w) (k := x) (strKind_is _ _ _ _) p (fun h' p' hs' => ?_) (by rw [r.len]; exact million hf))))
  have hal : Al h' O := let ⟨o, _, _, e, _⟩ := p'; ⟨o, e⟩
  have keep : ∀ a o, z2 a → s2.heap.get? a = some o → h'.get? a = some o := fun a o za e => hs'.extBut a o (fun e' => R2.zmu a za (e' ▸ hD.m)) e
  exact hq z2 _ ((StpE.stpC R S12).trans (StpC.but (tk := s2.toks + 1) hD.m hs' hal)) (R2.butD (tk := s2.toks + 1) H hD (fun x d a e _ => absurd rfl (no x _ e)) hs' hal) no ⟨h1, _, p', put_rd (Rd.mono (fun _ h => h) keep r2) (r.mono (fun _ h => h) keep)⟩
theorem comp_none (H : Hy c) {O C : Addr} {z' : Addr → Prop} {m : Str → Option Value} {d : D} {Q : Value → Shared → Prop} (S : StpE c z s z' s') (R : Rep c F z mu loc ls s) (L : LexOK c ls' s'.heap) (h1 : s.heap.get? O = none) (h2 : s.heap.get? C = none) (hne : O ≠ C) (hO : Al s'.heap O) (nO : ¬ z' O) (nC : ¬ z' C)
    (hm : s'.heap.Ns C m) (hr : FreshR c z' s'.heap O d) (hq : ∀ z' O s', StpE c z s z' s' → LexOK c ls' s'.heap → s.heap.get? O = none → Al s'.heap O → ¬ z' O → FreshR c z' s'.heap O d → Q (.ref O) s') :
    compPost (model c.prog c.w) A E none Q (.ref O) C (.ok .next) s' := by
  refine ⟨m, hm, fun h' hs => ?_⟩
  have ne : ∀ a, Al s.heap a → a ≠ C := fun a ⟨o, e⟩ e' => by rw [e', h2] at e; cases e
  have hk : ∀ a o, a ≠ C → s'.heap.get? a = some o → h'.get? a = some o := fun a o n e => hs.extBut a o n e
  have nz : ∀ a, z' a → a ≠ C := fun a h e => nC (e ▸ h)
  have nlx : ∀ a, lexall c.X a → a ≠ C := fun a h => ne a (lexall_al H R a h)
  refine hq z' O _ ⟨fun a h => ?_, S.zz, S.zn, fun a h => ?_, S.zl, fun b o e nl => hk b o (ne b ⟨o, e⟩) (S.kp b o e nl), S.ge, S.os, S.dr⟩ ?_ h1 ?_ nO (hr.mono (fun _ h => h) (fun a o za e => hk a o (nz a za) e) (fun o e => hk O o hne e))
  · obtain ⟨o, e⟩ := S.al a h; exact ⟨o, hk a o (ne a h) e⟩
  · obtain ⟨o, e⟩ := S.za a h; exact ⟨o, hk a o (nz a h) e⟩
  · exact L.but H (fun h => nlx C h rfl) fun b o n e => hk b o n e
  · obtain ⟨o, e⟩ := hO; exact ⟨o, hk O o hne e⟩
def CompRun (c : Cx) (F : FC) (A : Around) (loc : Loc) (ls : LS) (t : Option (Value → Sem Unit) → Sem Value) (d : D) (ls' : LS) : Prop :=
  ∀ (use : Option (Value → Sem Unit)) (z mu : Addr → Prop) (s : Shared) (Q : Value → Shared → Prop) (E : Value → Shared → Prop), Rep c F z mu loc ls s →
    (∀ z' O C m s', StpE c z s z' s' → LexOK c ls' s'.heap → s.heap.get? O = none → s.heap.get? C = none → O ≠ C → Al s'.heap O → ¬ z' O → ¬ z' C → s'.heap.Ns C m → FreshR c z' s'.heap O d → compPost (model c.prog c.w) A E use Q (.ref O) C (.ok .next) s') →
    wpAny (model c.prog c.w) A (t use) Q E s
theorem CompRun.evN (H : Hy c) {t : Option (Value → Sem Unit) → Sem Value} {d : D} (h : CompRun c F A loc ls t d ls') : EvN c F A loc ls (t none) d ls' := by
  intro z mu s Q E R hq
  exact h none z mu s Q E R fun z' O C m s' S L h1 h2 h3 h4 h5 h6 h7 h8 => comp_none H S R L h1 h2 h3 h4 h5 h6 h7 h8 hq
theorem listComp_run (H : Hy c) {n : Nat} (hr : Room A n) {sc : Scope} (hs : ScOK F sc) {elt : Expr} {gens : List Comprehension} {csc : Scope} {pos : Pos} {r : List D} (h : CompG c n sc loc ls csc gens (EmL c n csc elt) [] r ls') :
    CompRun c F A loc ls (fun use => comprehension (.ListComp elt gens csc pos) csc F.env (firstIterPos gens pos) (newList []) (firstAsync gens) (firstIter gens F.env) use) (.list r) ls' := fun use z mu s Q E R hq =>
  comp_ok H hr hs (AccR := AccL c) accL_mono rfl (emit := fun O env => (do let x ← eval elt env; let _ ← call (.builtin "list.append") [.ref O, x]; pure ())) (fun O env => turn_list) (fun O env => start_list) (fun s Q E _ h => wpAny_newObj_type (h _ rfl fun z => ⟨[], ⟨_, Heap.get?_push_size _ rfl⟩, .nil⟩)) (fun F' mu' O hs' hD => emitL_ok H hr hs' hD) h R fun z' O C m s' S L h1 h2 h3 h4 h5 h6 h7 ⟨vs, p, r⟩ => hq z' O C m s' S L h1 h2 h3 h4 h5 h6 h7 (.list p r)
theorem dictComp_run (H : Hy c) {n : Nat} (hr : Room A n) {sc : Scope} (hs : ScOK F sc) {k vx : Expr} {gens : List Comprehension} {csc : Scope} {pos : Pos} {r : List (Str × D)} (h : CompG c n sc loc ls csc gens (EmD c n csc k vx) [] r ls') :
    CompRun c F A loc ls (fun use => comprehension (.DictComp k vx gens csc pos) csc F.env (firstIterPos gens pos) newDict (firstAsync gens) (firstIter gens F.env) use) (.dict r) ls' := fun use z mu s Q E R hq =>
  comp_ok H hr hs (AccR := AccD c) accD_mono rfl (emit := fun O env => (do let kv ← eval k env; let vv ← holding [kv] (eval vx env); standAt { k.pos with endLine := vx.pos.endLine, endCol := vx.pos.endCol }; holding [kv, vv] (dictSet O kv vv))) (fun O env => turn_dict) (fun O env => start_dict) (fun s Q E hb h => wpAny_newObj_type (h _ rfl fun z => ⟨hb, [], Heap.DictOf.new _, .nil⟩)) (fun F' mu' O hs' hD => emitD_ok H hr hs' hD) h R fun z' O C m s' S L h1 h2 h3 h4 h5 h6 h7 ⟨hb, vs, p, r⟩ => hq z' O C m s' S L h1 h2 h3 h4 h5 h6 h7 (.dict (nsys hb) p r)
end
section
variable {c : Cx} {n : Nat} {sc csc : Scope} {loc : Loc} {ls ls' : LS} {elt k v : Expr} {gens : List Comprehension} {pos : Pos}
theorem Ev.listComp (H : Hy c) {r : List D} (h : CompG c n sc loc ls csc gens (EmL c n csc elt) [] r ls') : Ev c n sc loc ls (.ListComp elt gens csc pos) (.list r) true ls' := .of fun F A hr hs => ((listComp_run H hr hs h).evN H).ok
theorem Ev.dictComp (H : Hy c) {r : List (Str × D)} (h : CompG c n sc loc ls csc gens (EmD c n csc k v) [] r ls') : Ev c n sc loc ls (.DictComp k v gens csc pos) (.dict r) true ls' := .of fun F A hr hs => ((dictComp_run H hr hs h).evN H).ok
end
theorem swaps_no {v : Expr} (h : isComp v = false) (t : Option Expr) (n : Nat) (env : Env) : swapsWith v t n env = pure false := by
  cases v <;> first | rfl | exact nomatch h
def Turn (go : Loc → LS → Prop) (T : AF → Loc → LS → Prop) : AF → Loc → LS → Prop := fun af l ls => ((af = .next ∨ af = .cont) ∧ go l ls) ∨ (af = .brk ∧ T .next l ls) ∨ ((∃ r, af = .ret r) ∧ T af l ls)
noncomputable def ForR {σ : Type} (nxt : σ → LS → Option D → σ → LS → Prop) (c : Cx) (n : Nat) (sc : Scope) (t : Expr) (body : List Stmt) (T : AF → Loc → LS → Prop) : Nat → σ → Loc → LS → Prop
  | 0, q, loc, ls => ∃ q' ls1, nxt q ls none q' ls1 ∧ T .next loc ls1
  | k + 1, q, loc, ls => (∃ q' ls1, nxt q ls none q' ls1 ∧ T .next loc ls1) ∨ ∃ q' ls1 d loc1, nxt q ls (some d) q' ls1 ∧ Bind sc t d loc loc1 ∧ Ex c n sc loc1 ls1 body (Turn (ForR nxt c n sc t body T k q') T)
inductive Nx1 : List D → LS → Option D → List D → LS → Prop
  | nil {ls} : Nx1 [] ls none [] ls
  | cons {d ds ls} : Nx1 (d :: ds) ls (some d) ds ls
structure Nxt {σ : Type} (c : Cx) (F : FC) (A : Around) (t : Expr) (it : Value) (nxt : σ → LS → Option D → σ → LS → Prop) (J : σ → (Addr → Prop) → (Addr → Prop) → Shared → Prop) (zb mb : Addr → Prop) (sb : Shared) : Prop where
  stop : ∀ q ls q' ls1, nxt q ls none q' ls1 → ∀ (z mu : Addr → Prop) (loc : Loc) (s : Shared) (N : Shared → Prop) (T : Value → Shared → Prop) (E : Value → Shared → Prop), Rep c F z mu loc ls s → Stp zb mb sb z mu s → J q z mu s → (∀ z1 s1, Stp zb mb sb z1 mu s1 → Rep c F z1 mu loc ls1 s1 → N s1) →
    wpAny (model c.prog c.w) A (pyNext it) (fun r s1 => match r with | none => N s1 | some v => T v s1) E s
  item : ∀ q ls d q' ls1, nxt q ls (some d) q' ls1 → (∃ sc loc loc', Bind sc t d loc loc') → ∀ (z mu : Addr → Prop) (loc : Loc) (s : Shared) (N : Shared → Prop) (T : Value → Shared → Prop) (E : Value → Shared → Prop), Rep c F z mu loc ls s → Stp zb mb sb z mu s → J q z mu s → (∀ z1 u s1, Stp zb mb sb z1 mu s1 → Rep c F z1 mu loc ls1 s1 → J q' z1 mu s1 → Rd c z1 s1.heap u d → T u s1) →
    wpAny (model c.prog c.w) A (pyNext it) (fun r s1 => match r with | none => N s1 | some v => wpAny (model c.prog c.w) A (letOwnedTupleGo t it v) (fun _ s2 => T v s2) E s1) E s
  keep : ∀ q z mu s z' mu' s', J q z mu s → Stp z mu s z' mu' s' → J q z' mu' s'
section
variable {c : Cx} {F : FC} {A : Around} {z mu z' mu' : Addr → Prop} {s s' s1 : Shared} {loc loc' locE : Loc} {ls ls1 ls2 ls' lsE : LS} {d a b r d' : D} {x y u bb : Bool} {n : Nat} {sc : Scope} {af : AF} {t e v i it : Expr} {p p' pos : Pos} {w : Str} {st : Stmt} {rest body : List Stmt} {q : Value} {T T' : AF → Loc → LS → Prop}
theorem Ex.nil (h : T .next loc ls) : Ex c n sc loc ls [] T := .of fun F A _ _ z mu s Q E R hq => wpAny_execs_nil (hq _ _ _ .next z mu s h (Stp.refl _ _ _) R rfl)
theorem Ex.mono (h : Ex c n sc loc ls body T) (q : ∀ af l ls', T af l ls' → T' af l ls') : Ex c n sc loc ls body T' := .of fun F A hr hs z mu s Q E R hq => h.go F A hr hs z mu s Q E R fun af l ls' f z' mu' s' ht => hq af l ls' f z' mu' s' (q _ _ _ ht)
theorem Ex.step (h : E1 c n sc loc ls st fun af l ls' => af = .next ∧ Ex c n sc l ls' rest T) : Ex c n sc loc ls (st :: rest) T := .of fun F A hr hs z mu s Q E R hq =>
  wpAny_execs_cons (h.go F A hr hs z mu s _ _ R fun af l ls' f z1 mu1 s1 ⟨e, h2⟩ S1 R1 r1 => by
    cases e
    cases (r1 : f = .next)
    exact h2.go F A hr hs z1 mu1 s1 _ _ R1 fun af l ls' f z' mu' s' ht S' R' r' => hq af l ls' f z' mu' s' ht (S1.trans S') R' r')
theorem stops_ok {fl : Flow} {h : Heap} (hn : af ≠ .next) (r : FlowR c z h fl af) : fl ≠ .next := by
  rintro rfl
  cases af with
  | next => exact hn rfl
  | brk => exact nomatch (r : Flow.next = _)
  | cont => exact nomatch (r : Flow.next = _)
  | ret => obtain ⟨_, e, _⟩ := r; exact nomatch e
theorem Ex.cons (h : E1 c n sc loc ls st fun af l ls' => (af = .next ∧ Ex c n sc l ls' rest T) ∨ (af ≠ .next ∧ T af l ls')) : Ex c n sc loc ls (st :: rest) T := .of fun F A hr hs z mu s Q E R hq =>
  wpAny_execs_cons (h.go F A hr hs z mu s _ _ R fun af l ls' f z1 mu1 s1 ht S1 R1 r1 => by
    rcases ht with ⟨rfl, h2⟩ | ⟨hn, ht⟩
    · cases (r1 : f = .next)
      exact h2.go F A hr hs z1 mu1 s1 _ _ R1 fun af l ls' f z' mu' s' ht S' R' r' => hq af l ls' f z' mu' s' ht (S1.trans S') R' r'
    · have := stops_ok hn r1
      cases f with
      | next => exact absurd rfl this
      | _ => exact hq af l ls' _ z1 mu1 s1 ht S1 R1 r1)
theorem Ex.sub (h : SubL loc' loc) (hx : Ex c n sc loc' ls body T) : Ex c n sc loc ls body T := .of fun F A hr hs z mu s Q E R hq => hx.go F A hr hs z mu s Q E (R.sub h) hq
theorem E1.ret (H : Hy c) (h : Ev c n sc (frz loc) ls e d true ls1) (ht : T (.ret d) (frz loc) ls1) : E1 c n sc loc ls (.Return (some e) pos) T := .of fun F A hr hs z mu s Q E R hq =>
  let ⟨z1, mu1, S1, R1⟩ := R.frz
  wpAny_Return_some (h.go F A hr hs z1 mu1 s _ _ R1 fun z2 v s2 S2 L2 r2 => hq _ _ _ _ z2 mu1 s2 ht (S1.trans (S2.lift R1)) (R1.stpE H S2 L2) ⟨v, rfl, r2⟩)
theorem E1.cont (ht : T .cont loc ls) : E1 c n sc loc ls (.Continue pos) T := .of fun F A hr hs z mu s Q E R hq => wpAny_Continue (hq _ _ _ _ z mu s ht (Stp.refl _ _ _) R rfl)
theorem E1.ifT (H : Hy c) {o : List Stmt} (h1 : Tr c n sc loc ls t true ls1) (h2 : Ex c n sc loc ls1 body T) : E1 c n sc loc ls (.If t body o pos) T := .of fun F A hr hs z mu s Q E R hq =>
  wpAny_If (h1.go F A hr hs z mu s _ _ R fun z1 s1 S1 L1 => h2.go F A hr hs z1 mu s1 _ _ (R.stpE H S1 L1) fun af l ls' f z' mu' s' ht S' R' r' => hq af l ls' f z' mu' s' ht ((S1.lift R).trans S') R' r')
theorem E1.ifF (H : Hy c) {o : List Stmt} (h1 : Tr c n sc loc ls t false ls1) (h2 : Ex c n sc loc ls1 o T) : E1 c n sc loc ls (.If t body o pos) T := .of fun F A hr hs z mu s Q E R hq =>
  wpAny_If (h1.go F A hr hs z mu s _ _ R fun z1 s1 S1 L1 => h2.go F A hr hs z1 mu s1 _ _ (R.stpE H S1 L1) fun af l ls' f z' mu' s' ht S' R' r' => hq af l ls' f z' mu' s' ht ((S1.lift R).trans S') R' r')
theorem turn_end {go : Loc → LS → Prop} {l : Loc} {f : Flow} (ht : Turn go T af l ls) (r : FlowR c z s.heap f af) : ((f = .next ∨ f = .cont) ∧ go l ls) ∨ (f = .brk ∧ T .next l ls) ∨ ∃ v d, f = .ret v ∧ Rd c z s.heap v d ∧ T (.ret d) l ls := by
  rcases ht with ⟨rfl | rfl, h⟩ | ⟨rfl, h⟩ | ⟨⟨d, rfl⟩, h⟩
  · exact .inl ⟨.inl r, h⟩
  · exact .inl ⟨.inr r, h⟩
  · exact .inr (.inl ⟨r, h⟩)
  · exact .inr (.inr (let ⟨v, e, r⟩ := r; ⟨v, d, e, r, h⟩))
theorem loop_ok (H : Hy c) (hr : Room A n) (hs : ScOK F sc) {σ : Type} {nxt : σ → LS → Option D → σ → LS → Prop} {J : σ → (Addr → Prop) → (Addr → Prop) → Shared → Prop} (W : Nxt c F A t q nxt J z mu s) {k : Nat} {o : σ} (h : ForR nxt c n sc t body T k o loc ls) {s2 : Shared} {z2 mu2 : Addr → Prop} (S2 : Stp z mu s z2 mu2 s2) (R2 : Rep c F z2 mu2 loc ls s2) (hJ : J o z2 mu2 s2) {Q : Flow → Shared → Prop} {E : Value → Shared → Prop}
    (hq : ∀ af loc' ls' f z' mu' s', T af loc' ls' → Stp z mu s z' mu' s' → Rep c F z' mu' loc' ls' s' → FlowR c z' s'.heap f af → Q f s') :
    codeAny (model c.prog c.w) A (.forLoop t q body [] F.env) (fun r s' => match r with | .ok f => Q f s' | .error e => cameBackBy (model c.prog c.w) A F.env E e s') s2 := by
  refine codeAny_forLoop_any (fun k s' => ∃ o z' mu' loc' ls', Stp z mu s z' mu' s' ∧ Rep c F z' mu' loc' ls' s' ∧ J o z' mu' s' ∧ ForR nxt c n sc t body T k o loc' ls') ?_ k ⟨o, z2, mu2, loc, ls, S2, R2, hJ, h⟩
  rintro k s' ⟨o, z', mu', loc', ls', S', R', J', h'⟩
  have key : (∃ o' ls1, nxt o ls' none o' ls1 ∧ T .next loc' ls1) ∨ ∃ k' o' ls1 d loc1, k' < k ∧ nxt o ls' (some d) o' ls1 ∧ Bind sc t d loc' loc1 ∧ Ex c n sc loc1 ls1 body (Turn (ForR nxt c n sc t body T k' o') T) := by
    cases k with
    | zero => exact .inl h'
    | succ k => exact h'.imp id fun ⟨o', ls1, d, loc1, a⟩ => ⟨k, o', ls1, d, loc1, Nat.lt_succ_self _, a⟩
  rcases key with ⟨o', ls1, hn, hT⟩ | ⟨k', o', ls1, d, loc1, hk, hn, hb, hx⟩
  · exact W.stop o ls' _ _ hn z' mu' _ s' _ _ _ R' S' J' fun z3 s3 S3 R3 => wpAny_execs_nil (hq _ _ _ .next z3 mu' s3 hT S3 R3 rfl)
  · refine W.item o ls' d o' ls1 hn ⟨sc, loc', loc1, hb⟩ z' mu' loc' s' _ _ _ R' S' J' fun z3 u s3 S3 R3 J3 ru => ?_
    refine bind_ok H hr.h hs hb R3 ru fun s4 S4 R4 => hx.go F A hr hs z3 mu' s4 _ _ R4 fun af l2 ls2 f z5 mu5 s5 hT S5 R5 r5 => ?_
    have S6 := (S3.trans S4.fm.stp).trans S5
    rcases turn_end hT r5 with ⟨rfl | rfl, h⟩ | ⟨rfl, h⟩ | ⟨v, d, rfl, r, h⟩
    · exact ⟨k', hk, o', z5, mu5, l2, ls2, S6, R5, W.keep _ _ _ _ _ _ _ J3 (S4.fm.stp.trans S5), h⟩
    · exact ⟨k', hk, o', z5, mu5, l2, ls2, S6, R5, W.keep _ _ _ _ _ _ _ J3 (S4.fm.stp.trans S5), h⟩
    · exact hq _ _ _ .next z5 mu5 s5 h S6 R5 rfl
    · exact hq _ _ _ _ z5 mu5 s5 h S6 R5 ⟨v, rfl, r⟩
end
theorem swapped_none {ts : List Expr} {k : Nat} {p : Pos} {v : Expr} {env : Env} (h : ∀ vs k' p', v ≠ .Tuple vs k' p') : swappedStores [.Tuple ts k p] v env = pure none := by
  cases v <;> first | rfl | exact absurd rfl (h _ _ _)
theorem sole_no {v : Expr} (hc : isComp v = false) (t : Expr) (n : Nat) (env : Env) : swapsWithSole [t] v n env = pure false := by
  unfold swapsWithSole
  exact swaps_no hc _ _ _
theorem aug_store {i : Expr} (h : isSlice i = false) (ov iv new : Value) : augStore i ov iv new = (do holding [new, ov, iv] (setItem ov iv new); release [new, ov, iv] []; pure .next) := by
  cases i <;> first | rfl | cases h
inductive SetN (sc : Scope) : List Expr → List D → Loc → Loc → Prop
  | nil {loc} : SetN sc [] [] loc loc
  | cons {x p d es ds loc loc'} : canW sc x = true → SetN sc es ds (setL x ⟨.fz, d⟩ loc) loc' → SetN sc (.Name x p :: es) (d :: ds) loc loc'
section
variable {c : Cx} {F : FC} {A : Around} {z mu z' mu' : Addr → Prop} {s s' s1 : Shared} {loc loc' locE : Loc} {ls ls1 ls2 ls' lsE : LS} {d a b r d' : D} {x y u bb : Bool} {n : Nat} {sc : Scope} {af : AF} {t e v i it : Expr} {p p' pos : Pos} {w : Str} {st : Stmt} {rest body : List Stmt} {q : Value} {T T' : AF → Loc → LS → Prop}
theorem new_store {x : Str} (hv : isComp v = false) (H : Hy c) (h : EvN c F A loc ls (eval v F.env) d ls') (hfk : F.env.scope.kind = .function) (hx : x ∈ F.wn) (own : Bool) (hT : T .next (setL x ⟨if own then .own else .fz, d⟩ loc) ls') : ExOK c F A loc ls (exec (.Assign [.Name x p] v pos) F.env) T := fun z mu s Q E R hq =>
  wpAny_Assign_Name (h z mu s _ _ R fun z1 O s1 S1 L1 h1 h2 h3 r1 => store_new H R hfk S1 L1 h1 h2 h3 r1 hx own fun z2 mu2 s2 S2 R2 _ _ _ _ => hq _ _ _ .next z2 mu2 s2 hT S2 R2 rfl) (swaps_no hv _ _ _)
theorem swaps_is {v : Expr} (h : isComp v = true) (x : Str) (p : Pos) (n : Nat) (env : Env) : ∃ b, swapsWith v (some (.Name x p)) n env = pure b := by
  cases v <;> first | exact ⟨_, rfl⟩ | cases h
theorem comp_store (H : Hy c) {v : Expr} {x : Str} {p pos : Pos} {t : Option (Value → Sem Unit) → Sem Value} (hc : isComp v = true) (h1 : eval v F.env = t none) (h2 : ∀ u, evalThenUse v F.env u = (do let _ ← t (some u)))
    (h : CompRun c F A loc ls t d ls') (hfk : F.env.scope.kind = .function) (hx : x ∈ F.wn) (own : Bool) (hT : T .next (setL x ⟨if own then .own else .fz, d⟩ loc) ls') : ExOK c F A loc ls (exec (.Assign [.Name x p] v pos) F.env) T := by
  intro z mu s Q E R hq
  obtain ⟨sw, hsw⟩ := swaps_is hc x p pos.line F.env
  cases sw with
  | false =>
    have hN := h.evN H
    refine wpAny_Assign_Name ?_ hsw
    rw [h1]
    refine hN z mu s _ _ R fun z1 O s1 S1 L1 h1 h2 h3 r1 => ?_
    exact store_new H R hfk S1 L1 h1 h2 h3 r1 hx own fun z2 mu2 s2 S2 R2 _ _ _ _ => hq _ _ _ .next z2 mu2 s2 hT S2 R2 rfl
  | true =>
    rw [exec_Assign_Name_used _ _ _ _ hsw, h2]
    refine wpAny_bind (wpAny_standAt (wpAny_bind (wpAny_bind ?_)))
    refine h (some (assign (.Name x p) F.env)) z mu s _ _ R fun z1 O C m s1 S1 L1 hO hC hne hOa nO nC hm r1 => ?_
    show wpAny _ A (assign (.Name x p) F.env (.ref O)) _ _ s1
    refine wpAny_assign_Name (store_new H R hfk S1 L1 hO hOa nO r1 hx own fun z2 mu2 s2 S2 R2 held oth mnew znew => ?_)
    have alC : ∀ a, Al s.heap a → a ≠ C := fun a ⟨o, e⟩ e' => by rw [e', hC] at e; cases e
    refine ⟨m, hm.at' fun o e => oth C o hC (Ne.symm hne) e, fun h' hs' => wpAny_pure (wpAny_pure ?_)⟩
    have offC : Off c F mu2 C := by
      refine ⟨fun k => ?_, ?_, fun k => alC C (lexall_al H R C k) rfl, fun y b l => alC b (R.cl y b l).2.2.2⟩
      · rcases mnew C k with k | k
        · exact alC C (R.mal C k) rfl
        · exact hne k.symm
      · cases e : c.K.lookup C with
        | none => rfl
        | some o => exact absurd rfl (alC C ⟨o, R.kin C o e⟩)
    have nz2 : ¬ z2 C := fun k => by
      rcases znew C k with k | k
      · exact nC k
      · exact hne k.symm
    have hk : ∀ b o, b ≠ C → s2.heap.get? b = some o → h'.get? b = some o := fun b o n e => hs'.extBut b o n e
    have R3 := R2.butV (tk := s2.toks) H offC nz2 (fun y lv a e hsl => by
      rcases held y lv a e hsl with k | k
      · exact alC a k
      · rw [k]; exact hne) hk
    refine hq _ _ _ .next z2 mu2 _ hT ⟨fun a k => ?_, S2.zz, S2.zn, S2.mm, fun b o e n => hk b o (alC b ⟨o, e⟩) (S2.kp b o e n), S2.ge, S2.os, S2.dr⟩ R3 rfl
    obtain ⟨o, e⟩ := S2.al a k
    exact ⟨o, hk a o (alC a k) e⟩
theorem E1.newL (H : Hy c) (own : Bool) {es : List Expr} {ds : List D} (hw : canW sc w = true) (h : Evs c n sc loc ls es (fz ds) ls') (hf : ds.length ≤ 1000000) (hT : T .next (setL w ⟨if own then .own else .fz, .list ds⟩ loc) ls') : E1 c n sc loc ls (.Assign [.Name w p] (.List es p') pos) T := .of fun F A hr hs => new_store rfl H (list_evN H hr hs h hf) hs.fk (hs.wn _ hw) own hT
theorem E1.newD0 (H : Hy c) (own : Bool) (hw : canW sc w = true) (hT : T .next (setL w ⟨if own then .own else .fz, .dict []⟩ loc) ls) : E1 c n sc loc ls (.Assign [.Name w p] (.Dict [] [] p') pos) T := .of fun F A hr hs => new_store rfl H (dict0_evN H) hs.fk (hs.wn _ hw) own hT
theorem E1.newLC (H : Hy c) (own : Bool) {elt : Expr} {gens : List Comprehension} {csc : Scope} {l : List D} (hw : canW sc w = true) (h : CompG c n sc loc ls csc gens (EmL c n csc elt) [] l ls') (hT : T .next (setL w ⟨if own then .own else .fz, .list l⟩ loc) ls') : E1 c n sc loc ls (.Assign [.Name w p] (.ListComp elt gens csc p') pos) T := .of fun F A hr hs => comp_store H rfl rfl (fun _ => rfl) (listComp_run H hr hs h) hs.fk (hs.wn _ hw) own hT
theorem E1.assign (H : Hy c) (hv : isComp v = false) (hw : canW sc w = true) (h : Ev c n sc loc ls v d true ls') (hT : T .next (setL w ⟨.fz, d⟩ loc) ls') : E1 c n sc loc ls (.Assign [.Name w p] v pos) T := .of fun F A hr hs z mu s Q E R hq =>
  wpAny_Assign_Name (h.go F A hr hs z mu s _ _ R fun z1 v s1 S1 L1 r1 => store_fz H (R.stpE H S1 L1) hs.fk (hs.wn _ hw) r1 fun s2 S2 R2 => hq _ _ _ .next z1 mu s2 hT ((S1.lift R).trans S2.fm.stp) R2 rfl) (swaps_no hv _ _ _)
theorem SetN.each {es : List Expr} {ds : List D} (h : SetN sc es ds loc loc') (env : Env) : (assignEach es env).findIdx? (·.1) = none ∧ (assignEach es env).length = ds.length := by
  induction h with
  | nil => exact ⟨rfl, rfl⟩
  | @cons x p d es ds loc loc' _ _ ih =>
    have e1 : assignEach (.Name x p :: es) env = (false, assign (.Name x p) env) :: assignEach es env := rfl
    rw [e1]
    refine ⟨?_, congrArg Nat.succ ih.2⟩
    rw [List.findIdx?_cons, ih.1]
    rfl
theorem setN_ok (H : Hy c) (hs : ScOK F sc) {es : List Expr} {ds : List D} (h : SetN sc es ds loc loc') : ∀ (vs : List Value) (s : Shared) {Q : Unit → Shared → Prop} {E : Value → Shared → Prop}, Rep c F z mu loc ls s → Rds c z s.heap vs ds →
    (∀ s', StpC z (FM F mu) s z s' → Rep c F z mu loc' ls s' → Q () s') → wpAny (model c.prog c.w) A (assignInOrder ((assignEach es F.env).map (·.2)) vs) Q E s := by
  induction h with
  | nil => intro vs s Q E R r hq; cases (r.i : vs = []); exact wpAny_pure (hq s (StpC.refl _ _ _) R)
  | @cons x p d es ds loc loc' hw _ ih =>
    intro vs s Q E R r hq
    obtain ⟨v, vs, rfl, r, rs⟩ := r.i
    exact wpAny_bind (wpAny_holding (wpAny_assign_Name (store_fz H R hs.fk (hs.wn x hw) r fun s1 S1 R1 => ih vs s1 R1 (rs.mono (fun _ h => h) fun a o za e => S1.kp a o e fun m => R.zmu a za m.1) fun s2 S2 R2 => hq s2 (S1.trans S2) R2)))
theorem E1.tuple (H : Hy c) {es : List Expr} {k : Nat} {ds : List D} (hc : isComp v = false) (hsw : ∀ env, swappedStores [.Tuple es k p] v env = pure none) (h : Ev c n sc loc ls v (.tup ds) true ls1) (hset : SetN sc es ds loc loc') (hT : T .next loc' ls1) : E1 c n sc loc ls (.Assign [.Tuple es k p] v pos) T := .of fun F A hr hs z mu s Q E R hq =>
  wpAny_Assign_stores (h.go F A hr hs z mu s _ _ R fun z1 u s1 S1 L1 r1 => by
    have R1 := R.stpE H S1 L1
    obtain ⟨a, vs, rfl, za, pt, r⟩ := Rd.i r1
    show wpAny _ _ (standAt p >>= fun _ => unpack (.ref a) (assignEach es F.env)) _ E s1
    obtain ⟨n1, n2⟩ := hset.each F.env
    refine wpAny_bind (wpAny_standAt (wpAny_unpack_tuple hr.h pt.isTuple (by rw [n2, List.size_toArray, r.len]) n1 fun h' he => ?_))
    have hk := extBut_size he
    have S2 := StpE.same (tk := s1.toks) R1 hk
    exact setN_ok H hs hset _ _ (R1.stpE H S2 (R1.lx.keep H hk)) (r.step S2 R1.zl) fun s3 S3 R3 => hq _ _ _ .next z1 mu s3 hT (((S1.lift R).trans (S2.lift R1)).trans S3.fm.stp) R3 rfl) (sole_no hc _ _ _) (hsw _)
theorem slot_up {w : Str} {o : Addr} (R : Rep c F z mu loc ls s) (S : StpE c z s z' s') (h : Slot F.env s.heap w (.ref o)) : Slot F.env s'.heap w (.ref o) := h.kp (fun o e => S.kp _ o e fun k => R.fl (lexall_of k)) fun y b o l e => S.kp _ o e fun k => (R.cl y b l).1 (lexall_of k)
theorem name_own (hfk : F.env.scope.kind = .function) (hp : plainN w = true) {o : Addr} (hsl : Slot F.env s.heap w (.ref o)) {Q E : Value → Shared → Prop} (hq : Q (.ref o) s) : wpAny (model c.prog c.w) A (eval (.Name w p) F.env) Q E s :=
  wpAny_Name (load_slot hfk (plainN_of hp).2 hsl hq) (plainN_of hp).1
theorem E1.put (H : Hy c) (hp : plainN w = true) (hc : isComp v = false) (hx : loc.lookup w = some ⟨.own, a⟩) (hv : Ev c n sc loc ls v d true ls1) (hi : Ev c n sc loc ls1 i b x ls2) (h : Put a b d d') (hT : T .next (setL w ⟨.own, d'⟩ loc) ls2) : E1 c n sc loc ls (.Assign [.Subscript (.Name w p) i p'] v pos) T := .of fun F A hr hs z mu s Q E R hq =>
  wpAny_Assign_Subscript (hv.go F A hr hs z mu s _ _ R fun z1 u s1 S1 L1 r1 =>
    have R1 := R.stpE H S1 L1
    let ⟨o, hsl, _, _, _⟩ := own_at R1 hx
    name_own hs.fk hp hsl (hi.go F A hr hs z1 mu s1 _ _ R1 fun z2 w s2 S2 L2 r2 =>
      have R2 := R1.stpE H S2 L2
      put_ok H R2 hx (slot_up R1 S2 hsl) h (Rd.step r1 S2 R1.zl) r2.t fun s3 S3 R3 => hq _ _ _ .next z2 mu s3 hT (((S1.lift R).trans (S2.lift R1)).trans S3.stp) R3 rfl)) (swaps_no hc _ _ _)
theorem E1.aug (H : Hy c) {op : Operator} (hp : plainN w = true) (hw : canW sc w = true) (hx : loc.lookup w = some ⟨.fz, a⟩) (hv : Ev c n sc loc ls v b x ls1) (h : Inp op a b d) (hT : T .next (setL w ⟨.fz, d⟩ loc) ls1) : E1 c n sc loc ls (.AugAssign (.Name w p) op v pos) T := by
  refine .of ?_
  intro F A hr hs z mu s Q E R hq
  obtain ⟨u, hsl, hl⟩ := R.vars w _ hx
  refine wpAny_AugAssign_Name (load_slot hs.fk (plainN_of hp).2 hsl (hv.go F A hr hs z mu s _ _ R fun z1 w s1 S1 L1 r1 => ?_))
  have R1 := R.stpE H S1 L1
  refine inp_ok h (.inl (Rd.step hl S1 R.zl)) r1.t fun r k hr => ?_
  have S2 := StpE.toks R1 k
  exact store_fz H (R1.stpE H S2 R1.lx) hs.fk (hs.wn _ hw) (hr _ _) fun s3 S3 R3 => hq _ _ _ .next z1 mu s3 hT (((S1.lift R).trans (S2.lift R1)).trans S3.fm.stp) R3 rfl
theorem E1.augS (H : Hy c) {op : Operator} {o r' : D} (hp : plainN w = true) (hi0 : isSlice i = false) (hx : loc.lookup w = some ⟨.own, a⟩) (hi : Ev c n sc loc ls i b x ls1) (hsub : Sub a b o) (hv : Ev c n sc loc ls1 v r y ls2) (h : Inp op o r r') (hP : Put a b r' d') (hT : T .next (setL w ⟨.own, d'⟩ loc) ls2) : E1 c n sc loc ls (.AugAssign (.Subscript (.Name w p) i p') op v pos) T := by
  refine .of ?_
  intro F A hr hs z mu s Q E R hq
  refine wpAny_AugAssign_SubscriptAny ?_ (aug_store hi0)
  obtain ⟨o1, hs0, m0, nx, r0⟩ := own_at R hx
  refine name_own hs.fk hp hs0 (hi.go F A hr hs z mu s _ _ R fun z1 w1 s1 S1 L1 r1 => ?_)
  have R1 := R.stpE H S1 L1
  have hs1 := slot_up R S1 hs0
  have ra : RdT c z1 s1.heap (.ref o1) a := by
    obtain ⟨a', hs', m, nx', r⟩ := own_at R1 hx
    cases hs'.fn hs1
    exact .inr ⟨_, rfl, fun k => nx (lexall_of k), r⟩
  obtain ⟨_, _, _, _, hget⟩ := sub_ok (A := A) (E := E) (Q := fun old s₃ => wpAny (model c.prog c.w) A (eval v F.env) (fun v s₄ => wpAny (model c.prog c.w) A (inplaceOp op old v) (fun new s₅ => wpAny (model c.prog c.w) A (setItem (.ref o1) w1 new) (fun _ => Q .next) E s₅) E s₄) E s₃) hsub ra r1.t fun u k ru => by
    have S2 := StpE.toks R1 k
    have R2 := R1.stpE H S2 R1.lx
    refine hv.go F A hr hs z1 mu _ _ _ R2 fun z3 y s3 S3 L3 r3 => ?_
    have R3 := R2.stpE H S3 L3
    refine inp_ok h (.inl ((ru.step S2 R1.zl).step S3 R2.zl)) r3.t fun r n' hr' => ?_
    have S4 := StpE.toks R3 n'
    have R4 := R3.stpE H S4 R3.lx
    exact put_ok H R4 hx (slot_up R3 S4 (slot_up R2 S3 (slot_up R1 S2 hs1))) hP (hr' _ _) (((r1.step S2 R1.zl).step S3 R2.zl).step S4 R3.zl).t fun s5 S5 R5 => hq _ _ _ .next z3 mu s5 hT (((((S1.lift R).trans (S2.lift R1)).trans (S3.lift R2)).trans (S4.lift R3)).trans S5.stp) R5 rfl
  exact hget
theorem E1.expr (H : Hy c) {f : Expr} {args : List Expr} {kws : List Keyword} {cp : Pos} (hv : Ev c n sc loc ls (.Call f args kws cp) .none x ls1) (hT : T .next loc ls1) : E1 c n sc loc ls (.Expr (.Call f args kws cp) pos) T := .of fun F A hr hs z mu s Q E R hq =>
  wpAny_Expr_any (hv.go F A hr hs z mu s _ _ R fun z1 v s1 S1 L1 r1 => hq _ _ _ .next z1 mu s1 hT (S1.lift R) (R.stpE H S1 L1) rfl) (by unfold interactive; rw [hs.fk]; rfl) rfl
end
inductive App : Str → List D → D → List D → Prop
  | append {l : List D} {d : D} : l.length ≤ 1000000 → App "append" l d (l ++ [d])
  | extend {l m : List D} : l.length + m.length ≤ 1000000 → App "extend" l (.list m) (l ++ m)
section
variable {c : Cx} {F : FC} {A : Around} {z mu z' mu' : Addr → Prop} {s s' s1 : Shared} {loc loc' locE : Loc} {ls ls1 ls2 ls' lsE : LS} {d a b r d' : D} {x y u bb : Bool} {n : Nat} {sc : Scope} {af : AF} {t e v i it : Expr} {p p' pos ap cp xp : Pos} {w nm : Str} {st : Stmt} {rest body : List Stmt} {q : Value} {T T' : AF → Loc → LS → Prop} {l m : List D} {args : List Expr}
theorem E1.app (H : Hy c) (hp : plainN w = true) (hx : loc.lookup w = some ⟨.own, .list l⟩) (hline : (ap.endLine == cp.line) = true) (hn : args.length < 20) (ha : Evs c n sc loc ls args (fz [d]) ls1) (h : App nm l d m) (hT : T .next (setL w ⟨.own, .list m⟩ loc) ls1) : E1 c n sc loc ls (.Expr (.Call (.Attribute (.Name w xp) nm ap) args [] cp) pos) T := by
  refine .of ?_
  intro F A hr hs z mu s Q E R hq
  refine wpAny_Expr_any ?_ (by unfold interactive; rw [hs.fk]; rfl) rfl
  obtain ⟨a, hs0, m0, nx, r0⟩ := own_at R hx
  have main : ∀ id : String, PySem.Slot "list" nm id → typeOf (.builtin id) = pure (.type "method_descriptor") → (∀ z1 v s1 vs, StpE c z s z1 s1 → Rep c F z1 mu loc ls1 s1 → Slot F.env s1.heap w (.ref a) → mu a → s1.heap.PlainList a (List.toArray vs) → Rds c z1 s1.heap vs l → Rd c z1 s1.heap v d → wpAny (model c.prog c.w) A (call (.builtin id) [.ref a, v]) (fun _ s' => Q .next s') E s1) →
      wpAny (model c.prog c.w) A (eval (.Call (.Attribute (.Name w xp) nm ap) args [] cp) F.env) (fun _ s' => Q .next s') E s := by
    intro id slot hty hcall
    refine call_method base_name ha.plain hn hline (name_own hs.fk hp hs0 fun pl => ?_)
    obtain ⟨vs, ⟨k, p⟩, _⟩ := r0.i
    refine getMethod_builtin (T := "list") ⟨_, p, rfl⟩ PySem.F.plainAttrs_list slot hty (fun a' e => by cases e; exact ⟨_, p, rfl⟩) (call_with (P := fun _ => True) ha.plain (fun h _ => keep_non (f := .builtin id) (fun a e => nomatch e) h) (evs_ok H hr hs cp ha z mu s _ _ R fun z1 vs s1 S1 L1 r1 => ⟨trivial, ?_⟩))
    have R1 := R.stpE H S1 L1
    obtain ⟨v, vs', rfl, rv, rs⟩ := (r1.fz : Rds c z1 s1.heap vs [d]).i
    cases (rs.i : vs' = [])
    have hs1 := slot_up R S1 hs0
    obtain ⟨a', hs', m1, _, r⟩ := own_at R1 hx
    cases hs'.fn hs1
    obtain ⟨vs, p, rs⟩ := r.i
    exact hcall z1 v s1 vs S1 R1 hs1 m1 p rs rv
  have fin : ∀ (z1 : Addr → Prop) (s1 : Shared) (h' : Heap) (ws : List Value), StpE c z s z1 s1 → Rep c F z1 mu loc ls1 s1 → Slot F.env s1.heap w (.ref a) → mu a → Heap.SameBut a s1.heap h' → h'.PlainList a ws.toArray → Rds c z1 s1.heap ws m → Q .next { s1 with heap := h' } := fun z1 s1 h' ws S1 R1 hs1 m1 hs2 p' rs => by
    have keep : ∀ b o, z1 b → s1.heap.get? b = some o → h'.get? b = some o := fun b o zb e => hs2.extBut b o (fun e' => R1.zmu b zb (e' ▸ m1)) e
    obtain ⟨R2, S2⟩ := R1.own (tk := s1.toks) H hx hs1 m1 nx hs2 (.list p' (rs.mono (fun _ h => h) keep))
    exact hq _ _ _ .next z1 mu _ hT ((S1.lift R).trans S2.stp) R2 rfl
  cases h with
  | append hf =>
    refine main "list.append" PySem.F.slot_list_append PySem.F.type_list_append fun z1 v s1 vs S1 R1 hs1 m1 p rs rv => ?_
    exact wpAny_list_append_plain p (fun h' p' hs2 => fin z1 s1 h' (vs ++ [v]) S1 R1 hs1 m1 hs2 (by rw [List.push_toArray] at p'; exact p') (rs.append (.cons rv .nil))) (by rw [List.size_toArray, rs.len]; exact million hf)
  | @extend _ m2 hf =>
    refine main "list.extend" PySem.F.slot_list_extend PySem.F.type_list_extend fun z1 v s1 vs S1 R1 hs1 m1 p rs rv => ?_
    obtain ⟨k1, p⟩ := p
    obtain ⟨b, ws, rfl, zb, ⟨k2, q⟩, rw'⟩ := rv.i
    have hz : vs.length + ws.length ≤ 1000000 := by rw [rs.len, rw'.len]; exact hf
    have htl : ¬(!vs.toArray.isEmpty && Builtin.List.listTooLong (vs.toArray.size + ws.toArray.size)) = true := by
      have : Builtin.List.listTooLong (vs.toArray.size + ws.toArray.size) = false := by
        unfold Builtin.List.listTooLong sizeLine
        rw [List.size_toArray, List.size_toArray]
        exact decide_eq_false (by omega)
      rw [this, Bool.and_false]; exact Bool.false_ne_true
    refine call_meets PySem.F.slot_list_extend ⟨_, p, rfl⟩ PySem.F.entry_list_extend (PySem.F.args_list_extend_2 _ _) (PySem.AutoSeq1.list_extend_list_list_0 a vs.toArray k1 b ws.toArray k2 htl (by unfold sizeLine; rw [List.size_toArray]; omega) (by unfold sizeLine; rw [List.size_toArray, List.size_toArray]; omega)) ⟨p, q, ?_⟩
    have hu := Heap.get?_update_self (Obj.mapSeq fun x => x ++ ws.toArray) p rfl
    exact fin z1 s1 (s1.heap.update a (Obj.mapSeq fun x => x ++ ws.toArray)) (vs ++ ws) S1 R1 hs1 m1 (Heap.SameBut.update ..) ⟨_, by simpa [Obj.mapSeq] using hu⟩ (rs.append rw')
theorem Stp.butI (S : Stp z mu s z' mu' s') {I : Addr} (hI : s.heap.get? I = none) {h' : Heap} {tk : Nat} (hk : ∀ b o, b ≠ I → s'.heap.get? b = some o → h'.get? b = some o) : Stp z mu s z' mu' { s' with heap := h', toks := tk } :=
  have ne : ∀ a, Al s.heap a → a ≠ I := fun a x => alive_ne x hI
  ⟨fun a h => let ⟨o, e⟩ := S.al a h; ⟨o, hk a o (ne a h) e⟩, S.zz, S.zn, S.mm, fun b o e n => hk b o (ne b ⟨o, e⟩) (S.kp b o e n), S.ge, S.os, S.dr⟩
theorem Held.keep {z1 z2 m2 : Addr → Prop} {s1 s2 : Shared} {I : Addr} {P P' : Heap → Prop} (h : Held z1 s1 I P z s) (nm : ¬ mu I) (al : Al s.heap I) (hz : ∀ a, z1 a → ¬ mu a ∧ Al s.heap a) (S : Stp z mu s z2 m2 s2) (hP : P s.heap → P' s2.heap) : Held z1 s1 I P' z2 s2 ∧ ¬ m2 I :=
  ⟨⟨fun k => (S.zn I al k).elim h.nz nm, fun a za => S.zz a (h.zz a za), fun a o za e => S.kp a o (h.zk a o za e) (hz a za).1, hP h.st⟩, fun k => nm (S.mm I al k)⟩
theorem nxt_list (H : Hy c) (hr : A.handled = none) {z1 : Addr → Prop} {items : List D} {I : Addr} {fp : List Addr} {P : Nat → Value → Prop} {St : Nat → Heap → Prop} (W : Itr c A z1 s1 true d items I fp P St) (hIs : s.heap.get? I = none) (hnk : c.K.lookup I = none) (hnx : ¬ lexall c.X I) (hnc : ∀ y b, F.env.cells.lookup y = some b → b ≠ I) (htl : isTup t = true → isList d = true) :
    Nxt c F A t (.ref I) Nx1 (fun ds z mu s => ¬ mu I ∧ ∃ i, Held z1 s1 I (St i) z s ∧ items.drop i = ds ∧ i + ds.length = items.length ∧ ∀ a, z1 a → ¬ mu a ∧ Al s.heap a) z mu s := by
  refine ⟨fun q ls q' ls1 hn z' mu' loc s' N T E R S ⟨nm, i, hh, hd, hl, hz⟩ hN => ?_, fun q ls d' q' ls1 hn ⟨sc, l1, l2, hb⟩ z' mu' loc s' N T E R S ⟨nm, i, hh, hd, hl, hz⟩ hT => ?_, fun q z2 m2 s2 z3 m3 s3 ⟨nm, i, hh, hd, hl, hz⟩ S => ?_⟩
  · cases hn
    obtain rfl : i = items.length := hl
    refine W.w.done s' _ _ hh.st fun h' tk hk => ?_
    have hk' : ∀ b o, b ≠ I → s'.heap.get? b = some o → h'.get? b = some o := fun b o hb e => hk b o (by simpa using hb) e
    exact hN z' _ (S.butI hIs hk') (R.butI H ⟨nm, hnk, hnx, hnc⟩ hh.nz (W.nl _ _ hh.st) hk')
  · cases hn
    have hi : i < items.length := by rw [← hl, List.length_cons]; omega
    obtain ⟨hdi, hdr⟩ := drop_cons hd
    refine W.w.item i s' _ _ hi hh.st fun v h' tk hv st' hk => ?_
    have hk' : ∀ b o, b ≠ I → s'.heap.get? b = some o → h'.get? b = some o := fun b o hb e => hk b o (by simpa using hb) e
    have zk3 : ∀ a o, z1 a → s1.heap.get? a = some o → h'.get? a = some o := fun a o za e => hk' a o (fun e' => hh.nz (e' ▸ hh.zz a za)) (hh.zk a o za e)
    have r0 : Rd c z' h' v d' := by
      obtain ⟨e', h1, h2⟩ := W.it i v hi hv
      cases (Option.some.inj (hdi.symm.trans h1) : d' = e')
      exact h2.mono hh.zz zk3
    exact let_go hb r0 (fun ht => W.li (htl ht) _ _ st') (hT z' v _ (S.butI hIs hk') (R.butI H ⟨nm, hnk, hnx, hnc⟩ hh.nz (W.nl _ _ hh.st) hk') ⟨nm, i + 1, ⟨hh.nz, hh.zz, zk3, st'⟩, hdr, by rw [← hl, List.length_cons]; omega, fun a za => ⟨(hz a za).1, let ⟨o, e⟩ := (hz a za).2; ⟨o, hk' a o (fun e' => hh.nz (e' ▸ hh.zz a za)) e⟩⟩⟩ r0)
  · have al := W.al _ _ hh.st
    have hf : ∀ b ∈ fp, ¬ m2 b := fun b hb => (W.fz rfl b hb).elim (fun e => e ▸ nm) fun zb => (hz b zb).1
    obtain ⟨h1, h2⟩ := hh.keep (P' := St i) nm al hz S fun st => W.w.frame _ _ _ st fun b hb o e => S.kp b o e (hf b hb)
    exact ⟨h2, i, h1, hd, hl, fun a za => ⟨fun m => (hz a za).1 (S.mm a (hz a za).2 m), S.al a (hz a za).2⟩⟩
end
inductive NxI : List (Str × D) → LS → Option D → List (Str × D) → LS → Prop
  | nil {ls} : NxI [] ls none [] ls
  | cons {k d l ls} : NxI ((k, d) :: l) ls (some (.tup [.str k, d])) l ls
def NxF (nx : LX → Option D → LX → Prop) : Unit → LS → Option D → Unit → LS → Prop := fun _ ls r _ ls' => ∃ l l', ls = some l ∧ ls' = some l' ∧ nx l r l'
section
variable {c : Cx} {F : FC} {A : Around} {z mu z' mu' : Addr → Prop} {s s' s1 : Shared} {loc loc' locE : Loc} {ls ls1 ls2 ls' lsE : LS} {d a b r d' : D} {x y u bb : Bool} {n : Nat} {sc : Scope} {af : AF} {t e v i it : Expr} {p p' pos ap cp xp : Pos} {w nm : Str} {st : Stmt} {rest body : List Stmt} {q : Value} {T T' : AF → Loc → LS → Prop} {items : List D} {l : List (Str × D)}
theorem E1.for (H : Hy c) (hset : isSet it = false) (hev : Ev c n sc loc ls it d true ls1) (hit : Iter d items) (htl : isTup t = true → isList d = true) {k : Nat} (h : ForR Nx1 c n sc t body T k items loc ls1) : E1 c n sc loc ls (.For t it body [] pos) T := by
  refine .of ?_
  intro F A hr hs z mu s Q E R hq
  refine wpAny_For (hev.go F A hr hs z mu s _ _ R fun z1 v s1 S1 L1 r1 => ?_) (folded_id hset F.env)
  have R1 := R.stpE H S1 L1
  refine itr_ok (b := true) hr.h hit r1 R1.zl fun o fp P St hf W st => ?_
  obtain ⟨hO, nz⟩ := Off.fresh H R1 (get_size s1.heap)
  have hk : ∀ b o', s1.heap.get? b = some o' → (s1.heap.push o).get? b = some o' := fun b o' e => Heap.get?_push_of_some _ e
  have S2 : StpE c z1 s1 z1 { s1 with heap := s1.heap.push o } := StpE.same (tk := s1.toks) R1 hk
  have R2 := R1.stpE H S2 (R1.lx.keep H hk)
  exact loop_ok H hr hs (nxt_list (t := t) H hr.h W (new_of R S1 (get_size _)) hO.nk hO.nx hO.nc htl) h ((S1.lift R).trans (S2.lift R1)) R2 ⟨hO.nm, 0, ⟨nz, fun _ h => h, fun a o' _ e => hk a o' e, st⟩, rfl, Nat.zero_add _, fun a za => ⟨R1.zmu a za, S2.al a (R1.zal a za)⟩⟩ hq
theorem RdsD.get {h : Heap} : ∀ {kvs : List (Str × Value)} {l : List (Str × D)}, RdsD c z h kvs l → ∀ (i : Nat) {k : Str} {d : D} {l' : List (Str × D)}, l.drop i = (k, d) :: l' → ∃ v, kvs[i]? = some (k, v) ∧ Rd c z h v d
  | _, [], _, i, _, _, _, e => by rw [List.drop_nil] at e; cases e
  | _, (k', d') :: l, r, 0, _, _, _, e => by
    obtain ⟨v, vs, rfl, r, rs⟩ := r.i
    cases e
    exact ⟨v, rfl, r⟩
  | _, (k', d') :: l, r, i + 1, _, _, _, e => by
    obtain ⟨v, vs, rfl, r, rs⟩ := r.i
    exact RdsD.get rs i e
theorem nxt_items (H : Hy c) (hr : A.handled = none) {px py pt : Pos} {w' : Str} {tk : Nat} {z1 : Addr → Prop} {I dd : Addr} {ep : Nat} {kvs : List (Str × Value)} (hD : s1.heap.DictAt (strKind c.prog c.w) dd kvs ep) (rD : RdsD c z1 s1.heap kvs l) (zd : z1 dd) (hIs : s.heap.get? I = none) (hnk : c.K.lookup I = none) (hnx : ¬ lexall c.X I) (hnc : ∀ y b, F.env.cells.lookup y = some b → b ≠ I) :
    Nxt c F A (.Tuple [.Name w px, .Name w' py] tk pt) (.ref I) NxI (fun ds z mu s => ¬ mu I ∧ ∃ i ok ov, Held z1 s1 I (fun h => IsItemIter h I dd i kvs.length ep ok ov) z s ∧ l.drop i = ds ∧ i + ds.length = l.length ∧ ∀ a, z1 a → ¬ mu a ∧ Al s.heap a) z mu s := by
  refine ⟨fun q ls q' ls1 hn z' mu' loc s' N T E R S ⟨nm, i, ok, ov, hh, hd, hl, hz⟩ hN => ?_, fun q ls d' q' ls1 hn _ z' mu' loc s' N T E R S ⟨nm, i, ok, ov, hh, hd, hl, hz⟩ hT => ?_, fun q z2 m2 s2 z3 m3 s3 ⟨nm, i, ok, ov, hh, hd, hl, hz⟩ S => ?_⟩
  · cases hn
    have hi : i = l.length := hl
    have hD' : s'.heap.DictAt (strKind c.prog c.w) dd kvs ep := let ⟨o, es, e, r⟩ := hD; ⟨o, es, hh.zk dd o zd e, r⟩
    exact wpAny_pyNext_items_end hr hh.st hD' (List.getElem?_eq_none (by rw [hi, rD.len]; exact Nat.le_refl _)) fun h' he => hN z' _ (S.butI (tk := s'.toks) hIs he) (R.butI (tk := s'.toks) H ⟨nm, hnk, hnx, hnc⟩ hh.nz ⟨_, hh.st, show Value.type "dict_itemiterator" ≠ _ by decide, show Value.type "dict_itemiterator" ≠ _ by decide⟩ he)
  · cases hn with
    | @cons pk pd l' _ =>
    have hD' : s'.heap.DictAt (strKind c.prog c.w) dd kvs ep := let ⟨o, es, e, r⟩ := hD; ⟨o, es, hh.zk dd o zd e, r⟩
    obtain ⟨pv, hkv, rv⟩ := rD.get i hd
    refine wpAny_pyNext_items_item hh.st hD' hkv fun key h₁ hkey heo ht₁ hz₁ hk₁ => wpAny_letOwnedTupleGo_items heo fun h₂ he₂ hs₂ => ?_
    obtain ⟨kt, rfl⟩ := Value.isStrOf_shape hkey
    generalize hot : ({ cls := .type "tuple", data := .seq #[.str pk kt, pv] } : Obj) = ot at *
    have hfr : ot.isFreed = false := by rw [← hot]; rfl
    have hTI : s'.heap.objs.size ≠ I := Nat.ne_of_gt (Heap.lt_size hh.st)
    have SX := StpE.push (tk := s'.toks) R hfr
    have RX := R.stpE H SX (R.lx.keep H fun b o e => Heap.get?_push_of_some _ e)
    have hkX : ∀ b o, b ≠ I → (s'.heap.push ot).get? b = some o → h₂.get? b = some o := fun b o hb e => hs₂.extBut b o hb (by
      rcases Heap.get?_push_cases e with ⟨rfl, rfl⟩ | e2
      · exact ht₁
      · exact hk₁ b o hb e2)
    have nzX : ¬ (z' I ∨ I = s'.heap.objs.size) := fun k => k.elim hh.nz fun e => hTI e.symm
    have zk3 : ∀ a o, z1 a → s1.heap.get? a = some o → h₂.get? a = some o := fun a o za e => hkX a o (fun e' => hh.nz (e' ▸ hh.zz a za)) (Heap.get?_push_of_some _ (hh.zk a o za e))
    exact hT _ _ _ ((S.trans (SX.lift R)).butI (tk := s'.toks) (h' := h₂) hIs hkX) (RX.butI (tk := s'.toks) (h' := h₂) H ⟨nm, hnk, hnx, hnc⟩ nzX ⟨_, Heap.get?_push_of_some _ hh.st, show Value.type "dict_itemiterator" ≠ _ by decide, show Value.type "dict_itemiterator" ≠ _ by decide⟩ hkX)
      ⟨nm, i + 1, _, _, ⟨nzX, fun a za => .inl (hh.zz a za), zk3, he₂⟩, (drop_cons hd).2, by rw [← hl, List.length_cons]; omega, fun a za => ⟨(hz a za).1, let ⟨o, e⟩ := (hz a za).2; ⟨o, hkX a o (fun e' => hh.nz (e' ▸ hh.zz a za)) (Heap.get?_push_of_some _ e)⟩⟩⟩
      (.tup (vs := [.str pk kt, pv]) (.inr rfl) ⟨_, hkX _ _ hTI (by rw [← hot]; exact Heap.get?_push_size _ rfl)⟩ (.cons (.str _ _) (.cons (rv.mono (fun a h => .inl (hh.zz a h)) zk3) .nil)))
  · obtain ⟨h1, h2⟩ := hh.keep (P' := fun h => IsItemIter h I dd i kvs.length ep ok ov) nm ⟨_, hh.st⟩ hz S fun st => S.kp I _ st nm
    exact ⟨h2, i, ok, ov, h1, hd, hl, fun a za => ⟨fun m => (hz a za).1 (S.mm a (hz a za).2 m), S.al a (hz a za).2⟩⟩
theorem E1.forI (H : Hy c) {px py pt : Pos} {w' : Str} {tk : Nat} (hset : isSet it = false) (hev : Ev c n sc loc ls it (.items l) true ls1) {k : Nat} (h : ForR NxI c n sc (.Tuple [.Name w px, .Name w' py] tk pt) body T k l loc ls1) : E1 c n sc loc ls (.For (.Tuple [.Name w px, .Name w' py] tk pt) it body [] pos) T := by
  refine .of ?_
  intro F A hr hs z mu s Q E R hq
  refine wpAny_For (hev.go F A hr hs z mu s _ _ R fun z1 v s1 S1 L1 r1 => ?_) (folded_id hset F.env)
  have R1 := R.stpE H S1 L1
  obtain ⟨a, dd, kvs, rfl, zdd, hview, hD, rD⟩ := Rd.i r1
  obtain ⟨ep, hD⟩ := hD.dictAt
  refine wpAny_pyIter_items ⟨_, hview, rfl, rfl⟩ hD ?_
  obtain ⟨hO, nz⟩ := Off.fresh H R1 (get_size s1.heap)
  have hk : ∀ b o', s1.heap.get? b = some o' → (s1.heap.push { cls := .type "dict_itemiterator", data := .fields #[.none, .bool false, .ref dd, .int 0 0, .int kvs.length 0, .int ep 0, .none, .none] }).get? b = some o' := fun b o' e => Heap.get?_push_of_some _ e
  have S2 := StpE.same (tk := s1.toks) R1 hk
  have R2 := R1.stpE H S2 (R1.lx.keep H hk)
  exact loop_ok H hr hs (nxt_items H hr.h hD rD zdd (new_of R S1 (get_size _)) hO.nk hO.nx hO.nc) h ((S1.lift R).trans (S2.lift R1)) R2 ⟨hO.nm, 0, _, _, ⟨nz, fun _ h => h, fun a o' _ e => hk a o' e, Heap.get?_push_size _ rfl⟩, rfl, Nat.zero_add _, fun a za => ⟨R1.zmu a za, S2.al a (R1.zal a za)⟩⟩ hq
theorem E1.forX (H : Hy c) {rm : Nat} {nx : LX → Option D → LX → Prop} (hf : FitG c rm nx) (hrm : rm ≤ n) (ht : isTup t = false) (hset : isSet it = false) (hev : Ev c n sc loc ls it .fit true ls1) {k : Nat} (h : ForR (NxF nx) c n sc t body T k () loc ls1) : E1 c n sc loc ls (.For t it body [] pos) T := by
  refine .of ?_
  intro F A hr hs z mu s Q E R hq
  refine wpAny_For (hev.go F A hr hs z mu s _ _ R fun z1 v s1 S1 L1 r1 => ?_) (folded_id hset F.env)
  have R1 := R.stpE H S1 L1
  obtain ⟨x, ex, rfl⟩ := Rd.i r1
  obtain ⟨lx, e, hP⟩ := L1.get ex
  have W : Nxt c F A t (.ref x.it) (NxF nx) (fun _ _ _ _ => True) z mu s := ⟨fun q ls q' ls1 ⟨l, l', e, e', hn⟩ z' mu' loc s' N T E R S _ hN => by
      cases e; cases e'
      exact hf.next l none l' hn x ex F A z' mu' loc s' _ _ (hr.mono hrm) R fun z1 v s1 S1 L1 hv => by
        cases v with
        | some u => exact hv.elim
        | none => exact hN z1 s1 (S.trans (S1.lift R)) (R.stpE H S1 L1),
    fun q ls d q' ls1 ⟨l, l', e, e', hn⟩ hb z' mu' loc s' N T E R S _ hT => by
      cases e; cases e'
      exact hf.next l (some d) l' hn x ex F A z' mu' loc s' _ _ (hr.mono hrm) R fun z1 v s1 S1 L1 hv => by
        cases v with
        | none => exact hv.elim
        | some u => exact let ⟨_, _, _, hb⟩ := hb; let_go hb hv (fun h => by rw [ht] at h; cases h) (hT z1 u s1 (S.trans (S1.lift R)) (R.stpE H S1 L1) trivial hv),
    fun _ _ _ _ _ _ _ _ _ => trivial⟩
  refine hf.iter lx ?_ x ex A s1 _ _ hP (loop_ok H hr hs W h (S1.lift R) R1 trivial hq)
  cases e
  cases k with
  | zero => obtain ⟨_, _, ⟨l, l', e, _, hn⟩, _⟩ := h; cases e; exact ⟨_, _, hn⟩
  | succ k =>
    rcases h with ⟨_, _, ⟨l, l', e, _, hn⟩, _⟩ | ⟨_, _, _, _, ⟨l, l', e, _, hn⟩, _⟩
    · cases e; exact ⟨_, _, hn⟩
    · cases e; exact ⟨_, _, hn⟩
end
structure LT where
  h1 : Int
  h2 : Int
  h3 : Int
  h4 : Int
  k1 : Tok
  k2 : Tok
  k3 : Tok
  k4 : Tok
  t : Tok
  w : Tok
noncomputable def wsS : Str := "\n\t\r "
noncomputable def lxEs (u : LT) (line : Int) (fn pb : Addr) : List DictEntry :=
  [⟨u.h1, .str "lineno" u.k1, .int line u.t⟩, ⟨u.h2, .str "instream" u.k2, .ref fn⟩, ⟨u.h3, .str "whitespace" u.k3, .str wsS u.w⟩, ⟨u.h4, .str "pushback" u.k4, .ref pb⟩]
theorem lx_lineno (u : LT) (l : Int) (a b : Addr) : getL "lineno" (lxEs u l a b) = some (some (.int l u.t)) := by rfl
theorem lx_instream (u : LT) (l : Int) (a b : Addr) : getL "instream" (lxEs u l a b) = some (some (.ref a)) := by rfl
theorem lx_whitespace (u : LT) (l : Int) (a b : Addr) : getL "whitespace" (lxEs u l a b) = some (some (.str wsS u.w)) := by rfl
theorem lx_pushback (u : LT) (l : Int) (a b : Addr) : getL "pushback" (lxEs u l a b) = some (some (.ref b)) := by rfl
theorem lx_get (u : LT) (l : Int) (a b : Addr) : getL "get_token" (lxEs u l a b) = some none := by rfl
theorem lx_push (u : LT) (l : Int) (a b : Addr) : getL "push_token" (lxEs u l a b) = some none := by rfl
theorem lx_read (u : LT) (l : Int) (a b : Addr) : getL "_read_char" (lxEs u l a b) = some none := by rfl
noncomputable def StrVs : List Value → List Str → Prop
  | vs, [] => vs = []
  | vs, x :: xs => ∃ t vs', vs = .str x t :: vs' ∧ StrVs vs' xs
theorem StrVs.len : ∀ {vs : List Value} {xs : List Str}, StrVs vs xs → vs.length = xs.length
  | _, [], h => congrArg List.length (h : _ = [])
  | _, x :: xs, ⟨_, _, e, h⟩ => by rw [e]; exact congrArg Nat.succ (StrVs.len h)
theorem StrVs.append {y : Str} {t : Tok} : ∀ {vs : List Value} {xs : List Str}, StrVs vs xs → StrVs (vs ++ [.str y t]) (xs ++ [y])
  | _, [], h => by rw [(h : _ = [])]; exact ⟨t, [], rfl, rfl⟩
  | _, x :: xs, ⟨u, vs, e, h⟩ => by rw [e]; exact ⟨u, _, rfl, StrVs.append h⟩
structure LCon where
  CL : Addr
  gname : Str
  gargs : Arguments
  gbody : List Stmt
  gscope : Scope
noncomputable def AllAt (h : Heap) : List (Addr × Obj) → Prop
  | [] => True
  | p :: r => h.get? p.1 = some p.2 ∧ AllAt h r
theorem AllAt.mono {h h' : Heap} : ∀ {l : List (Addr × Obj)}, AllAt h l → (∀ b ∈ l.map (·.1), ∀ o, h.get? b = some o → h'.get? b = some o) → AllAt h' l
  | [], _, _ => trivial
  | p :: r, ⟨e, a⟩, k => ⟨k _ (.head _) _ e, a.mono fun b hb => k b (.tail _ hb)⟩
theorem AllAt.al {h : Heap} : ∀ {l : List (Addr × Obj)}, AllAt h l → ∀ b ∈ l.map (·.1), Al h b
  | p :: r, ⟨e, a⟩, b, hb => (List.mem_cons.mp hb).elim (fun q => ⟨p.2, by rw [show b = p.1 from q]; exact e⟩) (a.al b)
noncomputable abbrev gvObj (C : LCon) (x : LXA) (qual : Str) (doc pm ctv : Value) : Obj := { cls := .type "function", data := .func (fnX C.gname qual C.gargs C.gbody C.gscope [("text", x.ct), ("at", x.ca)] .none .none doc pm none (.ref x.gc) ctv) }
inductive Fix (C : LCon) (x : LXA) (text : Str) (h : Heap) : Prop
  | mk {fd hh k qual doc pm ctv oc oa og t ps} : AllAt h [(x.x, instObj C.CL x.dx), (x.fn, { cls := .type "function", dict := some x.fd, data := .func fd }), (x.fd, dictOf [⟨hh, .str "read" k, .ref x.gv⟩] 1), (x.gv, gvObj C x qual doc pm ctv), (x.ct, oc), (x.ca, oa), (x.gc, og), (x.tb, { cls := .none, data := .fields ps })] →
      oc.data = .cell (some (.str text t)) → oa.data = .cell (some (.ref x.at')) → (∀ h : Heap, h.get? x.gc = some og → h.CodeRec (.ref x.gc) qual) → Fix C x text h
theorem Fix.mono {C : LCon} {x : LXA} {text : Str} {h h' : Heap} (f : Fix C x text h) (k : ∀ b ∈ x.fix, ∀ o, h.get? b = some o → h'.get? b = some o) : Fix C x text h' := by
  cases f with
  | mk a b c d => exact .mk (a.mono k) b c d
theorem Fix.al {C : LCon} {x : LXA} {text : Str} {h : Heap} (f : Fix C x text h) : ∀ b ∈ x.fix, Al h b := by
  cases f with
  | mk a b c d => exact a.al
noncomputable def LXA.m3 (x : LXA) : List Addr := [x.dx, x.pb, x.at']
structure LexP (C : LCon) (x : LXA) (l : LX) (h : Heap) : Prop where
  dx : ∃ u, h.get? x.dx = some (dictOf (lxEs u l.line x.fn x.pb) 4)
  pb : ∃ vs, h.PlainList x.pb (List.toArray vs) ∧ StrVs vs l.pb
  at' : ∃ t, h.PlainList x.at' #[.int l.pos t]
  fx : Fix C x l.text h
  nd : x.m3.Nodup
  nf : ∀ b ∈ x.fix, b ∉ x.m3
  nc : x.ct ≠ x.ca
  pos : l.pos ≤ l.text.length
  len : l.text.length ≤ 100000
section
variable {C : LCon} {x : LXA} {l : LX} {h h' : Heap}
theorem LexP.keep (p : LexP C x l h) (k : ∀ a ∈ x.m3 ++ x.fix, ∀ o, h.get? a = some o → h'.get? a = some o) : LexP C x l h' :=
  ⟨let ⟨u, e⟩ := p.dx; ⟨u, k _ (.head _) _ e⟩, let ⟨vs, e, q⟩ := p.pb; ⟨vs, e.at (k _ (.tail _ (.head _))), q⟩, let ⟨t, e⟩ := p.at'; ⟨t, e.at (k _ (.tail _ (.tail _ (.head _))))⟩, p.fx.mono fun b hb => k b (List.mem_append_right _ hb), p.nd, p.nf, p.nc, p.pos, p.len⟩
theorem LexP.al (p : LexP C x l h) : ∀ a ∈ x.m3 ++ x.fix, Al h a := fun a ha =>
  (List.mem_append.mp ha).elim (fun ha => by
    rcases List.mem_cons.mp ha with q | ha
    · exact let ⟨u, e⟩ := p.dx; ⟨_, q ▸ e⟩
    rcases List.mem_cons.mp ha with q | ha
    · exact let ⟨vs, ⟨n, e⟩, _⟩ := p.pb; ⟨_, q ▸ e⟩
    rcases List.mem_cons.mp ha with q | ha
    · exact let ⟨t, n, e⟩ := p.at'; ⟨_, q ▸ e⟩
    · exact nomatch ha) (p.fx.al a)
theorem LexP.n12 (p : LexP C x l h) : x.dx ≠ x.pb := fun q => (List.nodup_cons.mp p.nd).1 (q ▸ .head _)
theorem LexP.n13 (p : LexP C x l h) : x.dx ≠ x.at' := fun q => (List.nodup_cons.mp p.nd).1 (q ▸ .tail _ (.head _))
theorem LexP.n23 (p : LexP C x l h) : x.pb ≠ x.at' := fun q => (List.nodup_cons.mp (List.nodup_cons.mp p.nd).2).1 (q ▸ .head _)
theorem LexP.fxk (p : LexP C x l h) {a : Addr} (ha : a ∈ x.m3) (k : ∀ b o, b ≠ a → h.get? b = some o → h'.get? b = some o) : Fix C x l.text h' := p.fx.mono fun b hb o e => k b o (fun q => p.nf b hb (q ▸ ha)) e
theorem LexP.setPb (p : LexP C x l h) (k : ∀ b o, b ≠ x.pb → h.get? b = some o → h'.get? b = some o) {vs : List Value} {pb' : List Str} (pl : h'.PlainList x.pb vs.toArray) (pv : StrVs vs pb') : LexP C x { l with pb := pb' } h' :=
  ⟨let ⟨u, e⟩ := p.dx; ⟨u, k _ _ p.n12 e⟩, ⟨vs, pl, pv⟩, let ⟨t, e⟩ := p.at'; ⟨t, e.at fun o => k _ o p.n23.symm⟩, p.fxk (.tail _ (.head _)) k, p.nd, p.nf, p.nc, p.pos, p.len⟩
theorem LexP.setLn (p : LexP C x l h) (k : ∀ b o, b ≠ x.dx → h.get? b = some o → h'.get? b = some o) {u : LT} {n : Int} (e : h'.get? x.dx = some (dictOf (lxEs u n x.fn x.pb) 4)) : LexP C x { l with line := n } h' :=
  ⟨⟨u, e⟩, let ⟨vs, e, q⟩ := p.pb; ⟨vs, e.at fun o => k _ o p.n12.symm, q⟩, let ⟨t, e⟩ := p.at'; ⟨t, e.at fun o => k _ o p.n13.symm⟩, p.fxk (.head _) k, p.nd, p.nf, p.nc, p.pos, p.len⟩
theorem LexP.setAt (p : LexP C x l h) (k : ∀ b o, b ≠ x.at' → h.get? b = some o → h'.get? b = some o) {n : Nat} {t : Tok} (e : h'.PlainList x.at' #[.int n t]) (hn : n ≤ l.text.length) : LexP C x { l with pos := n } h' :=
  ⟨let ⟨u, e⟩ := p.dx; ⟨u, k _ _ p.n13 e⟩, let ⟨vs, e, q⟩ := p.pb; ⟨vs, e.at fun o => k _ o p.n23, q⟩, ⟨t, e⟩, p.fxk (.tail _ (.tail _ (.head _))) k, p.nd, p.nf, p.nc, hn, p.len⟩
theorem LexP.setEn (p : LexP C x l h) (b : Bool) : LexP C x { l with en := b } h := ⟨p.dx, p.pb, p.at', p.fx, p.nd, p.nf, p.nc, p.pos, p.len⟩
theorem LexP.inst {s : Shared} (p : LexP C x l s.heap) : ∃ u, InstAt s.heap x.x (instObj C.CL x.dx) C.CL (some (dictOf (lxEs u l.line x.fn x.pb) 4)) := by
  obtain ⟨u, e⟩ := p.dx
  cases p.fx with
  | mk a b c d => exact ⟨u, a.1, rfl, rfl, e⟩
end
structure LexM (C : LCon) (x : LXA) (l : LX) (h : Heap) : Prop where
  p : LexP C x l h
  it : x.it = x.dx
  bm : x.bm = x.dx
  rw : x.rw = []
noncomputable abbrev citObj (a b c : Value) : Obj := { cls := .type "callable_iterator", data := .fields #[a, b, c] }
structure LexI (C : LCon) (fread : Addr) (x : LXA) (l : LX) (h : Heap) : Prop where
  p : LexP C x l h
  it : ∃ t, h.get? x.it = some (if l.en = true then citObj .none .none (.bool true) else citObj (.ref x.bm) (.str ⟨#[]⟩ t) (.bool false))
  bm : h.get? x.bm = some (methodObj (.ref fread) (.ref x.x))
  ni : x.it ∉ x.bm :: (x.m3 ++ x.fix)
  nb : x.bm ∉ x.m3
  rw : x.rw = []
section
variable {C : LCon} {fr : Addr} {x : LXA} {l : LX} {h h' : Heap}
theorem all_cases {a : Addr} (hw : x.rw = []) (m : a ∈ x.mus ++ x.bm :: x.fix) : a ∈ x.m3 ++ x.fix ∨ a = x.it ∨ a = x.bm := by
  rcases List.mem_append.mp m with m | m
  · rcases List.mem_cons.mp m with q | m
    · exact .inl (List.mem_append_left _ (q ▸ .head _))
    rcases List.mem_cons.mp m with q | m
    · exact .inl (List.mem_append_left _ (q ▸ .tail _ (.head _)))
    rcases List.mem_cons.mp m with q | m
    · exact .inl (List.mem_append_left _ (q ▸ .tail _ (.tail _ (.head _))))
    · exact .inr (.inl (List.mem_singleton.mp (by have m : a ∈ [x.it] ++ x.rw := m; rwa [hw, List.append_nil] at m)))
  · exact (List.mem_cons.mp m).elim (fun q => .inr (.inr q)) fun m => .inl (List.mem_append_right _ m)
theorem m3_mus {a : Addr} (m : a ∈ x.m3) : a ∈ x.mus := List.mem_append_left _ (List.mem_append_left [x.it] m)
theorem all_of {a : Addr} (m : a ∈ x.m3 ++ x.fix) : a ∈ x.mus ++ x.bm :: x.fix := (List.mem_append.mp m).elim (fun m => List.mem_append_left _ (m3_mus m)) fun m => List.mem_append_right _ (.tail _ m)
theorem LexM.keep (p : LexM C x l h) (k : ∀ a o, lexall (some x) a → h.get? a = some o → h'.get? a = some o) : LexM C x l h' := ⟨p.p.keep fun a m o e => k a o ⟨x, rfl, all_of m⟩ e, p.it, p.bm, p.rw⟩
theorem LexM.al (p : LexM C x l h) : ∀ a, lexall (some x) a → Al h a := by
  rintro a ⟨y, e, m⟩
  cases e
  rcases all_cases p.rw m with m | m | m
  · exact p.p.al a m
  · rw [m, p.it]; exact p.p.al _ (.head _)
  · rw [m, p.bm]; exact p.p.al _ (.head _)
theorem LexI.keep (p : LexI C fr x l h) (k : ∀ a o, lexall (some x) a → h.get? a = some o → h'.get? a = some o) : LexI C fr x l h' :=
  ⟨p.p.keep fun a m o e => k a o ⟨x, rfl, all_of m⟩ e, let ⟨t, e⟩ := p.it; ⟨t, k _ _ ⟨x, rfl, List.mem_append_left _ (.tail _ (.tail _ (.tail _ (.head _))))⟩ e⟩, k _ _ ⟨x, rfl, List.mem_append_right _ (.head _)⟩ p.bm, p.ni, p.nb, p.rw⟩
theorem LexI.al (p : LexI C fr x l h) : ∀ a, lexall (some x) a → Al h a := by
  rintro a ⟨y, e, m⟩
  cases e
  rcases all_cases p.rw m with m | m | m
  · exact p.p.al a m
  · exact let ⟨t, e⟩ := p.it; ⟨_, m ▸ e⟩
  · exact ⟨_, m ▸ p.bm⟩
end
structure PL (c : Cx) (C : LCon) (x : LXA) : Prop where
  X : c.X = some x
  on : x.on = true
  to : ∀ l h, c.P x l h → LexP C x l h
  ng : ∀ l h, c.P x l h → x.it ≠ x.gv
  up : ∀ l l' h h', c.P x l h → LexP C x l' h' → l'.en = l.en → (∀ b o, b ∉ x.m3 → h.get? b = some o → h'.get? b = some o) → c.P x l' h'
  rw : ∀ l h, c.P x l h → x.rw = []
theorem pl_M {c : Cx} {C : LCon} {x : LXA} (hX : c.X = some x) (ho : x.on = true) (hP : c.P = LexM C) : PL c C x :=
  ⟨hX, ho, fun l h p => LexM.p (hP ▸ p), fun l h p => have p : LexM C x l h := hP ▸ p; fun q => p.p.nf x.gv (.tail _ (.tail _ (.tail _ (.head _)))) (q ▸ p.it ▸ .head _), fun l l' h h' p P' e k => have p : LexM C x l h := hP ▸ p; hP ▸ ⟨P', p.it, p.bm, p.rw⟩, fun l h p => LexM.rw (hP ▸ p)⟩
theorem pl_I {c : Cx} {C : LCon} {fr : Addr} {x : LXA} (hX : c.X = some x) (ho : x.on = true) (hP : c.P = LexI C fr) : PL c C x :=
  ⟨hX, ho, fun l h p => LexI.p (hP ▸ p), fun l h p => have p : LexI C fr x l h := hP ▸ p; fun q => p.ni (q ▸ .tail _ (List.mem_append_right _ (.tail _ (.tail _ (.tail _ (.head _)))))), fun l l' h h' p P' e k =>
    have p : LexI C fr x l h := hP ▸ p
    hP ▸ ⟨P', let ⟨t, et⟩ := p.it; ⟨t, e ▸ k _ _ (fun m => p.ni (.tail _ (List.mem_append_left _ m))) et⟩, k _ _ p.nb p.bm, p.ni, p.nb, p.rw⟩, fun l h p => LexI.rw (hP ▸ p)⟩
section
variable {c : Cx} {F : FC} {A : Around} {z mu : Addr → Prop} {s : Shared} {C : LCon} {x : LXA} {l : LX} {loc : Loc} {Q E : Value → Shared → Prop}
theorem PL.at (p : PL c C x) {h : Heap} (L : LexOK c (some l) h) : c.P x l h := let ⟨_, e, q⟩ := L.get p.X; by cases e; exact q
theorem PL.ok (p : PL c C x) {l : LX} {h : Heap} (L : c.P x l h) : LexOK c (some l) h := .inr ⟨x, l, p.X, rfl, L⟩
theorem PL.lm (p : PL c C x) {a : Addr} (h : a ∈ x.m3) : lexmu c.X a := ⟨x, p.X, m3_mus h⟩
theorem PL.step (p : PL c C x) (R : Rep c F z mu loc (some l) s) {s' : Shared} (hk : ∀ b o, b ∉ x.m3 → s.heap.get? b = some o → s'.heap.get? b = some o) {l' : LX} (P' : LexP C x l' s'.heap) (he : l'.en = l.en) (g : s'.gens = s.gens) (o : s'.os = s.os) (d : s'.drawn = s.drawn) :
    StpE c z s z s' ∧ LexOK c (some l') s'.heap :=
  ⟨⟨fun a ⟨o, e⟩ => by
      by_cases h : a ∈ x.m3
      · exact P'.al a (List.mem_append_left _ h)
      · exact ⟨o, hk a o h e⟩,
    fun _ h => h, fun _ _ h => h, fun a za => let ⟨o, e⟩ := R.zal a za; ⟨o, hk a o (fun q => R.zl a za (p.lm q)) e⟩, R.zl, fun b o e n => hk b o (fun q => n (p.lm q)) e, g, o, d⟩, p.ok (p.up l l' _ _ (p.at R.lx) P' he hk)⟩
theorem PL.ngv (p : PL c C x) {h : Heap} (L : c.P x l h) : ¬ lexmu c.X x.gv := by
  rintro ⟨y, e, m⟩
  rw [p.X] at e
  cases e
  rcases List.mem_append.mp (show x.gv ∈ x.m3 ++ [x.it] by have m : x.gv ∈ (x.m3 ++ [x.it]) ++ x.rw := m; rwa [p.rw _ _ L, List.append_nil] at m) with m | m
  · exact (p.to _ _ L).nf x.gv (.tail _ (.tail _ (.tail _ (.head _)))) m
  · exact p.ng _ _ L (List.mem_singleton.mp m).symm
end
noncomputable abbrev nS : Str := "size"
noncomputable abbrev nT : Str := "text"
noncomputable abbrev nA : Str := "at"
noncomputable def cx0 (c : Cx) : Cx := { c with X := none, P := fun _ _ _ => False }
theorem hy0 {c : Cx} (H : Hy c) : Hy (cx0 c) := ⟨fun _ _ _ _ (h : Option.none = some _) => (nomatch h), fun _ _ _ (h : Option.none = some _) => (nomatch h), H.big, H.mg, H.mb, H.lim⟩
noncomputable def gch (l : LX) : Str := Txt.slice l.text (some (l.pos : Int)) (some ((l.pos : Int) + 1))
noncomputable def adv (l : LX) : LX := { l with pos := l.pos + (gch l).length }
structure GiveOK (c : Cx) (C : LCon) : Prop where
  bind : ∀ qual cl doc pm cdv ct v, bindArgs (fnX C.gname qual C.gargs C.gbody C.gscope cl .none .none doc pm none cdv ct) ⟨[v], []⟩ = pure [(nS, v)]
  cell : ∀ x ∈ C.gscope.names, x.2 ≠ .cell
  k1 : C.gscope.names.lookup nS = some .local
  k2 : C.gscope.names.lookup nT = some .free
  k3 : C.gscope.names.lookup nA = some .free
  fr : ∀ n, C.gscope.names.lookup n = some .free → n = nT ∨ n = nA
  co : C.gscope.isCoroutine = false
  ge : C.gscope.isGenerator = false
  ki : C.gscope.kind = .function
  run : ∀ (text : Str) (pos : Nat), text.length ≤ 100000 → pos ≤ text.length → Ex (cx0 c) 10 C.gscope [(nS, ⟨.fz, .int 1⟩), (nT, ⟨.fz, .str text⟩), (nA, ⟨.own, .list [.int pos]⟩)] none C.gbody
    fun af loc _ => af = .ret (.str (Txt.slice text (some (pos : Int)) (some ((pos : Int) + 1)))) ∧ loc.lookup nA = some ⟨.fz, .list [.int ((pos : Int) + (Txt.slice text (some (pos : Int)) (some ((pos : Int) + 1))).length)]⟩
  le : ∀ (l : LX), l.pos ≤ l.text.length → (adv l).pos ≤ l.text.length
section
variable {c : Cx} {A : Around} {s : Shared} {C : LCon} {x : LXA} {l : LX} {Q E : Value → Shared → Prop}
theorem give_ok (H : Hy c) (G : GiveOK c C) (hr : Room A 11) (X : c.K.In s.heap) (p : LexP C x l s.heap) (hk : ∀ a o, c.K.lookup a = some o → a ≠ x.at') {u : Tok}
    (hq : ∀ s' t, LexP C x (adv l) s'.heap → (∀ b o, b ≠ x.at' → s.heap.get? b = some o → s'.heap.get? b = some o) → s'.gens = s.gens → s'.os = s.os → s'.drawn = s.drawn → Q (.str (gch l) t) s') :
    wpAny (model c.prog c.w) A (call (.ref x.gv) [.int 1 u]) Q E s := by
  obtain ⟨ta, at'⟩ := p.at'
  cases p.fx with
  | @mk fd hh k qual doc pm ctv oc oa og t ps a hc ha hg =>
  obtain ⟨_, _, _, gv, ct, ca, gc, _⟩ := a
  have hatn : ∃ o, s.heap.get? x.at' = some o := let ⟨n, e⟩ := at'; ⟨_, e⟩
  refine wpAny_call (codeAny_call_straight (by have := hr.d; unfold recursionLimit; omega) gv rfl (H.lim _ X) (hg _ gc) rfl (G.bind ..) G.cell (fun y hy => ?_) (fun s₁ I => ?_) G.co G.ge G.ki)
  · rw [List.mem_singleton.mp hy]
    exact G.k1
  obtain ⟨⟨h1, tk, rfl⟩, ns, keep, fresh⟩ := I
  let fd0 : FuncData := fnX C.gname qual C.gargs C.gbody C.gscope [(nT, x.ct), (nA, x.ca)] .none .none doc pm none (.ref x.gc) ctv
  let env := callEnv fd0 s.heap.objs.size x.gv
  let F0 : FC := ⟨env, wnOf C.gscope⟩
  have newL : s.heap.get? s.heap.objs.size = none := get_size _
  have neL : ∀ a o, s.heap.get? a = some o → a ≠ s.heap.objs.size := fun a o e => Nat.ne_of_lt (Heap.lt_size e)
  have fxa : ∀ b ∈ x.fix, b ≠ x.at' := fun b hb q => p.nf b hb (q ▸ .tail _ (.tail _ (.head _)))
  have n8 : x.ca ≠ x.at' := fxa _ (.tail _ (.tail _ (.tail _ (.tail _ (.tail _ (.head _))))))
  have ctA : h1.IsCell x.ct (some (.str l.text t)) := ⟨oc, keep _ _ ct, hc⟩
  have caA : h1.IsCell x.ca (some (.ref x.at')) := ⟨oa, keep _ _ ca, ha⟩
  have lcell : ∀ y a, env.cells.lookup y = some a → (y = nT ∧ a = x.ct) ∨ (y = nA ∧ a = x.ca) := fun y a e =>
    (List.mem_cons.mp (mem_of_lookup (show List.lookup y [(nT, x.ct), (nA, x.ca)] = some a from e))).imp Prod.mk.inj fun h => Prod.mk.inj (List.mem_singleton.mp h)
  have s2 : Slot env h1 nT (.str l.text t) := .free G.k2 rfl ctA
  have s3 : Slot env h1 nA (.ref x.at') := .free G.k3 rfl caA
  have s1 : Slot env h1 nS (.int 1 u) := .loc G.k1 ⟨_, ns, rfl⟩
  have look : ∀ y lv, ([(nS, (⟨.fz, .int 1⟩ : LV)), (nT, ⟨.fz, .str l.text⟩), (nA, ⟨.own, .list [.int l.pos]⟩)] : Loc).lookup y = some lv → (y = nS ∧ lv = ⟨.fz, .int 1⟩) ∨ (y = nT ∧ lv = ⟨.fz, .str l.text⟩) ∨ (y = nA ∧ lv = ⟨.own, .list [.int l.pos]⟩) := fun y lv e =>
    (List.mem_cons.mp (mem_of_lookup e)).imp Prod.mk.inj fun h => (List.mem_cons.mp h).imp Prod.mk.inj fun h => Prod.mk.inj (List.mem_singleton.mp h)
  have own : ∀ y d, ([(nS, (⟨.fz, .int 1⟩ : LV)), (nT, ⟨.fz, .str l.text⟩), (nA, ⟨.own, .list [.int l.pos]⟩)] : Loc).lookup y = some ⟨.own, d⟩ → y = nA := fun y d e => by
    rcases look y _ e with ⟨_, q⟩ | ⟨_, q⟩ | ⟨q, _⟩
    · cases q
    · cases q
    · exact q
  have lx0 : ∀ a, ¬ lexall (cx0 c).X a := fun a ⟨_, e, _⟩ => nomatch e
  have R : Rep (cx0 c) F0 (fun _ => False) (fun a => a = s.heap.objs.size ∨ a = x.at') [(nS, ⟨.fz, .int 1⟩), (nT, ⟨.fz, .str l.text⟩), (nA, ⟨.own, .list [.int l.pos]⟩)] none { s with heap := h1, toks := tk } := by
    refine ⟨fun a o e => keep a o (X a o e), fun a o e m => m.elim (fun m => neL a o (X a o e) m) fun m => hk a o e m, fun a h => h.elim, fun a h => (lx0 a (lexall_of h)).elim, fun a h => h.elim, fun a m => ?_, .inl ⟨rfl, rfl⟩, .inl rfl, lx0 _, ⟨_, ns⟩, fun y a e => ?_, fun y z a e e' => ?_, fun y hy => ?_, fun y lv e => ?_, fun y d a e hs => ?_, fun y z d e' a ey ez _ _ => (own y _ ey).trans (own z _ ez).symm⟩
    · rcases m with m | m
      · rw [m]; exact let ⟨o', _, _, e, _⟩ := ns; ⟨o', e⟩
      · rw [m]; exact let ⟨o, e⟩ := hatn; ⟨o, keep _ _ e⟩
    · rcases lcell y a e with ⟨_, q⟩ | ⟨_, q⟩
      · rw [q]; exact ⟨lx0 _, neL _ _ ct, id, ⟨_, keep _ _ ct⟩⟩
      · rw [q]; exact ⟨lx0 _, neL _ _ ca, id, ⟨_, keep _ _ ca⟩⟩
    · rcases lcell y a e with ⟨q1, q⟩ | ⟨q1, q⟩
      · rcases lcell z a e' with ⟨q2, q'⟩ | ⟨q2, q'⟩
        · exact q1.trans q2.symm
        · exact absurd (q.symm.trans q') p.nc
      · rcases lcell z a e' with ⟨q2, q'⟩ | ⟨q2, q'⟩
        · exact absurd (q'.symm.trans q) p.nc
        · exact q1.trans q2.symm
    · obtain ⟨_, hy⟩ := List.mem_filter.mp hy
      exact (canW_kind hy).elim (fun e => .loc e) fun e => absurd rfl (G.cell _ (mem_of_lookup e))
    · rcases look y lv e with ⟨rfl, rfl⟩ | ⟨rfl, rfl⟩ | ⟨rfl, rfl⟩
      · exact ⟨_, s1, .int _ _⟩
      · exact ⟨_, s2, .str _ _⟩
      · exact ⟨_, s3, _, rfl, .inr rfl, lx0 _, .list (at'.at fun o e => keep _ _ e) (.cons (.int _ _) .nil)⟩
    · cases own y d e
      have := s3.fn hs
      cases this
      obtain ⟨o, e⟩ := hatn
      refine ⟨neL _ _ e, fun z b eb q => ?_⟩
      rcases lcell z b eb with ⟨_, rfl⟩ | ⟨_, rfl⟩
      · exact fxa _ (.tail _ (.tail _ (.tail _ (.tail _ (.head _))))) q.symm
      · exact n8 q.symm
  have mem : ∀ {n : Str} {k : NameKind}, C.gscope.names.lookup n = some k → n ∈ C.gscope.names.map (·.1) := fun e => List.mem_map_of_mem (f := (·.1)) (mem_of_lookup e)
  have hs' : ScOK F0 C.gscope := ⟨G.ki, fun n e => e, fun n hn => List.mem_filter.mpr ⟨(canW_kind hn).elim mem mem, hn⟩, fun n h => h.elim (fun e => absurd rfl (G.cell _ (mem_of_lookup e))) fun e => (G.fr n e).elim (fun q => q ▸ ⟨⟨_, rfl⟩, .inr G.k2⟩) fun q => q ▸ ⟨⟨_, rfl⟩, .inr G.k3⟩, rfl, rfl⟩
  have hr' : Room (A.deeper env) 10 := ⟨hr.h, by have := hr.d; show A.depth + 1 + 10 + 20 < 1000; omega, by have := hr.u; show A.units + 3 + 100 * 10 + 200 < 9900; omega⟩
  refine wpAny_mono ((G.run l.text l.pos p.len p.pos).go F0 _ hr' hs' _ _ _ _ (fun _ _ => False) R fun af loc1 _ fl z2 mu2 s2 ⟨haf, lat⟩ S2 R2 hfl => ?_) (fun _ _ h => h) (fun _ _ h => h.elim)
  rw [haf] at hfl
  obtain ⟨v, rfl, r⟩ := hfl
  obtain ⟨t3, rfl⟩ := r.i
  obtain ⟨v, hsl, hv⟩ := R2.vars _ _ lat
  have hkp : ∀ b o, b ≠ x.at' → s.heap.get? b = some o → s2.heap.get? b = some o := fun b o n e => S2.kp b o (keep b o e) fun m => m.elim (neL b o e) n
  have hv2 : v = .ref x.at' := hsl.fn (.free G.k3 rfl ⟨oa, hkp _ _ n8 ca, ha⟩)
  obtain ⟨b, vs, e, _, pl, rs⟩ := Rd.i (hv : Rd _ _ _ _ _)
  cases hv2.symm.trans e
  obtain ⟨v1, vs', rfl, ri, rn⟩ := rs.i
  cases (rn.i : vs' = [])
  obtain ⟨t2, rfl⟩ := ri.i
  have e : (((adv l).pos : Nat) : Int) = (l.pos : Int) + (gch l).length := by unfold adv; push_cast; rfl
  exact hq s2 t3 (p.setAt hkp (n := (adv l).pos) (t := t2) (e ▸ pl) (G.le l p.pos)) hkp S2.ge S2.os S2.dr
end
open Builtin Builtin.ObjectAttr
theorem fn_slot : PySem.Slot "function" "__getattribute__" "object.__getattribute__" :=
  .of (owner := "object") (n := "__getattribute__") (by rw [typeLookup_type, builtinLookup_eq_fast]; kernel_rfl) (by decide +kernel) (by decide +kernel) (by decide +kernel)
    (by first | exact .inl (by decide +kernel) | exact .inr (by decide +kernel)) (by rw [isSubtype_type]; kernel_rfl)
theorem fn_getattr : typeLookup (.type "function") "__getattr__" = pure none := by rw [typeLookup_type, builtinLookup_eq_fast]; kernel_rfl
theorem fn_noread : typeLookup (.type "function") "read" = pure none := by rw [typeLookup_type, builtinLookup_eq_fast]; kernel_rfl
theorem fn_args (a b : Value) : argsOk "object.__getattribute__" ⟨[a, b], []⟩ := by unfold argsOk; kernel_rfl
theorem fn_static : isSubtype (.type "function") (.type "staticmethod") = pure false := by rw [isSubtype_type]; kernel_rfl
theorem fn_classm : isSubtype (.type "function") (.type "classmethod") = pure false := by rw [isSubtype_type]; kernel_rfl
theorem fn_entry : entryFor table "object.__getattribute__" = some Builtin.«object.__getattribute__» := entryFor_of_tree (by kernel_rfl)
theorem fn_store : StoreFacts "function" [.type "function", .type "object"] "object.__setattr__" "object" where
  mro := by rw [mroOf_type]; kernel_rfl
  slot := .of (owner := "object") (n := "__setattr__") (by rw [typeLookup_type, builtinLookup_eq_fast]; kernel_rfl) (by decide +kernel) (by decide +kernel) (by decide +kernel)
    (by first | exact .inl (by decide +kernel) | exact .inr (by decide +kernel)) (by rw [isSubtype_type]; kernel_rfl)
  entry := PySem.F.store_object.entry
  kind := by decide +kernel
  split := by decide +kernel
  hasOwner := by decide +kernel
  args := fun a b c => by unfold argsOk; kernel_rfl
  passes := fun self => by kernel_rfl
section
variable {prog : Program} {w : World} {A : Around} {E : Value → Shared → Prop} {h : Heap} {g : Array GenState} {d : Drawn} {t : Nat} {os : OsState} {fn D : Addr} {fd : FuncData} {hh : Int} {kt : Tok}
theorem fn_object_entry {tk : Tok} {v : Value} {Q : Fin → Shared → Prop} (hM : h.get? fn = some { cls := .type "function", dict := some D, data := .func fd }) (hD : h.get? D = some (dictOf [⟨hh, .str "read" kt, v⟩] 1))
    (hq : Q (.done (.ret v)) ⟨h, g, d, t, os⟩) : wpAny (model prog w) A (Builtin.«object.__getattribute__» ⟨[.ref fn, .str "read" tk], []⟩) Q E ⟨h, g, d, t, os⟩ := by
  have hT : (⟨h, g, d, t, os⟩ : Shared).TypeIs (.ref fn) "function" := ⟨_, hM, rfl⟩
  have f1 := fn_static
  have f2 := fn_classm
  have hnm := fn_noread
  have hl : nsLook "read" (dictOf [⟨hh, .str "read" kt, v⟩] 1) = pure (some v) := nsLook_of (by rfl)
  repeat (any_goals (first | assumption | rw [hl] | wp_step))
theorem fn_method {v : Value} {pl : Sem Bool} {Q : Value × List Value → Shared → Prop} (hM : h.get? fn = some { cls := .type "function", dict := some D, data := .func fd }) (hD : h.get? D = some (dictOf [⟨hh, .str "read" kt, v⟩] 1))
    (hv : handedOut v = pure v) (hq : Q (v, []) ⟨h, g, d, t + 1, os⟩) : wpAny (model prog w) A (getMethod (.ref fn) "read" pl) Q E ⟨h, g, d, t, os⟩ := by
  have hT : (⟨h, g, d, t, os⟩ : Shared).TypeIs (.ref fn) "function" := ⟨_, hM, rfl⟩
  have hT1 : (⟨h, g, d, t + 1, os⟩ : Shared).TypeIs (.ref fn) "function" := ⟨_, hM, rfl⟩
  have f1 := fn_slot.lookup
  have f2 := fn_getattr
  have f3 := fn_noread
  have f4 := fn_slot.bind (.ref fn)
  have hcan := PySem.F.canon_object_ga
  unfold getMethod
  refine wpAny_bind (wpAny_specialOf hT f1 ?_)
  dsimp only
  rw [hcan, if_neg (by decide)]
  refine wpAny_bind (wpAny_specialOf hT f2 ?_)
  refine wpAny_bind (wpAny_specialOf hT f3 ?_)
  dsimp only
  have go : ∀ {Q : Value → Shared → Prop}, Q v ⟨h, g, d, t + 1, os⟩ → wpAny (model prog w) A (getAttr (.ref fn) "read") Q E ⟨h, g, d, t, os⟩ := by
    intro Q hq
    unfold getAttr getAttrBy
    refine wpAny_bind (wpAny_mkText (wpAny_holding (wpAny_bind (wpAny_typeOf hT1 (wpAny_bind (wpAny_of_eq f1 ?_))))))
    dsimp only
    rw [if_neg (by decide)]
    unfold getAttrByItsOwn hookBefore callGetattribute boundAndCalled
    rw [if_neg (by decide), if_neg (by decide)]
    refine wpAny_bind (wpAny_pure (wpAny_bind (wpAny_attempt (wpAny_holding (wpAny_bind (wpAny_of_eq f4 ?_))))))
    refine wpAny_call (codeAny_call_builtin fn_slot.plain fn_entry (fn_slot.check _ _ _ _ _ _ _ _ hT1 (fn_args _ _) (fn_object_entry hM hD ?_)))
    exact wpAny_of_eq hv hq
  exact wpAny_bind (go (wpAny_pure hq))
theorem fn_setattr {v : Value} {Q : Unit → Shared → Prop} (hM : h.get? fn = some { cls := .type "function", data := .func fd })
    (hq : ∀ h' tk hh k, h'.get? fn = some { cls := .type "function", dict := some h.objs.size, data := .func fd } → h'.get? h.objs.size = some (dictOf [⟨hh, .str "read" k, v⟩] 1) → h.objs.size < h'.objs.size → (∀ b o, b ≠ fn → h.get? b = some o → h'.get? b = some o) → Q () ⟨h', g, d, tk, os⟩) :
    wpAny (model prog w) A (setAttr (.ref fn) "read" v) Q E ⟨h, g, d, t, os⟩ := by
  have hT : ∀ tk, (⟨h, g, d, tk, os⟩ : Shared).TypeIs (.ref fn) "function" := fun _ => ⟨_, hM, rfl⟩
  have hT1 := hT (t + 1)
  have SF := fn_store
  have f1 := SF.slot.lookup
  have f4 := SF.slot.bind (.ref fn)
  have fm := SF.mro
  have fp := SF.passes (.ref fn)
  have f5 := fn_noread
  unfold setAttr
  refine wpAny_bind (wpAny_mkText ?_)
  refine wpAny_bind ?_
  refine wpAny_callSpecial?_slot (hT _) SF.slot ?_
  refine wpAny_call (codeAny_call_builtin SF.slot.plain SF.entry (SF.slot.check _ _ _ _ _ _ _ _ hT1 (SF.args _ _ _) ?_))
  unfold Builtin.«object.__setattr__»
  repeat (first | rw [refuse_eq] | rw [fp] | rw [fm] | wp_step)
  have hx₁ : (h.push { cls := .type "dict", data := .dict #[] }).get? fn = some { cls := .type "function", data := .func fd } := Heap.get?_push_of_some _ hM
  have hxs : fn ≠ h.objs.size := Nat.ne_of_lt (Heap.lt_size hM)
  have hgd : ((h.push { cls := .type "dict", data := .dict #[] }).update fn fun o => { cls := o.cls, dict := some h.objs.size, data := o.data, slots := o.slots }).get? h.objs.size
      = some { cls := .type "dict", data := .dict #[] } :=
    (Heap.get?_update_ne _ _ _ _ hxs.symm).trans (Heap.get?_push_at rfl rfl)
  have hfn : ((h.push { cls := .type "dict", data := .dict #[] }).update fn fun o => { cls := o.cls, dict := some h.objs.size, data := o.data, slots := o.slots }).get? fn
      = some { cls := .type "function", dict := some h.objs.size, data := .func fd } := Heap.get?_update_self _ hx₁ rfl
  refine wpAny_askSetting (wpAny_pure (wpAny_bind (wpAny_mkText (wpAny_bind (wpAny_loadPart hgd ?_)))))
  dsimp only
  rw [aRefKeyMayBeTheName_at]
  rw [if_neg (by rw [← Array.any_toList, ← Array.any_toList]; decide)]
  have hput : Obj.putName "read" (PyData.keyHash w.params "read") (.str "read" (t + 1)) v (dictOf [] 0) = dictOf [⟨PyData.keyHash w.params "read", .str "read" (t + 1), v⟩] 1 := by
    rw [putName_dict]; rfl
  have D' := Heap.get?_update_self (Obj.putName "read" (PyData.keyHash w.params "read") (.str "read" (t + 1)) v) hgd (by show (Obj.putName _ _ _ _ (dictOf [] 0)).isFreed = false; rw [hput]; rfl)
  have D2 : (((h.push { cls := .type "dict", data := .dict #[] }).update fn fun o => { cls := o.cls, dict := some h.objs.size, data := o.data, slots := o.slots }).update h.objs.size (Obj.putName "read" (PyData.keyHash w.params "read") (.str "read" (t + 1)) v)).get? h.objs.size = some (dictOf [⟨PyData.keyHash w.params "read", .str "read" (t + 1), v⟩] 1) := by rw [D']; exact congrArg some hput
  have sb := Heap.SameBut.update ((h.push { cls := .type "dict", data := .dict #[] }).update fn fun o => { cls := o.cls, dict := some h.objs.size, data := o.data, slots := o.slots }) h.objs.size (Obj.putName "read" (PyData.keyHash w.params "read") (.str "read" (t + 1)) v)
  refine wpAny_updatePart hgd ?_
  refine wpAny_bind (wpAny_lookBehind D2 (pastItsLine_dict (by rw [sizeLine_eq]; simp)) ?_)
  refine wpAny_pure ?_
  refine wpAny_pure ?_
  refine hq _ _ _ _ ((sb.2 fn hxs).trans hfn) D2 ?_ ?_
  · rw [Heap.size_after_update, Heap.size_after_update, Heap.size_push]; exact Nat.lt_succ_self _
  · intro b o hb e
    exact (sb.2 b (Nat.ne_of_lt (Heap.lt_size e))).trans ((Heap.get?_update_ne _ _ _ _ hb).trans (Heap.get?_push_of_some _ e))
end
structure KLex (K : Frag) (CL fr : Addr) : Prop where
  pg : ∀ n, plainGet K CL n = true
  hd : hasDictIn K CL = true
  mr : findIn K (.ref CL) "_read_char" = some (some (.ref fr))
  a1 : findIn K (.ref CL) "lineno" = some none
  a2 : findIn K (.ref CL) "instream" = some none
  a3 : findIn K (.ref CL) "whitespace" = some none
  a4 : findIn K (.ref CL) "pushback" = some none
  st : findIn K (.ref CL) "__setattr__" = some (some (.builtin "object.__setattr__"))
  po : plainOver K CL = true
  tk : takerIn K CL "lineno" = some none
  ir : isFn K (.ref fr) = true
  rg : specialIn K (.ref fr) "__get__" = some (some (.builtin "function.__get__"))
  rt : takesIn K (.ref fr) = some false
theorem any_keys (name : Str) (es : List DictEntry) (h : (getL name es).isSome = true) : (!es.toArray.any (·.key.isStr name) && es.toArray.any (·.refKey)) = false := by
  rw [← Array.any_toList, ← Array.any_toList]
  unfold getL at h
  split at h
  · rename_i en he
    rw [List.any_eq_true.mpr ⟨en, List.mem_of_find?_eq_some he, List.find?_some he⟩]; rfl
  · split at h
    · cases h
    · rename_i z
      rw [Bool.not_eq_true] at z
      show (_ && es.any _) = false
      rw [z, Bool.and_false]
section
variable {prog : Program} {w : World} {A : Around} {E : Value → Shared → Prop} {s : Shared} {K : Frag} {C x dx fr : Addr} {es : List DictEntry} {n : Nat} {name : Str} {v : Value}
theorem lex_attr {ex : Bool} {Q : Value → Shared → Prop} (k : KLex K C fr) (X : K.In s.heap) (I : InstAt s.heap x (instObj C dx) C (some (dictOf es n))) (hn : findIn K (.ref C) name = some none) (hl : getL name es = some (some v)) (hv : handedIn v = true)
    (h : Q v { s with toks := s.toks + 1 }) : wpAny (model prog w) A (getAttr (.ref x) name ex) Q E s :=
  get_value X I (plainGet_of (k.pg name)).1 (findObj_own k.hd hn rfl (by show lookIn name (dictOf es n) = _; rw [lookIn_dict, hl])) hv h
theorem lex_method {f : Addr} {pl : Sem Bool} {Q : Value × List Value → Shared → Prop} (k : KLex K C fr) (X : K.In s.heap) (I : InstAt s.heap x (instObj C dx) C (some (dictOf es n))) (hf : findIn K (.ref C) name = some (some (.ref f))) (ht : isFn K (.ref f) = true) (hl : getL name es = some none)
    (h : Q (.ref f, [.ref x]) s) : wpAny (model prog w) A (getMethod (.ref x) name pl) Q E s :=
  method_fn X I (plainGet_of (k.pg name)).1 (plainGet_of (k.pg name)).2 hf (beq_iff_eq.mp ht) (by show (lookIn name (dictOf es n)).map _ = _; rw [lookIn_dict, hl]; rfl) h
theorem set_raw {Q : Unit → Shared → Prop} (X : K.In s.heap) (I : InstAt s.heap x (instObj C dx) C (some (dictOf es n))) (hs : findIn K (.ref C) "__setattr__" = some (some (.builtin "object.__setattr__"))) (hp : plainOver K C = true) (ht : takerIn K C name = some none) (hh : hasDictIn K C = true) (hl : (getL name es).isSome = true)
    (hz : ∀ k, (putL name (PyData.keyHash w.params name) (.str name k) v es).length ≤ 1000)
    (h : ∀ h' tk k, Heap.SameBut dx s.heap h' → h'.get? dx = some (dictOf (putL name (PyData.keyHash w.params name) (.str name k) v es) (putN name es n)) → Q () { s with heap := h', toks := tk }) : wpAny (model prog w) A (setAttr (.ref x) name v) Q E s := by
  refine set_plain X I hs ?_
  refine osa_open (s := { s with toks := s.toks + 1 }) X I hp ht fun b => ?_
  obtain ⟨cd, hc, hd'⟩ := any_some hh
  have D := I.dict
  refine wpAny_bind (wpAny_pure (wpAny_bind (wpAny_bind (wpAny_loadPart I.at_ (wpAny_bind ((looks_clsIn X hc).at ?_))))))
  rw [hd']
  refine wpAny_pure (a := some dx) (wpAny_bind (wpAny_pure (wpAny_bind ?_)))
  unfold nsSet
  refine wpAny_bind (wpAny_bind (wpAny_askSetting (wpAny_pure (wpAny_bind (wpAny_mkText (wpAny_bind (wpAny_loadPart D ?_)))))))
  dsimp only
  rw [aRefKeyMayBeTheName_at, any_keys name es hl]
  have D' := Heap.get?_update_self (Obj.putName name (PyData.keyHash w.params name) (.str name (s.toks + 1)) v) D (by rw [putName_dict]; rfl)
  rw [putName_dict] at D'
  refine wpAny_updatePart D ?_
  refine wpAny_bind (wpAny_lookBehind D' (pastItsLine_dict (by rw [List.size_toArray, sizeLine_eq]; have := hz (s.toks + 1); omega)) ?_)
  exact wpAny_pure (h _ _ _ (Heap.SameBut.update s.heap dx (Obj.putName name (PyData.keyHash w.params name) (.str name (s.toks + 1)) v)) D')
theorem pop0 {a : Addr} {vs : List Value} {u : Tok} {Q : Value → Shared → Prop} (p : s.heap.PlainList a (v :: vs).toArray) (hz : vs.length < 1000000)
    (h : ∀ h', h'.PlainList a vs.toArray → Heap.SameBut a s.heap h' → Q v { s with heap := h' }) : wpAny (model prog w) A (call (.builtin "list.pop") [.ref a, .int 0 u]) Q E s := by
  obtain ⟨n, e⟩ := p
  refine call_meets PySem.F.slot_list_pop ⟨_, e, rfl⟩ PySem.F.entry_list_pop (PySem.F.args_list_pop_2 _ _) (PySem.MeetsSeq.list_pop_at a _ n 0 u 0 v (by decide) (by simp [seqIndex?]) rfl (by rw [List.size_toArray, sizeLine_eq, List.length_cons]; omega)) ⟨e, h _ ⟨n + 1, ?_⟩ (Heap.SameBut.update ..)⟩
  have := Heap.get?_update_self (Obj.mapSeq fun xs => xs.eraseIdxIfInBounds 0) e rfl
  rw [this]
  have he : ((v :: vs).toArray.eraseIdxIfInBounds 0) = vs.toArray := by
    apply Array.ext'
    simp
  simp [Obj.mapSeq, he]
end
theorem keep_fn {M : Model} {a : Addr} {h : Heap} (e : ∃ od fd, h.get? a = some { cls := .type "function", dict := od, data := .func fd }) : ∃ k, (k = Keeper.frame ∨ k = Keeper.machine ∨ k = Keeper.boundFrame) ∧ Looks M h (keeperOf (.ref a)) k :=
  let ⟨od, fd, e⟩ := e; keeps_F h ⟨_, _, _, _, e⟩
section
variable {c : Cx} {F : FC} {A : Around} {z mu : Addr → Prop} {s : Shared} {C : LCon} {fr : Addr} {x : LXA} {l : LX} {loc : Loc} {Q E : Value → Shared → Prop} {n : Nat} {sc : Scope} {bb : Bool} {w nm : Str} {p1 p2 p3 p4 p5 : Pos} {kc : Nat} {T : AF → Loc → LS → Prop} {ls : LS}
theorem ev_sattr (H : Hy c) (p : PL c C x) (k : KLex c.K C.CL fr) (hr : Room A n) (hs : ScOK F sc) (R : Rep c F z mu loc ls s) (ho : Ev c n sc loc ls (.Name w p1) .lex bb (some l)) {v : LT → Value} (ha : findIn c.K (.ref C.CL) nm = some none) (hg : ∀ u, getL nm (lxEs u l.line x.fn x.pb) = some (some (v u))) (hv : ∀ u, handedIn (v u) = true)
    (hq : ∀ u z' s', StpE c z s z' s' → LexOK c (some l) s'.heap → Q (v u) s') : wpAny (model c.prog c.w) A (eval (.Attribute (.Name w p1) nm p2) F.env) Q E s := by
  rw [arm_eval_Attribute, base_name nm F.env]
  refine wpAny_bind (ho.go F A hr hs z mu s _ _ R fun z1 v1 s1 S1 L1 r1 => ?_)
  have R1 := R.stpE H S1 L1
  obtain ⟨y, ex, rfl⟩ := r1.t.i
  cases Option.some.inj (ex.symm.trans p.X)
  obtain ⟨u, I⟩ := (p.to _ _ (p.at L1)).inst
  exact wpAny_bind (wpAny_standAt (wpAny_bind (wpAny_holding (lex_attr k R1.kin I ha (hg u) (hv u) (wpAny_bind (wpAny_pure (wpAny_pure (hq u z1 _ (S1.trans (StpE.toks R1 _)) L1))))))))
theorem Ev.read (H : Hy c) (G : GiveOK c C) (p : PL c C x) (k : KLex c.K C.CL fr) (hn : 11 ≤ n) (hline : (p3.endLine == p5.line) = true) (ho : Ev c n sc loc ls (.Name w p1) .lex bb (some l)) :
    Ev c n sc loc ls (.Call (.Attribute (.Attribute (.Name w p1) "instream" p2) "read" p3) [.Constant (.int 1) kc p4] [] p5) (.str (gch l)) true (some (adv l)) := by
  refine .of ?_
  intro F A hr hs z mu s Q E R hq
  refine call_method (fun _ _ => rfl) rfl (Nat.le_of_ble_eq_true rfl) hline (ev_sattr H p k hr hs R ho k.a2 (v := fun _ => .ref x.fn) (fun u => lx_instream u _ _ _) (fun _ => rfl) fun u z1 s1 S1 L1 pl => ?_)
  have R1 := R.stpE H S1 L1
  cases (p.to _ _ (p.at L1)).fx with
  | mk a hc ha hg =>
  obtain ⟨_, fn, fd, gv, _⟩ := a
  refine fn_method fn fd rfl (call_with (P := fun h => ∃ o qual doc pm ctv, o = gvObj C x qual doc pm ctv ∧ h.get? x.gv = some o) rfl (fun h e => let ⟨_, _, _, _, _, q, e⟩ := e; keep_fn ⟨_, _, q ▸ e⟩) ?_)
  rw [starEach_cons (show isStarred (.Constant (.int 1) _ _) = false from rfl)]
  have R2 := R1.stpE (s' := { s1 with toks := s1.toks + 1 }) H (StpE.toks R1 (s1.toks + 1)) L1
  refine Calls.spliced_cons ((Ev.int (c := c) (n := n) (sc := sc) (k := kc) (pos := p4)).go F A hr hs z1 mu _ _ _ R2 fun z2 v s2 S2 L2 r2 => ?_)
  obtain ⟨t, rfl⟩ := r2.t.i
  have R3 := R2.stpE H S2 L2
  refine Calls.spliced_nil ⟨⟨_, _, _, _, _, rfl, S2.kp _ _ gv (p.ngv (p.at L1))⟩, give_ok H G (hr.mono hn) R3.kin (p.to _ _ (p.at L2)) (fun a o e q => R3.kz a o e (R3.lmu a (q ▸ p.lm (.tail _ (.tail _ (.head _)))))) fun s3 t3 P3 k3 g3 o3 d3 => ?_⟩
  obtain ⟨S3, L3⟩ := p.step R3 (s' := s3) (fun b o n1 e => k3 b o (fun q => n1 (q ▸ .tail _ (.tail _ (.head _)))) e) P3 rfl g3 o3 d3
  exact hq z2 _ s3 (((S1.trans (StpE.toks R1 (s1.toks + 1))).trans S2).trans S3) L3 (Rd.str _ _)
theorem E1.line (H : Hy c) (p : PL c C x) (k : KLex c.K C.CL fr) (hp : plainN w = true) (ho : loc.lookup w = some ⟨.fz, .lex⟩) (hT : T .next loc (some { l with line := l.line + 1 })) :
    E1 c n sc loc (some l) (.AugAssign (.Attribute (.Name w p1) "lineno" p2) .Add (.Constant (.int 1) kc p3) p4) T := by
  refine .of ?_
  intro F A hr hs z mu s Q E R hq
  refine wpAny_AugAssign_AttributeAny ((Ev.nameF (c := c) (n := n) (sc := sc) hp ho).go F A hr hs z mu s _ _ R fun z0 v0 s0 S0 L0 r0 => ?_)
  have R0 := R.stpE H S0 L0
  obtain ⟨y, ex, rfl⟩ := Rd.i r0
  cases Option.some.inj (ex.symm.trans p.X)
  obtain ⟨u, I⟩ := (p.to _ _ (p.at L0)).inst
  refine lex_attr k R0.kin I k.a1 (lx_lineno u _ _ _) rfl ?_
  have R1 := R0.stpE (s' := { s0 with toks := s0.toks + 1 }) H (StpE.toks R0 (s0.toks + 1)) L0
  refine (Ev.int (c := c) (n := n) (sc := sc)).go F A hr hs z0 mu _ _ _ R1 fun z1 v s1 S1 L1 r1 => ?_
  obtain ⟨t, rfl⟩ := r1.t.i
  have R2 := R1.stpE H S1 L1
  refine iadd_int ?_
  have S3 := StpE.toks R2 (s1.toks + 1)
  have R3 := R2.stpE (s' := { s1 with toks := s1.toks + 1 }) H S3 L1
  have P3 := p.to _ _ (p.at L1)
  obtain ⟨u3, I3⟩ := P3.inst (s := { s1 with toks := s1.toks + 1 })
  refine set_raw (s := { s1 with toks := s1.toks + 1 }) R3.kin I3 k.st k.po k.tk k.hd rfl (fun k => Nat.le_of_ble_eq_true rfl) fun h' tk kk sb D' => ?_
  have k3 : ∀ b o, b ≠ x.dx → s1.heap.get? b = some o → h'.get? b = some o := fun b o n e => (sb.2 b n).trans e
  obtain ⟨S4, L4⟩ := p.step R3 (s' := { s1 with heap := h', toks := tk }) (fun b o n2 e => k3 b o (fun q => n2 (q ▸ .head _)) e) (P3.setLn k3 (n := l.line + 1) (u := { u3 with t := s1.toks }) D') rfl rfl rfl rfl
  have S := (((S0.trans (StpE.toks R0 (s0.toks + 1))).trans S1).trans S3).trans S4
  exact hq _ _ _ .next z1 mu _ hT (S.lift R) (R3.stpE H S4 L4) rfl
theorem Tr.pushb (H : Hy c) (p : PL c C x) (k : KLex c.K C.CL fr) (ho : Ev c n sc loc ls (.Name w p1) .lex bb (some l)) (hz : l.pb.length < 1000000) : Tr c n sc loc ls (.Attribute (.Name w p1) "pushback" p2) (!l.pb.isEmpty) (some l) := by
  refine .of ?_
  intro F A hr hs z mu s Q E R hq
  refine wpAny_isTrue_value (ev_sattr H p k hr hs R ho k.a4 (v := fun _ => .ref x.pb) (fun u => lx_pushback u _ _ _) (fun _ => rfl) fun u z1 s1 S1 L1 => ?_) rfl
  obtain ⟨vs, pl, pv⟩ := (p.to _ _ (p.at L1)).pb
  have hl := pv.len
  refine wpAny_truthy_list pl.isList (by rw [List.size_toArray, hl]; omega) ?_
  have e : (!vs.toArray.isEmpty) = !l.pb.isEmpty := by
    cases vs with
    | nil => rw [List.eq_nil_of_length_eq_zero hl.symm]; rfl
    | cons v vs =>
      cases hpb : l.pb with
      | nil => rw [hpb] at hl; cases hl
      | cons => rfl
  rw [e]
  exact hq z1 _ (S1.trans (StpE.toks (R.stpE H S1 L1) _)) L1
theorem pb_call (H : Hy c) (p : PL c C x) (k : KLex c.K C.CL fr) (hline : (p3.endLine == p5.line) = true) (ho : Ev c n sc loc ls (.Name w p1) .lex bb (some l)) {id : String} {e : Expr} {d : D} {l' : LX} (hst : isStarred e = false) (slot : PySem.Slot "list" nm id) (hty : typeOf (.builtin id) = pure (.type "method_descriptor")) (he : Ev c n sc loc (some l) e d true (some l'))
    (hr : Room A n) (hs : ScOK F sc) (R : Rep c F z mu loc ls s)
    (hq : ∀ z1 v s1, StpE c z s z1 s1 → Rep c F z1 mu loc (some l') s1 → LexOK c (some l') s1.heap → Rd c z1 s1.heap v d → wpAny (model c.prog c.w) A (call (.builtin id) [.ref x.pb, v]) Q E s1) : wpAny (model c.prog c.w) A (eval (.Call (.Attribute (.Attribute (.Name w p1) "pushback" p2) nm p3) [e] [] p5) F.env) Q E s := by
  refine call_method (fun _ _ => rfl) (by rw [List.any_cons, hst]; rfl) (Nat.le_of_ble_eq_true rfl) hline (ev_sattr H p k hr hs R ho k.a4 (v := fun _ => .ref x.pb) (fun u => lx_pushback u _ _ _) (fun _ => rfl) fun u z1 s1 S1 L1 pl => ?_)
  have R1 := R.stpE H S1 L1
  obtain ⟨vs, ⟨n0, e0⟩, pv⟩ := (p.to _ _ (p.at L1)).pb
  refine getMethod_builtin (T := "list") ⟨_, e0, rfl⟩ PySem.F.plainAttrs_list slot hty (fun a' e => by cases e; exact ⟨_, e0, rfl⟩) (call_with (P := fun _ => True) (by rw [List.any_cons, hst]; rfl) (fun h _ => keep_non (f := .builtin id) (fun a e => nomatch e) h) ?_)
  rw [starEach_cons hst]
  exact Calls.spliced_cons (he.go F A hr hs z1 mu s1 _ _ R1 fun z2 v s2 S2 L2 r2 => Calls.spliced_nil ⟨trivial, hq z2 v s2 (S1.trans S2) (R1.stpE H S2 L2) L2 r2⟩)
theorem Ev.pop (H : Hy c) (p : PL c C x) (k : KLex c.K C.CL fr) (hline : (p3.endLine == p5.line) = true) (ho : Ev c n sc loc ls (.Name w p1) .lex bb (some l)) {y : Str} {r : List Str} (hpb : l.pb = y :: r) (hz : r.length < 1000000) :
    Ev c n sc loc ls (.Call (.Attribute (.Attribute (.Name w p1) "pushback" p2) "pop" p3) [.Constant (.int 0) kc p4] [] p5) (.str y) true (some { l with pb := r }) := by
  refine .of ?_
  intro F A hr hs z mu s Q E R hq
  refine pb_call H p k hline ho rfl PySem.F.slot_list_pop PySem.F.type_list_pop Ev.int hr hs R fun z1 v s1 S1 R1 L1 rv => ?_
  obtain ⟨t, rfl⟩ := Rd.i rv
  have P1 := p.to _ _ (p.at L1)
  obtain ⟨vs, pl, pv⟩ := P1.pb
  rw [hpb] at pv
  obtain ⟨ty, vs2, rfl, pv2⟩ := pv
  refine pop0 pl (by rw [pv2.len]; exact hz) fun h' pl' sb => ?_
  have k3 : ∀ b o, b ≠ x.pb → s1.heap.get? b = some o → h'.get? b = some o := fun b o n e => (sb.2 b n).trans e
  obtain ⟨S3, L3⟩ := p.step R1 (s' := { s1 with heap := h' }) (fun b o n3 e => k3 b o (fun q => n3 (q ▸ .tail _ (.head _))) e) (P1.setPb k3 pl' pv2) rfl rfl rfl rfl
  exact hq z1 _ _ (S1.trans S3) L3 (Rd.str _ _)
theorem Ev.pushT (H : Hy c) (p : PL c C x) (k : KLex c.K C.CL fr) (hline : (p3.endLine == p5.line) = true) (ho : Ev c n sc loc ls (.Name w p1) .lex bb (some l)) {e : Expr} {y : Str} (hst : isStarred e = false) (he : Ev c n sc loc (some l) e (.str y) true (some l)) (hz : l.pb.length < 1000000) :
    Ev c n sc loc ls (.Call (.Attribute (.Attribute (.Name w p1) "pushback" p2) "append" p3) [e] [] p5) .none true (some { l with pb := l.pb ++ [y] }) := by
  refine .of ?_
  intro F A hr hs z mu s Q E R hq
  refine pb_call H p k hline ho hst PySem.F.slot_list_append PySem.F.type_list_append he hr hs R fun z1 v s1 S1 R1 L1 rv => ?_
  obtain ⟨t, rfl⟩ := Rd.i rv
  have P1 := p.to _ _ (p.at L1)
  obtain ⟨vs, pl, pv⟩ := P1.pb
  refine wpAny_list_append_plain pl (fun h' pl' sb => ?_) (by rw [List.size_toArray, pv.len, sizeLine_eq]; omega)
  have k3 : ∀ b o, b ≠ x.pb → s1.heap.get? b = some o → h'.get? b = some o := fun b o n e => (sb.2 b n).trans e
  obtain ⟨S3, L3⟩ := p.step R1 (s' := { s1 with heap := h' }) (fun b o n3 e => k3 b o (fun q => n3 (q ▸ .tail _ (.head _))) e) (P1.setPb k3 (vs := vs ++ [.str y t]) (pb' := l.pb ++ [y]) (by rw [List.push_toArray] at pl'; exact pl') pv.append) rfl rfl rfl rfl
  exact hq z1 _ _ (S1.trans S3) L3 Rd.none
theorem lex_at0 (p : PL c C x) : At0 c := fun y lx e A s Q E t hP hq => by
  cases Option.some.inj (e.symm.trans p.X)
  obtain ⟨ta, pl⟩ := (p.to _ _ hP).at'
  exact ⟨pl.isList.typeIs, wpAny_getItem_list pl.isList (by omega) (by omega) rfl (hq ta s.toks)⟩
theorem lex_a {f : LX → D} {v : LX → LT → Value} (p : PL c C x) (k : KLex c.K C.CL fr) (ha : findIn c.K (.ref C.CL) nm = some none) (hg : ∀ l u, getL nm (lxEs u l.line x.fn x.pb) = some (some (v l u))) (hv : ∀ l u, handedIn (v l u) = true) (hd : ∀ l u z h, Rd c z h (v l u) (f l)) : LexA c nm f := fun lx y e A z s Q E X hP hq => by
  cases Option.some.inj (e.symm.trans p.X)
  obtain ⟨u, I⟩ := LexP.inst (s := s) (p.to _ _ hP)
  exact lex_attr k X I ha (hg lx u) (hv lx u) (hq _ _ (hd lx u z _))
theorem rds_fz {h : Heap} {z : Addr → Prop} : ∀ {vs : List Value} {ds : List D}, Rds c z h vs ds → RdBs c z h vs (fz ds)
  | _, [], r => by cases (r.i : _ = []); exact .nil
  | _, d :: ds, r => by
    obtain ⟨v, vs, rfl, r0, rs⟩ := r.i
    exact .cons (d := (d, true)) r0 (rds_fz rs)
theorem lexg_of (H : Hy c) (p : PL c C x) (k : KLex c.K C.CL fr) {f : Fn} {rm : Nat} {lm : LX → List D → D → LX → Prop} (hf : FnOK c f) (hk : keepIn c.K (.ref f.addr) = true) (hfi : findIn c.K (.ref C.CL) nm = some (some (.ref f.addr))) (hi : isFn c.K (.ref f.addr) = true) (hg : ∀ u l a b, getL nm (lxEs u l a b) = some none)
    (h : ∀ lx as r lx', lm lx as r lx' → Cl c rm f ((.lex, true) :: fz as) (some lx) r (some lx')) : LexG c nm f.addr (rm + 1) lm :=
  ⟨hk, fun y lx e A s pl Q E X hP hq => by
    cases Option.some.inj (e.symm.trans p.X)
    obtain ⟨u, I⟩ := LexP.inst (s := s) (p.to _ _ hP)
    exact lex_method k X I hfi hi (hg _ _ _ _) hq,
  fun lx as r lx' hl y e F A z mu loc s Q E vs hr R rv hq => by
    cases Option.some.inj (e.symm.trans p.X)
    exact callF_ok H hr hf (h lx as r lx' hl) R (.cons (d := (.lex, true)) (Rd.lex p.X p.on) (rds_fz rv)) hq⟩
end
open Builtin
theorem cit_next_slot : PySem.Slot "callable_iterator" "__next__" "callable_iterator.__next__" :=
  .of (owner := "callable_iterator") (n := "__next__") (by rw [typeLookup_type, builtinLookup_eq_fast]; kernel_rfl) (by decide +kernel) (by decide +kernel) (by decide +kernel)
    (by first | exact .inl (by decide +kernel) | exact .inr (by decide +kernel)) (by rw [isSubtype_type]; kernel_rfl)
theorem cit_iter_slot : PySem.Slot "callable_iterator" "__iter__" "callable_iterator.__iter__" :=
  .of (owner := "callable_iterator") (n := "__iter__") (by rw [typeLookup_type, builtinLookup_eq_fast]; kernel_rfl) (by decide +kernel) (by decide +kernel) (by decide +kernel)
    (by first | exact .inl (by decide +kernel) | exact .inr (by decide +kernel)) (by rw [isSubtype_type]; kernel_rfl)
theorem cit_next_entry : entryFor table "callable_iterator.__next__" = some Builtin.«callable_iterator.__next__» := entryFor_of_tree (by kernel_rfl)
theorem cit_iter_entry : entryFor table "callable_iterator.__iter__" = some Builtin.«dict_keyiterator.__iter__» :=
  entryFor_alias (id' := "dict_keyiterator.__iter__") (by kernel_rfl) (by first | rfl | decide +kernel | (unfold String.splitOn; simp +decide [String.splitOnAux])) (by decide +kernel) (by kernel_rfl)
theorem cit_next_args (a : Value) : argsOk "callable_iterator.__next__" ⟨[a], []⟩ := by unfold argsOk; kernel_rfl
theorem cit_iter_args (a : Value) : argsOk "callable_iterator.__iter__" ⟨[a], []⟩ := by unfold argsOk; kernel_rfl
theorem meth_call : typeLookup (.type "method") "__call__" = pure (some (.builtin "method.__call__")) := by rw [typeLookup_type, builtinLookup_eq_fast]; kernel_rfl
theorem iter_entry : entryFor table "iter" = some Builtin.«iter» := entryFor_of_tree (by kernel_rfl)
theorem iter_kind : builtinKind "iter" = none := by decide +kernel
theorem iter_plain : plainId "iter" = true := by decide +kernel
theorem iter_args (a b : Value) : argsOk "iter" ⟨[a, b], []⟩ := by unfold argsOk; kernel_rfl
theorem wpAny_callBorrowed {M : Model} {A : Around} {E : Value → Shared → Prop} {s : Shared} {f : Value} {pos : List Value} {Q : Value → Shared → Prop}
    (hc : codeAny M A (.call f ⟨pos, []⟩) (fun r s' => match r with | .ok (.ret v) => Q v s' | .ok _ => False | .error e => E e s') s) : wpAny M A (callBorrowed f pos) Q E s := fun Γ p hΓ => by
  unfold callBorrowed
  rw [Sem.wp_call]
  have h := hc _ p rfl (hΓ.enter (.call f ⟨pos, []⟩) none p (by intro x; cases x))
  refine wpCode_mono (fun r s' h' => ?_) h
  cases r with
  | error e => exact h'
  | ok f => cases f <;> first | exact h' | exact h'.elim
section
variable {prog : Program} {w : World} {A : Around} {E : Value → Shared → Prop} {s : Shared} {it bm f x CL fr dx : Addr} {t : Tok} {K : Frag}
theorem cit_pyIter {a b c : Value} {Q : Value → Shared → Prop} (he : s.heap.get? it = some (citObj a b c)) (h : Q (.ref it) s) : wpAny (model prog w) A (pyIter (.ref it)) Q E s := by
  have hT : s.TypeIs (.ref it) "callable_iterator" := ⟨_, he, rfl⟩
  refine wpAny_pyIter_slot hT cit_iter_slot (wpAny_call_entry cit_iter_slot hT cit_iter_entry ?_ (cit_iter_args _))
  show wpAny _ _ (ret (.ref it)) _ _ s
  exact wpAny_pure ⟨_, rfl, "callable_iterator", _, hT, cit_next_slot.lookup, h⟩
theorem cit_make {v : Value} {Q : Value → Shared → Prop} (hb : s.heap.get? bm = some (methodObj (.ref f) (.ref x)))
    (h : Q (.ref s.heap.objs.size) { s with heap := s.heap.push (citObj (.ref bm) v (.bool false)) }) : wpAny (model prog w) A (call (.builtin "iter") [.ref bm, v]) Q E s := by
  have hT : s.TypeIs (.ref bm) "method" := ⟨_, hb, rfl⟩
  refine Calls.call_function_entry iter_kind iter_plain iter_entry (iter_args _ _) ?_
  unfold Builtin.«iter»
  refine wpAny_bind (wpAny_of_eq (a := [.ref bm, v]) (by first | rfl | kernel_rfl) ?_)
  dsimp only
  refine wpAny_bind (wpAny_specialOf hT meth_call ?_)
  rw [if_neg (by decide)]
  refine wpAny_bind (wpAny_rule (wpAny_bind ?_))
  exact wpAny_newObj_type (wpAny_pure ⟨_, rfl, h⟩)
theorem borrows_meth {M : Model} {oc : Value} {od : Option Addr} {fd : FuncData} {osl : Array (Option Value)} {Q : Bool → Shared → Prop} (hb : s.heap.get? bm = some (methodObj (.ref f) (.ref x))) (hf : s.heap.get? f = some ⟨oc, od, .func fd, osl⟩) (h : Q true s) : wpAny M A (borrowsExactly (.ref bm)) Q E s := by
  unfold borrowsExactly
  dsimp only
  refine wpAny_bind (wpAny_load hb ?_)
  dsimp only
  rw [if_pos (by decide)]
  exact wpAny_bind (wpAny_load hf (wpAny_pure h))
theorem cit_pyNext {oc : Value} {od : Option Addr} {fd : FuncData} {osl : Array (Option Value)} {Q : Option Value → Shared → Prop} (hh : A.handled = none) (he : s.heap.get? it = some (citObj (.ref bm) (.str ⟨#[]⟩ t) (.bool false))) (hb : s.heap.get? bm = some (methodObj (.ref f) (.ref x))) (hf : s.heap.get? f = some ⟨oc, od, .func fd, osl⟩)
    (h : codeAny (model prog w) A.in1 (.call (.ref f) ⟨[.ref x], []⟩) (fun res s1 => ∃ r, res = .ok (.ret r) ∧ ∃ c u, r = .str c u ∧ (∃ t1, s1.heap.get? it = some (citObj (.ref bm) (.str ⟨#[]⟩ t1) (.bool false))) ∧ s1.heap.get? bm = some (methodObj (.ref f) (.ref x)) ∧ s1.heap.get? f = some ⟨oc, od, .func fd, osl⟩ ∧
      (if c = ⟨#[]⟩ then ∀ h', h'.get? it = some (citObj .none .none (.bool true)) → Heap.ExtBut it s1.heap h' → Q none { s1 with heap := h' } else Q (some (.str c u)) s1)) s) :
    wpAny (model prog w) A (pyNext (.ref it)) Q E s := by
  have hT : s.TypeIs (.ref it) "callable_iterator" := ⟨_, he, rfl⟩
  unfold pyNext
  refine wpAny_bind (wpAny_attempt (wpAny_callSpecial?_slot (name := Str.ofString "__next__") hT cit_next_slot (wpAny_call_entry cit_next_slot hT cit_next_entry ?_ (cit_next_args _))))
  show wpAny _ _ (field (.ref it) 2 >>= _) _ _ s
  refine wpAny_bind (wpAny_field he rfl (x := .bool false) rfl ?_)
  rw [if_neg (by decide)]
  refine wpAny_bind (wpAny_field he rfl (x := .ref bm) rfl ?_)
  refine wpAny_bind (wpAny_attempt ?_)
  unfold callOutOfASlot
  refine wpAny_bind (borrows_meth hb hf ?_)
  rw [if_pos rfl]
  refine wpAny_callBorrowed (method_call hb (codeAny_mono h fun res s1 hr => ?_))
  obtain ⟨r, rfl, c, u, rfl, ⟨t1, he1⟩, hb1, hf1, hc⟩ := hr
  dsimp only
  refine wpAny_bind (wpAny_field he1 rfl (x := .bool false) rfl ?_)
  rw [if_neg (by decide)]
  show wpAny _ _ (field (.ref it) 1 >>= _) _ _ s1
  refine wpAny_bind (wpAny_field he1 rfl (x := .str ⟨#[]⟩ t1) rfl ?_)
  refine wpAny_bind (wpAny_holding (wpAny_eqBool_str ?_))
  by_cases hce : c = ⟨#[]⟩
  · rw [if_pos hce] at hc
    subst hce
    rw [if_neg (by simp)]
    refine wpAny_bind (wpAny_rule ?_)
    refine wpAny_bind ?_
    show wpAny _ _ (field (.ref it) 0 >>= _) _ _ s1
    refine wpAny_bind (wpAny_field he1 rfl (x := .ref bm) rfl ?_)
    refine wpAny_bind ?_
    · unfold slotLetsGo
      dsimp only
      refine wpAny_bind (borrows_meth hb1 hf1 ?_)
      rw [if_pos rfl]
      refine wpAny_pure ?_
      show wpAny _ _ (setField (.ref it) 0 .none >>= _) _ _ s1
      refine wpAny_bind (wpAny_setField_rec he1 (by simp) fun h2 he2 hs2 => ?_)
      replace he2 : h2.get? it = some (citObj .none (.str ⟨#[]⟩ t1) (.bool false)) := he2
      show wpAny _ _ (setField (.ref it) 1 .none >>= _) _ _ { s1 with heap := h2 }
      refine wpAny_bind (wpAny_setField_rec he2 (by simp) fun h3 he3 hs3 => ?_)
      replace he3 : h3.get? it = some (citObj .none .none (.bool false)) := he3
      show wpAny _ _ (setField (.ref it) 2 (.bool true)) _ _ { s1 with heap := h3 }
      refine wpAny_setField_rec he3 (by simp) fun h4 he4 hs4 => ?_
      replace he4 : h4.get? it = some (citObj .none .none (.bool true)) := he4
      replace hs2 : Heap.SameBut it s1.heap h2 := hs2
      replace hs3 : Heap.SameBut it h2 h3 := hs3
      replace hs4 : Heap.SameBut it h3 h4 := hs4
      show wpAny _ _ (newExc (.type "StopIteration") [] >>= _) _ _ { s1 with heap := h4 }
      refine wpAny_bind ?_
      simp only [newExc, newTuple]
      refine wpAny_bind (wpAny_newObj_type ?_ (by size_fits))
      refine wpAny_bind (m := firstArgMember _ _) (wpAny_of_eq (a := Value.none) (by first | rfl | (simp only [firstArgMember]; rfl)) ?_)
      refine wpAny_newObj_type ?_ (by size_fits)
      simp only [raiseNew]
      refine wpAny_bind (wpAny_handled ?_)
      rw [show A.in1.handled = none from hh]
      refine wpAny_bind (wpAny_pure (wpAny_throw ?_))
      refine wpAny_bind (wpAny_isInstance (T := "StopIteration") (b := true) ⟨_, Heap.get?_push_size _ rfl, rfl⟩ isSubtype_stop ?_)
      refine wpAny_pure (hc _ (Heap.get?_push_of_some _ (Heap.get?_push_of_some _ he4)) fun b o n e => Heap.get?_push_of_some _ (Heap.get?_push_of_some _ (hs4.extBut b o n (hs3.extBut b o n (hs2.extBut b o n e)))))
  · rw [if_neg hce] at hc
    rw [if_pos (by simp [Ne.symm hce])]
    exact wpAny_pure ⟨_, rfl, wpAny_pure hc⟩
theorem lex_bound {ex : Bool} {Q : Value → Shared → Prop} {es : List DictEntry} {n : Nat} (k : KLex K CL fr) (X : K.In s.heap) (I : InstAt s.heap x (instObj CL dx) CL (some (dictOf es n))) (hl : getL "_read_char" es = some none)
    (h : Q (.ref s.heap.objs.size) { s with heap := s.heap.push (methodObj (.ref fr) (.ref x)), toks := s.toks + 1 }) : wpAny (model prog w) A (getAttr (.ref x) "_read_char" ex) Q E s :=
  get_bind X I (plainGet_of (k.pg "")).1 (findObj_fn k.hd k.mr k.rg k.rt (by decide +kernel) (by show lookIn _ (dictOf es n) = _; rw [lookIn_dict, hl])) (plainGet_of (k.pg "")).2
    (wpAny_call (fn_get (s := { s with toks := s.toks + 1 }) X (beq_iff_eq.mp k.ir) (handed_on rfl h)))
theorem cit_ended {a b : Value} {Q : Option Value → Shared → Prop} (hh : A.handled = none) (he : s.heap.get? it = some (citObj a b (.bool true)))
    (h : ∀ h', (∀ b o, s.heap.get? b = some o → h'.get? b = some o) → Q none { s with heap := h' }) : wpAny (model prog w) A (pyNext (.ref it)) Q E s := by
  have hT : s.TypeIs (.ref it) "callable_iterator" := ⟨_, he, rfl⟩
  unfold pyNext
  refine wpAny_bind (wpAny_attempt (wpAny_callSpecial?_slot (name := Str.ofString "__next__") hT cit_next_slot (wpAny_call_entry cit_next_slot hT cit_next_entry ?_ (cit_next_args _))))
  show wpAny _ _ (field (.ref it) 2 >>= _) _ _ s
  refine wpAny_bind (wpAny_field he rfl (x := .bool true) rfl ?_)
  rw [if_pos (by decide)]
  refine wpAny_bind (wpAny_rule ?_)
  show wpAny _ _ (SmallTypes.stopIteration >>= _) _ _ s
  refine wpAny_bind ?_
  show wpAny _ _ (newExc (.type "StopIteration") [] >>= _) _ _ s
  refine wpAny_bind ?_
  simp only [newExc, newTuple]
  refine wpAny_bind (wpAny_newObj_type ?_ (by size_fits))
  refine wpAny_bind (m := firstArgMember _ _) (wpAny_of_eq (a := Value.none) (by first | rfl | (simp only [firstArgMember]; rfl)) ?_)
  refine wpAny_newObj_type ?_ (by size_fits)
  simp only [raiseNew]
  refine wpAny_bind (wpAny_handled ?_)
  rw [show A.in1.handled = none from hh]
  refine wpAny_bind (wpAny_pure (wpAny_throw ?_))
  refine wpAny_bind (wpAny_isInstance (T := "StopIteration") (b := true) ⟨_, Heap.get?_push_size _ rfl, rfl⟩ isSubtype_stop ?_)
  exact wpAny_pure (h _ fun b o e => Heap.get?_push_of_some _ (Heap.get?_push_of_some _ e))
end
theorem Rep.cx {c c' : Cx} {F : FC} {z mu mu' : Addr → Prop} {loc loc' : Loc} {ls ls' : LS} {s s' : Shared} (R : Rep c F z mu loc ls s) (kin : c'.K.In s'.heap) (kz : ∀ a o, c'.K.lookup a = some o → ¬ mu' a) (zmu : ∀ a, z a → ¬ mu' a) (lmu : ∀ a, lexmu c'.X a → mu' a) (zal : ∀ a, z a → Al s'.heap a) (mal : ∀ a, mu' a → Al s'.heap a) (lx : LexOK c' ls' s'.heap) (mm : ∀ a, mu a → mu' a)
    (fl : ∀ a, lexall c'.X a → Al s.heap a → a ≠ F.env.locals ∧ ∀ y, F.env.cells.lookup y ≠ some a) (hk : ∀ a, (a = F.env.locals ∨ ∃ y, F.env.cells.lookup y = some a) → ∀ o, s.heap.get? a = some o → s'.heap.get? a = some o)
    (hv : ∀ x lv, loc'.lookup x = some lv → lv.k ≠ .own ∧ ∃ v, Slot F.env s.heap x v ∧ LVr c' z mu' s'.heap lv v) : Rep c' F z mu' loc' ls' s' :=
  ⟨kin, kz, zmu, lmu, zal, mal, lx, mm _ R.fmu, fun m => (fl _ m (R.mal _ R.fmu)).1 rfl, let ⟨m, n⟩ := R.ns; ⟨m, n.at' (hk _ (.inl rfl))⟩,
    fun y a e => let ⟨_, h2, h3, o, h4⟩ := R.cl y a e; ⟨fun m => (fl a m ⟨o, h4⟩).2 y e, h2, h3, o, hk a (.inr ⟨y, e⟩) o h4⟩, R.cinj,
    fun y hy => by
      cases R.wr y hy with
      | loc k => exact .loc k
      | cell k l m n => exact .cell k l (mm _ m) (let ⟨o, e, d⟩ := n; ⟨o, hk _ (.inr ⟨_, l⟩) o e, d⟩),
    fun x lv e => let ⟨_, v, h1, h2⟩ := hv x lv e; ⟨v, h1.kp (hk _ (.inl rfl)) fun y a o l => hk a (.inr ⟨y, l⟩) o, h2⟩, fun x d a e => absurd rfl (hv x _ e).1, fun x y d e' a e => absurd rfl (hv x _ e).1⟩
noncomputable def rdc (l : LX) : LX := if (gch l == (⟨#[10]⟩ : Str)) = true then { adv l with line := l.line + 1 } else adv l
theorem rdc_en (l : LX) : (rdc l).en = l.en := by unfold rdc; split <;> rfl
inductive NxL : LX → Option D → LX → Prop
  | ended {l} : l.en = true → NxL l none l
  | stop {l} : l.en = false → gch l = ⟨#[]⟩ → NxL l none { rdc l with en := true }
  | sign {l} : l.en = false → gch l ≠ ⟨#[]⟩ → NxL l (some (.str (gch l))) (rdc l)
section
variable {c : Cx} {C : LCon} {x : LXA} {f : Fn} {rm : Nat}
theorem fit_of (H : Hy c) (hX : c.X = some x) (ho : x.on = true) (hP : c.P = LexI C f.addr) (hf : FnOK c f) (hrd : ∀ l, Cl c rm f [(.lex, true)] (some l) (.str (gch l)) (some (rdc l))) : FitG c (rm + 2) NxL := by
  have p : PL c C x := pl_I hX ho hP
  have toI : ∀ {l : LX} {h : Heap}, c.P x l h → LexI C f.addr x l h := fun {l h} q => hP ▸ q
  refine ⟨fun lx r lx' h y e F A z mu loc s Q E hr R hq => ?_, fun lx h y e A s Q E q hq => ?_⟩
  · cases Option.some.inj (e.symm.trans hX)
    have hL := toI (p.at R.lx)
    obtain ⟨t, hit⟩ := hL.it
    have hcase : lx.en = true ∧ r = none ∧ lx' = lx ∨ lx.en = false ∧ ((gch lx = ⟨#[]⟩ ∧ r = none ∧ lx' = { rdc lx with en := true }) ∨ (gch lx ≠ ⟨#[]⟩ ∧ r = some (.str (gch lx)) ∧ lx' = rdc lx)) := by
      cases h with
      | ended e => exact .inl ⟨e, rfl, rfl⟩
      | stop e g => exact .inr ⟨e, .inl ⟨g, rfl, rfl⟩⟩
      | sign e g => exact .inr ⟨e, .inr ⟨g, rfl, rfl⟩⟩
    rcases hcase with ⟨hen, rfl, rfl⟩ | ⟨hen, hcase⟩
    · rw [if_pos hen] at hit
      exact cit_ended hr.h hit fun h' hk => hq z none _ (StpE.same (tk := s.toks) R hk) (R.lx.keep H hk) trivial
    · rw [if_neg (by rw [hen]; exact Bool.false_ne_true)] at hit
      obtain ⟨⟨oc, od, oda, osl⟩, fd, hfo, hfd, _⟩ := hf.fn
      cases (hfd : oda = _)
      have hfh := R.kin _ _ hfo
      refine cit_pyNext hr.h hit hL.bm hfh (codeAny_mono (callC_ok (A := A.in1) (n := rm) (E := fun _ _ => False) (Q := fun v s1 => ∃ z1, StpE c z s z1 s1 ∧ LexOK c (some (rdc lx)) s1.heap ∧ Rd c z1 s1.heap v (.str (gch lx))) H ⟨hr.h, by have := hr.d; show A.depth + _ + 20 < 1000; omega, by have := hr.u; show A.units + 1 + _ + 200 < 9900; omega⟩ hf (hrd lx) (R.pre H) (.cons (d := (.lex, true)) (Rd.lex hX ho) .nil) fun z1 v s1 S1 L1 rv => ⟨z1, S1, L1, rv⟩) fun res s1 hres => ?_)
      obtain ⟨v, rfl, z1, S1, L1, rv⟩ : ∃ v, res = .ok (.ret v) ∧ ∃ z1, StpE c z s z1 s1 ∧ LexOK c (some (rdc lx)) s1.heap ∧ Rd c z1 s1.heap v (.str (gch lx)) := by
        cases res with
        | error e => exact hres.elim
        | ok v => cases v with
          | ret v => exact ⟨v, rfl, hres⟩
          | _ => exact hres.elim
      have R1 := R.stpE H S1 L1
      have hL1 := toI (p.at L1)
      obtain ⟨u, rfl⟩ := rv.i
      obtain ⟨t1, hit1⟩ := hL1.it
      rw [rdc_en, if_neg (by rw [hen]; exact Bool.false_ne_true)] at hit1
      refine ⟨_, rfl, _, u, rfl, ⟨t1, hit1⟩, hL1.bm, R1.kin _ _ hfo, ?_⟩
      rcases hcase with ⟨hg, rfl, rfl⟩ | ⟨hg, rfl, rfl⟩
      · rw [if_pos hg]
        intro h' hi' hx'
        have hmu : ∀ b, ¬ lexmu c.X b → b ≠ x.it := fun b n q => n ⟨x, hX, q ▸ .tail _ (.tail _ (.tail _ (.head _)))⟩
        have S2 : StpE c z1 s1 z1 { s1 with heap := h' } := ⟨fun a ⟨o, e⟩ => by
            by_cases q : a = x.it
            · rw [q]; exact ⟨_, hi'⟩
            · exact ⟨o, hx' a o q e⟩, fun _ h => h, fun _ _ h => h, fun a za => let ⟨o, e⟩ := R1.zal a za; ⟨o, hx' a o (hmu a (R1.zl a za)) e⟩, R1.zl, fun b o e n => hx' b o (hmu b n) e, rfl, rfl, rfl⟩
        have hP2 : LexI C f.addr x { rdc lx with en := true } h' :=
          ⟨(hL1.p.setEn true).keep fun a m o e => hx' a o (fun q => hL1.ni (q ▸ .tail _ m)) e, ⟨0, (if_pos rfl : (if true = true then _ else _) = _) ▸ hi'⟩, hx' _ _ (fun q => hL1.ni (q ▸ .head _)) hL1.bm, hL1.ni, hL1.nb, hL1.rw⟩
        exact hq z1 none _ (S1.trans S2) (p.ok (hP ▸ hP2)) trivial
      · rw [if_neg hg]
        exact hq z1 (some _) s1 S1 L1 (Rd.str _ _)
  · cases Option.some.inj (e.symm.trans hX)
    obtain ⟨t, hit⟩ := LexI.it (toI q)
    split at hit
    · exact cit_pyIter hit hq
    · exact cit_pyIter hit hq
end
section
variable {c : Cx} {C : LCon} {x : LXA} {fr : Addr} {n : Nat} {sc : Scope} {loc : Loc} {l : LX} {w v : Str} {p1 p2 p3 p4 p5 p6 p7 : Pos} {k : Nat} {rest : List Stmt} {T : AF → Loc → LS → Prop}
theorem Ex.iter (H : Hy c) (H' : ∀ x', Hy { c with X := some x', P := LexI C fr }) (hX : c.X = some x) (ho : x.on = true) (hP : c.P = LexM C) (hk : KLex c.K C.CL fr) (hi : c.mg "iter" = none ∧ c.mb "iter" = some (.builtin "iter")) (hg : isGlob sc loc "iter" = true) (hw : plainN w = true) (hlo : loc.lookup w = some ⟨.fz, .lex⟩) (hc : canW sc v = true)
    (hl : ∀ y lv, loc.lookup y = some lv → lv = ⟨.fz, .lex⟩ ∨ ∃ t, lv = ⟨.fz, .str t⟩)
    (h : ∀ x', x'.on = true → Ex { c with X := some x', P := LexI C fr } n sc (setL v ⟨.fz, .fit⟩ loc) (some { l with en := false }) rest fun af _ ls' => ∃ t l', af = .ret (.str t) ∧ ls' = some l' ∧ T af [] (some l')) :
    Ex c n sc loc (some l) (.Assign [.Name v p1] (.Call (.Name "iter" p2) [.Attribute (.Name w p3) "_read_char" p4, .Constant (.str "") k p5] [] p6) p7 :: rest) T := by
  refine .of ?_
  intro F A hr hs z mu s Q E R hq
  have p : PL c C x := pl_M hX ho hP
  refine wpAny_execs_cons (wpAny_Assign_Name (wpAny_Call_NameR (name_glob H R hs hg (.inr hi) (call_with (P := fun _ => True) rfl (fun h _ => keep_non (f := .builtin "iter") (fun a e => nomatch e) h) ?_))) (swaps_no rfl _ _ _))
  rw [starEach_cons rfl, starEach_cons rfl]
  refine Calls.spliced_cons ?_
  rw [arm_eval_Attribute, base_name _ F.env]
  refine wpAny_bind ((Ev.nameF (c := c) (n := n) (sc := sc) hw hlo).go F A hr hs z mu s _ _ R fun z3 v3 s3 S3 L3 r3 => ?_)
  have R3 := R.stpE H S3 L3
  obtain ⟨y, ex, rfl⟩ := Rd.i r3
  cases Option.some.inj (ex.symm.trans hX)
  have hM : LexM C x l s3.heap := hP ▸ p.at L3
  obtain ⟨u, I⟩ := LexP.inst (s := s3) hM.p
  refine wpAny_bind (wpAny_standAt (wpAny_bind (wpAny_holding (lex_bound hk R3.kin I (lx_read _ _ _ _) (wpAny_bind (wpAny_pure (wpAny_pure ?_)))))))
  have bnew : s3.heap.get? s3.heap.objs.size = none := get_size _
  generalize hbm : s3.heap.objs.size = bm at *
  have k4 : ∀ b o, s3.heap.get? b = some o → (s3.heap.push (methodObj (.ref fr) (.ref x.x))).get? b = some o := fun b o e => Heap.get?_push_of_some _ e
  have S4 := StpE.same (tk := s3.toks + 1) R3 k4
  have R4 := R3.stpE H S4 (R3.lx.keep H k4)
  have nbm : ∀ a, Al s3.heap a → bm ≠ a := fun a h q => alive_ne h bnew q.symm
  have hbm4 : (s3.heap.push (methodObj (.ref fr) (.ref x.x))).get? bm = some (methodObj (.ref fr) (.ref x.x)) := hbm ▸ Heap.get?_push_size _ rfl
  refine Calls.spliced_cons ((Ev.str (c := c) (n := n) (sc := sc) (k := k) (pos := p5)).go F A hr hs _ mu _ _ _ R4 fun z5 v5 s5 S5 L5 r5 => ?_)
  have R5 := R4.stpE H S5 L5
  obtain ⟨t5, rfl⟩ := r5.t.i
  have lxa : ∀ a, lexall c.X a → Al s3.heap a := lexall_al H R3
  have hbm5 := S5.kp _ _ hbm4 fun m => nbm _ (lxa _ (lexall_of m)) rfl
  refine Calls.spliced_nil ⟨trivial, cit_make hbm5 ?_⟩
  have inew : s5.heap.get? s5.heap.objs.size = none := get_size _
  generalize hI : s5.heap.objs.size = I at *
  have hM5 : LexM C x l s5.heap := hP ▸ p.at L5
  have ne : ∀ a, Al s5.heap a → a ≠ I := fun a h => alive_ne h inew
  have k6 : ∀ b o, s5.heap.get? b = some o → (s5.heap.push (citObj (.ref bm) (.str ⟨#[]⟩ t5) (.bool false))).get? b = some o := fun b o e => Heap.get?_push_of_some _ e
  have hIal : Al (s5.heap.push (citObj (.ref bm) (.str ⟨#[]⟩ t5) (.bool false))) I := ⟨_, hI ▸ Heap.get?_push_size _ rfl⟩
  have hmp : x.it ∈ x.m3 ++ x.fix := hM5.it ▸ .head _
  have hIn : I ∉ bm :: (x.m3 ++ x.fix) := fun m => (List.mem_cons.mp m).elim (fun q => ne _ ⟨_, hbm5⟩ q.symm) fun m => ne _ (hM5.p.al _ m) rfl
  have hbn : bm ∉ x.m3 ++ x.fix := fun m => nbm _ (lxa _ ⟨x, hX, all_of m⟩) rfl
  have hLI : LexI C fr { x with it := I, bm := bm } { l with en := false } (s5.heap.push (citObj (.ref bm) (.str ⟨#[]⟩ t5) (.bool false))) := by
    have P5 := hM5.p.keep fun a _ o e => k6 a o e
    exact ⟨⟨P5.dx, P5.pb, P5.at', by cases P5.fx with | mk a b c d => exact .mk a b c d, P5.nd, P5.nf, P5.nc, P5.pos, P5.len⟩, ⟨t5, hI ▸ Heap.get?_push_size _ rfl⟩, k6 _ _ hbm5, hIn, fun m => hbn (List.mem_append_left _ m), hM5.rw⟩
  have sub : ∀ a, lexmu c.X a → lexmu (some { x with it := I, bm := bm }) a := fun a ⟨y, e, m⟩ => by
    cases Option.some.inj (e.symm.trans hX)
    rcases List.mem_append.mp (show a ∈ x.m3 ++ [x.it] by have m : a ∈ (x.m3 ++ [x.it]) ++ x.rw := m; rwa [hM5.rw, List.append_nil] at m) with m | m
    · exact ⟨_, rfl, m3_mus (x := { x with it := I, bm := bm }) m⟩
    · exact ⟨_, rfl, by rw [List.mem_singleton.mp m, hM5.it]; exact .head _⟩
  have all' : ∀ a, lexall (some { x with it := I, bm := bm }) a → lexall c.X a ∨ a = I ∨ a = bm := fun a ⟨y, e, m⟩ => by
    cases e
    exact (all_cases (x := { x with it := I, bm := bm }) hM5.rw m).imp (fun m => ⟨x, hX, all_of m⟩) id
  have dall : ∀ a, lexall c.X a → lexall (some { x with it := I, bm := bm }) a := fun a ⟨y, e, m⟩ => by
    cases Option.some.inj (e.symm.trans hX)
    rcases all_cases hM5.rw m with m | m | m
    · exact ⟨_, rfl, all_of (x := { x with it := I, bm := bm }) m⟩
    · exact ⟨_, rfl, by rw [m, hM5.it]; exact .head _⟩
    · exact ⟨_, rfl, by rw [m, hM5.bm]; exact .head _⟩
  have old : ∀ a, Al s3.heap a → a ≠ I := fun a h => ne a (S5.al a (S4.al a h))
  have R6 : Rep { c with X := some { x with it := I, bm := bm }, P := LexI C fr } F z5 (fun a => mu a ∨ a = I) loc (some { l with en := false }) { s5 with heap := s5.heap.push (citObj (.ref bm) (.str ⟨#[]⟩ t5) (.bool false)) } :=
    R5.cx (fun a o e => k6 a o (R5.kin a o e)) (fun a o e m => m.elim (R5.kz a o e) (ne a ⟨o, R5.kin a o e⟩)) (fun a za m => m.elim (R5.zmu a za) (ne a (R5.zal a za)))
      (fun a ⟨y, e, m⟩ => by
        cases e
        rcases List.mem_append.mp (show a ∈ x.m3 ++ [I] by have m : a ∈ (x.m3 ++ [I]) ++ x.rw := m; rwa [hM5.rw, List.append_nil] at m) with m | m
        · exact .inl (R5.lmu a (p.lm m))
        · exact .inr (List.mem_singleton.mp m))
      (fun a za => let ⟨o, e⟩ := R5.zal a za; ⟨o, k6 a o e⟩) (fun a m => m.elim (fun m => let ⟨o, e⟩ := R5.mal a m; ⟨o, k6 a o e⟩) fun m => m ▸ hIal) (.inr ⟨_, _, rfl, rfl, hLI⟩) (fun a => .inl)
      (fun a m al => by
        rcases all' a m with m | m | m
        · exact ⟨fun q => R5.fl (q ▸ m), fun y e => (R5.cl y a e).1 m⟩
        · exact absurd m (ne a al)
        · exact ⟨fun q => nbm _ (R3.mal _ R3.fmu) (m.symm.trans q), fun y e => nbm _ (R3.cl y a e).2.2.2 m.symm⟩)
      (fun a _ o e => k6 a o e) fun y lv e => by
        obtain ⟨u, h1, h2⟩ := R5.vars y lv e
        rcases hl y lv e with rfl | ⟨tt, rfl⟩
        · obtain ⟨y', ey, rfl⟩ := Rd.i h2
          cases Option.some.inj (ey.symm.trans hX)
          exact ⟨nofun, _, h1, Rd.lex (x := { x with it := I, bm := bm }) rfl ho⟩
        · obtain ⟨_, rfl⟩ := Rd.i h2
          exact ⟨nofun, _, h1, Rd.str _ _⟩
  refine store_fz (H' _) R6 hs.fk (hs.wn _ hc) (Rd.fit (x := { x with it := I, bm := bm }) rfl ho) fun s7 C7 R7 => ?_
  refine (h { x with it := I, bm := bm } ho).go F A hr hs _ _ _ _ _ R7 fun af loc8 ls8 fl z8 mu8 s8 ⟨t, l', e1, e2, hT⟩ S8 R8 r8 => ?_
  cases e1; cases e2
  obtain ⟨vr, rfl, rv⟩ := r8
  obtain ⟨tr, rfl⟩ := rv.i
  have hL8 : LexI C fr { x with it := I, bm := bm } l' s8.heap := by
    obtain ⟨_, e, q⟩ := R8.lx.get rfl
    cases e
    exact q
  have S6 : Stp z5 mu s5 z5 (fun a => mu a ∨ a = I) { s5 with heap := s5.heap.push (citObj (.ref bm) (.str ⟨#[]⟩ t5) (.bool false)) } := ⟨fun a ⟨o, e⟩ => ⟨o, k6 a o e⟩, fun _ h => h, fun _ _ h => .inl h, fun a al m => m.elim id fun q => absurd q (ne a al), fun b o e _ => k6 b o e, rfl, rfl, rfl⟩
  have P8 := hL8.p
  refine hq _ _ _ _ z8 mu8 s8 hT ((((S3.trans S4).trans S5).lift R).trans (S6.trans (C7.fm.stp.trans S8))) (R8.cx R8.kin R8.kz R8.zmu (fun a m => R8.lmu a (sub a m)) R8.zal R8.mal (.inr ⟨x, l', hX, rfl, hP ▸ ⟨⟨P8.dx, P8.pb, P8.at', by cases P8.fx with | mk a b c d => exact .mk a b c d, P8.nd, P8.nf, P8.nc, P8.pos, P8.len⟩, hM5.it, hM5.bm, hM5.rw⟩⟩) (fun _ h => h) (fun a m _ => ⟨fun q => R8.fl (q ▸ dall a m), fun y e => (R8.cl y a e).1 (dall a m)⟩) (fun _ _ _ e => e) fun _ _ e => nomatch e) ⟨_, rfl, Rd.str _ _⟩
end
section
variable {prog : Program} {w : World} {A : Around} {E : Value → Shared → Prop} {s : Shared} {K : Frag} {C x dx : Addr} {es : List DictEntry} {n : Nat} {name : Str} {v : Value}
theorem make_raw {f : Addr} {vs : List Value} {Q : Value → Shared → Prop} (X : K.In s.heap) (hm : makesIn K C = true) (hi : findIn K (.ref C) "__init__" = some (some (.ref f))) (hf : typeIn K (.ref f) = some (.type "function"))
    (h : codeAny (model prog w) (A.under (.builtin "type.__call__" ⟨.ref C :: vs, []⟩)) (.call (.ref f) ⟨.ref (s.heap.objs.size + 1) :: vs, []⟩) (fun r s' => r = .ok (.ret .none) ∧ Q (.ref (s.heap.objs.size + 1)) s') { s with heap := (s.heap.push emptyDict).push (instObj C s.heap.objs.size) }) :
    wpAny (model prog w) A (call (.ref C) vs) Q E s := by
  obtain ⟨hh, g, d, t, os⟩ := s
  refine wpAny_call (make_core (makes_of X hm) (looks_findIn X hi) (fun sf => bind_fn X sf hf) (.inl rfl) (codeAny_mono h fun r s' hr => ?_))
  obtain ⟨rfl, hq⟩ := hr
  exact ⟨rfl, hq⟩
theorem dictOne {h : Heap} {a : Addr} {k : Tok} (e : h.get? a = some (dictOf [⟨PyData.keyHash w.params name, .str name k, v⟩] 1)) : h.DictOf (strKind prog w) a [(name, v)] := by
  refine ⟨_, _, _, e, ⟨rfl, rfl, rfl⟩, rfl, ?_, ?_, by simp⟩
  · intro en hen
    simp only [List.mem_toArray, List.mem_cons, List.not_mem_nil, or_false] at hen
    subst hen
    exact ⟨name, strKind_is prog w name k, rfl⟩
  · exact .cons (strKind_is prog w name k) rfl .nil
end
section
variable {M : Model} {A : Around} {E : Value → Shared → Prop} {s : Shared} {params : Arguments} {scope : Scope} {env : Env} {c P : Addr} {ps : Array Value} {pos : Pos} {mg : Str → Option Value} {clos : List (Str × Addr)}
theorem lam_made {body : Expr} {Q : Value → Shared → Prop} (hdef : defaultsOf params env = ([], [])) (hcl : closureFor scope env = pure clos) (hge0 : env.globals = mainGlobals) (hg : s.heap.Ns mainGlobals mg) (hcode : env.code = .ref c) (C : CodeHd s.heap c P) (hP : s.heap.get? P = some (tabObj ps)) (ht : TriplesOk ps.toList)
    (hnf : codeAmong pos ps.toList = none) (hgP : mainGlobals ≠ P) (hb : s.heap.BuiltinsAt mg P)
    (h : ∀ fd c' f h3 tk, h3.get? f = some { cls := .type "function", data := .func fd } → s.heap.objs.size ≤ c' → c' < f → f < h3.objs.size → (∀ b o, b ≠ P → s.heap.get? b = some o → h3.get? b = some o) → h3.get? P = some (tabObj (ps ++ #[rawInt pos.line, rawInt pos.col, .ref c'])) → Q (.ref f) { s with heap := h3, toks := tk }) :
    wpAny M A (eval (.Lambda params body scope pos) env) Q E s := by
  refine kla_eval hdef (kla_makeFunction hcl hge0 hg hcode C hP ht hnf hgP hb fun c' ctv h' tk hx hge hlt hrec htb => ?_)
  refine h _ c' h'.objs.size _ tk (Heap.get?_push_size _ rfl) hge hlt (by rw [Heap.size_push]; exact Nat.lt_succ_self _) (fun b o n e => Heap.get?_push_of_some _ (hx b o n e)) (Heap.get?_push_of_some _ htb)
theorem def_made {name : Str} {body : List Stmt} {Q : Flow → Shared → Prop} (hd0 : params.defaults = []) (hk0 : params.kw_defaults = []) (ha : annTrees params none env = []) (hcl : closureFor scope env = pure clos) (hge0 : env.globals = mainGlobals) (hg : s.heap.Ns mainGlobals mg) (hcode : env.code = .ref c) (C : CodeHd s.heap c P) (hP : s.heap.get? P = some (tabObj ps)) (ht : TriplesOk ps.toList)
    (hnf : codeAmong pos ps.toList = none) (hgP : mainGlobals ≠ P) (hb : s.heap.BuiltinsAt mg P)
    (h : ∀ qual doc pm ctv c' f h3 tk, h3.get? f = some { cls := .type "function", data := .func (fnX name qual params body scope clos .none .none doc pm none (.ref c') ctv) } → h3.CodeRec (.ref c') qual → s.heap.objs.size ≤ c' → c' < f → f < h3.objs.size → (∀ b o, b ≠ P → s.heap.get? b = some o → h3.get? b = some o) → (∃ ps', h3.get? P = some (tabObj ps')) →
      wpAny M A (storeName env name (.ref f)) (fun _ s'' => Q .next s'') E { s with heap := h3, toks := tk }) :
    wpAny M A (exec (.FunctionDef name params body [] none [] scope none name pos) env) Q E s := by
  refine nestDef_K hd0 hk0 ha (makeFunction_K hcl hge0 hg hcode C hP ht hnf hgP hb fun c' ctv doc h' tk hx hge hlt hrec htb => ?_)
  refine h (qualnameIn env name name) doc ((mg "__name__").getD .none) ctv c' h'.objs.size _ tk (Heap.get?_push_size _ rfl) ?_ hge hlt (by rw [Heap.size_push]; exact Nat.lt_succ_self _) (fun b o n e => Heap.get?_push_of_some _ (hx b o n e)) ⟨_, Heap.get?_push_of_some _ htb⟩
  obtain ⟨c2, o, vs, t, e, ho, r⟩ := hrec
  exact ⟨c2, o, vs, t, e, Heap.get?_push_of_some _ ho, r⟩
end
section
variable {prog : Program} {w : World} {h : Heap}
theorem pairs_getL {es : List DictEntry} {kvs : List (Str × Value)} (p : Pairs (strKind prog w) es kvs) (n : Str) : getL n es = some ((kvs.find? fun kv => kv.1 = n).map (·.2)) := by
  unfold getL
  have hr : es.any (·.refKey) = false := by
    induction p with
    | nil => rfl
    | cons hk hv p ih =>
      obtain ⟨t, ht⟩ := Value.isStrOf_shape hk
      rw [List.any_cons, ih, Bool.or_false]
      unfold DictEntry.refKey
      rw [ht]
  have hf : es.find? (·.key.isStr n) = none ∧ kvs.find? (fun kv => kv.1 = n) = none ∨ ∃ e kv, es.find? (·.key.isStr n) = some e ∧ kvs.find? (fun kv => kv.1 = n) = some kv ∧ e.val = kv.2 := by
    clear hr
    induction p with
    | nil => exact .inl ⟨rfl, rfl⟩
    | @cons e kv es kvs hk hv p ih =>
      obtain ⟨t, ht⟩ := Value.isStrOf_shape hk
      by_cases q : kv.1 = n
      · refine .inr ⟨e, kv, ?_, ?_, hv⟩
        · rw [List.find?_cons]
          have : e.key.isStr n = true := by rw [ht]; simp [Value.isStr, q]
          rw [this]
        · rw [List.find?_cons]; simp [q]
      · have q1 : e.key.isStr n = false := by rw [ht]; simp [Value.isStr, q]
        rw [List.find?_cons, q1, List.find?_cons]
        simp only [q, decide_false]
        exact ih
  rcases hf with ⟨h1, h2⟩ | ⟨e, kv, h1, h2, h3⟩
  · rw [h1, h2]; dsimp only; rw [hr]; rfl
  · rw [h1, h2]; dsimp only; rw [h3]; rfl
end
section
variable {c : Cx} {z : Addr → Prop} {s : Shared}
theorem inst_inv {h : Heap} {a cl : Addr} {l : List (Str × D)} (r : Rd c z h (.ref a) (.inst cl l)) : ∃ da kvs, z a ∧ z da ∧ h.get? a = some { cls := .ref cl, dict := some da, data := .plain } ∧ h.DictOf (strKind c.prog c.w) da kvs ∧ RdsD c z h kvs l := by
  cases r with
  | inst za zd e dof rs => exact ⟨_, _, za, zd, e, dof, rs⟩
theorem rdsD_find {h : Heap} (n : Str) : ∀ {kvs : List (Str × Value)} {l : List (Str × D)}, RdsD c z h kvs l → (lookD n l = none ∧ kvs.find? (fun kv => kv.1 = n) = none) ∨ ∃ d kv, lookD n l = some d ∧ kvs.find? (fun kv => kv.1 = n) = some kv ∧ Rd c z h kv.2 d
  | _, [], r => by cases (r.i : _ = []); exact .inl ⟨rfl, rfl⟩
  | _, (k, d) :: ds, r => by
    obtain ⟨v, vs, rfl, rv, rs⟩ := r.i
    by_cases q : k = n
    · refine .inr ⟨d, (k, v), ?_, ?_, rv⟩
      · simp [lookD, q]
      · rw [List.find?_cons]; simp [q]
    · have ih := rdsD_find n rs
      simp only [lookD, q, if_false]
      rw [List.find?_cons]
      simp only [q, decide_false]
      exact ih
theorem inst_at {a cl : Addr} {l : List (Str × D)} (r : Rd c z s.heap (.ref a) (.inst cl l)) : ∃ dx es n, InstAt s.heap a (instObj cl dx) cl (some (dictOf es n)) ∧ ∀ nm, (lookD nm l = none ∧ getL nm es = some none) ∨ ∃ d v, lookD nm l = some d ∧ getL nm es = some (some v) ∧ Rd c z s.heap v d := by
  obtain ⟨da, kvs, za, zd, e, dof, rs⟩ := inst_inv r
  obtain ⟨o, es, ep, e2, ⟨x1, x2, x3⟩, e3, _, pr, _⟩ := dof
  obtain ⟨oc, od, oda, osl⟩ := o
  dsimp only at x1 x2 x3 e3
  subst x1; subst x2; subst x3; subst e3
  refine ⟨da, es.toList, ep, ⟨e, rfl, rfl, e2⟩, fun nm => ?_⟩
  have g := pairs_getL pr nm
  rcases rdsD_find nm rs with ⟨h1, h2⟩ | ⟨d, kv, h1, h2, h3⟩
  · exact .inl ⟨h1, by rw [g, h2]; rfl⟩
  · exact .inr ⟨d, kv.2, h1, by rw [g, h2]; rfl, h3⟩
end
structure Ini (K : Frag) (h0 : Heap) (env : Env) (C a dx : Addr) (sf x : Str) (v : Value) (es : List DictEntry) (n : Nat) (h : Heap) : Prop where
  fk : env.scope.kind = .function
  ks : env.kindOf sf = some .local
  kx : env.kindOf x = some .local
  hL : env.locals ≠ dx
  d0 : h0.get? dx = none
  ad : a ≠ dx
  ns : ∃ m, h.Ns env.locals m ∧ m sf = some (.ref a) ∧ m x = some v
  ix : h.get? a = some (instObj C dx)
  od : h.get? dx = some (dictOf es n)
  kp : ∀ b o, h0.get? b = some o → h.get? b = some o
structure KIni (K : Frag) (C f : Addr) : Prop where
  mi : makesIn K C = true
  it : findIn K (.ref C) "__init__" = some (some (.ref f))
  ty : typeIn K (.ref f) = some (.type "function")
  st : findIn K (.ref C) "__setattr__" = some (some (.builtin "object.__setattr__"))
  po : plainOver K C = true
  hd : hasDictIn K C = true
section
variable {prog : Program} {w : World} {A : Around} {E : Value → Shared → Prop} {s : Shared} {K : Frag} {h0 : Heap} {env : Env} {C f a dx : Addr} {sf x nm : Str} {v u : Value} {es : List DictEntry} {n : Nat} {p1 : Pos}
theorem Ini.step (I : Ini K h0 env C a dx sf x v es n s.heap) {h' : Heap} (k : ∀ b o, s.heap.get? b = some o → h'.get? b = some o) : Ini K h0 env C a dx sf x v es n h' :=
  ⟨I.fk, I.ks, I.kx, I.hL, I.d0, I.ad, let ⟨m, n, e⟩ := I.ns; ⟨m, n.at' fun o => k _ o, e⟩, k _ _ I.ix, k _ _ I.od, fun b o e => k b o (I.kp b o e)⟩
theorem ini_set (X : K.In h0) (k : KIni K C f) (I : Ini K h0 env C a dx sf x v es n s.heap) (hp : plainN sf = true) (ht : takerIn K C nm = some none) (hl : (getL nm es).isSome = true) (hz : ∀ k, (putL nm (PyData.keyHash w.params nm) (.str nm k) u es).length ≤ 1000) {Q : Shared → Prop}
    (hq : ∀ h' tk k, Ini K h0 env C a dx sf x v (putL nm (PyData.keyHash w.params nm) (.str nm k) u es) (putN nm es n) h' → (∀ b o, b ≠ dx → s.heap.get? b = some o → h'.get? b = some o) → Q { s with heap := h', toks := tk }) :
    wpAny (model prog w) A (eval (.Name sf p1) env) (fun ov s₂ => wpAny (model prog w) A (setAttr ov nm u) (fun _ => Q) E s₂) E s := by
  obtain ⟨m, ns, m1, m2⟩ := I.ns
  refine wpAny_Name (wpAny_loadName_local I.fk I.ks ns m1 ?_) (plainN_of hp).1
  refine set_raw (fun a o e => I.kp a o (X a o e)) ⟨I.ix, rfl, rfl, I.od⟩ k.st k.po ht k.hd hl hz fun h' tk kk sb D' => ?_
  have k3 : ∀ b o, b ≠ dx → s.heap.get? b = some o → h'.get? b = some o := fun b o n e => (sb.2 b n).trans e
  exact hq h' tk kk ⟨I.fk, I.ks, I.kx, I.hL, I.d0, I.ad, ⟨m, ns.sameBut sb I.hL, m1, m2⟩, k3 _ _ I.ad I.ix, D', fun b o e => k3 b o (fun q => by rw [q, I.d0] at e; cases e) (I.kp b o e)⟩ k3
theorem ini_arg (I : Ini K h0 env C a dx sf x v es n s.heap) (hp : plainN x = true) {Q : Value → Shared → Prop} (hq : Q v s) : wpAny (model prog w) A (eval (.Name x p1) env) Q E s :=
  let ⟨m, ns, _, m2⟩ := I.ns
  wpAny_Name (wpAny_loadName_local I.fk I.kx ns m2 hq) (plainN_of hp).1
end
theorem make_ok {c : Cx} {A : Around} {s : Shared} {Q E : Value → Shared → Prop} {C : Addr} {f : Fn} {sf x : Str} {v : Value} (H : Hy c) (hd : A.depth + 20 < 1000) (X : c.K.In s.heap) (k : KIni c.K C f.addr) (hf : FnOK c f) (hp : f.params = [sf, x]) (hne : (x == sf) = false) (hc : ∀ y ∈ f.scope.names, y.2 ≠ .cell)
    (hq : ∀ env h1 tk A', Ini c.K s.heap env C (s.heap.objs.size + 1) s.heap.objs.size sf x v [] 0 h1 →
      wpAny (model c.prog c.w) A' (execs f.body env) (fun fl s' => (fl = .next) ∧ Q (.ref (s.heap.objs.size + 1)) s') (fun _ _ => False) { s with heap := h1, toks := tk }) : wpAny (model c.prog c.w) A (call (.ref C) [v]) Q E s := by
  refine make_raw X k.mi k.it k.ty ?_
  have k2 : ∀ b o, s.heap.get? b = some o → ((s.heap.push emptyDict).push (instObj C s.heap.objs.size)).get? b = some o := fun b o e => Heap.get?_push_of_some _ (Heap.get?_push_of_some _ e)
  have hdx : ((s.heap.push emptyDict).push (instObj C s.heap.objs.size)).get? s.heap.objs.size = some (dictOf [] 0) := Heap.get?_push_of_some _ (Heap.get?_push_size _ rfl)
  have hx : ((s.heap.push emptyDict).push (instObj C s.heap.objs.size)).get? (s.heap.objs.size + 1) = some (instObj C s.heap.objs.size) := by
    have := Heap.get?_push_size (s.heap.push emptyDict) (o := instObj C s.heap.objs.size) rfl
    rw [Heap.size_push] at this
    exact this
  obtain ⟨o, fd, ho, hd', hbody, hsc, hclo, hgl, hbi, hbind, hcd⟩ := hf.fn
  have K2 : c.K.In ((s.heap.push emptyDict).push (instObj C s.heap.objs.size)) := fun a o e => k2 a o (X a o e)
  have kind : ∀ y ∈ f.params, fd.scope.names.lookup y = some .local := fun y hy => by
    rw [hsc]
    exact (canW_kind (hf.pa y hy)).resolve_right fun e => hc _ (mem_of_lookup e) rfl
  refine codeAny_call_straight (s := { s with heap := (s.heap.push emptyDict).push (instObj C s.heap.objs.size) }) (body := f.body) (binds := [(sf, .ref (s.heap.objs.size + 1)), (x, v)]) (by show A.depth + (Code.builtin "type.__call__" ⟨[.ref C, v], []⟩).weight < recursionLimit; have hw : (Code.builtin "type.__call__" ⟨[.ref C, v], []⟩).weight ≤ 1 := (by first | exact Nat.le_of_eq (show _ = 1 by kernel_rfl) | exact Nat.le_succ_of_le (Nat.le_of_eq (show _ = 0 by kernel_rfl))); unfold recursionLimit; omega) (K2 _ _ ho) hd' (H.lim _ K2) (hcd _ K2) hbody ((hbind [_, _] (by rw [hp]; rfl)).trans (by rw [hp]; rfl)) (by rw [hsc]; exact hc) (fun y hy => kind _ (by
    rw [hp]
    rcases List.mem_cons.mp hy with q | hy
    · rw [q]; exact .head _
    · rw [List.mem_singleton.mp hy]; exact .tail _ (.head _))) (fun s₁ I => ?_) (by rw [hsc]; exact hf.co) (by rw [hsc]; exact hf.ge) (by rw [hsc]; exact hf.ki)
  obtain ⟨⟨h1, tk, rfl⟩, ns, keep, fresh⟩ := I
  have ks : ∀ y ∈ f.params, (callEnv fd ((s.heap.push emptyDict).push (instObj C s.heap.objs.size)).objs.size f.addr).kindOf y = some .local := kind
  refine wpAny_mono (hq (callEnv fd ((s.heap.push emptyDict).push (instObj C s.heap.objs.size)).objs.size f.addr) h1 tk _ ⟨by show fd.scope.kind = _; rw [hsc]; exact hf.ki, ks _ (by rw [hp]; exact .head _), ks _ (by rw [hp]; exact .tail _ (.head _)), ?_, get_size _, Nat.succ_ne_self _, ⟨_, ns, ?_, ?_⟩, keep _ _ hx, keep _ _ hdx, fun b o e => keep b o (k2 b o e)⟩) (fun fl s' h => by rw [h.1]; exact ⟨rfl, h.2⟩) fun _ _ h => h.elim
  · show ((s.heap.push emptyDict).push (instObj C s.heap.objs.size)).objs.size ≠ _
    rw [Heap.size_push, Heap.size_push]; omega
  · show List.lookup sf [(x, v), (sf, Value.ref (s.heap.objs.size + 1))] = _
    rw [List.lookup_cons, show (sf == x) = false by rw [Bool.eq_false_iff]; exact fun q => by rw [beq_iff_eq.mp q, beq_self_eq_true] at hne; cases hne]
    exact List.lookup_cons_self ..
  · exact List.lookup_cons_self ..
open PySem.W.X
set_option maxHeartbeats 0
inductive IsPw (b : Program) : Prop
  | mk : PySem.Challenge.pw_ph0058_01 = b → IsPw b
theorem IsPw.eq {b : Program} : IsPw b → PySem.Challenge.pw_ph0058_01 = b
  | .mk h => h
noncomputable def tw : { b : Program // IsPw b } := by
  refine ⟨?b, .mk ?h⟩
  case h =>
    conv => lhs; reduce
noncomputable def rwx : OpenLaw := { prog := tw.1, name := Str.ofString "law", about := [Str.ofString "TupleComp", Str.ofString "compare"], foot := 13, most := some 63, bound := none, writes := false }
theorem rw_eq : PySem.Challenge.rw_ph0058_01 = rwx := by
  unfold rwx
  rw [← tw.2.eq]
  rfl
noncomputable def dAt (i : Nat) : Stmt := tw.1.main.body.getD i (.Pass default)
noncomputable def mAt (i j : Nat) : Stmt := match dAt i with
  | .ClassDef _ _ _ b _ _ _ _ _ _ _ => b.getD j (.Pass default)
  | s => s
noncomputable def vw : Program := { tw.1 with main := { tw.1.main with body := [1, 2, 3, 5, 7, 8, 9, 10, 11, 12, 13, 14, 15, 16, 17, 18, 19].map dAt } }
noncomputable def de (P : Params) (n : Str) (t : Tok) (v : Value) : DictEntry := ⟨PyData.keyHash P n, .str n t, v⟩
noncomputable def coO (n q : Str) (t : Tok) (l k : Int) (c : Addr) (b : Bool) (u : Nat) : Obj := { cls := .type "code", data := .fields #[.str n t, .str q (t + 1), .str "/claim/cut.py" (t + 2), .int l 0, .int k 0, .int 0 0, .int 0 0, .int 3 0, .ref (bif b then c - 5 else c - 3), .bool true, .int 181 0, .ref (bif b then c - 4 else c - 2), .none, bif b then .ref (c - 3) else .none, bif b then .ref (c - 2) else .none, .ref (c - 1), .int u 0, .int l 0, .str "/claim/cut.py" (u + 1)] }
noncomputable def clO (n : Str) (a ns : Addr) (t u : Tok) : Obj := { cls := .type "type", data := .cls { name := n, bases := [.type "object"], mro := [.ref a, .type "object"], ns := ns, qualname := n }, slots := #[none, none, some (.str n t), some (.str n u), some (.builtin "object.__new__"), some (.bool true)] }
noncomputable def fnO (d : Stmt) (q m : Str) (t : Tok) (c : Addr) : Obj := match d with
  | .FunctionDef n a b _ _ _ sc _ _ _ => { cls := .type "function", data := .func { name := n, qualname := q, params := a, body := .stmts b, scope := sc, globals := 3, closure := [], defaults := .none, kwdefaults := .none, pyModule := .str m t, code := .ref c } }
  | _ => default
noncomputable def KQ (P : Params) : Frag := [(2, { cls := .none, data := .dict #[] }),
  (4, { cls := .type "module", dict := some 0, data := .plain }),
  (3, { cls := .type "dict", data := .dict #[de P "__name__" 165 (.str "law_ph0058_01" 311), de P "__doc__" 166 (.none), de P "__package__" 167 (.none), de P "__loader__" 168 (.builtin "__main__.__loader__#opaque"), de P "__spec__" 169 (.none), de P "__annotations__" 170 (.ref 6), de P "__builtins__" 171 (.ref 4), de P "__file__" 173 (.str "/claim/cut.py" 172), de P "__cached__" 174 (.none), de P "TupleComp" 230 (.ref 38), de P "add_callers" 241 (.ref 49), de P "count_calls" 250 (.ref 56), de P "_netrclex" 310 (.ref 94), de P "_law_names" 318 (.ref 105), de P "_law_pairs" 324 (.ref 110), de P "_law_numbers" 333 (.ref 117), de P "_law_ties" 339 (.ref 122), de P "_law_word" 347 (.ref 129), de P "_law_written" 357 (.ref 136), de P "_law_lexer" 369 (.ref 143), de P "_law_book" 379 (.ref 150), de P "_law_row" 385 (.ref 155), de P "_law_taken" 391 (.ref 160), de P "_law_by_four_points" 397 (.ref 165), de P "_law_counts" 403 (.ref 170), de P "law" 409 (.ref 175)] 26 }),
  (37, { cls := .type "dict", data := .dict #[de P "__module__" 196 (.str "cpy313.pstats" 187), de P "__firstlineno__" 200 (.int 2 199), de P "__init__" 208 (.ref 28), de P "compare" 221 (.ref 35), de P "__static_attributes__" 223 (.ref 36), de P "__dict__" 225 (.ref 39), de P "__weakref__" 227 (.ref 40), de P "__doc__" 228 (.none)] 4 }),
  (38, clO "TupleComp" 38 37 189 197),
  (93, { cls := .type "dict", data := .dict #[de P "__module__" 260 (.str "cpy313.netrc" 251), de P "__firstlineno__" 264 (.int 35 263), de P "__init__" 272 (.ref 70), de P "_read_char" 280 (.ref 77), de P "get_token" 290 (.ref 84), de P "push_token" 298 (.ref 91), de P "__static_attributes__" 303 (.ref 92), de P "__dict__" 305 (.ref 95), de P "__weakref__" 307 (.ref 96), de P "__doc__" 308 (.none)] 4 }),
  (94, clO "_netrclex" 94 93 253 261),
  (27, coO "__init__" "TupleComp.__init__" 201 4 2 27 true 206),
  (28, fnO (mAt 1 0) "TupleComp.__init__" "cpy313.pstats" 187 27),
  (34, coO "compare" "TupleComp.compare" 209 7 3 34 true 219),
  (35, fnO (mAt 1 1) "TupleComp.compare" "cpy313.pstats" 187 34),
  (48, coO "add_callers" "add_callers" 231 16 2 48 true 239),
  (49, fnO (dAt 2) "add_callers" "cpy313.pstats" 187 48),
  (55, coO "count_calls" "count_calls" 242 29 1 55 true 248),
  (56, fnO (dAt 3) "count_calls" "cpy313.pstats" 187 55),
  (69, coO "__init__" "_netrclex.__init__" 265 37 2 69 true 270),
  (70, fnO (mAt 5 0) "_netrclex.__init__" "cpy313.netrc" 251 69),
  (76, coO "_read_char" "_netrclex._read_char" 273 43 1 76 true 278),
  (77, fnO (mAt 5 1) "_netrclex._read_char" "cpy313.netrc" 251 76),
  (83, coO "get_token" "_netrclex.get_token" 281 49 1 83 true 288),
  (84, fnO (mAt 5 2) "_netrclex.get_token" "cpy313.netrc" 251 83),
  (90, coO "push_token" "_netrclex.push_token" 291 76 2 90 true 296),
  (91, fnO (mAt 5 3) "_netrclex.push_token" "cpy313.netrc" 251 90),
  (104, coO "_law_names" "_law_names" 313 79 0 104 true 316),
  (105, fnO (dAt 7) "_law_names" "law_ph0058_01" 311 104),
  (109, coO "_law_pairs" "_law_pairs" 319 81 0 109 false 322),
  (110, fnO (dAt 8) "_law_pairs" "law_ph0058_01" 311 109),
  (116, coO "_law_numbers" "_law_numbers" 325 83 1 116 true 331),
  (117, fnO (dAt 9) "_law_numbers" "law_ph0058_01" 311 116),
  (121, coO "_law_ties" "_law_ties" 334 88 1 121 false 337),
  (122, fnO (dAt 10) "_law_ties" "law_ph0058_01" 311 121),
  (128, coO "_law_word" "_law_word" 340 96 2 128 true 345),
  (129, fnO (dAt 11) "_law_word" "law_ph0058_01" 311 128),
  (135, coO "_law_written" "_law_written" 348 98 2 135 true 355),
  (136, fnO (dAt 12) "_law_written" "law_ph0058_01" 311 135),
  (142, coO "_law_lexer" "_law_lexer" 358 104 2 142 true 367),
  (143, fnO (dAt 13) "_law_lexer" "law_ph0058_01" 311 142),
  (149, coO "_law_book" "_law_book" 370 113 1 149 true 377),
  (150, fnO (dAt 14) "_law_book" "law_ph0058_01" 311 149),
  (154, coO "_law_row" "_law_row" 380 121 3 154 false 383),
  (155, fnO (dAt 15) "_law_row" "law_ph0058_01" 311 154),
  (159, coO "_law_taken" "_law_taken" 386 123 3 159 false 389),
  (160, fnO (dAt 16) "_law_taken" "law_ph0058_01" 311 159),
  (164, coO "_law_by_four_points" "_law_by_four_points" 392 140 2 164 false 395),
  (165, fnO (dAt 17) "_law_by_four_points" "law_ph0058_01" 311 164),
  (169, coO "_law_counts" "_law_counts" 398 148 1 169 false 401),
  (170, fnO (dAt 18) "_law_counts" "law_ph0058_01" 311 169),
  (174, coO "law" "law" 404 159 1 174 false 407),
  (175, fnO (dAt 19) "law" "law_ph0058_01" 311 174)]
noncomputable def KP (P : Params) : Frag := (138, { cls := .none, data := .fields #[] }) :: KQ P
noncomputable def aK : List Addr := [138, 2, 4, 3, 37, 38, 93, 94, 27, 28, 34, 35, 48, 49, 55, 56, 69, 70, 76, 77, 83, 84, 90, 91, 104, 105, 109, 110, 116, 117, 121, 122, 128, 129, 135, 136, 142, 143, 149, 150, 154, 155, 159, 160, 164, 165, 169, 170, 174, 175]
theorem aK_eq (P : Params) : aK = (KP P).map (·.1) := rfl
theorem hl : LeftO rwx.row.prog vw [] (fun s => xlAt vw [] s && recOk [] s) (obsZ aK) (valZ KP 176 410) 2200 := by
  intro w
  kernel_rfl
set_option maxHeartbeats 0
theorem said : rwx.wellSaid = true := by kernel_rfl
noncomputable def dL : DefRec := match dAt 19 with
  | .FunctionDef n a b _ _ _ sc _ _ p => ⟨n, a, b, sc, p⟩
  | _ => ⟨default, default, [], default, default⟩
theorem hw2 : RowW.promised rwx.row.toRowW := ⟨[ofPy (.list [])], by kernel_rfl, by kernel_rfl⟩
noncomputable abbrev KK (w : World) (o : Obj) : Frag := (builtinsNs, o) :: KQ w.params
structure Top2 (w : World) (o : Obj) (mg mb : Str → Option Value) (s : Shared) : Prop where
  k : (KK w o).In s.heap
  g : ∀ h, (KK w o).In h → h.Ns mainGlobals mg
  b : ∀ h, (KK w o).In h → h.Ns builtinsNs mb
  l : ∀ h, (KK w o).In h → h.NoLimit
  gl : ∀ n v, nsIn (KK w o) mainGlobals n = some v → mg n = v
  bb : ∀ n : Str, n ≠ "__name__" → mb n = bootBuiltins n
  t : s.heap.get? 138 = some (tabObj #[])
inductive Ints : List Value → List Int → Prop
  | nil : Ints [] []
  | cons {i t vs is} : Ints vs is → Ints (.int i t :: vs) (i :: is)
theorem ofPys_ints : ∀ (ns : List Int), ofPys (ns.map PyData.int) = ns.map WData.int
  | [] => rfl
  | n :: r => congrArg (WData.int n :: ·) (ofPys_ints r)
theorem well_ints {P : Params} {h : Heap} : ∀ (ns : List Int) (vs : List Value), WellAll P h vs (ns.map WData.int) → Ints vs ns
  | [], vs, W => by cases W; exact .nil
  | n :: r, vs, W => by
    cases W with
    | cons a b =>
      cases a
      exact .cons (well_ints r _ b)
theorem ns_move {h h' : Heap} {a : Addr} {m : Str → Option Value} (G : h.Ns a m) {o : Obj} (e : h.get? a = some o) (e' : h'.get? a = some o) : h'.Ns a m := by
  obtain ⟨o', es, ep, q, r⟩ := G
  rw [e] at q
  cases q
  exact ⟨o, es, ep, e', r⟩
noncomputable def Walk2 : Prop := ∀ (w : World) (o : Obj) (mg mb : Str → Option Value) (s : Shared) (a : Addr) (vs : List Value) (ns : List Int) (Q : Value → Shared → Prop), ns.length ≤ 63 → Top2 w o mg mb s → s.heap.PlainList a vs.toArray → Ints vs ns →
  (∀ s', (∀ b o, b ≠ 138 → s.heap.get? b = some o → s'.heap.get? b = some o) → (∃ ps, s'.heap.get? 138 = some (tabObj ps)) → s'.gens = s.gens → s'.os = s.os → Q (.bool true) s') →
  codeAny (model tw.1 w) callerA (.call (.ref 175) ⟨[.ref a], []⟩) (fun r s' => match r with | .ok (.ret v) => Q v s' | .ok _ => False | .error e => False) s
theorem tp (hp : Walk2) : rwx.Holds := by
  refine holds_law said fun ks => ?_
  refine holds_openX (q := vw) (loose := []) (Xt := fun s => xlAt vw [] s && recOk (RowW.records rwx.row.toRowW) s) (XP := XL vw []) (Yf := obsZ aK) (Ya := valZ KP 176 410) (N := 2200) (d := dL) (kwd := []) hl (fun s e => xl_of s (Bool.and_eq_true_iff.mp e).1) XL.keeps (by kernel_rfl) (by kernel_rfl) (by kernel_rfl) (fun s e => recFacts_of (Bool.and_eq_true_iff.mp e).2) rfl ks (by kernel_rfl) ⟨rfl,rfl,rfl,rfl,rfl, by kernel_rfl⟩ hw2 ?_
  intro w s₀ s₁ mg mb G Y fa o pm cd doc dV kV ho hd hcd hD hmg hg args vals as L hpre hlay hrd hwl hlo
  have T := G.T
  have Z := (z_facts aK_eq Y).2.1.keeps w s₀.heap s₁.heap L.keeps
  clear hcd hD hd
  wrow_args hpre hlay hrd hwl hlo
  rename_i ns _ _ _ _ _ _ _ la _ _ _ _ w1 _ _ _ hlen _
  obtain ⟨vs, pl, iv⟩ : ∃ vs, s₁.heap.PlainList la vs.toArray ∧ Ints vs ns := by
    rw [ofPy, ofPys_ints] at w1
    cases w1 with
    | list e W => exact ⟨_, ⟨_, e⟩, well_ints ns _ W⟩
  have KX : (KQ w.params).In s₁.heap := fun a o e => Z a o (by
    show List.lookup a ((138, _) :: KQ w.params) = some o
    rw [List.lookup_cons, beq_eq_false_iff_ne.mpr (fun q => by subst q; exact absurd e (by rw [show List.lookup 138 (KQ w.params) = none by kernel_rfl]; exact nofun))]
    exact e)
  have hP : s₁.heap.get? 138 = some (tabObj #[]) := Z 138 _ (by kernel_rfl)
  obtain ⟨o1, es, ep, e1, r1⟩ := id T.b
  have K1 : (KK w o1).In s₁.heap := fun a o e => by
    rw [List.lookup_cons] at e
    split at e
    · rename_i q
      cases e
      rw [beq_iff_eq.mp q]; exact e1
    · exact KX a o e
  have keep : ∀ {a : Addr}, (List.lookup a (KQ w.params)).isSome = true → ∀ h', (KK w o1).In h' → ∃ o, s₁.heap.get? a = some o ∧ h'.get? a = some o := fun {a} e h' I => by
    obtain ⟨o, e⟩ := Option.isSome_iff_exists.mp e
    by_cases q : a = builtinsNs
    · exact ⟨o1, by rw [q]; exact e1, by rw [q]; exact I _ _ (List.lookup_cons_self ..)⟩
    · exact ⟨o, KX a o e, I a o (by rw [List.lookup_cons, beq_eq_false_iff_ne.mpr q]; exact e)⟩
  have hG : ∀ n v, nsIn (KK w o1) mainGlobals n = some v → mg n = v := fun n v e => by
    cases v with
    | none => exact mg_none_of K1 T.g e
    | some v => exact mg_of K1 T.g e
  have TT : Top2 w o1 mg mb s₁ := ⟨K1, fun h' I => by
    obtain ⟨o, e, e'⟩ := keep (a := mainGlobals) (by kernel_rfl) h' I
    exact ns_move T.g e e', fun h' I => ns_move T.b e1 (I _ _ (List.lookup_cons_self ..)), fun h' I => by
    obtain ⟨o, e, e'⟩ := keep (a := cStatics) (by kernel_rfl) h' I
    exact T.nolimit.at fun o' q => by rw [e] at q; cases q; exact e', hG, T.builtins, hP⟩
  have hm : mg dL.name = some (.ref 175) := hG _ _ (by kernel_rfl)
  rw [hm] at hmg
  cases hmg
  refine wpAny_call (codeAny_mono (hp w o1 mg mb s₁ la vs ns (fun v s' => GoodWG rwx.row.claim (classAt s₀.heap) (ExcName.means s₀.heap) [ofPy (PyData.list (List.map PyData.int ns))] s₁ (.ok (.ret v)) s') (by omega) TT pl iv fun s' kp gr ge os => ?_) fun r s' h => ?_)
  · refine ⟨.inl ⟨.bool true, .bool true, [], rfl, fun _ => rfl, .bool true, by kernel_rfl, fun _ => ⟨List.nodup_nil, fun a h => nomatch h⟩⟩, ⟨fun b o e => ?_, fun b o e => ?_⟩, os, .of_eq (ge.trans hg)⟩
    · by_cases q : b = 138
      · subst q
        rw [hP] at e
        cases e
        obtain ⟨ps, e'⟩ := gr
        exact .inr (.inl ⟨⟨142, _, _, K1 142 _ rfl, rfl, rfl, rfl⟩, rfl, #[], ps, rfl, by rw [e']; simp⟩)
      · exact .inl (kp b o q e)
    · by_cases q : b = 138
      · subst q
        obtain ⟨ps, e'⟩ := gr
        exact ⟨_, e'⟩
      · exact ⟨o, kp b o q e⟩
  · split at h
    · exact h
    · exact h.elim
    · exact h.elim
theorem fm_congr {α β : Type} {f g : α → Option β} : ∀ {l : List α}, (∀ n ∈ l, f n = g n) → l.filterMap f = l.filterMap g
  | [], _ => rfl
  | a :: l, h => by rw [List.filterMap_cons, List.filterMap_cons, h a (List.mem_cons_self ..), fm_congr fun n hn => h n (List.mem_cons_of_mem _ hn)]
theorem zip_lookup {α : Type} : ∀ {ps : List Str} {vs : List α}, ps.length = vs.length → ps.Nodup → ps.filterMap (fun n => ((ps.zip vs).lookup n).map (n, ·)) = ps.zip vs
  | [], _, _, _ => rfl
  | p :: ps, v :: vs, h, nd => by
    have nd' := List.nodup_cons.mp nd
    rw [List.zip_cons_cons, List.filterMap_cons_some (b := (p, v)) (by rw [List.lookup_cons_self]; rfl)]
    refine congrArg ((p, v) :: ·) (Eq.trans (fm_congr fun n hn => ?_) (zip_lookup (Nat.succ.inj h) nd'.2))
    rw [List.lookup_cons, beq_eq_false_iff_ne.mpr (fun q : n = p => nd'.1 (q ▸ hn))]
theorem zip_some {α : Type} {n : Str} : ∀ {ps : List Str} {vs : List α}, ps.length = vs.length → n ∈ ps → ((ps.zip vs).lookup n).isNone = false
  | p :: ps, v :: vs, h, hn => by
    rw [List.zip_cons_cons, List.lookup_cons]
    split
    · rfl
    · rename_i q
      exact zip_some (Nat.succ.inj h) ((List.mem_cons.mp hn).resolve_left fun e => by rw [e, beq_self_eq_true] at q; cases q)
theorem bind_plain {fd : FuncData} {vs : List Value} (h1 : fd.params.posonlyargs = []) (h2 : fd.params.vararg = none) (h3 : fd.params.kwonlyargs = []) (h4 : fd.params.kwarg = none) (hd : fd.defaults = .none) (hl : vs.length = (fd.params.args.map (·.arg)).length) (nd : (fd.params.args.map (·.arg)).Nodup) :
    bindArgs fd ⟨vs, []⟩ = pure ((fd.params.args.map (·.arg)).zip vs) := by
  obtain ⟨_, _, ⟨po, as, va, ko, _, kw, _⟩, _, _, _, _, df, _, _, _, _, _, _, _⟩ := fd
  dsimp only at *
  subst h1 h2 h3 h4 hd
  unfold bindArgs
  dsimp only
  generalize as.map (·.arg) = ps at *
  have h2 := zip_lookup hl.symm nd
  simp [seqItems?, notAStandIn, hl, h2]
  intro x hx hn
  have := zip_some hl.symm hx
  rw [Option.isNone_eq_false_iff, Option.isSome_iff_exists] at this
  obtain ⟨v, e⟩ := this
  exact absurd (mem_of_lookup e) (hn v)
noncomputable def stOf : FuncBody → List Stmt
  | .stmts b => b
  | _ => []
noncomputable def isSt : FuncBody → Bool
  | .stmts _ => true
  | _ => false
noncomputable def isNo : Value → Bool
  | .none => true
  | _ => false
noncomputable def isFu : ScopeKind → Bool
  | .function => true
  | _ => false
noncomputable def isFr : NameKind → Bool
  | .free => true
  | _ => false
theorem isSt_eq {b : FuncBody} (h : isSt b = true) : b = .stmts (stOf b) := by
  cases b with
  | stmts => rfl
  | _ => exact Bool.noConfusion h
theorem isNo_eq {v : Value} (h : isNo v = true) : v = .none := by
  cases v with
  | none => rfl
  | _ => exact Bool.noConfusion h
theorem isFu_eq {k : ScopeKind} (h : isFu k = true) : k = .function := by
  cases k with
  | function => rfl
  | _ => exact Bool.noConfusion h
noncomputable def fdD : Data → FuncData
  | .func fd => fd
  | _ => default
noncomputable def isFdD : Data → Bool
  | .func _ => true
  | _ => false
theorem fd_eq {d : Data} (h : isFdD d = true) : d = .func (fdD d) := by
  cases d with
  | func => rfl
  | _ => exact Bool.noConfusion h
noncomputable abbrev fdOf (o : Obj) : FuncData := fdD o.data
noncomputable abbrev isFd (o : Obj) : Bool := isFdD o.data
noncomputable def obK (K : Frag) (a : Addr) : Obj := (K.lookup a).getD default
noncomputable def fnK (K : Frag) (a : Addr) : Fn := ⟨a, (fdOf (obK K a)).params.args.map (·.arg), stOf (fdOf (obK K a)).body, (fdOf (obK K a)).scope⟩
noncomputable def fnGood (K : Frag) (a : Addr) : Bool :=
  (K.lookup a).isSome && isFd (obK K a) && isSt (fdOf (obK K a)).body && (fdOf (obK K a)).params.posonlyargs.isEmpty && (fdOf (obK K a)).params.vararg.isNone && (fdOf (obK K a)).params.kwonlyargs.isEmpty && (fdOf (obK K a)).params.kwarg.isNone && isNo (fdOf (obK K a)).defaults && (fdOf (obK K a)).closure.isEmpty &&
    ((fdOf (obK K a)).globals == mainGlobals) && ((fdOf (obK K a)).builtins == builtinsNs) && codeIn K (fdOf (obK K a)).code (fdOf (obK K a)).qualname && !(fdOf (obK K a)).scope.isCoroutine && !(fdOf (obK K a)).scope.isGenerator && isFu (fdOf (obK K a)).scope.kind &&
      (fnK K a).params.all (fun x => canW (fdOf (obK K a)).scope x) && decide (fnK K a).params.Nodup && (fdOf (obK K a)).scope.names.all (fun p => !isFr p.2)
theorem fn_of {c : Cx} {a : Addr} (h : fnGood c.K a = true) : FnOK c (fnK c.K a) := by
  unfold fnGood at h
  obtain ⟨h, h9⟩ := Bool.and_eq_true_iff.mp h
  obtain ⟨h, h8⟩ := Bool.and_eq_true_iff.mp h
  obtain ⟨h, h7⟩ := Bool.and_eq_true_iff.mp h
  obtain ⟨h, h6⟩ := Bool.and_eq_true_iff.mp h
  obtain ⟨h, h5⟩ := Bool.and_eq_true_iff.mp h
  obtain ⟨h, h4⟩ := Bool.and_eq_true_iff.mp h
  obtain ⟨h, h3⟩ := Bool.and_eq_true_iff.mp h
  obtain ⟨h, h2⟩ := Bool.and_eq_true_iff.mp h
  obtain ⟨h, h1⟩ := Bool.and_eq_true_iff.mp h
  obtain ⟨h, i1⟩ := Bool.and_eq_true_iff.mp h
  obtain ⟨h, i2⟩ := Bool.and_eq_true_iff.mp h
  obtain ⟨h, i3⟩ := Bool.and_eq_true_iff.mp h
  obtain ⟨h, i4⟩ := Bool.and_eq_true_iff.mp h
  obtain ⟨h, i5⟩ := Bool.and_eq_true_iff.mp h
  obtain ⟨h, i6⟩ := Bool.and_eq_true_iff.mp h
  obtain ⟨h, i7⟩ := Bool.and_eq_true_iff.mp h
  obtain ⟨i9, i8⟩ := Bool.and_eq_true_iff.mp h
  obtain ⟨o, ho⟩ := Option.isSome_iff_exists.mp i9
  have e : obK c.K a = o := by unfold obK; rw [ho]; rfl
  refine ⟨⟨obK c.K a, _, by rw [e]; exact ho, fd_eq i8, isSt_eq i7, rfl, List.isEmpty_iff.mp i1, beq_iff_eq.mp h1, beq_iff_eq.mp h2, fun vs hl => bind_plain (List.isEmpty_iff.mp i6) (Option.isNone_iff_eq_none.mp i5) (List.isEmpty_iff.mp i4) (Option.isNone_iff_eq_none.mp i3) (isNo_eq i2) hl (of_decide_eq_true h8), fun h X => codeRec_of X h3⟩, (Bool.not_eq_true' _).mp h4, (Bool.not_eq_true' _).mp h5, isFu_eq h6, fun x hx => List.all_eq_true.mp h7 x hx, of_decide_eq_true h8, fun n e => nomatch List.all_eq_true.mp h9 _ (mem_of_lookup e)⟩
theorem fng_of {c : Cx} {a : Addr} {f : Str} (h : fnGood c.K a = true) (hg : ∀ n v, nsIn c.K mainGlobals n = some v → c.mg n = v) (he : nsIn c.K mainGlobals f = some (some (.ref a))) (hk : keepIn c.K (.ref a) = true) : FnG c f (fnK c.K a) :=
  ⟨fn_of h, hg _ _ he, hk⟩
section
variable {c : Cx} {n : Nat} {sc csc : Scope} {loc loc' : Loc} {ls ls1 ls' : LS} {e t it : Expr} {d : D} {b : Bool} {body rest : List Stmt} {T : AF → Loc → LS → Prop} {pos : Pos} {x : Str} {lv : LV} {β : Type}
theorem SubL.nil : SubL [] loc := fun _ _ h => nomatch h
theorem SubL.cons (h : loc.lookup x = some lv) (r : SubL loc' loc) : SubL ((x, lv) :: loc') loc := fun y u e => by
  by_cases q : y = x
  · rw [q, lk_eq] at e; exact q ▸ h.trans e
  · rw [lk_ne q] at e; exact r y u e
theorem SubL.refl : SubL loc loc := fun _ _ h => h
theorem SubL.trans {l1 l2 l3 : Loc} (h : SubL l1 l2) (q : SubL l2 l3) : SubL l1 l3 := fun x lv e => q x lv (h x lv e)
theorem SubL.set (h : SubL loc' loc) : SubL (setL x lv loc') (setL x lv loc) := fun y u e => by
  rw [lookup_setL] at e ⊢
  split
  · rename_i q; rw [if_pos q] at e; exact e
  · rename_i q; rw [if_neg q] at e; exact h y u e
theorem Bind.low {d : D} {l l1 : Loc} (h : Bind sc t d l l1) (q : SubL l loc) : ∃ loc1, Bind sc t d loc loc1 ∧ SubL l1 loc1 := by
  cases h with
  | name h => exact ⟨_, .name h, q.set⟩
  | two h h' => exact ⟨_, .two h h', q.set.set⟩
theorem Ev.low (h : SubL loc' loc) (q : Ev c n sc loc' ls e d b ls') : Ev c n sc loc ls e d b ls' := .of fun F A hr hs z mu s Q E R => q.go F A hr hs z mu s Q E (R.sub h)
theorem Tr.low (h : SubL loc' loc) (q : Tr c n sc loc' ls e b ls') : Tr c n sc loc ls e b ls' := .of fun F A hr hs z mu s Q E R => q.go F A hr hs z mu s Q E (R.sub h)
theorem Trs.low {es : List Expr} (h : SubL loc' loc) (q : Trs c n sc loc' ls es b ls') : Trs c n sc loc ls es b ls' := by
  induction q with
  | nil => exact .nil
  | cons a _ ih => exact .cons (a.low h) ih
  | stop a => exact .stop (a.low h)
def Go (I : Loc → LS → Prop) (T : AF → Loc → LS → Prop) : AF → Loc → LS → Prop := fun af l ls => ((af = .next ∨ af = .cont) ∧ ∃ l', SubL l' l ∧ I l' ls) ∨ (∃ r, af = .ret r) ∧ T af l ls
theorem Go.next {I : Loc → LS → Prop} (h : SubL loc' loc) (i : I loc' ls) : Go I T .next loc ls := .inl ⟨.inl rfl, _, h, i⟩
theorem Go.ret {I : Loc → LS → Prop} {r : D} (i : T (.ret r) loc ls) : Go I T (.ret r) loc ls := .inr ⟨⟨r, rfl⟩, i⟩
def Then (c : Cx) (n : Nat) (sc : Scope) (rest : List Stmt) (T : AF → Loc → LS → Prop) : AF → Loc → LS → Prop := fun af l ls' => (af = .next ∧ Ex c n sc l ls' rest T) ∨ (af ≠ .next ∧ T af l ls')
theorem Go.turn {I go : Loc → LS → Prop} (h : ∀ l l' ls, I l ls → SubL l l' → go l' ls) {af : AF} (q : Go I T af loc ls) : Turn go (Then c n sc rest T) af loc ls := by
  rcases q with ⟨h1, l', h2, h3⟩ | ⟨⟨r, rfl⟩, h1⟩
  · exact .inl ⟨h1, h _ _ _ h3 h2⟩
  · exact .inr (.inr ⟨⟨r, rfl⟩, .inr ⟨(nomatch ·), h1⟩⟩)
theorem forR_inv {σ : Type} {nxt : σ → LS → Option D → σ → LS → Prop} (g : β → D) (S : List β → σ) (hn : ∀ ls, nxt (S []) ls none (S []) ls) (hc : ∀ x r ls, nxt (S (x :: r)) ls (some (g x)) (S r) ls) (L : List β) (I : List β → Loc → LS → Prop)
    (hs : ∀ p x q l ls, L = p ++ x :: q → I p l ls → ∃ l1, Bind sc t (g x) l l1 ∧ Ex c n sc l1 ls body (Go (I (p ++ [x])) T)) (hk : ∀ l ls, I L l ls → Ex c n sc l ls rest T) :
    ∀ (q p : List β) (l loc : Loc) (ls : LS), L = p ++ q → I p l ls → SubL l loc → ForR nxt c n sc t body (Then c n sc rest T) q.length (S q) loc ls
  | [], p, l, loc, ls, e, i, h => ⟨_, _, hn ls, .inl ⟨rfl, (hk l ls (by rw [e, List.append_nil]; exact i)).sub h⟩⟩
  | x :: q, p, l, loc, ls, e, i, h => by
    obtain ⟨l1, hb, hx⟩ := hs p x q l ls e i
    obtain ⟨loc1, hb', h'⟩ := hb.low h
    exact .inr ⟨_, _, _, _, hc x q ls, hb', (hx.mono fun af l' ls' hg => hg.turn fun l2 l3 ls2 i2 h2 => forR_inv g S hn hc L I hs hk q (p ++ [x]) l2 l3 ls2 (by rw [e, List.append_assoc]; rfl) i2 h2).sub h'⟩
theorem Ex.for (H : Hy c) (g : β → D) (L : List β) (I : List β → Loc → LS → Prop) (hset : isSet it = false) (hev : Ev c n sc loc ls it d true ls1) (hit : Iter d (L.map g)) (htl : isTup t = true → isList d = true) {l : Loc} (h0 : SubL l loc) (i0 : I [] l ls1)
    (hs : ∀ p x q l ls, L = p ++ x :: q → I p l ls → ∃ l1, Bind sc t (g x) l l1 ∧ Ex c n sc l1 ls body (Go (I (p ++ [x])) T)) (hk : ∀ l ls, I L l ls → Ex c n sc l ls rest T) : Ex c n sc loc ls (.For t it body [] pos :: rest) T :=
  .cons (.for H hset hev hit htl (forR_inv g (·.map g) (fun _ => .nil) (fun _ _ _ => .cons) L I hs hk L [] l loc ls1 rfl i0 h0))
theorem Ex.forI (H : Hy c) (g : β → Str × D) (L : List β) (I : List β → Loc → LS → Prop) {px py pt : Pos} {v w : Str} {tk : Nat} (hset : isSet it = false) (hev : Ev c n sc loc ls it (.items (L.map g)) true ls1) {l : Loc} (h0 : SubL l loc) (i0 : I [] l ls1)
    (hs : ∀ p x q l ls, L = p ++ x :: q → I p l ls → ∃ l1, Bind sc (.Tuple [.Name v px, .Name w py] tk pt) (.tup [.str (g x).1, (g x).2]) l l1 ∧ Ex c n sc l1 ls body (Go (I (p ++ [x])) T)) (hk : ∀ l ls, I L l ls → Ex c n sc l ls rest T) : Ex c n sc loc ls (.For (.Tuple [.Name v px, .Name w py] tk pt) it body [] pos :: rest) T :=
  .cons (.forI H hset hev (forR_inv (fun x => .tup [.str (g x).1, (g x).2]) (·.map g) (fun _ => .nil) (fun _ _ _ => .cons) L I hs hk L [] l loc ls1 rfl i0 h0))
theorem citems_inv {α : Type} {cg : Comprehension} {rest : Cont α} (g : β → D) (L : List β) (I : List β → Loc → α → LS → Prop)
    (hs : ∀ p x q l acc ls, L = p ++ x :: q → I p l acc ls → ∃ l1 ls1 t, Bind sc cg.target (g x) l l1 ∧ Trs c n sc l1 ls cg.ifs t ls1 ∧ (t = true → ∀ loc1, SubL l1 loc1 → ∃ loc2 acc2 ls2, rest loc1 ls1 acc loc2 acc2 ls2 ∧ ∃ l2, SubL l2 loc2 ∧ I (p ++ [x]) l2 acc2 ls2) ∧ (t = false → ∃ l2, SubL l2 l1 ∧ I (p ++ [x]) l2 acc ls1)) :
    ∀ (q p : List β) (l loc : Loc) (acc : α) (ls : LS), L = p ++ q → I p l acc ls → SubL l loc → ∃ loc' acc' ls', CItems c n sc cg rest (q.map g) loc ls acc loc' acc' ls' ∧ ∃ l', SubL l' loc' ∧ I L l' acc' ls'
  | [], p, l, loc, acc, ls, e, i, h => ⟨_, _, _, .nil, l, h, by rw [e, List.append_nil]; exact i⟩
  | x :: q, p, l, loc, acc, ls, e, i, h => by
    obtain ⟨l1, ls1, t, hb, ht, h1, h2⟩ := hs p x q l acc ls e i
    obtain ⟨loc1, hb', h'⟩ := hb.low h
    have e' : L = (p ++ [x]) ++ q := by rw [e, List.append_assoc]; rfl
    cases t with
    | true =>
      obtain ⟨loc2, acc2, ls2, hr, l2, s2, i2⟩ := h1 rfl loc1 h'
      obtain ⟨loc', acc', ls', k, hl⟩ := citems_inv g L I hs q (p ++ [x]) l2 loc2 acc2 ls2 e' i2 s2
      exact ⟨loc', acc', ls', .pass hb' (ht.low h') hr k, hl⟩
    | false =>
      obtain ⟨l2, s2, i2⟩ := h2 rfl
      obtain ⟨loc', acc', ls', k, hl⟩ := citems_inv g L I hs q (p ++ [x]) l2 loc1 acc ls1 e' i2 (s2.trans h')
      exact ⟨loc', acc', ls', .skip hb' (ht.low h') k, hl⟩
def Step1 (c : Cx) (n : Nat) (sc : Scope) (cg : Comprehension) (ls : LS) (base : Loc) {α : Type} (rest : Cont α) (d : D) (acc acc' : α) : Prop :=
  ∃ l1 t, Bind sc cg.target d base l1 ∧ SubL base l1 ∧ Trs c n sc l1 ls cg.ifs t ls ∧ (t = true → ∀ loc1, SubL l1 loc1 → ∃ loc2, rest loc1 ls acc loc2 acc' ls ∧ SubL l1 loc2) ∧ (t = false → acc' = acc)
theorem citems_step {α : Type} {cg : Comprehension} {rest : Cont α} (g : β → D) (L : List β) (base : Loc) (A : List β → α) (hs : ∀ p x q, L = p ++ x :: q → Step1 c n sc cg ls base rest (g x) (A p) (A (p ++ [x]))) {loc : Loc} (h : SubL base loc) :
    ∃ loc', CItems c n sc cg rest (L.map g) loc ls (A []) loc' (A L) ls ∧ SubL base loc' := by
  obtain ⟨loc', acc', ls', k, l', h1, rfl, rfl, rfl⟩ := citems_inv (cg := cg) (rest := rest) (c := c) (n := n) (sc := sc) g L (fun p l acc ls' => l = base ∧ acc = A p ∧ ls' = ls) (fun p x q l acc ls' e i => by
    obtain ⟨rfl, rfl, rfl⟩ := i
    obtain ⟨l1, t, hb, hsb, ht, h1, h2⟩ := hs p x q e
    exact ⟨l1, _, t, hb, ht, fun e1 loc1 s1 => let ⟨loc2, k1, k2⟩ := h1 e1 loc1 s1; ⟨loc2, _, _, k1, _, hsb.trans k2, rfl, rfl, rfl⟩, fun e2 => ⟨_, hsb, rfl, (h2 e2).symm, rfl⟩⟩) L [] base loc (A []) ls rfl ⟨rfl, rfl, rfl⟩ h
  exact ⟨loc', k, h1⟩
theorem CompG.step {α : Type} {cg : Comprehension} {gs : List Comprehension} {em : Cont α} {acc acc' : α} (g : β → D) (L : List β) (base : Loc) (A : List β → α) (a0 : A [] = acc) (a1 : A L = acc') (h1 : isSet cg.iter = false) (h2 : cg.is_async = 0) (h3 : capOK sc csc = true) (h4 : ∀ g' ∈ gs, g'.is_async = 0 ∧ isSet g'.iter = false) (he : Ev c n sc loc ls cg.iter d b ls) (htl : isTup cg.target = true → isList d = true) (hit : Iter d (L.map g))
    (h0 : SubL base (capt csc loc)) (hs : ∀ p x q, L = p ++ x :: q → Step1 c n csc cg ls base (CRest c n csc em gs) (g x) (A p) (A (p ++ [x]))) : CompG c n sc loc ls csc (cg :: gs) em acc acc' ls :=
  a0 ▸ a1 ▸ let ⟨loc', k, _⟩ := citems_step g L base A hs h0
  ⟨cg, gs, d, b, ls, L.map g, loc', rfl, h1, h2, h3, h4, he, htl, hit, k⟩
theorem crest_step {α : Type} {cg : Comprehension} {gs : List Comprehension} {em : Cont α} {acc acc' : α} (g : β → D) (L : List β) (base : Loc) (A : List β → α) (a0 : A [] = acc) (a1 : A L = acc') (h1 : isSet cg.iter = false) (h2 : cg.is_async = 0) (he : Ev c n sc base ls cg.iter d true ls) (htl : isTup cg.target = true → isList d = true) (hit : Iter d (L.map g))
    (hs : ∀ p x q, L = p ++ x :: q → Step1 c n sc cg ls base (CRest c n sc em gs) (g x) (A p) (A (p ++ [x]))) : ∀ loc1, SubL base loc1 → ∃ loc2, CRest c n sc em (cg :: gs) loc1 ls acc loc2 acc' ls ∧ SubL base loc2 := fun loc1 h =>
  a0 ▸ a1 ▸ let ⟨loc', k, k'⟩ := citems_step g L base A hs h
  ⟨loc', ⟨d, ls, L.map g, h1, h2, he.low h, htl, hit, k⟩, k'⟩
theorem emL_step {l1 : Loc} {acc acc' : List D} (he : Ev c n sc l1 ls e d true ls) (hl : acc.length ≤ 1000000) (ha : acc' = acc ++ [d]) : ∀ loc1, SubL l1 loc1 → ∃ loc2, CRest c n sc (EmL c n sc e) [] loc1 ls acc loc2 acc' ls ∧ SubL l1 loc2 := fun loc1 h => ⟨loc1, ⟨d, he.low h, hl, rfl, ha⟩, h⟩
theorem emD_step {l1 : Loc} {acc acc' : List (Str × D)} {k v : Expr} {x : Str} (hk : Ev c n sc l1 ls k (.str x) true ls) (he : Ev c n sc l1 ls v d true ls) (hl : acc.length ≤ 1000000) (ha : acc' = putD acc x d) : ∀ loc1, SubL l1 loc1 → ∃ loc2, CRest c n sc (EmD c n sc k v) [] loc1 ls acc loc2 acc' ls ∧ SubL l1 loc2 := fun loc1 h => ⟨loc1, ⟨x, ls, d, hk.low h, he.low h, hl, rfl, ha⟩, h⟩
theorem Step1.pass {α : Type} {cg : Comprehension} {rest : Cont α} {base l1 : Loc} {acc acc' : α} (hb : Bind sc cg.target d base l1) (h : SubL base l1) (ht : Trs c n sc l1 ls cg.ifs true ls) (q : ∀ loc1, SubL l1 loc1 → ∃ loc2, rest loc1 ls acc loc2 acc' ls ∧ SubL l1 loc2) : Step1 c n sc cg ls base rest d acc acc' := ⟨l1, true, hb, h, ht, fun _ => q, (nomatch ·)⟩
theorem Step1.skip {α : Type} {cg : Comprehension} {rest : Cont α} {base l1 : Loc} {acc acc' : α} (hb : Bind sc cg.target d base l1) (h : SubL base l1) (ht : Trs c n sc l1 ls cg.ifs false ls) (ha : acc' = acc) : Step1 c n sc cg ls base rest d acc acc' := ⟨l1, false, hb, h, ht, (nomatch ·), fun _ => ha⟩
end
section
variable {prog : Program} {w : World} {A : Around} {E : Value → Shared → Prop} {s : Shared}
theorem draw_list {it t : Addr} {items : Array Value} (hne : t ≠ it) : ∀ (n i : Nat) (s : Shared) (Q : List Value → Shared → Prop), s.heap.IsListIter it t i → s.heap.IsList t items → i + n ≤ items.size →
    (∀ h', h'.IsListIter it t (i + n) → Heap.SameBut it s.heap h' → Q ((items.toList.drop i).take n) { s with heap := h' }) → wpAny (model prog w) A (draw (.ref it) n) Q E s
  | 0, i, s, Q, hit, _, _, hQ => by
    show wpAny _ _ (pure []) Q E s
    exact wpAny_pure (by simpa using hQ s.heap hit (Heap.SameBut.refl ..))
  | n + 1, i, s, Q, hit, ht, hle, hQ => by
    have hlt : i < items.size := by omega
    show wpAny _ _ (pyNext (.ref it) >>= _) Q E s
    refine wpAny_bind (wpAny_pyNext_list_item hit ht (x := items[i]) (by simp [hlt]) fun h₁ hit₁ hs₁ => ?_)
    refine wpAny_bind (wpAny_holding (draw_list hne n (i + 1) _ _ hit₁ (ht.extBut hs₁.extBut hne) (by omega) fun h₂ hit₂ hs₂ => wpAny_pure ?_))
    have hd : items.toList.drop i = items[i] :: items.toList.drop (i + 1) := by simp [List.drop_eq_getElem_cons, hlt]
    have := hQ h₂ (by rw [show i + (n + 1) = i + 1 + n by omega]; exact hit₂) (hs₁.trans hs₂)
    rw [hd, List.take_succ_cons] at this
    exact this
theorem unpackItems_list {t : Addr} {items : Array Value} {Q : List Value → Shared → Prop} (hh : A.handled = none) (ht : s.heap.IsList t items)
    (hQ : ∀ h', Heap.ExtBut s.heap.objs.size s.heap h' → Q items.toList { s with heap := h' }) : wpAny (model prog w) A (unpackItems (.ref t) items.size none) Q E s := by
  have hlt : t ≠ s.heap.objs.size := by obtain ⟨o, ho, _⟩ := ht; exact Nat.ne_of_lt (Heap.lt_size ho)
  unfold unpackItems
  refine wpAny_bind ?_
  · unfold notIterableAtAll
    refine wpAny_bind (wpAny_specialOf ht.typeIs slot_list_iter.lookup ?_)
    refine wpAny_pure ?_
    simp only [Bool.false_eq_true, if_false]
    refine wpAny_bind (wpAny_holding (wpAny_pyIter_list ht ?_))
    refine wpAny_bind (wpAny_holding (draw_list hlt items.size 0 _ _ ⟨_, Heap.get?_push_size _ rfl, rfl, rfl⟩ (ht.push _) (by omega) fun h₁ hit₁ hs₁ => ?_))
    have hall : List.take items.size (List.drop 0 items.toList) = items.toList := by
      rw [List.drop_zero]; exact List.take_of_length_le (by simp)
    rw [hall]
    rw [if_neg (by simp)]
    have ht₁ : h₁.IsList t items := (ht.push _).extBut hs₁.extBut hlt
    refine wpAny_bind (wpAny_holding (wpAny_pyNext_list_end hh hit₁ ht₁ (by simp) fun h₂ he₂ => ?_))
    simp only [Option.isSome_none, Bool.false_eq_true, if_false]
    exact wpAny_pure (hQ h₂ fun b o hb e => he₂ b o hb (hs₁.extBut b o hb (Heap.get?_push_of_some _ e)))
theorem unpack_list {t : Addr} {items : Array Value} {targets : List (Bool × (Value → Sem Unit))} {Q : Unit → Shared → Prop} (hh : A.handled = none) (ht : s.heap.IsList t items)
    (hn : targets.length = items.size) (hstar : targets.findIdx? (·.1) = none)
    (h : ∀ h', Heap.ExtBut s.heap.objs.size s.heap h' → wpAny (model prog w) A (assignInOrder (targets.map (·.2)) items.toList) Q E { s with heap := h' }) :
    wpAny (model prog w) A (unpack (.ref t) targets) Q E s := by
  unfold unpack
  rw [hn, hstar]
  exact wpAny_bind (wpAny_holding (unpackItems_list hh ht h))
end
theorem sole_tup (v : Expr) (ts : List Expr) (k : Nat) (p : Pos) (n : Nat) (env : Env) : swapsWithSole [.Tuple ts k p] v n env = pure false := by
  unfold swapsWithSole
  cases v <;> rfl
section
variable {c : Cx} {F : FC} {A : Around} {z mu z' mu' : Addr → Prop} {s s' s1 : Shared} {loc loc' locE : Loc} {ls ls1 ls2 ls' lsE : LS} {d a b r d' : D} {x y u bb : Bool} {n : Nat} {sc : Scope} {af : AF} {t e v i it : Expr} {p p' pos : Pos} {w : Str} {st : Stmt} {rest body : List Stmt} {q : Value} {T T' : AF → Loc → LS → Prop}
theorem E1.unlist (H : Hy c) {es : List Expr} {k : Nat} {ds : List D} (hsw : ∀ env, swappedStores [.Tuple es k p] v env = pure none) (h : Ev c n sc loc ls v (.list ds) true ls1) (hset : SetN sc es ds loc loc') (hT : T .next loc' ls1) : E1 c n sc loc ls (.Assign [.Tuple es k p] v pos) T := .of fun F A hr hs z mu s Q E R hq =>
  wpAny_Assign_stores (h.go F A hr hs z mu s _ _ R fun z1 u s1 S1 L1 r1 => by
    have R1 := R.stpE H S1 L1
    obtain ⟨a, vs, rfl, za, pt, r⟩ := Rd.i r1
    show wpAny _ _ (standAt p >>= fun _ => unpack (.ref a) (assignEach es F.env)) _ E s1
    obtain ⟨n1, n2⟩ := hset.each F.env
    refine wpAny_bind (wpAny_standAt (unpack_list hr.h pt.isList (by rw [n2, List.size_toArray, r.len]) n1 fun h' he => ?_))
    have hk := extBut_size he
    have S2 := StpE.same (tk := s1.toks) R1 hk
    exact setN_ok H hs hset _ _ (R1.stpE H S2 (R1.lx.keep H hk)) (r.step S2 R1.zl) fun s3 S3 R3 => hq _ _ _ .next z1 mu s3 hT (((S1.lift R).trans (S2.lift R1)).trans S3.fm.stp) R3 rfl) (sole_tup v es k p _ _) (hsw _)
end
theorem fm_three (f : Expr → Option Str) (a b e : Expr) (x y q : Str) (ha : f a = some x ∨ f a = none) (hb : f b = some y ∨ f b = none) (he : f e = some q ∨ f e = none) (h : ([a, b, e].filterMap f).length = 3) : [a, b, e].filterMap f = [x, y, q] := by
  rcases ha with ha | ha <;> rcases hb with hb | hb <;> rcases he with he | he <;> simp [ha, hb, he] at h ⊢
theorem swapped_three {x y w : Str} {px py pw : Pos} {k k' : Nat} {p p' : Pos} {vs : List Expr} {env : Env} (h : vs.all (constantsAlone 8) = false) : swappedStores [.Tuple [.Name x px, .Name y py, .Name w pw] k p] (.Tuple vs k' p') env = pure none ∨ swappedStores [.Tuple [.Name x px, .Name y py, .Name w pw] k p] (.Tuple vs k' p') env = pure (some [x, y, w]) := by
  unfold swappedStores
  simp only [h]
  split
  · exact .inl rfl
  · split
    · exact .inl rfl
    · split
      · exact .inl rfl
      · rename_i hn
        split
        · exact .inl rfl
        · right
          simp only [Bool.false_eq_true, if_false]
          refine congrArg (fun l => pure (some l)) (fm_three _ _ _ _ x y w ?_ ?_ ?_ ?_)
          · dsimp only
            split
            · exact .inl rfl
            · exact .inr rfl
          · dsimp only
            split
            · exact .inl rfl
            · exact .inr rfl
          · dsimp only
            split
            · exact .inl rfl
            · exact .inr rfl
          · simp only [Bool.or_eq_true, not_or, bne_iff_ne, ne_eq, Decidable.not_not] at hn
            exact hn.1
section
variable {c : Cx} {F : FC} {A : Around} {z mu z' mu' : Addr → Prop} {s s' s1 : Shared} {loc loc' locE : Loc} {ls ls1 ls2 ls' lsE : LS} {d a b e r d' : D} {n : Nat} {sc : Scope} {p p' pos : Pos} {w : Str} {T T' : AF → Loc → LS → Prop}
theorem E1.triple (H : Hy c) {x y w : Str} {px py pw : Pos} {k k' : Nat} {vs : List Expr} (hxy : x ≠ y) (hyw : y ≠ w) (hxw : x ≠ w) (hx : canW sc x = true) (hy : canW sc y = true) (hw : canW sc w = true) (hk : vs.all (constantsAlone 8) = false) (h : Ev c n sc loc ls (.Tuple vs k' p') (.tup [a, b, e]) true ls1) (hT : T .next (setL w ⟨.fz, e⟩ (setL y ⟨.fz, b⟩ (setL x ⟨.fz, a⟩ loc))) ls1) : E1 c n sc loc ls (.Assign [.Tuple [.Name x px, .Name y py, .Name w pw] k p] (.Tuple vs k' p') pos) T := by
  refine .of ?_
  intro F A hr hs z mu s Q E R hq
  rcases swapped_three (x := x) (y := y) (w := w) (px := px) (py := py) (pw := pw) (k := k) (p := p) (k' := k') (p' := p') (env := F.env) hk with h0 | h0
  · exact wpAny_Assign_stores (h.go F A hr hs z mu s _ _ R fun z1 u s1 S1 L1 r1 => by
      have R1 := R.stpE H S1 L1
      obtain ⟨o, ws, rfl, za, pt, r⟩ := Rd.i r1
      have hset : SetN sc [.Name x px, .Name y py, .Name w pw] [a, b, e] loc _ := .cons hx (.cons hy (.cons hw .nil))
      obtain ⟨n1, n2⟩ := hset.each F.env
      show wpAny _ _ (standAt p >>= fun _ => unpack (.ref o) (assignEach [.Name x px, .Name y py, .Name w pw] F.env)) _ E s1
      refine wpAny_bind (wpAny_standAt (wpAny_unpack_tuple hr.h pt.isTuple (by rw [n2, List.size_toArray, r.len]) n1 fun h' he => ?_))
      have hk := extBut_size he
      have S2 := StpE.same (tk := s1.toks) R1 hk
      exact setN_ok H hs hset _ _ (R1.stpE H S2 (R1.lx.keep H hk)) (r.step S2 R1.zl) fun s3 S3 R3 => hq _ _ _ .next z1 mu s3 hT (((S1.lift R).trans (S2.lift R1)).trans S3.fm.stp) R3 rfl) (sole_no rfl _ _ _) h0
  · rw [exec_Assign_arm]
    refine wpAny_bind (wpAny_standAt (wpAny_bind (wpAny_of_eq (sole_no rfl _ _ _) ?_)))
    rw [if_neg (by decide)]
    refine wpAny_bind (h.go F A hr hs z mu s _ _ R fun z1 u s1 S1 L1 r1 => ?_)
    have R1 := R.stpE H S1 L1
    refine wpAny_bind (wpAny_of_eq h0 ?_)
    obtain ⟨o, ws, rfl, za, pt, r⟩ := Rd.i r1
    obtain ⟨v1, ws, rfl, ra, r⟩ := r.i
    obtain ⟨v2, ws, rfl, rb, r⟩ := r.i
    obtain ⟨v3, ws, rfl, re, r⟩ := r.i
    cases (r.i : ws = [])
    unfold assignStores
    dsimp only
    refine wpAny_bind (wpAny_rule (wpAny_bind ?_))
    rw [show [x, y, w].length = (List.toArray [v1, v2, v3]).size from rfl]
    refine wpAny_unpackItems_tuple hr.h pt.isTuple fun h' he => ?_
    have hk := extBut_size he
    have S2 := StpE.same (tk := s1.toks) R1 hk
    have R2 := R1.stpE H S2 (R1.lx.keep H hk)
    show wpAny _ _ (assignInOrder [bindName F.env w, bindName F.env y, bindName F.env x] [v3, v2, v1] >>= _) Q E _
    refine wpAny_bind ?_
    show wpAny _ _ (holding [v2, v1] (bindName F.env w v3) >>= fun _ => (holding [v1] (bindName F.env y v2) >>= fun _ => (holding [] (bindName F.env x v1) >>= fun _ => pure ()))) _ E _
    refine wpAny_bind (wpAny_holding (wpAny_bindName (store_fz H R2 hs.fk (hs.wn w hw) (re.step S2 R1.zl) fun s3 S3 R3 => ?_)))
    refine wpAny_bind (wpAny_holding (wpAny_bindName (store_fz H R3 hs.fk (hs.wn y hy) ((rb.step S2 R1.zl).mono (fun _ h => h) fun a o za e => S3.fm.kp a o e (R2.zmu a za)) fun s4 S4 R4 => ?_)))
    refine wpAny_bind (wpAny_holding (wpAny_bindName (store_fz H R4 hs.fk (hs.wn x hx) (((ra.step S2 R1.zl).mono (fun _ h => h) fun a o za e => S3.fm.kp a o e (R2.zmu a za)).mono (fun _ h => h) fun a o za e => S4.fm.kp a o e (R3.zmu a za)) fun s5 S5 R5 => ?_)))
    refine wpAny_pure (wpAny_pure (hq _ _ _ .next z1 mu s5 hT (((((S1.lift R).trans (S2.lift R1)).trans S3.fm.stp).trans S4.fm.stp).trans S5.fm.stp) (R5.sub fun q lv e => ?_) rfl))
    rw [lookup_setL, lookup_setL, lookup_setL] at e ⊢
    by_cases h1 : q = w
    · rw [if_pos h1] at e
      rw [if_neg (fun h2 => hxw (h2.symm.trans h1)), if_neg (fun h2 => hyw (h2.symm.trans h1)), if_pos h1]
      exact e
    · rw [if_neg h1] at e
      by_cases h2 : q = y
      · rw [if_pos h2] at e
        rw [if_neg (fun h3 => hxy (h3.symm.trans h2)), if_pos h2]
        exact e
      · rw [if_neg h2] at e
        by_cases h3 : q = x
        · rw [if_pos h3] at e ⊢; exact e
        · rw [if_neg h3] at e
          rw [if_neg h3, if_neg h2, if_neg h1]
          exact e
end
noncomputable def pairI (p : Int × Int) : D := .tup [.int p.1, .int p.2]
section
variable {c : Cx} {F : FC} {A : Around} {z mu : Addr → Prop} {s : Shared} {loc : Loc} {ls ls1 ls2 : LS} {n : Nat} {sc : Scope} {pos : Pos} {l r : Expr} {x y : Bool}
theorem pair_one {h : Heap} {v : Value} {p q : Int × Int} (a : Rd c z h v (pairI p)) (b : Rd c z h v (pairI q)) : p = q := by
  obtain ⟨a1, vs, rfl, _, ⟨n1, e1⟩, r1⟩ := Rd.i a
  obtain ⟨a2, ws, e, _, ⟨n2, e2⟩, r2⟩ := Rd.i b
  cases e
  rw [e1] at e2
  cases e2
  obtain ⟨v1, vs, rfl, h1, r1⟩ := r1.i
  obtain ⟨v2, vs, rfl, h2, r1⟩ := r1.i
  obtain ⟨w1, ws, e, h3, r2⟩ := r2.i
  cases e
  obtain ⟨w2, ws, e, h4, r2⟩ := r2.i
  cases e
  obtain ⟨t1, e1⟩ := Rd.i h1
  obtain ⟨t2, e2⟩ := Rd.i h2
  obtain ⟨t3, e3⟩ := Rd.i h3
  obtain ⟨t4, e4⟩ := Rd.i h4
  have i1 := e1.symm.trans e3
  have i2 := e2.symm.trans e4
  injection i1 with i1 _
  injection i2 with i2 _
  exact Prod.ext i1 i2
theorem pair_eqat {v w : Value} {p q : Int × Int} (a : Rd c z s.heap v (pairI p)) (b : Rd c z s.heap w (pairI q)) (hu : A.units < cLine) : SeqAt.EqAt A s v w (decide (p = q)) := by
  obtain ⟨p1, p2⟩ := p
  obtain ⟨q1, q2⟩ := q
  have hb : decide ((p1, p2) = (q1, q2)) = (p1 == q1 && (p2 == q2 && true)) := by
    rw [Bool.and_true, Bool.eq_iff_iff]
    simp [Prod.mk.injEq]
  have key := (rcl_at (A := A) (c := c) (z := z) (s := s) (a := pairI (p1, p2)) (b := pairI (q1, q2)) (t := p1 == q1 && (p2 == q2 && true)) (.tup (.cons (.int _ _) (.cons (.int _ _) .nil))) (.inl a) (.inl b) hu).1
  obtain ⟨x, vs, rfl, _⟩ := Rd.i a
  obtain ⟨y, ws, rfl, _⟩ := Rd.i b
  by_cases e : x = y
  · subst e
    have := pair_one a b
    rw [decide_eq_true this]
    exact SeqAt.EqAt.same _
  · rw [hb]
    exact SeqAt.EqAt.of_refs e key
theorem Rds.at {h : Heap} {β : Type} {g : β → D} : ∀ {vs : List Value} {L : List β}, Rds c z h vs (L.map g) → ∀ v, v ∈ vs → ∃ e ∈ L, Rd c z h v (g e)
  | vs, [], r, v, hv => by cases (r.i : vs = []); cases hv
  | vs, e :: L, r, v, hv => by
    obtain ⟨v1, vs', rfl, r1, r2⟩ := r.i
    rcases List.mem_cons.mp hv with rfl | hv
    · exact ⟨e, List.mem_cons_self .., r1⟩
    · obtain ⟨e', h1, h2⟩ := Rds.at r2 v hv
      exact ⟨e', List.mem_cons_of_mem _ h1, h2⟩
theorem Rds.at' {h : Heap} {β : Type} {g : β → D} : ∀ {vs : List Value} {L : List β}, Rds c z h vs (L.map g) → ∀ e ∈ L, ∃ v ∈ vs, Rd c z h v (g e)
  | vs, [], r, e, hv => by cases hv
  | vs, e :: L, r, e', hv => by
    obtain ⟨v1, vs', rfl, r1, r2⟩ := r.i
    rcases List.mem_cons.mp hv with rfl | hv
    · exact ⟨v1, List.mem_cons_self .., r1⟩
    · obtain ⟨v, h1, h2⟩ := Rds.at' r2 e' hv
      exact ⟨v, List.mem_cons_of_mem _ h1, h2⟩
open Classical in
theorem Ev.notInP (H : Hy c) (hset : isSet r = false) {q : Int × Int} {L : List (Int × Int)} (h1 : Ev c n sc loc ls l (pairI q) true ls1) (h2 : Ev c n sc loc ls1 r (.tup (L.map pairI)) true ls2) : Tr c n sc loc ls (.Compare l [.NotIn] [r] pos) (!decide (q ∈ L)) ls2 := .of fun F A hr hs z mu s Q E R hq =>
  wpAny_isTrue_Compare1 (ev_two H (h1.go F A hr hs) (h2.go F A hr hs) R fun z1 v w s1 S1 L1 r1 r2 => by
    have R1 := R.stpE H S1 L1
    have r1 : Rd c z1 s1.heap v (pairI q) := r1
    obtain ⟨a, vs, rfl, za, pt, rs⟩ := Rd.i (r2 : Rd c z1 s1.heap w _)
    have hu : A.in1.units < cLine := by
      have := hr.cl
      show A.units + 1 < cLine
      omega
    refine SeqAt.notIn_tupleAt (fun y => decide (Rd c z1 s1.heap y (pairI q))) pt.isTuple (fun y hy => ?_) ?_
    · obtain ⟨e, _, he⟩ := rs.at y (by simpa using hy)
      have := pair_eqat he r1 hu
      by_cases q1 : e = q
      · subst q1
        rw [decide_eq_true he]
        rwa [decide_eq_true rfl] at this
      · rw [decide_eq_false (fun k => q1 (pair_one he k))]
        rwa [decide_eq_false q1] at this
    · have : ((vs.toArray).any fun y => decide (Rd c z1 s1.heap y (pairI q))) = decide (q ∈ L) := by
        rw [List.any_toArray, Bool.eq_iff_iff, List.any_eq_true, decide_eq_true_eq]
        constructor
        · rintro ⟨y, hy, k⟩
          obtain ⟨e, he, r⟩ := rs.at y hy
          rw [← pair_one r (of_decide_eq_true k)]; exact he
        · intro k
          obtain ⟨y, hy, r⟩ := rs.at' q k
          exact ⟨y, hy, decide_eq_true r⟩
      rw [this]
      exact wpAny_truthy_bool (hq z1 _ S1 L1)) (marks_of hset)
end
open PySem PySem.W PySem.W.X PyProof.Rows PySem.Spec
structure EvT (c : Cx) (n : Nat) (sc : Scope) (loc : Loc) (ls : LS) (e : Expr) (d : D) (ls' : LS) : Prop where
  of ::
  go : ∀ F A, Room A n → ScOK F sc → ∀ (z mu : Addr → Prop) (s : Shared) (Q : Value → Shared → Prop) (E : Value → Shared → Prop), 1 ≤ s.toks → Rep c F z mu loc ls s →
    (∀ z' v s', 1 ≤ s'.toks → StpE c z s z' s' → LexOK c ls' s'.heap → Rd c z' s'.heap v d → Q v s') → wpAny (model c.prog c.w) A (eval e F.env) Q E s
structure ExT (c : Cx) (n : Nat) (sc : Scope) (loc : Loc) (ls : LS) (st : List Stmt) (T : AF → Loc → LS → Prop) : Prop where
  of ::
  go : ∀ F A, Room A n → ScOK F sc → ∀ (z mu : Addr → Prop) (s : Shared) (Q : Flow → Shared → Prop) (E : Value → Shared → Prop), 1 ≤ s.toks → Rep c F z mu loc ls s →
    (∀ af loc' ls' f z' mu' s', T af loc' ls' → Stp z mu s z' mu' s' → Rep c F z' mu' loc' ls' s' → FlowR c z' s'.heap f af → Q f s') → wpAny (model c.prog c.w) A (execs st F.env) Q E s
section
variable {c : Cx} {n : Nat} {sc : Scope} {loc : Loc} {ls ls1 ls2 : LS} {e o l v : Expr} {d a : D} {x y : Bool} {pos ap p p' p2 : Pos} {g u q : Str} {k k' : Nat} {rest body els : List Stmt} {T : AF → Loc → LS → Prop} {w : Str}
theorem base_call {f : Expr} {nm : Str} {args : List Expr} : BaseOK (.Call (.Attribute f nm ap) args [] pos) := fun _ _ => rfl
theorem Ev.t (h : Ev c n sc loc ls e d true ls1) : EvT c n sc loc ls e d ls1 := .of fun F A hr hs z mu s Q E h1 R hq =>
  wpAny_with_toks h1 (h.go F A hr hs z mu s _ _ R fun z' v s' S L r k => hq z' v s' k S L r) |> fun h => wpAny_mono h (fun _ _ x => x) fun _ _ x => x
theorem EvT.replace (H : Hy c) (hb : BaseOK o) (hl : (ap.endLine == pos.line) = true) (hyz : (u == q) = false) (hx : g.length + (g.length + 1) * q.length ≤ 16777216) (ho : EvT c n sc loc ls o (.str g) ls1) : EvT c n sc loc ls (.Call (.Attribute o ("replace" : Str) ap) [.Constant (.str u) k p, .Constant (.str q) k' p'] [] pos) (.str (Txt.replace g u q)) ls1 := .of fun F A hr hs z mu s Q E h1 R hq => by
  refine wpAny_with_toks h1 ?_
  refine call_method hb rfl (Nat.le_of_ble_eq_true rfl) hl (ho.go F A hr hs z mu s _ _ h1 R fun z1 ov s1 t1 S1 L1 r1 pl => ?_)
  have R1 := R.stpE H S1 L1
  obtain ⟨t, rfl⟩ := Rd.i r1
  refine getMethod_builtin (T := "str") (id := "str.replace") rfl PySem.F.plainAttrs_str PySem.F.slot_str_replace PySem.F.type_str_replace (fun a e => nomatch e) ?_
  refine call_with (c := c) (F := F) (P := fun _ => True) rfl (fun h _ => keep_non (f := .builtin "str.replace") (fun a e => nomatch e) h) ?_
  rw [starEach_cons rfl, starEach_cons rfl]
  refine Calls.spliced_cons (wpAny_Constant_str (k := k) (pos := p) ?_)
  refine Calls.spliced_cons (wpAny_Constant_str (k := k') (pos := p') ?_)
  refine Calls.spliced_nil ⟨trivial, ?_⟩
  show wpAny _ _ (call (.builtin "str.replace") [.str g t, .str u s1.toks, .str q (s1.toks + 1)]) _ _ _
  refine SC.replace (Nat.ne_of_gt t1) (Nat.succ_ne_zero _) (Nat.ne_of_lt (Nat.lt_succ_self _)) hyz hx fun t' k h2 => hq z1 _ _ h2 (S1.trans (StpE.toks R1 k)) R1.lx (.str _ _)
theorem ExT.assign (H : Hy c) (hv : isComp v = false) (hw : canW sc w = true) (h : EvT c n sc loc ls v d ls1) (h2 : Ex c n sc (setL w ⟨.fz, d⟩ loc) ls1 rest T) : ExT c n sc loc ls (.Assign [.Name w p] v pos :: rest) T := .of fun F A hr hs z mu s Q E h1 R hq =>
  wpAny_execs_cons (wpAny_Assign_Name (h.go F A hr hs z mu s _ _ h1 R fun z1 v s1 _ S1 L1 r1 => store_fz H (R.stpE H S1 L1) hs.fk (hs.wn _ hw) r1 fun s2 S2 R2 => h2.go F A hr hs z1 mu s2 _ _ R2 fun af l ls' f z' mu' s' ht S' R' r' => hq af l ls' f z' mu' s' ht (((S1.lift R).trans S2.fm.stp).trans S') R' r') (swaps_no hv _ _ _))
theorem E1.ifK (H : Hy c) {i : Int} (h1 : Ev c n sc loc ls l (.int i) x ls1) (h2 : ExT c n sc loc ls1 body T) : E1 c n sc loc ls (.If (.Compare l [.Eq] [.Constant (.int i) k p] p') body els pos) T := .of fun F A hr hs z mu s Q E R hq =>
  wpAny_If (wpAny_isTrue_Compare1 (h1.go F A hr hs z mu s _ _ R fun z1 v s1 S1 L1 r1 => wpAny_Constant_int (by
    have R1 := R.stpE H S1 L1
    have S2 := StpE.toks R1 (s1.toks + 1)
    have R2 := R1.stpE H S2 R1.lx
    refine wpAny_with_toks (n := 1) (Nat.le_add_left 1 _) ?_
    refine cmp_ok (t := true) R2 (.eq (.low (.flat (by have := Eqf.int i i; rwa [beq_self_eq_true] at this)))) (r1.step S2 R1.zl).t (.inl (.int i _)) hr.cl fun k t1 => wpAny_truthy_bool ?_
    have S3 := StpE.toks R2 k
    exact h2.go F A hr hs z1 mu _ _ _ t1 (R2.stpE H S3 R2.lx) fun af l ls' f z' mu' s' ht S' R' r' => hq af l ls' f z' mu' s' ht ((((S1.lift R).trans (S2.lift R1)).trans (S3.lift R2)).trans S') R' r')) rfl)
end
theorem strsAre_rds {c : Cx} {z : Addr → Prop} {h : Heap} {vs : List Value} {ss : List Str} (a : StrsAre vs ss) : Rds c z h vs (strsL ss) := by
  induction a with
  | nil => exact .nil
  | cons y t _ ih => exact .cons (.str _ _) ih
theorem rds_strs {c : Cx} {z : Addr → Prop} {h : Heap} {ss : List Str} : ∀ {vs : List Value}, Rds c z h vs (strsL ss) → StrsAre vs ss := by
  induction ss with
  | nil => intro vs r; cases (r.i : vs = []); exact .nil
  | cons x l ih => intro vs r; obtain ⟨v, vs', rfl, a, b⟩ := r.i; obtain ⟨t, rfl⟩ := a.i; exact .cons _ _ (ih b)
theorem pw_rising : ∀ (p : Str) (l : List Str), risingS p l = true → (p :: l).Pairwise (fun a b => a.cps.toList ≤ b.cps.toList)
  | p, [], _ => List.pairwise_singleton ..
  | p, x :: r, h => by
    have h : (!ltCps x.cps.toList p.cps.toList && risingS x r) = true := h
    rw [Bool.and_eq_true, ltCps_eq, Bool.not_eq_true', decide_eq_false_iff_not, List.not_lt] at h
    have ih := pw_rising x r h.2
    refine List.pairwise_cons.mpr ⟨fun y hy => ?_, ih⟩
    rcases List.mem_cons.mp hy with rfl | hy
    · exact h.1
    · exact List.le_trans h.1 (List.rel_of_pairwise_cons ih hy)
theorem sorted_eq {l l' : List Str} (p : l'.Perm l) (h' : sortedS l' = true) (h : sortedS l = true) : l' = l := by
  have q : ∀ l : List Str, sortedS l = true → l.Pairwise (fun a b => a.cps.toList ≤ b.cps.toList) := fun l h => by
    cases l with
    | nil => exact .nil
    | cons x r => exact pw_rising x r h
  refine List.Perm.eq_of_pairwise (fun a b _ _ h1 h2 => ?_) (q l' h') (q l h) p
  obtain ⟨⟨a⟩⟩ := a
  obtain ⟨⟨b⟩⟩ := b
  have : a = b := List.le_antisymm h1 h2
  rw [this]
section
variable {prog : Program} {w : World} {A : Around} {E : Value → Shared → Prop} {s : Shared}
theorem items_strs (x : Str) : ∀ (vs : List Value) (k : Nat), (∀ j v, vs[j]? = some v → SignAt x (k + j) v) → StrsAre vs ((x.cps.toList.drop k).take vs.length |>.map fun a => ⟨#[a]⟩)
  | [], k, _ => by simpa using StrsAre.nil
  | v :: vs, k, h => by
    obtain ⟨a, u, e1, rfl⟩ := h 0 v rfl
    have hk : k < x.cps.size := (Array.getElem?_eq_some_iff.mp e1).1
    have e2 : x.cps.toList.drop k = a :: x.cps.toList.drop (k + 1) := by
      rw [List.drop_eq_getElem_cons (by simpa using hk)]
      congr 1
      simpa using (Array.getElem?_eq_some_iff.mp e1).2
    rw [e2, List.length_cons, List.take_succ_cons, List.map_cons]
    exact .cons _ _ (items_strs x vs (k + 1) fun j v hj => by
      have := h (j + 1) v (by simpa using hj)
      rwa [show k + 1 + j = k + (j + 1) by omega])
theorem sorted_str {x : Str} {t : Tok} {Q : Value → Shared → Prop} (hh : A.handled = none) (h64 : x.cps.size < 64)
    (h : ∀ (s' : Shared) (a : Addr) (out : List Value) (ss : List Str), (∀ b o, s.heap.get? b = some o → s'.heap.get? b = some o) → s.heap.get? a = none → s'.gens = s.gens → s'.drawn = s.drawn → s'.os = s.os → s'.heap.PlainList a out.toArray → StrsAre out ss → ss.Perm (x.cps.toList.map fun a => ⟨#[a]⟩) → sortedS ss = true → Q (.ref a) s') :
    wpAny (model prog w) A (call (.builtin "sorted") [.str x t]) Q E s := by
  refine Calls.call_function_entry kind_sorted plain_sorted entry_sorted (args_sorted1 _) ?_
  unfold Builtin.«sorted»
  refine wpAny_bind (m := checkCount "sorted" 1 1 _) (wpAny_pure ?_)
  refine wpAny_bind (m := collect (.str x t)) (wpAny_collect_str (A := A.in1) hh x t (fun s1 acc hk hg hd ho hacc => ?_) (by rw [sizeLine_eq]; omega))
  have hS : StrsAre acc.toList (x.cps.toList.map fun a => ⟨#[a]⟩) := by
    have := items_strs x acc.toList 0 fun j v hj => by
      rw [Nat.zero_add]
      exact hacc.2 j v (by simpa using hj)
    rwa [List.drop_zero, List.take_of_length_le (by simp [hacc.1])] at this
  refine wpAny_bind (wpAny_newList ?_ (by rw [sizeLine_eq, Array.length_toList, hacc.1]; omega))
  have hoL := Heap.get?_push_size s1.heap (o := seqObj "list" acc.toList.toArray 0) rfl
  refine wpAny_bind (wpAny_holding (wpAny_call_entry slot_list_sort ⟨_, hoL, rfl⟩ entry_list_sort (list_sort_treeK strKind_oneLt hoL hS.keysOf (fun v₁ v₂ rest e => keyKind_strs (by rw [← e]; exact hS)) (by simp [hacc.1, h64]) fun st' hp hs => ⟨_, rfl, ?_⟩) (args_list_sort _)))
  obtain ⟨ss', h1, h2, h3⟩ := sorted_out_str hS hp hs
  obtain ⟨e, he⟩ := sortedHeap_at (out := (arrOf st').map (·.2)) hoL
  have key : ∀ b o, s1.heap.get? b = some o → (sortedHeap (s1.heap.push (seqObj "list" acc.toList.toArray 0)) s1.heap.objs.size acc.toList ((arrOf st').map (·.2))).get? b = some o := fun b o q1 => by
    have lt := Heap.lt_size q1
    rw [sortedHeap_old (Nat.ne_of_lt lt) (by rw [size_push']; exact Nat.lt_succ_of_lt lt)]
    exact Heap.get?_push_of_some _ q1
  refine wpAny_pure ⟨_, rfl, h _ s1.heap.objs.size ((arrOf st').map (·.2)).toList ss' (fun b o q => ?_) ?_ hg hd ho ⟨e, he⟩ h1 h2 h3⟩
  · exact key b o (hk b o q)
  · cases q : s.heap.get? s1.heap.objs.size with
    | none => rfl
    | some o => exact absurd (Heap.lt_size (hk _ o q)) (Nat.lt_irrefl _)
end
section
variable {c : Cx} {n : Nat} {sc : Scope} {loc : Loc} {ls ls1 : LS} {e : Expr} {x : Bool} {pos p : Pos}
theorem Ev.sortedL (H : Hy c) (hb : c.mg "sorted" = Option.none ∧ c.mb "sorted" = some (.builtin "sorted")) (hg : isGlob sc loc "sorted" = true) {l l0 : List Str} (he : isStarred e = false) (hl : l.length < 64) (hp : l.Perm l0) (h0 : sortedS l0 = true) (h1 : Ev c n sc loc ls e (.list (strsL l)) x ls1) : Ev c n sc loc ls (.Call (.Name "sorted" p) [e] [] pos) (.list (strsL l0)) true ls1 := by
  refine .of ?_
  intro F A hr hs z mu s Q E R hq
  have ha : Evs c n sc loc ls [e] [(.list (strsL l), x)] ls1 := .cons he h1 .nil
  refine wpAny_Call_NameR (name_glob H R hs hg (.inr hb) (call_with (P := fun _ => True) ha.plain (fun h _ => keep_non (f := .builtin "sorted") (fun a e => nomatch e) h) (evs_ok H hr hs pos ha z mu s _ _ R fun z1 vs s1 S1 L1 r1 => ⟨trivial, ?_⟩)))
  have R1 := R.stpE H S1 L1
  obtain ⟨v, rfl, q⟩ := one_arg r1
  obtain ⟨a, us, rfl, pl, rs⟩ := q.i
  show wpAny _ _ (call (.builtin "sorted") [.ref a]) _ _ _
  refine sorted_strs pl.isList (rds_strs rs) (by rw [rs.len]; simp [strsL, hl]) fun out ss' a1 a2 a3 => ?_
  obtain ⟨e', he'⟩ := sortedAll_at s1.heap us out
  have e0 : ss' = l0 := sorted_eq (a2.trans hp) a3 h0
  subst e0
  have hk : ∀ b o, s1.heap.get? b = some o → (sortedAll s1.heap us out).get? b = some o := fun b o q => sortedAll_old q
  have S2 := StpE.keep (tk := s1.toks) R1 hk (fun a => a = s1.heap.objs.size + 1) fun a ea => by
    subst ea
    exact ⟨Heap.get?_none_of_le (Nat.le_succ _), _, he'⟩
  exact hq _ _ _ (S1.trans S2) (R1.lx.keep H hk) (.list (vs := out.toList) (.inr rfl) ⟨e', he'⟩ (strsAre_rds a1))
theorem Ev.sortedS (H : Hy c) (hb : c.mg "sorted" = Option.none ∧ c.mb "sorted" = some (.builtin "sorted")) (hg : isGlob sc loc "sorted" = true) {y : Str} {l0 : List Str} (he : isStarred e = false) (hl : y.cps.size < 64) (hp : (y.cps.toList.map fun a => (⟨#[a]⟩ : Str)).Perm l0) (h0 : sortedS l0 = true) (h1 : Ev c n sc loc ls e (.str y) x ls1) : Ev c n sc loc ls (.Call (.Name "sorted" p) [e] [] pos) (.list (strsL l0)) true ls1 := by
  refine .of ?_
  intro F A hr hs z mu s Q E R hq
  have ha : Evs c n sc loc ls [e] [(.str y, x)] ls1 := .cons he h1 .nil
  refine wpAny_Call_NameR (name_glob H R hs hg (.inr hb) (call_with (P := fun _ => True) ha.plain (fun h _ => keep_non (f := .builtin "sorted") (fun a e => nomatch e) h) (evs_ok H hr hs pos ha z mu s _ _ R fun z1 vs s1 S1 L1 r1 => ⟨trivial, ?_⟩)))
  have R1 := R.stpE H S1 L1
  obtain ⟨v, rfl, q⟩ := one_arg r1
  obtain ⟨t, rfl⟩ := q.i
  show wpAny _ _ (call (.builtin "sorted") [.str y t]) _ _ _
  refine sorted_str hr.h hl fun s2 a out ss hk hn hg hd ho pl st hp' h3 => ?_
  have e0 : ss = l0 := sorted_eq (hp'.trans hp) h3 h0
  subst e0
  have S2 : StpE c z1 s1 (fun b => z1 b ∨ b = a) s2 := by
    have S2 := StpE.keep (tk := s2.toks) (h' := s2.heap) R1 hk (fun b => b = a) fun b eb => by
      subst eb
      obtain ⟨_, q⟩ := pl
      exact ⟨hn, _, q⟩
    obtain ⟨a1, a2, a3, a4, a5, a6, _, _, _⟩ := S2
    exact ⟨a1, a2, a3, a4, a5, a6, hg, ho, hd⟩
  exact hq _ _ _ (S1.trans S2) (R1.lx.keep H hk) (.list (.inr rfl) pl (strsAre_rds st))
end
section
variable {c c' : Cx} {z : Addr → Prop} {h h' : Heap} (hp : ∀ h a kvs, Heap.DictOf (strKind c.prog c.w) h a kvs → Heap.DictOf (strKind c'.prog c'.w) h a kvs) (hX : ∀ x, c.X = some x → x.on = false) (hk : ∀ a o, z a → h.get? a = some o → h'.get? a = some o)
include hp hX hk
theorem Rd.cx {v : Value} {d : D} (r : Rd c z h v d) : Rd c' z h' v d :=
  @Rd.rec c z h (fun v d _ => Rd c' z h' v d) (fun v d _ => Rds c' z h' v d) (fun v d _ => RdsD c' z h' v d) .none .bool .int .str (fun za p _ r => .list za (p.at fun o e => hk _ o za e) r) (fun za p _ r => .tup za (plainTup_at p fun o e => hk _ o za e) r) (fun za n p _ r => .dict za n (hp _ _ _ (dictOf_at p fun o e => hk _ o za e)) r) (fun za p => .range za (hk _ _ za p))
    (fun za zb n p q _ r => .items za zb n (hk _ _ za p) (hp _ _ _ (dictOf_at q fun o e => hk _ o zb e)) r) (fun za zb n p q _ r => .vals za zb n (hk _ _ za p) (hp _ _ _ (dictOf_at q fun o e => hk _ o zb e)) r) (fun za zb p q _ r => .inst za zb (hk _ _ za p) (hp _ _ _ (dictOf_at q fun o e => hk _ o zb e)) r) (fun e o => absurd ((hX _ e).symm.trans o) nofun) (fun e o => absurd ((hX _ e).symm.trans o) nofun) (fun e o => absurd ((hX _ e).symm.trans o) nofun) (fun e o _ => absurd ((hX _ e).symm.trans o) nofun) .nil (fun _ _ a b => .cons a b) .nil (fun _ _ a b => .cons a b) v d r
theorem Rds.cx {vs : List Value} {ds : List D} (r : Rds c z h vs ds) : Rds c' z h' vs ds := by
  induction ds generalizing vs with
  | nil => cases (r.i : vs = []); exact .nil
  | cons d ds ih => obtain ⟨v, vs', rfl, a, b⟩ := r.i; exact .cons (a.cx hp hX hk) (ih b)
theorem RdsD.cx {ds : List (Str × D)} : ∀ {vs : List (Str × Value)}, RdsD c z h vs ds → RdsD c' z h' vs ds := by
  induction ds with
  | nil => intro vs r; cases (r.i : vs = []); exact .nil
  | cons d ds ih => intro vs r; obtain ⟨v, vs', rfl, a, b⟩ := r.i; exact .cons (a.cx hp hX hk) (ih b)
theorem FreshR.cx {O : Addr} {d : D} (r : FreshR c z h O d) (hO : ∀ o, h.get? O = some o → h'.get? O = some o) : FreshR c' z h' O d := by
  cases r with
  | list p r => exact .list (p.at hO) (r.cx hp hX hk)
  | dict m p r => exact .dict m (hp _ _ _ (dictOf_at p hO)) (r.cx hp hX hk)
end
noncomputable abbrev cN (c : Cx) : Cx := { c with X := none, P := fun _ _ _ => False }
noncomputable def rowVs (p : Str) : List Value := p.cps.toList.map fun k => .bool (k == 1)
noncomputable def rowD (p : Str) : D := .list (p.cps.toList.map fun k => .bool (k == 1))
structure PT (x : LXA) (l : LX) (h : Heap) : Prop where
  nd : x.rw.Nodup
  ln : x.rw.length = l.pb.length
  al : ∀ a, lexall (some x) a → a ∈ x.rw
  at' : ∀ (i : Nat) (b : Addr) (p : Str), x.rw[i]? = some b → l.pb[i]? = some p → p.cps.size ≤ 1000 ∧ h.PlainList b (rowVs p).toArray
noncomputable abbrev cT (c : Cx) (x : LXA) : Cx := { c with X := some x, P := PT }
noncomputable def lT (ps : List Str) : LX := ⟨⟨#[]⟩, 0, 0, ps, false⟩
noncomputable def tX (b : Addr) (bs : List Addr) : LXA := ⟨b, b, b, b, b, b, b, b, b, b, b, b, b, true, b :: bs⟩
theorem tX_all {b : Addr} {bs : List Addr} {a : Addr} (h : lexall (some (tX b bs)) a) : a ∈ b :: bs := by
  obtain ⟨x, e, m⟩ := h
  cases e
  simp only [LXA.mus, LXA.fix, tX, List.mem_append, List.mem_cons, List.not_mem_nil, or_false, or_self] at m ⊢
  rcases m with (m | m | m) | m
  · exact .inl m
  · exact .inl m
  · exact .inr m
  · exact .inl m
theorem tX_mu {b : Addr} {bs : List Addr} {a : Addr} (h : a ∈ b :: bs) : lexmu (some (tX b bs)) a := ⟨_, rfl, List.mem_append_right _ h⟩
theorem hy_N {c : Cx} (H : Hy c) : Hy (cN c) := ⟨fun _ _ _ _ e => (nomatch e), fun _ _ _ e => (nomatch e), H.big, H.mg, H.mb, H.lim⟩
theorem PT.alive {x : LXA} {l : LX} {h : Heap} (p : PT x l h) : ∀ a, lexall (some x) a → Al h a := fun a m => by
  obtain ⟨i, hi⟩ := List.getElem?_of_mem (p.al a m)
  have h2 : i < l.pb.length := p.ln ▸ (List.getElem?_eq_some_iff.mp hi).1
  obtain ⟨_, n, e⟩ := p.at' i a l.pb[i] hi (List.getElem?_eq_getElem h2)
  exact ⟨_, e⟩
theorem hy_T {c : Cx} (H : Hy c) (x : LXA) : Hy (cT c x) := ⟨fun y l h h' e p k => by
    cases e
    exact ⟨p.nd, p.ln, p.al, fun i b q h1 h2 => ⟨(p.at' i b q h1 h2).1, (p.at' i b q h1 h2).2.at fun o => k b o ⟨_, rfl, List.mem_append_left _ (List.mem_append_right _ (List.mem_of_getElem? h1))⟩⟩⟩,
  fun y l h e p => by cases e; exact p.alive, H.big, H.mg, H.mb, H.lim⟩
theorem rowVs_len (p : Str) : (rowVs p).length = p.cps.size := by simp [rowVs]
noncomputable def setS (p : Str) (j : Nat) : Str := ⟨(p.cps.toList.set j 1).toArray⟩
theorem rowVs_set (p : Str) (j : Nat) : (rowVs p).set j (.bool true) = rowVs (setS p j) := by
  show _ = List.map (fun k : Nat => Value.bool (k == 1)) (p.cps.toList.set j 1)
  rw [List.map_set]
  rfl
section
variable {c : Cx} {n : Nat} {sc : Scope} {loc : Loc} {x : LXA} {l : LX} {o idx : Expr} {i j : Nat} {p : Str} {y : Bool} {k : Nat} {p1 p2 p3 : Pos} {T : AF → Loc → LS → Prop}
theorem E1.rowPut (H : Hy (cT c x)) (ho : Ev (cT c x) n sc loc (some l) o (.row i) true (some l)) (hi : Ev (cT c x) n sc loc (some l) idx (.int j) y (some l)) (hp : l.pb[i]? = some p) (hj : j < p.cps.size)
    (hT : T .next loc (some { l with pb := l.pb.set i (setS p j) })) : E1 (cT c x) n sc loc (some l) (.Assign [.Subscript o idx p1] (.Constant (.bool true) k p2) p3) T := .of fun F A hr hs z mu s Q E R hq =>
  wpAny_Assign_Subscript (wpAny_Constant_bool (ho.go F A hr hs z mu s _ _ R fun z1 u s1 S1 L1 r1 => by
    have R1 := R.stpE H S1 L1
    refine hi.go F A hr hs z1 mu s1 _ _ R1 fun z2 w s2 S2 L2 r2 => ?_
    have R2 := R1.stpE H S2 L2
    obtain ⟨x', b, e, rfl, hb⟩ := Rd.i r1
    cases e
    obtain ⟨t, rfl⟩ := r2.t.i
    obtain ⟨lx, e, P2⟩ := R2.lx.get rfl
    cases e
    have P2 : PT x l s2.heap := P2
    obtain ⟨hz, pl⟩ := P2.at' i b p hb hp
    have hbx : lexmu (some x) b := ⟨_, rfl, List.mem_append_right _ (List.mem_of_getElem? hb)⟩
    refine setItem_plain pl (Int.natCast_nonneg j) (by rw [List.size_toArray, rowVs_len]; exact_mod_cast hj) (by rw [List.size_toArray, rowVs_len]; omega) fun h' p' sb => ?_
    rw [Int.toNat_natCast, List.setIfInBounds_toArray, rowVs_set] at p'
    have keep : ∀ a o, ¬ lexmu (some x) a → s2.heap.get? a = some o → h'.get? a = some o := fun a o n e => sb.extBut a o (fun q => n (q ▸ hbx)) e
    have al2 : ∀ a, Al s2.heap a → Al h' a := fun a ⟨o, e⟩ => by
      by_cases q : a = b
      · rw [q]; exact let ⟨_, e⟩ := p'; ⟨_, e⟩
      · exact ⟨o, sb.extBut a o q e⟩
    have S3 : StpE (cT c x) z2 s2 z2 { s2 with heap := h' } := ⟨al2, fun _ h => h, fun _ _ h => h, fun a za => al2 a (R2.zal a za), R2.zl, fun a o e n => keep a o n e, rfl, rfl, rfl⟩
    have P3 : PT x { l with pb := l.pb.set i (setS p j) } h' := by
      refine ⟨P2.nd, by rw [List.length_set]; exact P2.ln, P2.al, fun i' b' q h1 h2 => ?_⟩
      rw [List.getElem?_set] at h2
      by_cases e : i = i'
      · subst e
        rw [hb] at h1
        cases h1
        rw [if_pos rfl, if_pos (List.getElem?_eq_some_iff.mp hp).1] at h2
        cases h2
        exact ⟨by simpa [setS] using hz, p'⟩
      · rw [if_neg e] at h2
        obtain ⟨h3, h4⟩ := P2.at' i' b' q h1 h2
        exact ⟨h3, h4.at fun o => sb.extBut b' o (fun e' => e ((List.getElem?_inj (List.getElem?_eq_some_iff.mp hb).1 P2.nd).mp (hb.trans (e' ▸ h1.symm))))⟩
    have L3 : LexOK (cT c x) (some { l with pb := l.pb.set i (setS p j) }) h' := .inr ⟨x, _, rfl, rfl, P3⟩
    exact hq _ _ _ .next z2 mu _ hT (((S1.lift R).trans (S2.lift R1)).trans (S3.lift R2)) (R2.stpE H S3 L3) rfl)) (swaps_no rfl _ _ _)
end
noncomputable def zeroS : Str := ⟨#[0, 0, 0, 0, 0, 0]⟩
def AccT (O : Addr) (z : Addr → Prop) (h : Heap) (k : Nat) : Prop := ∃ bs : List Addr, bs.length = k ∧ bs.Nodup ∧ h.PlainList O (bs.map Value.ref).toArray ∧ ∀ b ∈ bs, z b ∧ h.PlainList b (rowVs zeroS).toArray
theorem accT_mono (O : Addr) : AccMono O (AccT O) := by
  rintro z z' h h' a hz hk hO ⟨bs, h1, h2, p, h3⟩
  exact ⟨bs, h1, h2, p.at hO, fun b hb => ⟨hz b (h3 b hb).1, (h3 b hb).2.at fun o => hk b o (h3 b hb).1⟩⟩
noncomputable def EmT : Cont Nat := fun loc ls acc loc' acc' ls' => acc ≤ 1000 ∧ loc' = loc ∧ acc' = acc + 1 ∧ ls' = ls
section
variable {c : Cx} {F : FC} {A : Around} {z mu : Addr → Prop} {loc : Loc} {ls : LS} {s : Shared} {O : Addr} {k k' : Nat} {p p1 p2 p3 : Pos}
noncomputable abbrev rowE (k k' : Nat) (p p1 p2 p3 : Pos) : Expr := .BinOp (.List [.Constant (.bool false) k p] p1) .Mult (.Constant (.int 6) k' p2) p3
theorem emitT_ok (H : Hy c) {n : Nat} (hr : Room A n) {csc : Scope} (hs : ScOK F csc) (hD : AccAt c F mu O) :
    EmitOK c F A mu (AccT O) (do let x ← eval (rowE k k' p p1 p2 p3) F.env; let _ ← call (.builtin "list.append") [.ref O, x]; pure ()) EmT := by
  rintro z loc ls acc loc' acc' ls' s Q ⟨hf, rfl, rfl, rfl⟩ R no ac hq
  have hl : Ev c n csc loc' ls' (.List [.Constant (.bool false) k p] p1) (.list [.bool false]) true ls' := Ev.list (ds := [.bool false]) H (Evs.cons rfl Ev.bool Evs.nil) (by decide)
  refine wpAny_bind (wpAny_BinOp (ev_two H (hl.go F A hr hs) ((Ev.int (c := c) (n := n) (sc := csc) (k := k') (pos := p2) (q := 6)).go F A hr hs) R fun z1 v w s1 S1 L1 r1 r2 => ?_))
  have R1 := R.stpE H S1 L1
  obtain ⟨l, vs, rfl, _, ⟨m, pl⟩, r⟩ := Rd.i (r1 : Rd c z1 s1.heap v _)
  obtain ⟨u, rfl⟩ := r2.t.i
  obtain ⟨v1, vs', rfl, h1, h2⟩ := r.i
  cases (h2.i : vs' = [])
  cases (h1.i : v1 = _)
  refine wpAny_binaryOp_repeat_ref (T := "list") (U := "int") (by decide) ⟨_, pl, rfl⟩ (fun s' => typeIs_int s' _ u) noFill_list_mul PySem.F.fills_int_mul PySem.F.slot_int_rmul repeat_list PySem.F.slot_int_index.lookup
    (call_meets PySem.F.slot_int_rmul (typeIs_int s1 _ u) PySem.F.entry_int_rmul (PySem.F.args_int_rmul_2 _ _) (int___rmul___int_list _ u l _ m)
      ⟨pl, rfl, ⟨_, pl, rfl⟩, call_meets PySem.F.slot_list_mul ⟨_, pl, rfl⟩ PySem.F.entry_list_mul (PySem.F.args_list_mul_2 _ _)
        (AutoListH.list___mul___list_int_3 l _ m _ u (by decide) (by decide) (by decide)) ⟨pl, ?_⟩⟩)
  rw [fold_rep, Array.empty_append]
  show wpAny _ A _ _ _ { s1 with heap := s1.heap.push { cls := .type "list", data := .seq (rowVs zeroS).toArray } }
  have hnew := get_size s1.heap
  have S2 : StpE c z1 s1 (fun a => z1 a ∨ a = s1.heap.objs.size) { s1 with heap := s1.heap.push { cls := .type "list", data := .seq (rowVs zeroS).toArray } } := StpE.push (tk := s1.toks) R1 rfl
  have L2 := R1.lx.keep H fun b o e => Heap.get?_push_of_some (o' := o) { cls := .type "list", data := .seq (rowVs zeroS).toArray } e
  have hb2 := Heap.get?_push_size s1.heap (o := { cls := .type "list", data := .seq (rowVs zeroS).toArray }) rfl
  generalize s1.heap.objs.size = b at *
  generalize s1.heap.push { cls := .type "list", data := .seq (rowVs zeroS).toArray } = h2 at *
  have S12 := S1.trans S2
  have R2 := R1.stpE H S2 L2
  obtain ⟨bs, e1, nd, po, hb⟩ := accT_mono O z _ _ _ _ S12.zz (fun x o hx e => S12.kp x o e (R.zl x hx)) (fun o e => S12.kp O o e fun k => hD.x (lexall_of k)) ac
  have hbs : b ∉ bs := fun m => by
    obtain ⟨bs0, e0, nd0, po0, hb0⟩ := id ac
    obtain ⟨m0, q0⟩ := po0
    have q1 := S12.kp O _ q0 fun k => hD.x (lexall_of k)
    obtain ⟨m1, q2⟩ := po
    rw [q1] at q2
    have : bs0 = bs := by
      have : (bs0.map Value.ref).toArray = (bs.map Value.ref).toArray := by injection q2 with q2; injection q2 with _ _ q2; injection q2
      have := congrArg Array.toList this
      have := congrArg (List.map fun v : Value => match v with | .ref a => a | _ => 0) this
      simpa [List.map_map, Function.comp_def] using this
    have al := R.zal b (hb0 b (this ▸ m)).1
    exact alive_ne (S1.al b al) hnew rfl
  refine wpAny_bind (wpAny_list_append_plain po (fun h' p' hs' => wpAny_pure ?_) (by rw [List.size_toArray, List.length_map, e1]; exact million (by omega)))
  have hal : Al h' O := let ⟨k, e⟩ := p'; ⟨_, e⟩
  have keep : ∀ a o, (z1 a ∨ a = b) → h2.get? a = some o → h'.get? a = some o := fun a o za e => hs'.extBut a o (fun e' => R2.zmu a za (e' ▸ hD.m)) e
  refine hq (fun a => z1 a ∨ a = b) _ ((StpE.stpC R S12).trans (StpC.but (tk := s1.toks) hD.m hs' hal)) (R2.butD (tk := s1.toks) H hD (fun x d a e _ => absurd rfl (no x _ e)) hs' hal) no ⟨bs ++ [b], by rw [List.length_append, e1]; rfl, ?_, ?_, fun a m => ?_⟩
  · rw [List.nodup_append]
    exact ⟨nd, by simp, fun x hx y hy e => hbs (by rw [List.mem_singleton.mp hy] at e; exact e ▸ hx)⟩
  · rw [List.push_toArray] at p'
    rw [List.map_append]
    exact p'
  · rcases List.mem_append.mp m with m | m
    · exact ⟨(hb a m).1, (hb a m).2.at fun o => keep a o (hb a m).1⟩
    · rw [List.mem_singleton.mp m]
      exact ⟨.inr rfl, 0, keep b _ (.inr rfl) hb2⟩
end
theorem nolex {a : Addr} : ¬ lexmu none a := fun ⟨_, e, _⟩ => nomatch e
theorem noall {a : Addr} : ¬ lexall none a := fun ⟨_, e, _⟩ => nomatch e
noncomputable def rows6 : List D := [.row 0, .row 1, .row 2, .row 3, .row 4, .row 5]
theorem rows_rd {c : Cx} {z : Addr → Prop} {h : Heap} {x : LXA} (hX : c.X = some x) (ho : x.on = true) : ∀ (bs : List Addr) (i : Nat), (∀ j, j < bs.length → x.rw[i + j]? = bs[j]?) → Rds c z h (bs.map Value.ref) ((List.range' i bs.length).map D.row)
  | [], i, _ => .nil
  | b :: bs, i, e => .cons (.row hX ho (e 0 (Nat.succ_pos _))) (rows_rd hX ho bs (i + 1) fun j hj => by
      have := e (j + 1) (Nat.succ_lt_succ hj)
      rwa [show i + (j + 1) = i + 1 + j by omega] at this)
theorem rows_back {c : Cx} {z z' : Addr → Prop} {h : Heap} {x : LXA} (hX : c.X = some x) {c' : Cx} : ∀ (ps : List Str) (i : Nat) (vs : List Value), Rds c z h vs ((List.range' i ps.length).map D.row) → (∀ j b p, x.rw[i + j]? = some b → ps[j]? = some p → z' b ∧ h.PlainList b (rowVs p).toArray) → Rds c' z' h vs (ps.map rowD)
  | [], i, vs, r, _ => by cases (r.i : vs = []); exact .nil
  | p :: ps, i, vs, r, q => by
    obtain ⟨v, vs', rfl, r1, r2⟩ := r.i
    obtain ⟨x', b, e, rfl, hb⟩ := Rd.i r1
    cases e.symm.trans hX
    obtain ⟨zb, pl⟩ := q 0 b p hb rfl
    refine .cons (.list zb pl ?_) (rows_back hX ps (i + 1) vs' r2 fun j b p h1 h2 => q (j + 1) b p (by rwa [show i + (j + 1) = i + 1 + j by omega]) h2)
    show Rds c' z' h (p.cps.toList.map _) (p.cps.toList.map _)
    induction p.cps.toList with
    | nil => exact .nil
    | cons a l ih => exact .cons (.bool _) ih
section
variable {c : Cx} {F : FC} {A : Around} {z mu : Addr → Prop} {loc : Loc} {s s1 : Shared} {O b0 : Addr} {bs : List Addr}
theorem ties_rep (R : Rep (cN c) F z mu loc none s) (hno : ∀ y lv, loc.lookup y = some lv → lv.k = .fz) (hk : ∀ b o, s.heap.get? b = some o → s1.heap.get? b = some o) (hO : s.heap.get? O = none) (pO : s1.heap.PlainList O ((b0 :: bs).map Value.ref).toArray) (nd : (b0 :: bs).Nodup)
    (hb : ∀ b ∈ b0 :: bs, s.heap.get? b = none ∧ b ≠ O ∧ s1.heap.PlainList b (rowVs zeroS).toArray) :
    Rep (cT c (tX b0 bs)) F (fun a => z a ∨ a = O) (fun a => mu a ∨ a ∈ b0 :: bs) loc (some (lT ((b0 :: bs).map fun _ => zeroS))) s1 := by
  have al1 : ∀ a, Al s.heap a → Al s1.heap a := fun a ⟨o, e⟩ => ⟨o, hk a o e⟩
  have nb : ∀ a, Al s.heap a → a ∉ b0 :: bs := fun a h m => alive_ne h (hb a m).1 rfl
  have nO : ∀ a, Al s.heap a → a ≠ O := fun a h => alive_ne h hO
  have P1 : PT (tX b0 bs) (lT ((b0 :: bs).map fun _ => zeroS)) s1.heap := ⟨nd, by simp [tX, lT], fun a => tX_all, fun i b p h1 h2 => by
    have h2 : ((b0 :: bs).map fun _ => zeroS)[i]? = some p := h2
    rw [List.getElem?_map] at h2
    have h1 : (b0 :: bs)[i]? = some b := h1
    rw [h1] at h2
    cases h2
    exact ⟨Nat.le_of_ble_eq_true rfl, (hb b (List.mem_of_getElem? h1)).2.2⟩⟩
  refine ⟨fun a o e => hk a o (R.kin a o e), fun a o e m => m.elim (R.kz a o e) (nb a ⟨o, R.kin a o e⟩), fun a k m => ?_, fun a m => .inr (tX_all (lexall_of m)), fun a k => k.elim (fun k => al1 a (R.zal a k)) fun e => e ▸ let ⟨_, q⟩ := pO; ⟨_, q⟩, fun a m => m.elim (fun m => al1 a (R.mal a m)) fun m => let ⟨_, q⟩ := (hb a m).2.2; ⟨_, q⟩, .inr ⟨_, _, rfl, rfl, P1⟩, .inl R.fmu, fun m => nb _ (R.mal _ R.fmu) (tX_all m), let ⟨m, n⟩ := R.ns; ⟨m, n.at' (hk _)⟩, fun y a e => ?_, R.cinj, fun y hy => ?_, fun y lv e => ?_, fun y d a e => ?_, fun y w d e' a e => ?_⟩
  · rcases k with k | k <;> rcases m with m | m
    · exact R.zmu a k m
    · exact nb a (R.zal a k) m
    · exact nO a (R.mal a m) k
    · exact (hb a m).2.1 k
  · obtain ⟨_, h2, h3, h4⟩ := R.cl y a e
    exact ⟨fun m => nb a h4 (tX_all m), h2, fun k => k.elim h3 (nO a h4), al1 a h4⟩
  · cases R.wr y hy with
    | loc k => exact .loc k
    | cell k l m n => exact .cell k l (.inl m) (let ⟨o, e, d⟩ := n; ⟨o, hk _ o e, d⟩)
  · obtain ⟨v, h1, h2⟩ := R.vars y lv e
    refine ⟨v, h1.kp (hk _) (fun y a o _ => hk a o), ?_⟩
    obtain ⟨k, d⟩ := lv
    cases (hno y _ e : k = .fz)
    have h2 : Rd (cN c) z s.heap v d := h2
    exact (Rd.cx (c := cN c) (c' := cT c (tX b0 bs)) (fun _ _ _ h => h) (fun x e => nomatch e) (fun a o za e => hk a o e) h2).mono (fun a h => .inl h) (fun a o _ e => e)
  · exact absurd (hno y _ e) nofun
  · exact absurd (hno y _ e) nofun
theorem ties_end (H : Hy c) {T : AF → Loc → LS → Prop} {z8 mu8 : Addr → Prop} {s2 s8 : Shared} {loc8 : Loc} {lE : LX} {fl : Flow} {Q : Flow → Shared → Prop} {af : AF} (R : Rep (cN c) F z mu loc none s) (hO : s.heap.get? O = none) (hb : ∀ b ∈ b0 :: bs, s.heap.get? b = none)
    (hal : ∀ a, Al s.heap a → Al s2.heap a) (hkp : ∀ b o, s.heap.get? b = some o → ¬ mu b → s2.heap.get? b = some o) (hge : s2.gens = s.gens) (hos : s2.os = s.os) (hdr : s2.drawn = s.drawn)
    (S8 : Stp (fun a => z a ∨ a = O) (fun a => mu a ∨ a ∈ b0 :: bs) s2 z8 mu8 s8) (R8 : Rep (cT c (tX b0 bs)) F z8 mu8 loc8 (some lE) s8) (r8 : FlowR (cT c (tX b0 bs)) z8 s8.heap fl (.ret (.list rows6))) (h6 : lE.pb.length = 6)
    (hT : T (.ret (.list (lE.pb.map rowD))) [] none) (hq : ∀ af loc' ls' f z' mu' s', T af loc' ls' → Stp z mu s z' mu' s' → Rep (cN c) F z' mu' loc' ls' s' → FlowR (cN c) z' s'.heap f af → Q f s') : Q fl s8 := by
  have nb : ∀ a, Al s.heap a → a ∉ b0 :: bs := fun a h m => alive_ne h (hb a m) rfl
  have nO : ∀ a, Al s.heap a → a ≠ O := fun a h => alive_ne h hO
  obtain ⟨lx, e, P8⟩ := R8.lx.get rfl
  cases e
  have P8 : PT (tX b0 bs) lE s8.heap := P8
  obtain ⟨v, rfl, rv⟩ := r8
  obtain ⟨a, vs, rfl, za, pl, rs⟩ := Rd.i rv
  have rs : Rds (cT c (tX b0 bs)) z8 s8.heap vs ((List.range' 0 lE.pb.length).map D.row) := by rw [h6]; exact rs
  have rs2 := rows_back (z' := fun a => z8 a ∨ a ∈ b0 :: bs) (c' := cN c) (x := tX b0 bs) rfl lE.pb 0 vs rs fun j b p h1 h2 => by
    rw [Nat.zero_add] at h1
    have h1 : (b0 :: bs)[j]? = some b := h1
    exact ⟨.inr (List.mem_of_getElem? h1), (P8.at' j b p h1 h2).2⟩
  refine hq _ [] none (.ret (.ref a)) (fun a => z8 a ∨ a ∈ b0 :: bs) (fun a => mu8 a ∧ a ∉ b0 :: bs) s8 hT ⟨fun b h => S8.al b (hal b h), fun b h => .inl (S8.zz b (.inl h)), fun b h k => ?_, fun b h m => ?_, fun b o e n => ?_, S8.ge.trans hge, S8.os.trans hos, S8.dr.trans hdr⟩ ?_ ⟨_, rfl, .list (.inl za) pl rs2⟩
  · rcases k with k | k
    · rcases S8.zn b (hal b h) k with (k | k) | (k | k)
      · exact .inl k
      · exact absurd k (nO b h)
      · exact .inr k
      · exact absurd k (nb b h)
    · exact absurd k (nb b h)
  · exact (S8.mm b (hal b h) m.1).elim id fun k => absurd k (nb b h)
  · exact S8.kp b o (hkp b o e n) fun m => m.elim n (nb b ⟨o, e⟩)
  · refine ⟨R8.kin, fun b o e m => R8.kz b o e m.1, fun b k m => k.elim (fun k => R8.zmu b k m.1) m.2, fun b m => (nolex m).elim, fun b k => k.elim (R8.zal b) fun k => ?_, fun b m => R8.mal b m.1, .inl ⟨rfl, rfl⟩, ⟨R8.fmu, fun k => R8.fl (lexall_of (tX_mu k))⟩, fun m => noall m, R8.ns, fun y b e => ?_, R8.cinj, fun y hy => ?_, fun _ _ e => (nomatch e), fun _ _ _ e => (nomatch e), fun _ _ _ _ _ e => (nomatch e)⟩
    · exact P8.alive b (lexall_of (tX_mu k))
    · obtain ⟨h1, h2, h3, h4⟩ := R8.cl y b e
      exact ⟨fun m => noall m, h2, fun k => k.elim h3 fun k => h1 (lexall_of (tX_mu k)), h4⟩
    · cases R8.wr y hy with
      | loc k => exact .loc k
      | cell k l m n => exact .cell k l ⟨m, fun k => (R8.cl _ _ l).1 (lexall_of (tX_mu k))⟩ n
end
section
variable {c : Cx} {n : Nat} {sc csc : Scope} {loc : Loc} {w : Str} {k k' : Nat} {p p1 p2 p3 p4 p5 p6 : Pos} {g : Comprehension} {rest : List Stmt} {T : AF → Loc → LS → Prop} {lE : LX}
theorem Ex.ties (H : Hy c) (hno : ∀ y lv, loc.lookup y = some lv → lv.k = .fz) (hw : canW sc w = true) (hg : CompG (cN c) n sc [] none csc [g] EmT 0 6 none) (h6 : lE.pb.length = 6) (hT : T (.ret (.list (lE.pb.map rowD))) [] none)
    (h : ∀ x, x.on = true → x.rw.length = 6 → Ex (cT c x) n sc (setL w ⟨.fz, .list rows6⟩ loc) (some (lT (List.replicate 6 zeroS))) rest fun af _ ls => af = .ret (.list rows6) ∧ ls = some lE) :
    Ex (cN c) n sc loc none (.Assign [.Name w p4] (.ListComp (rowE k k' p p1 p2 p3) [g] csc p5) p6 :: rest) T := by
  refine .of ?_
  intro F A hr hs z mu s Q E R hq
  have HN := hy_N H
  have R0 : Rep (cN c) F (fun _ => False) mu [] none s := R.move (fun _ _ _ e => e) (fun a o k _ => R.kz a o k) (fun _ h => h.elim) R.lmu (fun _ h => h.elim) R.mal R.lx R.fmu (fun _ e => e) (fun _ _ _ _ e => e) (fun _ _ _ _ h => h.elim) (fun _ _ _ m => m) fun _ _ e => nomatch e
  have run : ∀ (use : Option (Value → Sem Unit)) (Q : Value → Shared → Prop) (E : Value → Shared → Prop), (∀ z' O C m s', StpE (cN c) (fun _ => False) s z' s' → LexOK (cN c) none s'.heap → s.heap.get? O = none → s.heap.get? C = none → O ≠ C → Al s'.heap O → ¬ z' O → ¬ z' C → s'.heap.Ns C m → AccT O z' s'.heap 6 → compPost (model c.prog c.w) A E use Q (.ref O) C (.ok .next) s') →
      wpAny (model c.prog c.w) A (comprehension (.ListComp (rowE k k' p p1 p2 p3) [g] csc p5) csc F.env (firstIterPos [g] p5) (newList []) (firstAsync [g]) (firstIter [g] F.env) use) Q E s := fun use Q E hq =>
    comp_ok HN hr hs (AccR := AccT) accT_mono rfl (emit := fun O env => (do let x ← eval (rowE k k' p p1 p2 p3) env; let _ ← call (.builtin "list.append") [.ref O, x]; pure ())) (fun O env => turn_list) (fun O env => start_list) (fun s Q E _ h => wpAny_newObj_type (h _ rfl fun z => ⟨[], rfl, .nil, ⟨_, Heap.get?_push_size _ rfl⟩, fun _ h => nomatch h⟩)) (fun F' mu' O hs' hD => emitT_ok HN hr hs' hD) hg R0 hq
  have key : ∀ (z' : Addr → Prop) (O C : Addr) (s' : Shared), StpE (cN c) (fun _ => False) s z' s' → s.heap.get? O = none → ¬ z' O → ¬ z' C → AccT O z' s'.heap 6 → ∃ b0 bs, (b0 :: bs).length = 6 ∧ (b0 :: bs).Nodup ∧ s'.heap.PlainList O ((b0 :: bs).map Value.ref).toArray ∧ ∀ b ∈ b0 :: bs, s.heap.get? b = none ∧ b ≠ O ∧ b ≠ C ∧ s'.heap.PlainList b (rowVs zeroS).toArray := by
    rintro z' O C s' S hO nO nC ⟨bs, e1, nd, po, hb⟩
    cases bs with
    | nil => cases e1
    | cons b0 bs =>
      refine ⟨b0, bs, e1, nd, po, fun b m => ⟨?_, fun e => nO (e ▸ (hb b m).1), fun e => nC (e ▸ (hb b m).1), (hb b m).2⟩⟩
      cases e : s.heap.get? b with
      | none => rfl
      | some o => exact (S.zn b ⟨o, e⟩ (hb b m).1).elim
  obtain ⟨sw, hsw⟩ := swaps_is (v := .ListComp (rowE k k' p p1 p2 p3) [g] csc p5) rfl w p4 p6.line F.env
  cases sw with
  | false =>
    refine wpAny_execs_cons (wpAny_Assign_Name ?_ hsw)
    refine run none _ _ fun z' O C m s1 S1 L1 hO hC hne aO nO nC hm ac => ?_
    obtain ⟨b0, bs, e6, nd, po, hb⟩ := key z' O C s1 S1 hO nO nC ac
    refine ⟨m, hm, fun h1 hs1 => ?_⟩
    have k1 : ∀ b o, s.heap.get? b = some o → h1.get? b = some o := fun b o e => hs1.extBut b o (alive_ne ⟨o, e⟩ hC) (S1.kp b o e nolex)
    have R1 := ties_rep (s1 := { s1 with heap := h1 }) R hno k1 hO (po.at fun o => hs1.extBut O o hne) nd fun b m => ⟨(hb b m).1, (hb b m).2.1, (hb b m).2.2.2.at fun o => hs1.extBut b o (hb b m).2.2.1⟩
    have e7 : (b0 :: bs).map (fun _ => zeroS) = List.replicate 6 zeroS := by rw [List.map_const', e6]
    rw [e7] at R1
    have rd : Rd (cT c (tX b0 bs)) (fun a => z a ∨ a = O) h1 (.ref O) (.list rows6) := .list (.inr rfl) (po.at fun o => hs1.extBut O o hne) (by
      have := rows_rd (c := cT c (tX b0 bs)) (z := fun a => z a ∨ a = O) (h := h1) (x := tX b0 bs) rfl rfl (b0 :: bs) 0 fun j _ => by rw [Nat.zero_add]; rfl
      rw [e6] at this
      exact this)
    refine store_fz (hy_T H _) R1 hs.fk (hs.wn _ hw) rd fun s2 C2 R2 => ?_
    refine (h (tX b0 bs) rfl e6).go F A hr hs _ _ _ _ _ R2 fun af loc8 ls8 fl z8 mu8 s8 ht S8 R8 r8 => ?_
    obtain ⟨rfl, rfl⟩ := ht
    have C2 := C2.fm.stp
    exact ties_end (af := .ret (.list rows6)) H R hO (fun b m => (hb b m).1) (fun a ⟨o, e⟩ => C2.al a ⟨o, k1 a o e⟩) (fun b o e n => C2.kp b o (k1 b o e) fun m => m.elim n fun m => alive_ne ⟨o, e⟩ (hb b m).1 rfl) (C2.ge.trans S1.ge) (C2.os.trans S1.os) (C2.dr.trans S1.dr) S8 R8 r8 h6 hT hq
  | true =>
    refine wpAny_execs_cons ?_
    rw [exec_Assign_Name_used _ _ _ _ hsw]
    show wpAny _ A (standAt p6 >>= fun _ => ((comprehension (.ListComp (rowE k k' p p1 p2 p3) [g] csc p5) csc F.env (firstIterPos [g] p5) (newList []) (firstAsync [g]) (firstIter [g] F.env) (some (assign (.Name w p4) F.env)) >>= fun _ => pure ()) >>= fun _ => pure Flow.next)) _ _ s
    refine wpAny_bind (wpAny_standAt (wpAny_bind (wpAny_bind ?_)))
    refine run (some (assign (.Name w p4) F.env)) _ _ fun z' O C m s1 S1 L1 hO hC hne aO nO nC hm ac => ?_
    obtain ⟨b0, bs, e6, nd, po, hb⟩ := key z' O C s1 S1 hO nO nC ac
    have k1 : ∀ b o, s.heap.get? b = some o → s1.heap.get? b = some o := fun b o e => S1.kp b o e nolex
    have R1 := ties_rep (s1 := s1) R hno k1 hO po nd fun b m => ⟨(hb b m).1, (hb b m).2.1, (hb b m).2.2.2⟩
    have e7 : (b0 :: bs).map (fun _ => zeroS) = List.replicate 6 zeroS := by rw [List.map_const', e6]
    rw [e7] at R1
    have rd : Rd (cT c (tX b0 bs)) (fun a => z a ∨ a = O) s1.heap (.ref O) (.list rows6) := .list (.inr rfl) po (by
      have := rows_rd (c := cT c (tX b0 bs)) (z := fun a => z a ∨ a = O) (h := s1.heap) (x := tX b0 bs) rfl rfl (b0 :: bs) 0 fun j _ => by rw [Nat.zero_add]; rfl
      rw [e6] at this
      exact this)
    have alC : ∀ a, Al s.heap a → a ≠ C := fun a h => alive_ne h hC
    have nmC : ¬ (mu C ∨ C ∈ b0 :: bs) := fun m => m.elim (fun m => alC C (R.mal C m) rfl) fun m => (hb C m).2.2.1 rfl
    show wpAny _ A (assign (.Name w p4) F.env (.ref O)) _ _ s1
    refine wpAny_assign_Name (store_okS (lv := ⟨.fz, .list rows6⟩) (hy_T H _) R1 hs.fk (hs.wn _ hw) rd (fun a h => nomatch h) fun s2 C2 R2 sne sx => ?_)
    have C2 := C2.fm.stp
    refine ⟨m, hm.at' fun o e => C2.kp C o e nmC, fun h1 hs1 => wpAny_pure (wpAny_pure ?_)⟩
    have offC : Off (cT c (tX b0 bs)) F (fun a => mu a ∨ a ∈ b0 :: bs) C := by
      refine ⟨nmC, ?_, fun k => nmC (.inr (tX_all k)), fun y b l => alC b (R.cl y b l).2.2.2⟩
      cases e : c.K.lookup C with
      | none => rfl
      | some o => exact absurd rfl (alC C ⟨o, R.kin C o e⟩)
    have nzC : ¬ (z C ∨ C = O) := fun k => k.elim (fun k => alC C (R.zal C k) rfl) fun k => hne k.symm
    have hk2 : ∀ b o, b ≠ C → s2.heap.get? b = some o → h1.get? b = some o := fun b o n e => hs1.extBut b o n e
    have R3 := R2.butV (tk := s2.toks) (hy_T H _) offC nzC (fun y lv a e hsl => by
      rw [lookup_setL] at e
      by_cases q : y = w
      · subst q
        cases hsl.fn sx
        exact hne
      · rw [if_neg q] at e
        obtain ⟨v0, h1, h2⟩ := R.vars y lv e
        have := (sne y v0 q (h1.kp (k1 _) fun y a o _ => k1 a o)).fn hsl
        subst this
        exact alC a (h2.al HN R)) hk2
    refine (h (tX b0 bs) rfl e6).go F A hr hs _ _ _ _ _ R3 fun af loc8 ls8 fl z8 mu8 s8 ht S8 R8 r8 => ?_
    obtain ⟨rfl, rfl⟩ := ht
    refine ties_end (af := .ret (.list rows6)) (s2 := { s2 with heap := h1 }) H R hO (fun b m => (hb b m).1) (fun a ⟨o, e⟩ => ?_) (fun b o e n => hk2 b o (alC b ⟨o, e⟩) (C2.kp b o (k1 b o e) fun m => m.elim n fun m => alive_ne ⟨o, e⟩ (hb b m).1 rfl)) (C2.ge.trans S1.ge) (C2.os.trans S1.os) (C2.dr.trans S1.dr) S8 R8 r8 h6 hT hq
    obtain ⟨o2, e2⟩ := C2.al a ⟨o, k1 a o e⟩
    exact ⟨o2, hk2 a o2 (alC a ⟨o, e⟩) e2⟩
end
section
variable {c : Cx} {n : Nat} {sc : Scope} {loc : Loc} {ls : LS} {d : D} {args : List Expr} {p pos : Pos} {f : Str} {fn : Fn} {l : List Int}
theorem ints_cx {z : Addr → Prop} {h : Heap} {v : Value} (r : Rd c z h v (.list (l.map .int))) : Rd (cN c) z h v (.list (l.map .int)) := by
  obtain ⟨a, vs, rfl, za, pl, rs⟩ := Rd.i r
  refine .list za pl ?_
  clear pl r
  induction l generalizing vs with
  | nil => cases (rs.i : vs = []); exact .nil
  | cons i l ih =>
    obtain ⟨v, vs', rfl, r1, r2⟩ := rs.i
    obtain ⟨t, rfl⟩ := Rd.i r1
    exact .cons (.int _ _) (ih vs' r2)
theorem FnOK.N {f : Fn} (h : FnOK c f) : FnOK (cN c) f := ⟨h.fn, h.co, h.ge, h.ki, h.pa, h.nd, h.nf⟩
theorem Ev.defN (H : Hy c) (hf : FnG c f fn) (hg : isGlob sc loc f = true) (ha : Evs c (n + 1) sc loc ls args (fz [.list (l.map .int)]) ls) (h : Cl (cN c) n fn (fz [.list (l.map .int)]) Option.none d Option.none) : Ev c (n + 1) sc loc ls (.Call (.Name f p) args [] pos) d true ls := by
  refine .of ?_
  intro F A hr hs z mu s Q E R hq
  refine wpAny_Call_NameR (name_glob H R hs hg (.inl hf.mg) (call_with (P := c.K.In) ha.plain (keeps_K hf.kp) (evs_ok H hr hs pos ha z mu s _ _ R fun z1 vs s1 S1 L1 r1 => ?_)))
  have R1 := R.stpE H S1 L1
  refine ⟨R1.kin, ?_⟩
  obtain ⟨v, vs', rfl, r2, r3⟩ := r1.i
  cases (r3.i : vs' = [])
  refine wpAny_call (callC_ok (c := cN c) (z := z1) (hy_N H) hr hf.ok.N h ⟨R1.kin, fun _ _ _ m => nolex m, R1.zal, fun _ _ m => nolex m, fun _ m => (noall m).elim, .inl ⟨rfl, rfl⟩⟩ (.cons (d := (.list (l.map .int), true)) (ints_cx r2) .nil) fun z2 r s2 S2 L2 rd => ?_)
  have hk : ∀ b o, s1.heap.get? b = some o → s2.heap.get? b = some o := fun b o e => S2.kp b o e nolex
  exact hq z2 r s2 (S1.trans ⟨S2.al, S2.zz, S2.zn, S2.za, fun a za m => R1.zl a (S2.zn a (R1.mal a (R1.lmu a m)) za) m, fun b o e _ => hk b o e, S2.ge, S2.os, S2.dr⟩) (R1.lx.keep H hk) (Rd.cx (c := cN c) (c' := c) (fun _ _ _ h => h) (fun x e => nomatch e) (fun a o _ e => e) rd)
end
noncomputable def rAdd : { f : Fn // ∀ w o, fnK (KK w o) 49 = f } := by
  refine ⟨?f, fun w o => ?h⟩
  case h =>
    conv => lhs; reduce
noncomputable def rCount : { f : Fn // ∀ w o, fnK (KK w o) 56 = f } := by
  refine ⟨?f, fun w o => ?h⟩
  case h =>
    conv => lhs; reduce
noncomputable def rCompare : { f : Fn // ∀ w o, fnK (KK w o) 35 = f } := by
  refine ⟨?f, fun w o => ?h⟩
  case h =>
    conv => lhs; reduce
noncomputable def rRead : { f : Fn // ∀ w o, fnK (KK w o) 77 = f } := by
  refine ⟨?f, fun w o => ?h⟩
  case h =>
    conv => lhs; reduce
noncomputable def rGet : { f : Fn // ∀ w o, fnK (KK w o) 84 = f } := by
  refine ⟨?f, fun w o => ?h⟩
  case h =>
    conv => lhs; reduce
noncomputable def rPush : { f : Fn // ∀ w o, fnK (KK w o) 91 = f } := by
  refine ⟨?f, fun w o => ?h⟩
  case h =>
    conv => lhs; reduce
noncomputable def rNames : { f : Fn // ∀ w o, fnK (KK w o) 105 = f } := by
  refine ⟨?f, fun w o => ?h⟩
  case h =>
    conv => lhs; reduce
noncomputable def rPairs : { f : Fn // ∀ w o, fnK (KK w o) 110 = f } := by
  refine ⟨?f, fun w o => ?h⟩
  case h =>
    conv => lhs; reduce
noncomputable def rNumbers : { f : Fn // ∀ w o, fnK (KK w o) 117 = f } := by
  refine ⟨?f, fun w o => ?h⟩
  case h =>
    conv => lhs; reduce
noncomputable def rTies : { f : Fn // ∀ w o, fnK (KK w o) 122 = f } := by
  refine ⟨?f, fun w o => ?h⟩
  case h =>
    conv => lhs; reduce
noncomputable def rWord : { f : Fn // ∀ w o, fnK (KK w o) 129 = f } := by
  refine ⟨?f, fun w o => ?h⟩
  case h =>
    conv => lhs; reduce
noncomputable def rWritten : { f : Fn // ∀ w o, fnK (KK w o) 136 = f } := by
  refine ⟨?f, fun w o => ?h⟩
  case h =>
    conv => lhs; reduce
noncomputable def rLexer : { f : Fn // ∀ w o, fnK (KK w o) 143 = f } := by
  refine ⟨?f, fun w o => ?h⟩
  case h =>
    conv => lhs; reduce
noncomputable def rBook : { f : Fn // ∀ w o, fnK (KK w o) 150 = f } := by
  refine ⟨?f, fun w o => ?h⟩
  case h =>
    conv => lhs; reduce
noncomputable def rRow : { f : Fn // ∀ w o, fnK (KK w o) 155 = f } := by
  refine ⟨?f, fun w o => ?h⟩
  case h =>
    conv => lhs; reduce
noncomputable def rTaken : { f : Fn // ∀ w o, fnK (KK w o) 160 = f } := by
  refine ⟨?f, fun w o => ?h⟩
  case h =>
    conv => lhs; reduce
noncomputable def rFour : { f : Fn // ∀ w o, fnK (KK w o) 165 = f } := by
  refine ⟨?f, fun w o => ?h⟩
  case h =>
    conv => lhs; reduce
noncomputable def rCounts : { f : Fn // ∀ w o, fnK (KK w o) 170 = f } := by
  refine ⟨?f, fun w o => ?h⟩
  case h =>
    conv => lhs; reduce
noncomputable def rLaw : { f : Fn // ∀ w o, fnK (KK w o) 175 = f } := by
  refine ⟨?f, fun w o => ?h⟩
  case h =>
    conv => lhs; reduce
section
variable {c : Cx} {n : Nat} {sc : Scope} {loc : Loc} {ls ls1 ls2 : LS} {e : Expr} {d : D} {r : List Expr} {ds : List D}
theorem Evs.fzNil : Evs c n sc loc ls [] (fz []) ls := .nil
theorem Evs.fzCons (h1 : isStarred e = false) (h2 : Ev c n sc loc ls e d true ls1) (h3 : Evs c n sc loc ls1 r (fz ds) ls2) : Evs c n sc loc ls (e :: r) (fz (d :: ds)) ls2 := .cons h1 h2 h3
theorem Ev.isTup2 (H : Hy c) (hi : IsTup c) {f t : Str} {p p' pos : Pos} {x : Bool} (hf : f = "isinstance") (ht : t = "tuple") (hst : isStarred e = false) (gf : isGlob sc loc f = true) (gt : isGlob sc loc t = true) {q : Int} (h : Ev c n sc loc ls e (.int q) x ls1) : Ev c n sc loc ls (.Call (.Name f p) [e, .Name t p'] [] pos) (.bool false) true ls1 := by
  subst hf ht
  exact Ev.isTup H hi hst gf gt h
theorem Ex.ret (H : Hy c) {rest : List Stmt} {T : AF → Loc → LS → Prop} {pos : Pos} (h : Ev c n sc (frz loc) ls e d true ls1) (ht : T (.ret d) (frz loc) ls1) : Ex c n sc loc ls (.Return (some e) pos :: rest) T := .cons (.ret H h (.inr ⟨(nomatch ·), ht⟩))
end
structure Tp (c : Cx) : Prop where
  it : IsTup c
  blt : ∀ {f : Str} {v : Value}, bval f = some v → BltG c f
  srt : c.mg "sorted" = none ∧ c.mb "sorted" = some (.builtin "sorted")
  add : FnG c (Str.mk (Array.mk [97, 100, 100, 95, 99, 97, 108, 108, 101, 114, 115])) rAdd.1
  count : FnG c (Str.mk (Array.mk [99, 111, 117, 110, 116, 95, 99, 97, 108, 108, 115])) rCount.1
  names : FnG c (Str.mk (Array.mk [95, 108, 97, 119, 95, 110, 97, 109, 101, 115])) rNames.1
  pairs : FnG c (Str.mk (Array.mk [95, 108, 97, 119, 95, 112, 97, 105, 114, 115])) rPairs.1
  numbers : FnG c (Str.mk (Array.mk [95, 108, 97, 119, 95, 110, 117, 109, 98, 101, 114, 115])) rNumbers.1
  ties : FnG c (Str.mk (Array.mk [95, 108, 97, 119, 95, 116, 105, 101, 115])) rTies.1
  word : FnG c (Str.mk (Array.mk [95, 108, 97, 119, 95, 119, 111, 114, 100])) rWord.1
  written : FnG c (Str.mk (Array.mk [95, 108, 97, 119, 95, 119, 114, 105, 116, 116, 101, 110])) rWritten.1
  book : FnG c (Str.mk (Array.mk [95, 108, 97, 119, 95, 98, 111, 111, 107])) rBook.1
  row : FnG c (Str.mk (Array.mk [95, 108, 97, 119, 95, 114, 111, 119])) rRow.1
  taken : FnG c (Str.mk (Array.mk [95, 108, 97, 119, 95, 116, 97, 107, 101, 110])) rTaken.1
  four : FnG c (Str.mk (Array.mk [95, 108, 97, 119, 95, 98, 121, 95, 102, 111, 117, 114, 95, 112, 111, 105, 110, 116, 115])) rFour.1
  counts : FnG c (Str.mk (Array.mk [95, 108, 97, 119, 95, 99, 111, 117, 110, 116, 115])) rCounts.1
  cls : ClsG c (Str.mk (Array.mk [84, 117, 112, 108, 101, 67, 111, 109, 112])) 38 (Str.mk (Array.mk [99, 111, 109, 112, 95, 115, 101, 108, 101, 99, 116, 95, 108, 105, 115, 116])) 2
  cmp : MethG c 38 (Str.mk (Array.mk [99, 111, 109, 112, 97, 114, 101])) rCompare.1
  att : AttG c 38 (Str.mk (Array.mk [99, 111, 109, 112, 95, 115, 101, 108, 101, 99, 116, 95, 108, 105, 115, 116]))
def Cal (c : Cx) (n : Nat) (f : Str) (as : List (D × Bool)) (ls : LS) (d : D) (ls' : LS) : Prop := ∃ fn, FnG c f fn ∧ Cl c n fn as ls d ls'
theorem Ev.def2 {c : Cx} (H : Hy c) {n : Nat} {sc : Scope} {loc : Loc} {ls ls1 ls2 : LS} {d : D} {as : List (D × Bool)} {args : List Expr} {p pos : Pos} {f : Str} (hg : isGlob sc loc f = true) (ha : Evs c (n + 1) sc loc ls args as ls1) (h : Cal c n f as ls1 d ls2) : Ev c (n + 1) sc loc ls (.Call (.Name f p) args [] pos) d true ls2 :=
  let ⟨_, hf, hc⟩ := h
  Ev.defn H hf hg ha hc
def GetT (c : Cx) (l : LX) (y : Str) (l' : LX) : Prop := Cl c 39 rGet.1 [(.lex, true)] (some l) (.str y) (some l')
structure Tl (c : Cx) : Prop where
  get : LexG c (Str.mk (Array.mk [103, 101, 116, 95, 116, 111, 107, 101, 110])) 84 40 (fun l as r l' => Cl c 39 rGet.1 ((.lex, true) :: fz as) (some l) r (some l'))
  push : LexG c (Str.mk (Array.mk [112, 117, 115, 104, 95, 116, 111, 107, 101, 110])) 91 6 (fun l as r l' => Cl c 5 rPush.1 ((.lex, true) :: fz as) (some l) r (some l'))
  line : LexA c (Str.mk (Array.mk [108, 105, 110, 101, 110, 111])) (fun l => .int l.line)
  at0 : At0 c
  fget : ∀ (l : LX) (y : Str) (r : List Str), l.pb = y :: r → r.length < 900000 → GetT c l y { l with pb := r }
  fpush : ∀ (l : LX) (y : Str), l.pb.length < 1000000 → Cl c 5 rPush.1 [(.lex, true), (.str y, true)] (some l) .none (some { l with pb := l.pb ++ [y] })
section
variable {c : Cx} (H : Hy c) (TL : Tl c) {n : Nat} {sc : Scope} {loc : Loc} {ls : LS} {w : Str} {l l' : LX} {y : Str} {p ap pos : Pos} {e : Expr}
include H TL
theorem Ev.get (h40 : 40 ≤ n) (hl : (ap.endLine == pos.line) = true) (hw : plainN w = true) (ho : loc.lookup w = some ⟨.fz, .lex⟩) (h : GetT c l y l') : Ev c n sc loc (some l) (.Call (.Attribute (.Name w p) (Str.mk (Array.mk [103, 101, 116, 95, 116, 111, 107, 101, 110])) ap) [] [] pos) (.str y) true (some l') :=
  .lexM H TL.get h40 base_name hl (by decide) (.nameF hw ho) .fzNil h
theorem Ev.push (h40 : 40 ≤ n) (hl : (ap.endLine == pos.line) = true) (hw : plainN w = true) (ho : loc.lookup w = some ⟨.fz, .lex⟩) (he : isStarred e = false) (ha : Ev c n sc loc (some l) e (.str y) true (some l)) (hz : l.pb.length < 1000000) : Ev c n sc loc (some l) (.Call (.Attribute (.Name w p) (Str.mk (Array.mk [112, 117, 115, 104, 95, 116, 111, 107, 101, 110])) ap) [e] [] pos) .none true (some { l with pb := l.pb ++ [y] }) :=
  Ev.lexM H TL.push (by omega) base_name hl (Nat.le_of_ble_eq_true rfl) (.nameF hw ho) (.fzCons he ha .fzNil) (TL.fpush l y hz)
end
noncomputable abbrev S (l : List Nat) : Str := Str.mk (Array.mk l)
noncomputable abbrev Row := List (Nat × Int)
noncomputable def rowL (r : Row) : List (Str × D) := r.map fun p => (S [p.1], .int p.2)
noncomputable def toD (r : Row) : D := .dict (rowL r)
noncomputable def keysR (r : Row) : List Nat := r.map (·.1)
noncomputable def addC (r : Row) (a : Nat) (v : Int) : Row := if a ∈ keysR r then r.map (fun p => if p.1 = a then (p.1, p.2 + v) else p) else r ++ [(a, v)]
noncomputable def valR (r : Row) (a : Nat) : Int := (r.lookup a).getD 0
theorem s_one (a b : Nat) : (S [a] = S [b]) = (a = b) := by simp [S]
theorem any_rowL (r : Row) (a : Nat) : (rowL r).any (fun p => decide (p.1 = S [a])) = decide (a ∈ keysR r) := by
  induction r with
  | nil => simp [rowL, keysR]
  | cons p r ih =>
    unfold rowL keysR at *
    rw [List.map_cons, List.any_cons, List.map_cons, ih]
    simp only [s_one, List.mem_cons, eq_comm (a := a)]
    by_cases h : p.1 = a <;> simp [h]
theorem lookD_row (r : Row) (a : Nat) : lookD (S [a]) (rowL r) = (r.lookup a).map fun v => .int v := by
  induction r with
  | nil => rfl
  | cons p r ih =>
    obtain ⟨b, v⟩ := p
    unfold rowL at *
    rw [List.map_cons, lookD, List.lookup_cons, ih]
    simp only [s_one]
    by_cases h : b = a
    · subst h; simp
    · have : (a == b) = false := by simpa using fun e => h e.symm
      simp [h, this]
theorem lookup_none_keys {r : Row} {a : Nat} : r.lookup a = none ↔ a ∉ keysR r := by
  induction r with
  | nil => simp [keysR]
  | cons p r ih =>
    obtain ⟨b, v⟩ := p
    unfold keysR at *
    rw [List.lookup_cons, List.map_cons]
    by_cases h : a = b
    · subst h; simp
    · have : (a == b) = false := by simpa using h
      simp [this, ih, h]
theorem lookD_isSome (r : Row) (a : Nat) : (lookD (S [a]) (rowL r)).isSome = decide (a ∈ keysR r) := by
  rw [lookD_row]
  cases e : r.lookup a with
  | none => simpa using lookup_none_keys.mp e
  | some v =>
    have : a ∈ keysR r := by
      by_cases h : a ∈ keysR r
      · exact h
      · rw [lookup_none_keys.mpr h] at e; cases e
    simp [this]
theorem putD_new (r : Row) (a : Nat) (v : Int) (h : a ∉ keysR r) : putD (rowL r) (S [a]) (.int v) = rowL (r ++ [(a, v)]) := by
  unfold putD
  rw [any_rowL, if_neg (by simpa using h)]
  simp [rowL]
theorem putD_old (r : Row) (a : Nat) (v : Int) (h : a ∈ keysR r) : putD (rowL r) (S [a]) (.int v) = rowL (r.map fun p => if p.1 = a then (p.1, v) else p) := by
  unfold putD
  rw [any_rowL, if_pos (by simpa using h)]
  unfold rowL
  rw [List.map_map, List.map_map]
  refine List.map_congr_left fun p _ => ?_
  simp only [Function.comp, s_one]
  split <;> rfl
theorem putD_add (r : Row) (a : Nat) (v : Int) (h : a ∈ keysR r) (nd : (keysR r).Nodup) : putD (rowL r) (S [a]) (.int (valR r a + v)) = rowL (r.map fun p => if p.1 = a then (p.1, p.2 + v) else p) := by
  rw [putD_old r a _ h]
  congr 1
  refine List.map_congr_left fun p hp => ?_
  split
  · rename_i e
    have : r.lookup p.1 = some p.2 := by
      clear h
      induction r with
      | nil => cases hp
      | cons q r ih =>
        obtain ⟨b, u⟩ := q
        rw [List.lookup_cons]
        unfold keysR at nd
        rw [List.map_cons, List.nodup_cons] at nd
        rcases List.mem_cons.mp hp with rfl | hp
        · simp
        · have : (p.1 == b) = false := by
            have : p.1 ≠ b := fun e => nd.1 (e ▸ List.mem_map_of_mem (f := (·.1)) hp)
            simpa using this
          simp only [this]
          exact ih nd.2 hp
    unfold valR
    rw [← e, this]
    rfl
  · rfl
theorem rowL_len (r : Row) : (rowL r).length = r.length := by simp [rowL]
theorem put_new {r : Row} {a : Nat} {v : Int} (h : a ∉ keysR r) (hl : r.length ≤ 1000000) : Put (.dict (rowL r)) (.str (S [a])) (.int v) (.dict (rowL (r ++ [(a, v)]))) := by
  rw [← putD_new r a v h]; exact .dict (by rw [rowL_len]; exact hl)
theorem row_none {r : Row} {a : Nat} (h : a ∉ keysR r) : (lookD (S [a]) (rowL r)).isSome = false := by rw [lookD_isSome]; exact decide_eq_false h
theorem row_some {r : Row} {a : Nat} (h : a ∈ keysR r) : (lookD (S [a]) (rowL r)).isSome = true := by rw [lookD_isSome]; exact decide_eq_true h
theorem row_at {r : Row} {a : Nat} (h : a ∈ keysR r) : lookD (S [a]) (rowL r) = some (.int (valR r a)) := by
  rw [lookD_row]
  cases e : r.lookup a with
  | none => exact absurd h (lookup_none_keys.mp e)
  | some u => unfold valR; rw [e]; rfl
theorem addC_new {r : Row} {a : Nat} {v : Int} (h : a ∉ keysR r) : addC r a v = r ++ [(a, v)] := if_neg h
theorem put_add {r : Row} {a : Nat} {v : Int} (h : a ∈ keysR r) (nd : (keysR r).Nodup) (hl : r.length ≤ 1000000) : Put (.dict (rowL r)) (.str (S [a])) (.int (valR r a + v)) (.dict (rowL (addC r a v))) := by
  unfold addC
  rw [if_pos h, ← putD_add r a v h nd]; exact .dict (by rw [rowL_len]; exact hl)
theorem split_one {α : Type} {a x : α} {p q : List α} (e : [a] = p ++ x :: q) : p = [] ∧ x = a := by
  cases p with
  | nil => cases e; exact ⟨rfl, rfl⟩
  | cons y p => cases p <;> cases e
theorem cl_add {c : Cx} (H : Hy c) (TT : Tp c) (n : Nat) (ls : LS) (r : Row) (a : Nat) (v : Int) (nd : (keysR r).Nodup) (hl : r.length ≤ 1000) : Cal c n (Str.mk (Array.mk [97, 100, 100, 95, 99, 97, 108, 108, 101, 114, 115])) [(toD r, true), (.dict [(S [a], .int v)], true)] ls (toD (addC r a v)) ls := by
  refine ⟨_, TT.add, [((Str.mk (Array.mk [116, 97, 114, 103, 101, 116])), ⟨.fz, toD r⟩), ((Str.mk (Array.mk [115, 111, 117, 114, 99, 101])), ⟨.fz, .dict [(S [a], .int v)]⟩)], rfl, ?_⟩
  refine Ex.step (E1.newD0 H true rfl ⟨rfl, ?_⟩)
  refine Ex.forI H (fun p : Nat × Int => (S [p.1], .int p.2)) r (fun (s : Row) loc ls' => ls' = ls ∧ loc = [((Str.mk (Array.mk [115, 111, 117, 114, 99, 101])), ⟨.fz, .dict [(S [a], .int v)]⟩), ((Str.mk (Array.mk [110, 101, 119, 95, 99, 97, 108, 108, 101, 114, 115])), ⟨.own, .dict (rowL s)⟩)]) rfl (by exact (Ev.meth H base_name rfl (Nat.le_of_ble_eq_true rfl) (Ev.nameF rfl rfl) Evs.nil (.items _))) (by exact (SubL.cons rfl (SubL.cons rfl SubL.nil))) ⟨rfl, rfl⟩ ?_ ?_
  · rintro p x q l ls1 e ⟨rfl, rfl⟩
    refine ⟨_, by exact (.two rfl rfl), ?_⟩
    have hx : x.1 ∉ keysR p := by
      rw [e] at nd
      unfold keysR at nd ⊢
      rw [List.map_append, List.map_cons, List.nodup_append] at nd
      exact fun h => nd.2.2 _ h _ (List.mem_cons_self ..) rfl
    have hp := put_new (v := x.2) hx (by rw [e] at hl; simp at hl; omega)
    exact Ex.step (E1.put H rfl rfl rfl (by exact (Ev.nameF rfl rfl)) (by exact (Ev.nameF rfl rfl)) hp ⟨rfl, Ex.nil (Go.next (by exact (SubL.cons rfl (SubL.cons rfl SubL.nil))) ⟨rfl, rfl⟩)⟩)
  · rintro l ls1 ⟨rfl, rfl⟩
    refine Ex.forI H (fun p : Nat × Int => (S [p.1], .int p.2)) [(a, v)] (fun (s : Row) loc ls' => ls' = ls1 ∧ loc = [((Str.mk (Array.mk [110, 101, 119, 95, 99, 97, 108, 108, 101, 114, 115])), ⟨.own, .dict (rowL (if s = [] then r else addC r a v))⟩)]) rfl (by exact (Ev.meth H base_name rfl (Nat.le_of_ble_eq_true rfl) (Ev.nameF rfl rfl) Evs.nil (.items _))) (by exact (SubL.cons rfl SubL.nil)) ⟨rfl, rfl⟩ ?_ ?_
    · rintro p x q l ls2 e ⟨rfl, rfl⟩
      obtain ⟨rfl, rfl⟩ := split_one e
      refine ⟨_, by exact (.two rfl rfl), ?_⟩
      by_cases ha : a ∈ keysR r
      · have h1 := row_some ha
        have h2 := row_at ha
        have h3 := put_add (v := v) ha nd (by omega)
        refine Ex.step (E1.ifT H (by rw [← h1]; exact (Tr.cmp H rfl (Ev.nameF rfl rfl) (Ev.nameO rfl rfl) (.inD _ _))) ?_)
        refine Ex.step (E1.ifF H (by exact (Tr.val H (fun _ _ => rfl) (Ev.isTup2 H (Tp.it TT) rfl rfl rfl rfl rfl (Ev.nameF rfl rfl)) (.bool _))) ?_)
        exact Ex.step (E1.augS H rfl rfl rfl (by exact (Ev.nameF rfl rfl)) (.dict h2) (by exact (Ev.nameF rfl rfl)) (.addI _ _) h3 ⟨rfl, Ex.nil ⟨rfl, Ex.nil ⟨rfl, Ex.nil (Go.next (by exact (SubL.cons rfl SubL.nil)) ⟨rfl, rfl⟩)⟩⟩⟩)
      · have h1 := row_none ha
        have h3 := put_new (v := v) ha (by omega)
        rw [← addC_new ha] at h3
        refine Ex.step (E1.ifF H (by rw [← h1]; exact (Tr.cmp H rfl (Ev.nameF rfl rfl) (Ev.nameO rfl rfl) (.inD _ _))) ?_)
        exact Ex.step (E1.put H rfl rfl rfl (by exact (Ev.nameF rfl rfl)) (by exact (Ev.nameF rfl rfl)) h3 ⟨rfl, Ex.nil ⟨rfl, Ex.nil (Go.next (by exact (SubL.cons rfl SubL.nil)) ⟨rfl, rfl⟩)⟩⟩)
    · rintro l ls2 ⟨rfl, rfl⟩
      exact Ex.ret H (by exact (Ev.nameF rfl rfl)) ⟨.inl rfl, rfl⟩
noncomputable def sumR (r : Row) : Int := (r.map (·.2)).sum
noncomputable def NM : List Nat := [97, 35, 34, 92, 32, 10]
noncomputable def updR (t : Nat → Row) (c : Nat) (r : Row) : Nat → Row := fun d => if d = c then r else t d
noncomputable def stepP (v : Int) (t : Nat → Row) (p : Nat × Nat) : Nat → Row := updR t p.2 (addC (t p.2) p.1 v)
noncomputable def applyP (v : Int) (t : Nat → Row) (ps : List (Nat × Nat)) : Nat → Row := ps.foldl (stepP v) t
noncomputable def tbL (nm : List Nat) (t : Nat → Row) : List (Str × D) := nm.map fun c => (S [c], toD (t c))
theorem lookD_tb {nm : List Nat} {t : Nat → Row} {c : Nat} (h : c ∈ nm) : lookD (S [c]) (tbL nm t) = some (toD (t c)) := by
  induction nm with
  | nil => cases h
  | cons d nm ih =>
    unfold tbL at *
    rw [List.map_cons, lookD]
    simp only [s_one]
    by_cases e : d = c
    · rw [if_pos e, e]
    · rw [if_neg e]
      exact ih ((List.mem_cons.mp h).resolve_left fun q => e q.symm)
theorem putD_tb {nm : List Nat} {t : Nat → Row} {c : Nat} {r : Row} (h : c ∈ nm) : putD (tbL nm t) (S [c]) (toD r) = tbL nm (updR t c r) := by
  unfold putD
  have : (tbL nm t).any (fun p => decide (p.1 = S [c])) = true := by
    rw [List.any_eq_true]
    exact ⟨(S [c], toD (t c)), List.mem_map_of_mem (f := fun c => (S [c], toD (t c))) h, by simp⟩
  rw [if_pos this]
  unfold tbL
  rw [List.map_map]
  refine List.map_congr_left fun p _ => ?_
  simp only [Function.comp, s_one, updR]
  split
  · rename_i e; rw [e]
  · rfl
theorem tbL_len (nm : List Nat) (t : Nat → Row) : (tbL nm t).length = nm.length := by simp [tbL]
def RowOK (n : Nat) (r : Row) : Prop := (keysR r).Nodup ∧ r.length ≤ n
theorem keys_addC (r : Row) (a : Nat) (v : Int) : keysR (addC r a v) = if a ∈ keysR r then keysR r else keysR r ++ [a] := by
  unfold addC
  split
  · unfold keysR
    rw [List.map_map]
    refine List.map_congr_left fun p _ => ?_
    simp only [Function.comp]
    split <;> rfl
  · simp [keysR]
theorem RowOK.add {n : Nat} {r : Row} (h : RowOK n r) (a : Nat) (v : Int) : RowOK (n + 1) (addC r a v) := by
  refine ⟨?_, ?_⟩
  · rw [keys_addC]
    split
    · exact h.1
    · rename_i q
      rw [List.nodup_append]
      exact ⟨h.1, by simp, fun x hx y hy => by rw [List.mem_singleton.mp hy]; exact fun e => q (e ▸ hx)⟩
  · have := congrArg List.length (keys_addC r a v)
    unfold keysR at this
    have := h.2
    split at * <;> simp_all <;> omega
theorem RowOK.mono {n m : Nat} {r : Row} (h : RowOK n r) (l : n ≤ m) : RowOK m r := ⟨h.1, Nat.le_trans h.2 l⟩
theorem applyP_ok {v : Int} : ∀ (ps : List (Nat × Nat)) (t : Nat → Row) (n : Nat), (∀ c, RowOK n (t c)) → ∀ c, RowOK (n + ps.length) (applyP v t ps c)
  | [], t, n, h, c => h c
  | p :: ps, t, n, h, c => by
    have := applyP_ok (v := v) ps (stepP v t p) (n + 1) (fun d => by
      unfold stepP updR
      split
      · exact (h _).add _ _
      · exact (h _).mono (Nat.le_succ n)) c
    rw [List.length_cons, show n + (ps.length + 1) = n + 1 + ps.length by omega]
    exact this
theorem range_split {n x : Nat} {p q : List Nat} (h : List.range n = p ++ x :: q) : x = p.length ∧ p.length < n := by
  have h1 : (List.range n)[p.length]? = some x := by rw [h]; simp
  have h2 : p.length < n := by
    have := congrArg List.length h
    simp at this
    omega
  rw [List.getElem?_range h2] at h1
  exact ⟨(Option.some.inj h1).symm, h2⟩
theorem sub_list {l : List D} {i : Int} {j : Nat} {r : D} (hi : i = (j : Int)) (hl : j ≤ 1000000000) (h : l[j]? = some r) : Sub (.list l) (.int i) r := by
  subst hi
  exact .list (Int.natCast_nonneg j) (by omega) h
theorem iter_vals {r : Row} (h : r.length ≤ 1000000) : Iter (.vals (rowL r)) (r.map fun p => .int p.2) := by
  have := Iter.vals (l := rowL r) (by rw [rowL_len]; exact h)
  unfold rowL at this ⊢
  rwa [List.map_map] at this
theorem iter_str {x : List Nat} (h : x.length ≤ 1000000) : Iter (.str (S x)) (x.map fun c => .str (S [c])) := .str h
theorem iter_up {a b : Int} {k : Nat} (ha : small a) (hb : small b) (hk : b - a = (k : Int)) (h : k ≤ 1000000) : Iter (.range a b 1) ((List.range k).map fun i : Nat => .int (a + (i : Int) * 1)) := by
  have := Iter.up ha hb (by rw [hk]; exact h)
  rw [hk] at this
  exact this
noncomputable abbrev wordsD (cs : List Nat) : D := .list (cs.map fun c => .str (S [c]))
theorem s_beq (a b : List Nat) : ((S a) == (S b)) = decide (a = b) := by
  by_cases h : a = b
  · subst h; simp
  · simp [h, S]
theorem cmp_str {a b : List Nat} {t : Bool} (h : decide (a = b) = t) : Cmp .Eq (.str (S a)) (.str (S b)) t := by
  rw [← h, ← s_beq]; exact .eq (.low (.flat (.str _ _)))
theorem cmp_int {a b : Int} {t : Bool} (h : (a == b) = t) : Cmp .Eq (.int a) (.int b) t := h ▸ .eq (.low (.flat (.int _ _)))
theorem cmp_nint {a b : Int} {t : Bool} (h : (!(a == b)) = t) : Cmp .NotEq (.int a) (.int b) t := h ▸ .ne (.low (.flat (.int _ _)))
theorem s_len (x : List Nat) : (S x).length = x.length := rfl
theorem s_add (x y : List Nat) : S x ++ S y = S (x ++ y) := by
  show Str.mk _ = Str.mk _
  congr 1
  exact Array.ext' (by simp)
noncomputable abbrev intsL (ns : List Int) : D := .list (ns.map .int)
theorem sub_ints {ns : List Int} {i : Int} {j : Nat} (hi : i = (j : Int)) (hj : j < ns.length) (hl : ns.length ≤ 1000) : Sub (intsL ns) (.int i) (.int ns[j]) :=
  sub_list hi (by omega) (by rw [List.getElem?_map, List.getElem?_eq_getElem hj]; rfl)
theorem sub_tup {ns : List Int} {i : Int} {j : Nat} (hi : i = (j : Int)) (hj : j < ns.length) (hl : ns.length ≤ 1000) : Sub (.tup (ns.map .int)) (.int i) (.int ns[j]) := by
  subst hi
  refine .tup ⟨by omega, by omega⟩ (j := j) ?_ (by rw [List.getElem?_map, List.getElem?_eq_getElem hj]; rfl)
  unfold seqIndex?
  rw [List.length_map]
  simp
  omega
theorem bin_s {x y z : List Nat} (h : x ++ y = z) (hl : x.length + y.length ≤ 1000000) : Bin .Add (.str (S x)) (.str (S y)) (.str (S z)) := by
  rw [← h, ← s_add]; exact .addS _ _ hl
section
variable {c : Cx} (H : Hy c) (TT : Tp c) (n : Nat) (ls : LS)
include H TT
theorem cl_count (r : Row) (hl : r.length ≤ 1000) : Cal c n (Str.mk (Array.mk [99, 111, 117, 110, 116, 95, 99, 97, 108, 108, 115])) [(toD r, true)] ls (.int (sumR r)) ls := by
  refine ⟨_, TT.count, [((Str.mk (Array.mk [99, 97, 108, 108, 101, 114, 115])), ⟨.fz, toD r⟩)], rfl, ?_⟩
  refine Ex.step (E1.assign H rfl rfl (by exact Ev.int) ⟨rfl, ?_⟩)
  refine Ex.for H (fun p : Nat × Int => .int p.2) r (fun (s : Row) loc ls' => ls' = ls ∧ loc = [((Str.mk (Array.mk [110, 99])), ⟨.fz, .int (sumR s)⟩)]) rfl (by exact (Ev.meth H base_name rfl (Nat.le_of_ble_eq_true rfl) (Ev.nameF rfl rfl) Evs.nil (.values _))) (iter_vals (by omega)) (fun h => nomatch h) (by exact (SubL.cons rfl SubL.nil)) ⟨rfl, rfl⟩ ?_ ?_
  · rintro p x q l ls1 e ⟨rfl, rfl⟩
    have e1 : sumR (p ++ [x]) = sumR p + x.2 := by unfold sumR; rw [List.map_append, List.sum_append]; simp
    exact ⟨_, .name rfl, Ex.step (E1.aug H rfl rfl rfl (by exact (Ev.nameF rfl rfl)) (.addI _ _) ⟨rfl, Ex.nil (Go.next (by rw [← e1]; exact (SubL.cons rfl SubL.nil)) ⟨rfl, rfl⟩)⟩)⟩
  · rintro l ls1 ⟨rfl, rfl⟩
    exact Ex.ret H (by exact (Ev.nameF rfl rfl)) ⟨.inl rfl, rfl⟩
theorem cl_names : Cal c n (Str.mk (Array.mk [95, 108, 97, 119, 95, 110, 97, 109, 101, 115])) [] ls (.str (S NM)) ls := by
  refine ⟨_, TT.names, [], rfl, ?_⟩
  exact Ex.ret H Ev.str ⟨.inl rfl, rfl⟩
end
theorem flat_len {α β : Type} (f : α → List β) (n : Nat) (h : ∀ a, (f a).length ≤ n) : ∀ l : List α, (l.flatMap f).length ≤ n * l.length
  | [] => by simp
  | a :: l => by
    rw [List.flatMap_cons, List.length_append, List.length_cons, Nat.mul_succ]
    have := flat_len f n h l
    have := h a
    omega
theorem flat_snoc {α β : Type} (f : α → List β) (l : List α) (a : α) : (l ++ [a]).flatMap f = l.flatMap f ++ f a := by rw [List.flatMap_append, List.flatMap_singleton]
noncomputable def PR : List (Nat × Nat) := [(0, 1), (0, 2), (0, 3), (0, 4), (0, 5), (1, 2), (1, 3), (1, 4), (1, 5), (2, 3), (2, 4), (2, 5), (3, 4), (3, 5), (4, 5)]
noncomputable def pairN (p : Nat × Nat) : D := .tup [.int p.1, .int p.2]
noncomputable abbrev pairsD : D := .list (PR.map pairN)
noncomputable def numsP (ns : List Int) (p : List Nat) : List Int := p.foldl (fun a k => a.set (k % 15) (a.getD (k % 15) 0 + ns.getD k 0)) [0, 35, 5, 32, 2, 34, 9, 15, 6, 17, 4, 23, 27, 8, 10]
noncomputable def numsOf (ns : List Int) : List Int := numsP ns (List.range ns.length)
theorem numsP_len (ns : List Int) (p : List Nat) : (numsP ns p).length = 15 := by
  have : ∀ (p : List Nat) (a : List Int), (p.foldl (fun a k => a.set (k % 15) (a.getD (k % 15) 0 + ns.getD k 0)) a).length = a.length := by
    intro p
    induction p with
    | nil => intro a; rfl
    | cons k p ih => intro a; rw [List.foldl_cons, ih, List.length_set]
  exact this p _
noncomputable def wsAt (j : Nat) : Nat := if j = 0 then 32 else if j = 1 then 9 else if j = 2 then 10 else 13
noncomputable def sepAt (j : Nat) : List Nat := if j = 0 then [] else if j = 1 then [32] else if j = 2 then [10] else [9]
noncomputable def esc1 (c : Nat) : List Nat := if c = 92 then [92, 92] else [c]
noncomputable def escQ (c : Nat) : List Nat := if c = 34 ∨ c = 92 then [92, c] else [c]
noncomputable def hid (b m : Nat) : Bool := decide (m % 2 = 0) || decide (b ∈ [92, 32, 10])
noncomputable def hidT (h : Bool) : List Nat := if h then [92] else []
noncomputable def wrT (a b m : Nat) : List Nat := if m / 2 % 2 = 1 then 34 :: (escQ a ++ escQ b) ++ [34] else [92, a] ++ hidT (hid b m) ++ [b] ++ [wsAt (m / 4)]
noncomputable def wrW (m : Nat) : List Nat := if m / 2 % 2 = 1 then sepAt (m / 4) else []
theorem rep1 : ∀ a ∈ NM, ∀ b ∈ NM, Txt.replace (S [a, b]) (S [92]) (S [92, 92]) = S (esc1 a ++ esc1 b) := by decide +kernel
theorem rep2 : ∀ a ∈ NM, ∀ b ∈ NM, Txt.replace (S (esc1 a ++ esc1 b)) (S [34]) (S [92, 34]) = S (escQ a ++ escQ b) := by decide +kernel
theorem esc_len (c : Nat) : (esc1 c).length ≤ 2 ∧ (escQ c).length ≤ 2 := by
  unfold esc1 escQ
  constructor <;> split <;> simp
theorem E1.ifK2 {c : Cx} {n : Nat} {sc : Scope} {loc : Loc} {ls ls1 : LS} {l : Expr} {x : Bool} {k : Nat} {p p' p2 : Pos} {body els : List Stmt} {T : AF → Loc → LS → Prop} (H : Hy c) {i v : Int} (hv : v = i) (h1 : Ev c n sc loc ls l (.int v) x ls1) (h2 : ExT c n sc loc ls1 body T) : E1 c n sc loc ls (.If (.Compare l [.Eq] [.Constant (.int i) k p] p') body els p2) T := by
  subst hv; exact E1.ifK H h1 h2
section
variable {c : Cx} (H : Hy c) (TT : Tp c) (n : Nat) (ls : LS)
include H TT
theorem cl_pairs : Cal c n (Str.mk (Array.mk [95, 108, 97, 119, 95, 112, 97, 105, 114, 115])) [] ls pairsD ls := by
  refine ⟨_, TT.pairs, [], rfl, ?_⟩
  refine Ex.ret H (Ev.listComp H (ls' := ls) ?c) ⟨.inl rfl, rfl⟩
  refine CompG.step (fun i : Nat => .int (0 + (i : Int) * 1)) (List.range 6) [] (fun q => q.flatMap fun i : Nat => (List.range (5 - i)).map fun j : Nat => D.tup [.int (0 + (i : Int) * 1), .int (0 + (i : Int) * 1 + 1 + (j : Int) * 1)]) rfl rfl rfl rfl rfl (fun g h => by cases List.mem_singleton.mp h; exact ⟨rfl, rfl⟩) (by exact (Ev.blt H (Tp.blt TT rfl) rfl (Evs.cons rfl Ev.int Evs.nil) (.range1 _))) (fun h => nomatch h) (iter_up ⟨by decide, by decide⟩ ⟨by decide, by decide⟩ rfl (by decide)) .nil ?_
  intro p x q e
  obtain ⟨rfl, hx⟩ := range_split e
  have lp := flat_len (fun i : Nat => (List.range (5 - i)).map fun j : Nat => D.tup [.int (0 + (i : Int) * 1), .int (0 + (i : Int) * 1 + 1 + (j : Int) * 1)]) 5 (fun i => by simp) p
  have lp : (p.flatMap fun i : Nat => (List.range (5 - i)).map fun j : Nat => D.tup [.int (0 + (i : Int) * 1), .int (0 + (i : Int) * 1 + 1 + (j : Int) * 1)]).length ≤ 25 := by omega
  generalize hi : p.length = i at hx ⊢
  refine Step1.pass (.name rfl) .nil .nil (crest_step (fun j : Nat => .int (0 + (i : Int) * 1 + 1 + (j : Int) * 1)) (List.range (5 - i)) [((Str.mk (Array.mk [105])), ⟨.fz, .int (0 + (i : Int) * 1)⟩)] (fun r => (p.flatMap fun i : Nat => (List.range (5 - i)).map fun j : Nat => D.tup [.int (0 + (i : Int) * 1), .int (0 + (i : Int) * 1 + 1 + (j : Int) * 1)]) ++ r.map fun j : Nat => D.tup [.int (0 + (i : Int) * 1), .int (0 + (i : Int) * 1 + 1 + (j : Int) * 1)]) (List.append_nil _) (flat_snoc ..).symm rfl rfl (by exact (Ev.blt H (Tp.blt TT rfl) rfl (Evs.cons rfl (Ev.bin H (Ev.nameF rfl rfl) Ev.int (.addI _ _)) (Evs.cons rfl Ev.int Evs.nil)) (.range2 _ _))) (fun h => nomatch h) (iter_up (a := 0 + (i : Int) * 1 + 1) (b := 6) ⟨by omega, by omega⟩ ⟨by decide, by decide⟩ (by omega) (by omega)) ?_)
  intro r j r' e'
  have lr : r.length ≤ 5 := by
    have := congrArg List.length e'
    simp at this
    omega
  exact Step1.pass (.name rfl) (by exact (SubL.cons rfl SubL.nil)) .nil (emL_step (by exact (Ev.tuple H (Evs.fzCons rfl (Ev.nameF rfl rfl) (Evs.fzCons rfl (Ev.nameF rfl rfl) Evs.fzNil)) (Nat.le_of_ble_eq_true rfl))) (by rw [List.length_append, List.length_map]; omega) (by rw [List.map_append, List.append_assoc]; rfl))
theorem cl_numbers (ns : List Int) (hl : ns.length ≤ 63) : Cal c n (Str.mk (Array.mk [95, 108, 97, 119, 95, 110, 117, 109, 98, 101, 114, 115])) [(intsL ns, false)] ls (intsL (numsOf ns)) ls := by
  refine ⟨_, TT.numbers, [((Str.mk (Array.mk [115, 99, 114, 105, 112, 116])), ⟨.bor, intsL ns⟩)], rfl, ?_⟩
  have k1 : Blt (Str.mk (Array.mk [108, 101, 110])) [(intsL ns, false)] (.int (ns.length : Nat)) := by
    have := Blt.lenL (b := false) (ns.map D.int) (by rw [List.length_map]; omega)
    rwa [List.length_map] at this
  refine Ex.step (E1.newL H true rfl (ds := [.int 0, .int 35, .int 5, .int 32, .int 2, .int 34, .int 9, .int 15, .int 6, .int 17, .int 4, .int 23, .int 27, .int 8, .int 10]) (by exact (Evs.fzCons rfl Ev.int (Evs.fzCons rfl Ev.int (Evs.fzCons rfl Ev.int (Evs.fzCons rfl Ev.int (Evs.fzCons rfl Ev.int (Evs.fzCons rfl Ev.int (Evs.fzCons rfl Ev.int (Evs.fzCons rfl Ev.int (Evs.fzCons rfl Ev.int (Evs.fzCons rfl Ev.int (Evs.fzCons rfl Ev.int (Evs.fzCons rfl Ev.int (Evs.fzCons rfl Ev.int (Evs.fzCons rfl Ev.int (Evs.fzCons rfl Ev.int Evs.fzNil)))))))))))))))) (Nat.le_of_ble_eq_true rfl) ⟨rfl, ?_⟩)
  refine Ex.for H (fun i : Nat => .int (0 + (i : Int) * 1)) (List.range ns.length) (fun p loc ls' => ls' = ls ∧ loc = [((Str.mk (Array.mk [115, 99, 114, 105, 112, 116])), ⟨.bor, intsL ns⟩), ((Str.mk (Array.mk [110, 117, 109, 98, 101, 114, 115])), ⟨.own, intsL (numsP ns p)⟩)]) rfl (by exact (Ev.blt H (Tp.blt TT rfl) rfl (Evs.cons rfl (Ev.blt H (Tp.blt TT rfl) rfl (Evs.cons rfl (Ev.nameB rfl rfl) Evs.nil) k1) Evs.nil) (.range1 _))) (iter_up ⟨by decide, by decide⟩ ⟨by omega, by omega⟩ (by omega) (by omega)) (fun h => nomatch h) (by exact (SubL.cons rfl (SubL.cons rfl SubL.nil))) ⟨rfl, rfl⟩ ?_ ?_
  · rintro p k q l ls1 e ⟨rfl, rfl⟩
    obtain ⟨rfl, hk⟩ := range_split e
    have h7 := numsP_len ns p
    have e2 : numsP ns (p ++ [p.length]) = (numsP ns p).set (p.length % 15) ((numsP ns p).getD (p.length % 15) 0 + ns.getD p.length 0) := by
      unfold numsP; rw [List.foldl_append]; rfl
    generalize numsP ns p = nums at *
    have hj : p.length % 15 < nums.length := by rw [h7]; exact Nat.mod_lt _ (by decide)
    rw [List.getD_eq_getElem?_getD, List.getD_eq_getElem?_getD, List.getElem?_eq_getElem hj, List.getElem?_eq_getElem hk] at e2
    have a1 := sub_ints (ns := ns) (i := 0 + (p.length : Int) * 1) (j := p.length) (by omega) hk (by omega)
    have a2 := sub_ints (ns := nums) (i := (0 + (p.length : Int) * 1) % 15) (j := p.length % 15) (by omega) hj (by omega)
    have hput : Put (intsL nums) (.int ((0 + (p.length : Int) * 1) % 15)) (.int (nums[p.length % 15] + ns[p.length])) (intsL (numsP ns (p ++ [p.length]))) := by
      show Put _ _ _ (.list _)
      rw [e2, List.map_set]
      have ei : (0 + (p.length : Int) * 1) % 15 = ((p.length % 15 : Nat) : Int) := by omega
      rw [ei]
      exact .list (by omega) (by rw [List.length_map]; omega) (by rw [List.length_map]; omega)
    exact ⟨_, .name rfl, Ex.step (E1.augS H rfl rfl rfl (by exact (Ev.bin H (Ev.nameF rfl rfl) Ev.int (.modI _ _ (by decide) (by decide)))) a2 (by exact (Ev.sub H (fun _ _ => rfl) (Ev.nameB rfl rfl) (Ev.nameF rfl rfl) a1)) (.addI _ _) hput ⟨rfl, Ex.nil (Go.next (by exact (SubL.cons rfl (SubL.cons rfl SubL.nil))) ⟨rfl, rfl⟩)⟩)⟩
  · rintro l ls1 ⟨rfl, rfl⟩
    exact Ex.ret H (by exact (Ev.nameF rfl rfl)) ⟨.inl rfl, rfl⟩
theorem sub_nm {i : Nat} {v : Int} (hv : v = i) (h : i < 6) : Sub (.str (S NM)) (.int v) (.str (S [NM[i]'h])) := by
  subst hv
  have : i = 0 ∨ i = 1 ∨ i = 2 ∨ i = 3 ∨ i = 4 ∨ i = 5 := by omega
  rcases this with rfl | rfl | rfl | rfl | rfl | rfl <;> exact .str ⟨by decide, by decide⟩ rfl rfl
theorem cl_word (p : Nat × Nat) (m : Nat) (h1 : p.1 < 6) (h2 : p.2 < 6) (hm : m < 16) : Cal c (n + 1) (Str.mk (Array.mk [95, 108, 97, 119, 95, 119, 111, 114, 100])) [(pairN p, true), (.int (m : Int), true)] ls (.str (S (if m % 2 = 0 then [NM[p.1]'h1, NM[p.2]'h2] else [NM[p.2]'h2, NM[p.1]'h1]))) ls := by
  obtain ⟨p1, p2⟩ := p
  refine ⟨_, TT.word, [((Str.mk (Array.mk [112, 97, 105, 114])), ⟨.fz, pairN (p1, p2)⟩), ((Str.mk (Array.mk [109, 97, 110, 110, 101, 114])), ⟨.fz, .int (m : Int)⟩)], rfl, ?_⟩
  have q0 := cl_names H TT n ls
  have n1 := sub_nm H TT (i := p1) rfl h1
  have n2 := sub_nm H TT (i := p2) rfl h2
  by_cases h : m % 2 = 0
  · rw [if_pos h]
    have s1 : Sub (pairN (p1, p2)) (.int ((m : Int) % 2)) (.int p1) := by rw [show (m : Int) % 2 = 0 by omega]; exact .tup ⟨by decide, by decide⟩ rfl rfl
    have s2 : Sub (pairN (p1, p2)) (.int (1 - (m : Int) % 2)) (.int p2) := by rw [show 1 - (m : Int) % 2 = 1 by omega]; exact .tup ⟨by decide, by decide⟩ rfl rfl
    have b1 := bin_s (x := [NM[p1]'h1]) (y := [NM[p2]'h2]) (z := [NM[p1]'h1, NM[p2]'h2]) rfl (Nat.le_of_ble_eq_true rfl)
    exact Ex.ret H (by exact (Ev.bin H (Ev.sub H (fun _ _ => rfl) (Ev.def2 H rfl Evs.nil q0) (Ev.sub H (fun _ _ => rfl) (Ev.nameF rfl rfl) (Ev.bin H (Ev.nameF rfl rfl) Ev.int (.modI _ _ (by decide) (by decide))) s1) n1) (Ev.sub H (fun _ _ => rfl) (Ev.def2 H rfl Evs.nil q0) (Ev.sub H (fun _ _ => rfl) (Ev.nameF rfl rfl) (Ev.bin H Ev.int (Ev.bin H (Ev.nameF rfl rfl) Ev.int (.modI _ _ (by decide) (by decide))) (.subI _ _)) s2) n2) b1)) ⟨.inl rfl, rfl⟩
  · rw [if_neg h]
    have s1 : Sub (pairN (p1, p2)) (.int ((m : Int) % 2)) (.int p2) := by rw [show (m : Int) % 2 = 1 by omega]; exact .tup ⟨by decide, by decide⟩ rfl rfl
    have s2 : Sub (pairN (p1, p2)) (.int (1 - (m : Int) % 2)) (.int p1) := by rw [show 1 - (m : Int) % 2 = 0 by omega]; exact .tup ⟨by decide, by decide⟩ rfl rfl
    have b1 := bin_s (x := [NM[p2]'h2]) (y := [NM[p1]'h1]) (z := [NM[p2]'h2, NM[p1]'h1]) rfl (Nat.le_of_ble_eq_true rfl)
    exact Ex.ret H (by exact (Ev.bin H (Ev.sub H (fun _ _ => rfl) (Ev.def2 H rfl Evs.nil q0) (Ev.sub H (fun _ _ => rfl) (Ev.nameF rfl rfl) (Ev.bin H (Ev.nameF rfl rfl) Ev.int (.modI _ _ (by decide) (by decide))) s1) n2) (Ev.sub H (fun _ _ => rfl) (Ev.def2 H rfl Evs.nil q0) (Ev.sub H (fun _ _ => rfl) (Ev.nameF rfl rfl) (Ev.bin H Ev.int (Ev.bin H (Ev.nameF rfl rfl) Ev.int (.modI _ _ (by decide) (by decide))) (.subI _ _)) s2) n1) b1)) ⟨.inl rfl, rfl⟩
theorem cl_written (a b m : Nat) (ha : a ∈ NM) (hb : b ∈ NM) (hm : m < 16) : Cal c n (Str.mk (Array.mk [95, 108, 97, 119, 95, 119, 114, 105, 116, 116, 101, 110])) [(.str (S [a, b]), true), (.int (m : Int), true)] ls (.str (S (wrT a b m ++ wrW m))) ls := by
  refine ⟨_, TT.written, [((Str.mk (Array.mk [119, 111, 114, 100])), ⟨.fz, .str (S [a, b])⟩), ((Str.mk (Array.mk [109, 97, 110, 110, 101, 114])), ⟨.fz, .int (m : Int)⟩)], rfl, ?_⟩
  have h4 : m / 4 = 0 ∨ m / 4 = 1 ∨ m / 4 = 2 ∨ m / 4 = 3 := by omega
  have e4 : (m : Int) / 4 = ((m / 4 : Nat) : Int) := by omega
  have w0 : Sub (.str (S [a, b])) (.int 0) (.str (S [a])) := .str ⟨by decide, by decide⟩ rfl rfl
  have w1 : Sub (.str (S [a, b])) (.int 1) (.str (S [b])) := .str ⟨by decide, by decide⟩ rfl rfl
  have la := esc_len a
  have lb := esc_len b
  by_cases h : m / 2 % 2 = 1
  · have e1 : (m : Int) / 2 % 2 = 1 := by omega
    refine Ex.cons (E1.ifK2 H e1 (by exact (Ev.bin H (Ev.bin H (Ev.nameF rfl rfl) Ev.int (.divI _ _ (by decide) (by decide))) Ev.int (.modI _ _ (by decide) (by decide)))) ?_)
    have r1 := rep1 a ha b hb
    have r2 := rep2 a ha b hb
    refine ExT.assign H rfl rfl (d := .str (S (escQ a ++ escQ b))) (ls1 := ls) ?ev ?_
    case ev =>
      have hl : (S (esc1 a ++ esc1 b)).length + ((S (esc1 a ++ esc1 b)).length + 1) * (S [92, 34]).length ≤ 16777216 := by
        show _ + _ * 2 ≤ _
        rw [s_len, List.length_append]
        omega
      rw [← r2]
      refine EvT.replace (u := S [34]) (q := S [92, 34]) H base_call rfl rfl hl ?_
      rw [← r1]
      exact EvT.replace H base_name rfl rfl (Nat.le_of_ble_eq_true rfl) (Ev.t (Ev.nameF rfl rfl))
    have s1 : Sub (.tup [.str (S []), .str (S [32]), .str (S [10]), .str (S [9])]) (.int ((m : Int) / 4)) (.str (S (sepAt (m / 4)))) := by
      rw [e4]
      rcases h4 with h4 | h4 | h4 | h4 <;> rw [h4] <;> exact .tup ⟨by decide, by decide⟩ rfl rfl
    have lw : (sepAt (m / 4)).length ≤ 1 := by rcases h4 with h4 | h4 | h4 | h4 <;> rw [h4] <;> decide
    have ew : wrT a b m ++ wrW m = 34 :: (escQ a ++ escQ b) ++ [34] ++ sepAt (m / 4) := by unfold wrT wrW; rw [if_pos h, if_pos h]
    rw [ew]
    have lP : (escQ a ++ escQ b).length ≤ 4 := by rw [List.length_append]; omega
    generalize escQ a ++ escQ b = P at *
    have b1 := bin_s (x := [34]) (y := P) rfl (by simp; omega)
    have b2 := bin_s (x := 34 :: P) (y := [34]) rfl (by simp; omega)
    have b3 := bin_s (x := (34 :: P) ++ [34]) (y := sepAt (m / 4)) rfl (by simp; omega)
    exact Ex.ret H (by exact (Ev.bin H (Ev.bin H (Ev.bin H Ev.str (Ev.nameF rfl rfl) b1) Ev.str b2) (Ev.sub H (fun _ _ => rfl) (Ev.tuple H (Evs.fzCons rfl Ev.str (Evs.fzCons rfl Ev.str (Evs.fzCons rfl Ev.str (Evs.fzCons rfl Ev.str Evs.fzNil)))) (Nat.le_of_ble_eq_true rfl)) (Ev.bin H (Ev.nameF rfl rfl) Ev.int (.divI _ _ (by decide) (by decide))) s1) b3)) (.inr ⟨(nomatch ·), .inl rfl, rfl⟩)
  · have t1 : Cmp .Eq (.int ((m : Int) / 2 % 2)) (.int 1) false := cmp_int (by simp; omega)
    refine Ex.step (E1.ifF H (by exact (Tr.cmp H rfl (Ev.bin H (Ev.bin H (Ev.nameF rfl rfl) Ev.int (.divI _ _ (by decide) (by decide))) Ev.int (.modI _ _ (by decide) (by decide))) Ev.int t1)) (Ex.nil ⟨rfl, ?_⟩))
    have t3 : Cmp .In (.str (S [b])) (.str (S [92, 32, 10])) (decide (b ∈ [92, 32, 10])) := .inS _ _
    refine Ex.step (E1.assign H rfl rfl (d := .bool (hid b m)) (ls' := ls) ?ev2 ⟨rfl, ?_⟩)
    case ev2 =>
      unfold hid
      by_cases q : m % 2 = 0
      · have t2 : Cmp .Eq (.int ((m : Int) % 2)) (.int 0) true := cmp_int (by simp; omega)
        rw [decide_eq_true q, Bool.true_or]
        exact Ev.orT (y := true) (by exact (Ev.cmp H rfl (Ev.bin H (Ev.nameF rfl rfl) Ev.int (.modI _ _ (by decide) (by decide))) Ev.int t2))
      · have t2 : Cmp .Eq (.int ((m : Int) % 2)) (.int 0) false := cmp_int (by simp; omega)
        rw [decide_eq_false q, Bool.false_or]
        exact Ev.orF (y := true) H (by exact (Ev.cmp H rfl (Ev.bin H (Ev.nameF rfl rfl) Ev.int (.modI _ _ (by decide) (by decide))) Ev.int t2)) (by exact (Ev.cmp H rfl (Ev.sub H (fun _ _ => rfl) (Ev.nameF rfl rfl) Ev.int w1) Ev.str t3))
    have s1 : Sub (.str (S [32, 9, 10, 13])) (.int ((m : Int) / 4)) (.str (S [wsAt (m / 4)])) := by
      rw [e4]
      rcases h4 with h4 | h4 | h4 | h4 <;> rw [h4] <;> exact .str ⟨by decide, by decide⟩ rfl rfl
    have ew : wrT a b m ++ wrW m = [92, a] ++ hidT (hid b m) ++ [b] ++ [wsAt (m / 4)] := by unfold wrT wrW; rw [if_neg h, if_neg h, List.append_nil]
    rw [ew]
    have vh : ∀ p1 p2 p3 p4, Ev c n rWritten.1.scope [((Str.mk (Array.mk [119, 111, 114, 100])), ⟨.fz, .str (S [a, b])⟩), ((Str.mk (Array.mk [109, 97, 110, 110, 101, 114])), ⟨.fz, .int (m : Int)⟩), ((Str.mk (Array.mk [104, 105, 100, 100, 101, 110])), ⟨.fz, .bool (hid b m)⟩)] ls (.IfExp (.Name (Str.mk (Array.mk [104, 105, 100, 100, 101, 110])) p1) (.Constant (.str (S [92])) 0 p2) (.Constant (.str (S [])) 0 p3) p4) (.str (S (hidT (hid b m)))) true ls := fun p1 p2 p3 p4 => by
      cases hid b m
      · exact Ev.ifF H (Tr.val H (fun _ _ => rfl) (Ev.nameF rfl rfl) (.bool _)) Ev.str
      · exact Ev.ifT H (Tr.val H (fun _ _ => rfl) (Ev.nameF rfl rfl) (.bool _)) Ev.str
    have lh : (hidT (hid b m)).length ≤ 1 := by cases hid b m <;> decide
    generalize hidT (hid b m) = P at *
    have b1 := bin_s (x := [92]) (y := [a]) (z := [92, a]) rfl (Nat.le_of_ble_eq_true rfl)
    have b2 := bin_s (x := [92, a]) (y := P) rfl (by simp; omega)
    have b3 := bin_s (x := [92, a] ++ P) (y := [b]) rfl (by simp; omega)
    have b4 := bin_s (x := [92, a] ++ P ++ [b]) (y := [wsAt (m / 4)]) rfl (by simp; omega)
    exact Ex.ret H (Ev.bin H (Ev.bin H (Ev.bin H (Ev.bin H Ev.str (by exact (Ev.sub H (fun _ _ => rfl) (Ev.nameF rfl rfl) Ev.int w0)) b1) (vh _ _ _ _) b2) (by exact (Ev.sub H (fun _ _ => rfl) (Ev.nameF rfl rfl) Ev.int w1)) b3) (by exact (Ev.sub H (fun _ _ => rfl) Ev.str (Ev.bin H (Ev.nameF rfl rfl) Ev.int (.divI _ _ (by decide) (by decide))) s1)) b4) ⟨.inl rfl, rfl⟩
end
noncomputable abbrev wsD (W : List (Nat × Nat)) : D := .list (W.map fun w => .str (S [w.1, w.2]))
noncomputable def bothW (W : List (Nat × Nat)) : List (Nat × Nat) := W.flatMap fun w => [(w.2, w.1), (w.1, w.2)]
noncomputable def bookT (W : List (Nat × Nat)) : Nat → Row := applyP 1 (fun _ => []) (bothW W)
theorem bookT_snoc (W : List (Nat × Nat)) (w : Nat × Nat) : bookT (W ++ [w]) = stepP 1 (stepP 1 (bookT W) (w.2, w.1)) (w.1, w.2) := by
  unfold bookT bothW applyP
  rw [flat_snoc, List.foldl_append]
  rfl
theorem both_len (W : List (Nat × Nat)) : (bothW W).length = 2 * W.length := by
  unfold bothW
  induction W with
  | nil => rfl
  | cons w W ih => rw [List.flatMap_cons, List.length_append, ih, List.length_cons]; simp; omega
theorem book_ok (W : List (Nat × Nat)) (a : Nat) : RowOK (2 * W.length) (bookT W a) := by
  have := applyP_ok (v := 1) (bothW W) (fun _ => []) 0 (fun _ => ⟨List.nodup_nil, Nat.zero_le _⟩) a
  rwa [both_len, Nat.zero_add] at this
noncomputable def tieStep (ps : List Str) (k : Nat) : List Str :=
  let p := PR.getD k (0, 0)
  let qs := ps.set p.1 (setS (ps.getD p.1 zeroS) p.2)
  qs.set p.2 (setS (qs.getD p.2 zeroS) p.1)
noncomputable def tiesF (drawn : List Nat) : List Str := drawn.foldl tieStep (List.replicate 6 zeroS)
theorem tiesF_snoc (p : List Nat) (k : Nat) : tiesF (p ++ [k]) = tieStep (tiesF p) k := by unfold tiesF; rw [List.foldl_append]; rfl
theorem setS_size (p : Str) (j : Nat) : (setS p j).cps.size = p.cps.size := by simp [setS]
theorem tiesF_ok (p : List Nat) : (tiesF p).length = 6 ∧ ∀ q ∈ tiesF p, q.cps.size = 6 := by
  have key : ∀ (p : List Nat) (ps : List Str), ps.length = 6 → (∀ q ∈ ps, q.cps.size = 6) → (p.foldl tieStep ps).length = 6 ∧ ∀ q ∈ p.foldl tieStep ps, q.cps.size = 6 := by
    intro p
    induction p with
    | nil => intro ps h1 h2; exact ⟨h1, h2⟩
    | cons k p ih =>
      intro ps h1 h2
      have hs : ∀ (ps : List Str) (i j : Nat), (∀ q ∈ ps, q.cps.size = 6) → ∀ q ∈ ps.set i (setS (ps.getD i zeroS) j), q.cps.size = 6 := fun ps i j h q hq => by
        rcases List.mem_or_eq_of_mem_set hq with hq | rfl
        · exact h q hq
        · rw [setS_size, List.getD_eq_getElem?_getD]
          cases e : ps[i]? with
          | none => rfl
          | some q => exact h q (List.mem_of_getElem? e)
      exact ih _ (by simp [tieStep, h1]) (hs _ _ _ (hs _ _ _ h2))
  exact key p _ (by simp) fun q hq => by rw [List.eq_of_mem_replicate hq]; rfl
theorem emT_step {c : Cx} {n : Nat} {sc : Scope} {ls : LS} {l1 : Loc} {acc acc' : Nat} (hl : acc ≤ 1000) (ha : acc' = acc + 1) : ∀ loc1, SubL l1 loc1 → ∃ loc2, CRest c n sc EmT [] loc1 ls acc loc2 acc' ls ∧ SubL l1 loc2 := fun loc1 h => ⟨loc1, ⟨hl, rfl, ha, rfl⟩, h⟩
theorem pr_lt : ∀ k, k < 15 → (PR.getD k (0, 0)).1 < 6 ∧ (PR.getD k (0, 0)).2 < 6 := by decide
theorem sub_pairs {k : Nat} {v : Int} (hv : v = k) (h : k < 15) : Sub pairsD (.int v) (pairN (PR.getD k (0, 0))) := by
  refine sub_list hv (by omega) ?_
  rw [List.getElem?_map, List.getD_eq_getElem?_getD, List.getElem?_eq_getElem (by exact h)]
  rfl
theorem sub_rows {i : Nat} (h : i < 6) : Sub (.list rows6) (.int i) (.row i) := by
  have : i = 0 ∨ i = 1 ∨ i = 2 ∨ i = 3 ∨ i = 4 ∨ i = 5 := by omega
  rcases this with rfl | rfl | rfl | rfl | rfl | rfl <;> exact .list (by decide) (by decide) rfl
section
variable {c : Cx} (H : Hy c) (TT : Tp c) (n : Nat) (ls : LS)
include H TT
theorem cl_book (W : List (Nat × Nat)) (hl : W.length ≤ 15) (hw : ∀ w ∈ W, w.1 ∈ NM ∧ w.2 ∈ NM) : Cal c (n + 1) (Str.mk (Array.mk [95, 108, 97, 119, 95, 98, 111, 111, 107])) [(wsD W, true)] ls (.dict (tbL NM (bookT W))) ls := by
  refine ⟨_, TT.book, [((Str.mk (Array.mk [119, 111, 114, 100, 115])), ⟨.fz, wsD W⟩)], rfl, ?_⟩
  have q0 := cl_names H TT n ls
  refine Ex.step (E1.newD0 H true rfl ⟨rfl, ?_⟩)
  refine Ex.for H (fun c : Nat => .str (S [c])) NM (fun s loc ls' => ls' = ls ∧ loc = [((Str.mk (Array.mk [119, 111, 114, 100, 115])), ⟨.fz, wsD W⟩), ((Str.mk (Array.mk [110, 101, 97, 114])), ⟨.own, .dict (tbL s (fun _ => []))⟩)]) rfl (by exact (Ev.def2 H rfl Evs.nil q0)) (iter_str (x := NM) (by decide)) (fun h => nomatch h) (by exact (SubL.cons rfl (SubL.cons rfl SubL.nil))) ⟨rfl, rfl⟩ ?_ ?_
  · rintro p x q l ls1 e ⟨rfl, rfl⟩
    have hx : x ∉ p := by
      have : NM.Nodup := by decide
      rw [e, List.nodup_append] at this
      exact fun h => this.2.2 _ h _ (List.mem_cons_self ..) rfl
    have hp : p.length ≤ 6 := by have := congrArg List.length e; simp [NM] at this; omega
    have hput : Put (.dict (tbL p (fun _ => []))) (.str (S [x])) (.dict []) (.dict (tbL (p ++ [x]) (fun _ => []))) := by
      have : putD (tbL p (fun _ => [])) (S [x]) (.dict []) = tbL (p ++ [x]) (fun _ => []) := by
        unfold putD
        rw [if_neg]
        · simp [tbL, toD, rowL]
        · intro h
          obtain ⟨y, hy, e⟩ := List.any_eq_true.mp h
          unfold tbL at hy
          obtain ⟨c, hc, rfl⟩ := List.mem_map.mp hy
          simp only [s_one, decide_eq_true_eq] at e
          exact hx (e ▸ hc)
      rw [← this]
      exact .dict (by rw [tbL_len]; omega)
    refine ⟨_, .name rfl, Ex.step (E1.put H rfl rfl rfl (by exact (Ev.dict0 H)) (by exact (Ev.nameF rfl rfl)) hput ⟨rfl, Ex.nil (Go.next (by exact (SubL.cons rfl (SubL.cons rfl SubL.nil))) ⟨rfl, rfl⟩)⟩)⟩
  · rintro l ls1 ⟨rfl, rfl⟩
    refine Ex.for H (fun w : Nat × Nat => .str (S [w.1, w.2])) W (fun s loc ls' => ls' = ls1 ∧ loc = [((Str.mk (Array.mk [110, 101, 97, 114])), ⟨.own, .dict (tbL NM (bookT s))⟩)]) rfl (by exact (Ev.nameF rfl rfl)) (.list (by rw [List.length_map]; omega)) (fun h => nomatch h) (by exact (SubL.cons rfl SubL.nil)) ⟨rfl, rfl⟩ ?_ ?_
    · rintro p w q l ls2 e ⟨rfl, rfl⟩
      obtain ⟨a, b⟩ := w
      have hp : p.length ≤ 14 := by have := congrArg List.length e; simp at this; omega
      obtain ⟨ma, mb⟩ := hw (a, b) (by rw [e]; simp)
      have ok := book_ok p
      rw [bookT_snoc]
      generalize bookT p = t at *
      have w0 : Sub (.str (S [a, b])) (.int 0) (.str (S [a])) := .str ⟨by decide, by decide⟩ rfl rfl
      have w1 : Sub (.str (S [a, b])) (.int 1) (.str (S [b])) := .str ⟨by decide, by decide⟩ rfl rfl
      have ad1 := cl_add H TT n ls2 _ b 1 (ok a).1 (Nat.le_trans (ok a).2 (by omega))
      have l1 := lookD_tb (t := t) ma
      have put1 : Put (.dict (tbL NM t)) (.str (S [a])) (toD (addC (t a) b 1)) (.dict (tbL NM (stepP 1 t (b, a)))) := by
        unfold stepP
        rw [← putD_tb ma]
        exact .dict (by rw [tbL_len]; decide)
      refine ⟨_, .name rfl, Ex.step (E1.put H rfl rfl rfl (by exact (Ev.def2 H rfl (Evs.cons rfl (Ev.sub H (fun _ _ => rfl) (Ev.nameO rfl rfl) (Ev.sub H (fun _ _ => rfl) (Ev.nameF rfl rfl) Ev.int w0) (.dict l1)) (Evs.cons rfl (Ev.dict1 H (Ev.sub H (fun _ _ => rfl) (Ev.nameF rfl rfl) Ev.int w1) Ev.int) Evs.nil)) ad1)) (by exact (Ev.sub H (fun _ _ => rfl) (Ev.nameF rfl rfl) Ev.int w0)) put1 ⟨rfl, ?_⟩)⟩
      have ok2 : RowOK 29 (stepP 1 t (b, a) b) := by
        unfold stepP updR
        split
        · exact ((ok a).add b 1).mono (by omega)
        · exact (ok b).mono (by omega)
      generalize stepP 1 t (b, a) = t2 at *
      have ad2 := cl_add H TT n ls2 _ a 1 ok2.1 (Nat.le_trans ok2.2 (by omega))
      have l2 := lookD_tb (t := t2) mb
      have put2 : Put (.dict (tbL NM t2)) (.str (S [b])) (toD (addC (t2 b) a 1)) (.dict (tbL NM (stepP 1 t2 (a, b)))) := by
        unfold stepP
        rw [← putD_tb mb]
        exact .dict (by rw [tbL_len]; decide)
      exact Ex.step (E1.put H rfl rfl rfl (by exact (Ev.def2 H rfl (Evs.cons rfl (Ev.sub H (fun _ _ => rfl) (Ev.nameO rfl rfl) (Ev.sub H (fun _ _ => rfl) (Ev.nameF rfl rfl) Ev.int w1) (.dict l2)) (Evs.cons rfl (Ev.dict1 H (Ev.sub H (fun _ _ => rfl) (Ev.nameF rfl rfl) Ev.int w0) Ev.int) Evs.nil)) ad2)) (by exact (Ev.sub H (fun _ _ => rfl) (Ev.nameF rfl rfl) Ev.int w1)) put2 ⟨rfl, Ex.nil (Go.next (by exact (SubL.cons rfl SubL.nil)) ⟨rfl, rfl⟩)⟩)
    · rintro l ls2 ⟨rfl, rfl⟩
      exact Ex.ret H (by exact (Ev.nameF rfl rfl)) ⟨.inl rfl, rfl⟩
end
noncomputable abbrev natsL (l : List Nat) : D := .list (l.map fun k : Nat => .int (k : Int))
theorem all_fz {loc : Loc} (h : (loc.all fun p => decide (p.2.k = .fz)) = true) (y : Str) (lv : LV) (e : loc.lookup y = some lv) : lv.k = .fz := of_decide_eq_true (List.all_eq_true.mp h (y, lv) (mem_of_lookup e))
theorem cl_ties {c : Cx} (H : Hy c) (T0 : Tp (cN c)) (n : Nat) (drawn : List Nat) (hd : ∀ k ∈ drawn, k < 15) (hl : drawn.length ≤ 15) : Cl (cN c) (n + 1) rTies.1 [(natsL drawn, true)] none (.list ((tiesF drawn).map rowD)) none := by
  refine ⟨[((Str.mk (Array.mk [100, 114, 97, 119, 110])), ⟨.fz, natsL drawn⟩)], rfl, ?_⟩
  have HN := hy_N H
  have q0 := cl_pairs HN T0 n none
  refine Ex.step (E1.assign HN rfl rfl (by exact (Ev.def2 HN rfl Evs.nil q0)) ⟨rfl, ?_⟩)
  refine Ex.ties (lE := lT (tiesF drawn)) H (all_fz rfl) rfl ?_ (tiesF_ok drawn).1 ⟨.inl rfl, rfl⟩ fun x ho h6 => ?_
  · refine CompG.step (fun i : Nat => .int (0 + (i : Int) * 1)) (List.range 6) [] List.length rfl rfl rfl rfl rfl (fun _ h => nomatch h) (by exact (Ev.blt HN (Tp.blt T0 rfl) rfl (Evs.cons rfl Ev.int Evs.nil) (.range1 _))) (fun h => nomatch h) (iter_up ⟨by decide, by decide⟩ ⟨by decide, by decide⟩ rfl (by decide)) .nil ?_
    intro p k r e
    obtain ⟨rfl, hk⟩ := range_split e
    exact Step1.pass (.name rfl) .nil .nil (emT_step (by omega) (by simp))
  · have HT := hy_T H x
    refine Ex.for HT (fun k : Nat => .int (k : Int)) drawn (fun p loc ls' => ls' = some (lT (tiesF p)) ∧ loc = [((Str.mk (Array.mk [112, 97, 105, 114, 115])), ⟨.fz, pairsD⟩), ((Str.mk (Array.mk [116, 105, 101, 100])), ⟨.fz, .list rows6⟩)]) rfl (.nameF rfl rfl) (Iter.list (l := drawn.map fun k : Nat => D.int (k : Int)) (by rw [List.length_map]; omega)) (fun h => nomatch h) (SubL.cons rfl (SubL.cons rfl .nil)) ⟨rfl, rfl⟩ ?_ ?_
    · rintro p k q l ls1 e ⟨rfl, rfl⟩
      have hk : k < 15 := hd k (by rw [e]; simp)
      obtain ⟨h1, h2⟩ := pr_lt k hk
      have s1 := sub_pairs (k := k) rfl hk
      obtain ⟨t1, t2⟩ := tiesF_ok p
      have e1 : tiesF (p ++ [k]) = tieStep (tiesF p) k := tiesF_snoc p k
      unfold tieStep at e1
      rw [e1]
      generalize tiesF p = ps at *
      generalize PR.getD k (0, 0) = ij at *
      obtain ⟨i, j⟩ := ij
      dsimp only at h1 h2 ⊢
      have r1 := sub_rows h1
      have r2 := sub_rows h2
      have p1 : ps[i]? = some (ps.getD i zeroS) := by rw [List.getD_eq_getElem?_getD, List.getElem?_eq_getElem (by omega)]; rfl
      have z1 : (ps.getD i zeroS).cps.size = 6 := t2 _ (List.mem_of_getElem? p1)
      generalize hq : ps.set i (setS (ps.getD i zeroS) j) = qs
      have hl2 : qs.length = 6 := by rw [← hq, List.length_set]; exact t1
      have p2 : qs[j]? = some (qs.getD j zeroS) := by rw [List.getD_eq_getElem?_getD, List.getElem?_eq_getElem (by omega)]; rfl
      have z2 : (qs.getD j zeroS).cps.size = 6 := by
        have m := List.mem_of_getElem? p2
        rw [← hq] at m
        rcases List.mem_or_eq_of_mem_set m with m | m
        · exact t2 _ (hq ▸ m)
        · rw [hq] at m; rw [m, setS_size]; exact z1
      refine ⟨_, .name rfl, Ex.step (E1.tuple HT rfl (fun env => swapped_none (fun _ _ _ => nofun)) (.sub HT (fun _ _ => rfl) (.nameF rfl rfl) (.nameF rfl rfl) s1) (.cons rfl (.cons rfl .nil)) ⟨rfl, ?_⟩)⟩
      refine Ex.step (E1.rowPut (l := lT ps) (p := ps.getD i zeroS) HT (.sub HT (fun _ _ => rfl) (.nameF rfl rfl) (.nameF rfl rfl) r1) (.nameF rfl rfl) p1 (by omega) ⟨rfl, ?_⟩)
      change Ex _ _ _ _ (some (lT (ps.set i (setS (ps.getD i zeroS) j)))) _ _
      rw [hq]
      refine Ex.step (E1.rowPut (l := lT qs) (p := qs.getD j zeroS) HT (.sub HT (fun _ _ => rfl) (.nameF rfl rfl) (.nameF rfl rfl) r2) (.nameF rfl rfl) p2 (by omega) ⟨rfl, ?_⟩)
      exact Ex.nil (Go.next (by exact (SubL.cons rfl (SubL.cons rfl SubL.nil))) ⟨rfl, rfl⟩)
    · rintro l ls2 ⟨rfl, rfl⟩
      exact Ex.ret HT (.nameF rfl rfl) ⟨rfl, rfl⟩
noncomputable def b2i (b : Bool) : Int := if b then 1 else 0
noncomputable def rowB (w : List Int) (bs : List Bool) : List Int := (List.range bs.length).map fun m => w.getD (bs.length - 1 - m) 0 * b2i (bs.getD (bs.length - 1 - m) false)
noncomputable abbrev rowTD (w : List Int) (bs : List Bool) : D := .tup ((rowB w bs).map .int)
noncomputable def cmpB : List Bool → List Bool → Int
  | x :: u, y :: v => if x = y then cmpB u v else if x then -1 else 1
  | _, _ => 0
theorem cmpB_app (p : List Bool) (x y : Bool) (u v : List Bool) (h : x ≠ y) : cmpB (p ++ x :: u) (p ++ y :: v) = if x then -1 else 1 := by
  induction p with
  | nil => simp [cmpB, h]
  | cons z p ih => simpa [cmpB] using ih
theorem cmpB_self : ∀ u : List Bool, cmpB u u = 0
  | [] => rfl
  | x :: u => by simp [cmpB, cmpB_self u]
noncomputable def ordL (w : List Int) (m : Nat) : List (Str × D) := [((Str.mk (Array.mk [99, 111, 109, 112, 95, 115, 101, 108, 101, 99, 116, 95, 108, 105, 115, 116])), .list ((List.range m).map fun i : Nat => .tup [.int ((m : Int) - 1 - (0 + (i : Int) * 1)), .int (-(w.getD i 0))]))]
theorem rowB_len (w : List Int) (bs : List Bool) : (rowB w bs).length = bs.length := by simp [rowB]
theorem rowB_at (w : List Int) (bs : List Bool) (i : Nat) (h : i < bs.length) : (rowB w bs)[bs.length - 1 - i]? = some (w.getD i 0 * b2i bs[i]) := by
  unfold rowB
  rw [List.getElem?_map, List.getElem?_range (by omega)]
  show some (w.getD (bs.length - 1 - (bs.length - 1 - i)) 0 * b2i (bs.getD (bs.length - 1 - (bs.length - 1 - i)) false)) = _
  rw [show bs.length - 1 - (bs.length - 1 - i) = i by omega, List.getD_eq_getElem?_getD (l := bs), List.getElem?_eq_getElem h]
  rfl
theorem sub_row (w : List Int) (bs : List Bool) (i : Nat) {m : Nat} (hm : bs.length = m) (h : i < bs.length) (hl : bs.length ≤ 6) : Sub (rowTD w bs) (.int ((m : Int) - 1 - (0 + (i : Int) * 1))) (.int (w.getD i 0 * b2i bs[i])) := by
  subst hm
  have hj : bs.length - 1 - i < (rowB w bs).length := by rw [rowB_len]; omega
  have := sub_tup (ns := rowB w bs) (i := (bs.length : Int) - 1 - (0 + (i : Int) * 1)) (j := bs.length - 1 - i) (by omega) hj (by rw [rowB_len]; omega)
  rwa [Option.some.inj ((List.getElem?_eq_getElem hj).symm.trans (rowB_at w bs i h))] at this
theorem iter_down {a : Int} {k : Nat} (ha : small a) (hk : a + 1 = (k : Int)) (h : k ≤ 1000) : Iter (.range a (-1) (-1)) ((List.range k).map fun i : Nat => .int (a + (i : Int) * (-1))) := by
  have := Iter.down (a := a) (b := -1) ha ⟨by decide, by decide⟩ (by omega)
  rwa [show (a - -1).toNat = k by omega] at this
theorem row_get (r : Row) (a : Nat) {b : Bool} : Meth (toD r) b (Str.mk (Array.mk [103, 101, 116])) [(.str (S [a]), true), (.int 0, true)] (.int (valR r a)) := by
  have := Meth.get (b := b) (b' := true) (rowL r) (S [a]) (.int 0)
  rw [lookD_row] at this
  unfold valR
  cases e : r.lookup a <;> rw [e] at this <;> exact this
section
variable {c : Cx} (H : Hy c) (TT : Tp c) (n : Nat) (ls : LS)
include H TT
theorem cl_row (r : Row) (tk : List Nat) (w : List Int) (g : Nat → Bool) (hw : ∀ x ∈ w, x = 1 ∨ x = -1) (hl : tk.length ≤ w.length) (h6 : w.length ≤ 6) (hg : ∀ a ∈ tk, valR r a = b2i (g a)) : Cal c n (Str.mk (Array.mk [95, 108, 97, 119, 95, 114, 111, 119])) [(toD r, true), (wordsD tk, false), (intsL w, true)] ls (rowTD w (tk.map g)) ls := by
  refine ⟨_, TT.row, [((Str.mk (Array.mk [99, 97, 108, 108, 101, 114, 115])), ⟨.fz, toD r⟩), ((Str.mk (Array.mk [116, 97, 107, 101, 110])), ⟨.bor, wordsD tk⟩), ((Str.mk (Array.mk [119, 97, 121, 115])), ⟨.fz, intsL w⟩)], rfl, ?_⟩
  have k0 : Blt (Str.mk (Array.mk [108, 101, 110])) [(wordsD tk, false)] (.int (tk.length : Nat)) := by
    have := Blt.lenL (b := false) (tk.map fun c => D.str (S [c])) (by rw [List.length_map]; omega)
    rwa [List.length_map] at this
  have k1 : Blt (Str.mk (Array.mk [114, 97, 110, 103, 101])) [(.int ((tk.length : Nat) - 1), true), (.int (-1), true), (.int (-1), true)] (.range ((tk.length : Nat) - 1) (-1) (-1)) := .range3 _ _
  have k2 : Blt (Str.mk (Array.mk [116, 117, 112, 108, 101])) [(.list ((rowB w (tk.map g)).map .int), true)] (rowTD w (tk.map g)) := .tuple _ (by rw [List.length_map, rowB_len, List.length_map]; omega)
  refine Ex.ret H (Ev.blt H (TT.blt rfl) rfl (Evs.cons rfl (Ev.listComp H (r := (rowB w (tk.map g)).map .int) (ls' := ls) ?c) .nil) k2) ⟨.inl rfl, rfl⟩
  have fin : ((List.range tk.length).map fun m : Nat => D.int (w.getD (tk.length - 1 - m) 0 * b2i (g (tk.getD (tk.length - 1 - m) 0)))) = (rowB w (tk.map g)).map .int := by
    unfold rowB
    rw [List.map_map, List.length_map]
    refine List.map_congr_left fun m hm => ?_
    have hm : m < tk.length := by simpa using hm
    show D.int _ = D.int (w.getD (tk.length - 1 - m) 0 * b2i ((tk.map g).getD (tk.length - 1 - m) false))
    rw [List.getD_eq_getElem?_getD (l := tk), List.getD_eq_getElem?_getD (l := tk.map g), List.getElem?_map, List.getElem?_eq_getElem (show tk.length - 1 - m < tk.length by omega)]
    rfl
  refine CompG.step (fun i : Nat => .int (((tk.length : Nat) : Int) - 1 + (i : Int) * (-1))) (List.range tk.length) [((Str.mk (Array.mk [99, 97, 108, 108, 101, 114, 115])), ⟨.fz, toD r⟩), ((Str.mk (Array.mk [116, 97, 107, 101, 110])), ⟨.bor, wordsD tk⟩), ((Str.mk (Array.mk [119, 97, 121, 115])), ⟨.fz, intsL w⟩)] (fun q => q.map fun m : Nat => D.int (w.getD (tk.length - 1 - m) 0 * b2i (g (tk.getD (tk.length - 1 - m) 0)))) rfl fin rfl rfl rfl (fun _ h => nomatch h) (d := .range ((tk.length : Nat) - 1) (-1) (-1)) (b := true) (Ev.blt H (TT.blt rfl) rfl (Evs.cons rfl (Ev.bin H (Ev.blt H (TT.blt rfl) rfl (Evs.cons rfl (.nameB rfl rfl) .nil) k0) .int (.subI _ _)) (Evs.cons rfl (Ev.neg H .int) (Evs.cons rfl (Ev.neg H .int) .nil))) k1) (fun h => nomatch h) (iter_down ⟨by omega, by omega⟩ (by omega) (by omega)) ?_ ?_
  · exact SubL.cons rfl (SubL.cons rfl (SubL.cons rfl .nil))
  intro p m q e
  obtain ⟨rfl, hm⟩ := range_split e
  generalize hk : tk.length - 1 - p.length = k
  have e1 : ((tk.length : Nat) : Int) - 1 + (p.length : Int) * (-1) = (k : Int) := by omega
  rw [e1]
  have hkl : k < tk.length := by omega
  have s1 := sub_ints (ns := w) (i := (k : Int)) (j := k) rfl (by omega) (by omega)
  have s2 : Sub (wordsD tk) (.int (k : Int)) (.str (S [tk[k]])) := sub_list rfl (by omega) (by rw [List.getElem?_map, List.getElem?_eq_getElem hkl]; rfl)
  have m1 := row_get (b := true) r tk[k]
  rw [hg _ (List.getElem_mem hkl)] at m1
  have wk : w.getD k 0 = w[k] := by rw [List.getD_eq_getElem?_getD, List.getElem?_eq_getElem (by omega)]; rfl
  have tkk : tk.getD k 0 = tk[k] := by rw [List.getD_eq_getElem?_getD, List.getElem?_eq_getElem hkl]; rfl
  have sm : small w[k] := by rcases hw w[k] (List.getElem_mem _) with h | h <;> rw [h] <;> exact ⟨by decide, by decide⟩
  have fin2 : (p ++ [p.length]).map (fun m : Nat => D.int (w.getD (tk.length - 1 - m) 0 * b2i (g (tk.getD (tk.length - 1 - m) 0)))) = (p.map fun m : Nat => D.int (w.getD (tk.length - 1 - m) 0 * b2i (g (tk.getD (tk.length - 1 - m) 0)))) ++ [.int (w[k] * b2i (g tk[k]))] := by
    rw [List.map_append]
    show _ ++ [D.int _] = _
    rw [hk, wk, tkk]
  refine Step1.pass (.name rfl) (SubL.cons rfl (SubL.cons rfl (SubL.cons rfl .nil))) .nil (emL_step (l1 := [((Str.mk (Array.mk [99, 97, 108, 108, 101, 114, 115])), ⟨.fz, toD r⟩), ((Str.mk (Array.mk [116, 97, 107, 101, 110])), ⟨.bor, wordsD tk⟩), ((Str.mk (Array.mk [119, 97, 121, 115])), ⟨.fz, intsL w⟩), ((Str.mk (Array.mk [107])), ⟨.fz, .int (k : Int)⟩)]) (Ev.bin H (.sub H (fun _ _ => rfl) (.nameF rfl rfl) (.nameF rfl rfl) s1) (Ev.meth H base_name rfl (by decide) (.nameF rfl rfl) (Evs.cons rfl (.sub H (fun _ _ => rfl) (.nameB rfl rfl) (.nameF rfl rfl) s2) (Evs.cons rfl .int .nil)) m1) (.mulI _ _ sm)) (by rw [List.length_map]; omega) fin2)
end
theorem cmpB_neg : ∀ u v : List Bool, cmpB v u = -cmpB u v
  | [], v => by cases v <;> rfl
  | x :: u, [] => rfl
  | x :: u, y :: v => by
    unfold cmpB
    by_cases h : x = y
    · rw [if_pos h, if_pos h.symm]; exact cmpB_neg u v
    · rw [if_neg h, if_neg (Ne.symm h)]
      cases x <;> cases y <;> first | exact absurd rfl h | rfl
theorem cmpB_range : ∀ u v : List Bool, cmpB u v = -1 ∨ cmpB u v = 1 ∨ cmpB u v = 0
  | [], v => .inr (.inr rfl)
  | x :: u, [] => .inr (.inr rfl)
  | x :: u, y :: v => by
    unfold cmpB
    split
    · exact cmpB_range u v
    · cases x
      · exact .inr (.inl rfl)
      · exact .inl rfl
theorem cmpB_zero : ∀ u v : List Bool, u.length = v.length → cmpB u v = 0 → u = v
  | [], [], _, _ => rfl
  | x :: u, y :: v, h, e => by
    unfold cmpB at e
    split at e
    · rename_i q
      rw [q, cmpB_zero u v (by simpa using h) e]
    · cases x <;> cases e
theorem rowB_inj {w : List Int} {u v : List Bool} (hw : ∀ x ∈ w, x = 1 ∨ x = -1) (hl : u.length ≤ w.length) (huv : u.length = v.length) (e : rowB w u = rowB w v) : u = v := by
  refine List.ext_getElem huv fun i h1 h2 => ?_
  have a := rowB_at w u i h1
  have b := rowB_at w v i h2
  rw [e, huv, b] at a
  have a := Option.some.inj a
  have wi : w.getD i 0 = w[i] := by rw [List.getD_eq_getElem?_getD, List.getElem?_eq_getElem (by omega)]; rfl
  rw [wi] at a
  rcases hw w[i] (List.getElem_mem _) with q | q <;> rw [q] at a <;> cases hu : u[i] <;> cases hv : v[i] <;> rw [hu, hv] at a <;> simp [b2i] at a ⊢
theorem eqs_ints : ∀ a b : List Int, a.length = b.length → Eqs (a.map .int) (b.map .int) (a == b)
  | [], [], _ => .nil
  | x :: a, y :: b, h => .cons (Eqf.int x y) (eqs_ints a b (by simpa using h))
theorem same_false {a b : Bool} (h : a = b) : Cmp .NotEq (.bool a) (.bool b) false := by
  subst h
  have := Cmp.ne (.low (.flat (Eqf.bool a a)))
  rwa [beq_self_eq_true] at this
theorem cmp_val {x y : Bool} {wi C : Int} (sm : wi = 1 ∨ wi = -1) (q : x ≠ y) (tc : C = if x then -1 else 1) : (wi * b2i x < wi * b2i y → C = -(-wi)) ∧ (¬ wi * b2i x < wi * b2i y → wi * b2i x > wi * b2i y ∧ C = -wi) := by
  subst tc
  rcases sm with rfl | rfl <;> cases x <;> cases y <;> first | exact absurd rfl q | exact ⟨by decide, by decide⟩
section
variable {c : Cx} (H : Hy c) (TT : Tp c) (n : Nat) (ls : LS)
include H TT
theorem cl_cmp (w : List Int) (u v : List Bool) (hw : ∀ x ∈ w, x = 1 ∨ x = -1) (hl : u.length ≤ w.length) (h6 : w.length ≤ 6) (huv : u.length = v.length) :
    Cl c n rCompare.1 [(.inst 38 (ordL w u.length), true), (rowTD w u, true), (rowTD w v, true)] ls (.int (cmpB u v)) ls := by
  refine ⟨[((Str.mk (Array.mk [115, 101, 108, 102])), ⟨.fz, .inst 38 (ordL w u.length)⟩), ((Str.mk (Array.mk [108, 101, 102, 116])), ⟨.fz, rowTD w u⟩), ((Str.mk (Array.mk [114, 105, 103, 104, 116])), ⟨.fz, rowTD w v⟩)], rfl, ?_⟩
  refine Ex.for H (fun i : Nat => .tup [.int ((u.length : Int) - 1 - (0 + (i : Int) * 1)), .int (-(w.getD i 0))]) (List.range u.length) (fun p loc ls' => u.take p.length = v.take p.length ∧ ls' = ls ∧ loc = [((Str.mk (Array.mk [108, 101, 102, 116])), ⟨.fz, rowTD w u⟩), ((Str.mk (Array.mk [114, 105, 103, 104, 116])), ⟨.fz, rowTD w v⟩)]) rfl (by exact (Ev.att H (Tp.att TT) (Ev.nameF rfl rfl) rfl)) (.list (by rw [List.length_map, List.length_range]; omega)) (fun _ => rfl) (by exact (SubL.cons rfl (SubL.cons rfl SubL.nil))) ⟨rfl, rfl, rfl⟩ ?_ ?_
  · rintro p k r l ls1 e ⟨hpl, rfl, rfl⟩
    obtain ⟨rfl, hk⟩ := range_split e
    have a1 := sub_row w u p.length rfl hk (by omega)
    have a2 := sub_row w v p.length huv.symm (by omega) (by omega)
    have sm : w.getD p.length 0 = 1 ∨ w.getD p.length 0 = -1 := by
      rw [List.getD_eq_getElem?_getD, List.getElem?_eq_getElem (by omega)]
      exact hw _ (List.getElem_mem _)
    have eu : u = u.take p.length ++ u[p.length] :: u.drop (p.length + 1) := by rw [← List.drop_eq_getElem_cons, List.take_append_drop]
    have ev : v = v.take p.length ++ v[p.length] :: v.drop (p.length + 1) := by rw [← List.drop_eq_getElem_cons, List.take_append_drop]
    have t3 : u.take (p ++ [p.length]).length = v.take (p ++ [p.length]).length ∨ u[p.length] ≠ v[p.length] := by
      by_cases q : u[p.length] = v[p.length]
      · left
        rw [List.length_append, List.length_singleton, List.take_add_one, List.take_add_one, hpl, List.getElem?_eq_getElem hk, List.getElem?_eq_getElem (huv ▸ hk), q]
      · exact .inr q
    have tc : u[p.length] ≠ v[p.length] → cmpB u v = if u[p.length] then -1 else 1 := fun q => by
      have := cmpB_app (u.take p.length) u[p.length] v[p.length] (u.drop (p.length + 1)) (v.drop (p.length + 1)) q
      rw [← eu] at this
      rw [hpl, ← ev] at this
      exact this
    generalize cmpB u v = C at *
    generalize rowTD w u = U at *
    generalize rowTD w v = V at *
    generalize u[p.length] = x at *
    generalize v[p.length] = y at *
    generalize w.getD p.length 0 = wi at *
    refine ⟨_, .two rfl rfl, Ex.step (E1.assign H rfl rfl (by exact (Ev.sub H (fun _ _ => rfl) (Ev.nameF rfl rfl) (Ev.nameF rfl rfl) a1)) ⟨rfl, Ex.step (E1.assign H rfl rfl (by exact (Ev.sub H (fun _ _ => rfl) (Ev.nameF rfl rfl) (Ev.nameF rfl rfl) a2)) ⟨rfl, ?_⟩)⟩)⟩
    have tl := Cmp.lt (wi * b2i x) (wi * b2i y)
    have tg := Cmp.gt (wi * b2i x) (wi * b2i y)
    by_cases q : x = y
    · subst q
      rw [decide_eq_false (by omega)] at tl tg
      have t3 := t3.resolve_right (fun h => h rfl)
      exact Ex.step (E1.ifF H (by exact (Tr.cmp H rfl (Ev.nameF rfl rfl) (Ev.nameF rfl rfl) tl)) (Ex.nil ⟨rfl, Ex.step (E1.ifF H (by exact (Tr.cmp H rfl (Ev.nameF rfl rfl) (Ev.nameF rfl rfl) tg)) (Ex.nil ⟨rfl, Ex.nil (Go.next (by exact (SubL.cons rfl (SubL.cons rfl SubL.nil))) ⟨t3, rfl, rfl⟩)⟩))⟩))
    · obtain ⟨v1, v2⟩ := cmp_val sm q (tc q)
      by_cases q2 : wi * b2i x < wi * b2i y
      · rw [decide_eq_true q2] at tl
        rw [v1 q2]
        exact Ex.cons (E1.ifT H (by exact (Tr.cmp H rfl (Ev.nameF rfl rfl) (Ev.nameF rfl rfl) tl)) (Ex.ret H (Ev.neg H (.nameF rfl rfl)) (.inr ⟨(nomatch ·), Go.ret ⟨.inl rfl, rfl⟩⟩)))
      · obtain ⟨q3, e3⟩ := v2 q2
        rw [decide_eq_false q2] at tl
        rw [decide_eq_true q3] at tg
        rw [e3]
        exact Ex.step (E1.ifF H (by exact (Tr.cmp H rfl (Ev.nameF rfl rfl) (Ev.nameF rfl rfl) tl)) (Ex.nil ⟨rfl, Ex.cons (E1.ifT H (by exact (Tr.cmp H rfl (Ev.nameF rfl rfl) (Ev.nameF rfl rfl) tg)) (Ex.ret H (.nameF rfl rfl) (.inr ⟨(nomatch ·), Go.ret ⟨.inl rfl, rfl⟩⟩)))⟩))
  · rintro l ls1 ⟨hpl, rfl, rfl⟩
    rw [List.length_range, List.take_length, List.take_of_length_le (by omega)] at hpl
    rw [← hpl, cmpB_self]
    exact Ex.ret H (by exact Ev.int) ⟨.inl rfl, rfl⟩
end
noncomputable def selS (g : Nat → List Bool) (s : Nat × List Nat) (o : Nat) : Nat × List Nat := if cmpB (g o) (g s.1) = -1 then (o, s.2 ++ [s.1]) else (s.1, s.2 ++ [o])
noncomputable def lab (t : Nat → Nat → Bool) (tk : List Nat) (x : Nat) : List Bool := tk.map (t x)
noncomputable def rnd (t : Nat → Nat → Bool) (s : List Nat × List Nat) : List Nat × List Nat := match s.2 with
  | [] => s
  | f :: os => (s.1 ++ [(os.foldl (selS (lab t s.1)) (f, [])).1], (os.foldl (selS (lab t s.1)) (f, [])).2)
noncomputable def rnds (t : Nat → Nat → Bool) (Q : List Nat) : Nat → List Nat × List Nat
  | 0 => ([], Q)
  | n + 1 => rnd t (rnds t Q n)
theorem selS_perm (g : Nat → List Bool) : ∀ (os : List Nat) (s : Nat × List Nat), ((os.foldl (selS g) s).1 :: (os.foldl (selS g) s).2).Perm (s.1 :: (s.2 ++ os))
  | [], s => by rw [List.append_nil]; exact .refl _
  | o :: os, s => by
    refine (selS_perm g os (selS g s o)).trans ?_
    unfold selS
    split
    · rw [List.append_assoc]
      refine ((List.perm_middle (a := s.1)).cons o).trans (.trans (.swap ..) ?_)
      exact (List.perm_middle.symm).cons _
    · rw [List.append_assoc]; exact .refl _
theorem rnd_perm (t : Nat → Nat → Bool) (s : List Nat × List Nat) : ((rnd t s).1 ++ (rnd t s).2).Perm (s.1 ++ s.2) := by
  obtain ⟨tk, Q⟩ := s
  cases Q with
  | nil => exact .refl _
  | cons f os =>
    show ((tk ++ [_]) ++ _).Perm _
    rw [List.append_assoc]
    exact (selS_perm _ os (f, [])).append_left tk
theorem rnds_perm (t : Nat → Nat → Bool) (Q : List Nat) : ∀ n, ((rnds t Q n).1 ++ (rnds t Q n).2).Perm Q
  | 0 => .refl _
  | n + 1 => (rnd_perm t _).trans (rnds_perm t Q n)
theorem rnds_len (t : Nat → Nat → Bool) (Q : List Nat) : ∀ n, n ≤ Q.length → (rnds t Q n).1.length = n
  | 0, _ => rfl
  | n + 1, h => by
    have ih := rnds_len t Q n (Nat.le_of_succ_le h)
    have hp := (rnds_perm t Q n).length_eq
    rw [List.length_append, ih] at hp
    show (rnd t (rnds t Q n)).1.length = _
    generalize rnds t Q n = s at *
    obtain ⟨tk, R⟩ := s
    cases R with
    | nil => simp at hp; omega
    | cons f os => show (tk ++ [_]).length = _; rw [List.length_append, ih]; rfl
theorem eqs_tupB {w : List Int} {u v : List Bool} (huv : u.length = v.length) : Cmp .Eq (rowTD w u) (rowTD w v) (rowB w u == rowB w v) := .eq (.low (.tup (eqs_ints _ _ (by rw [rowB_len, rowB_len]; exact huv))))
theorem same_rows {w : List Int} {u v : List Bool} (hw : ∀ x ∈ w, x = 1 ∨ x = -1) (hl : u.length ≤ w.length) (huv : u.length = v.length) : (cmpB u v == 0) = (rowB w u == rowB w v) := by
  rw [Bool.eq_iff_iff, beq_iff_eq, beq_iff_eq]
  constructor
  · intro h; rw [cmpB_zero u v huv h]
  · intro h; rw [rowB_inj hw hl huv h, cmpB_self]
noncomputable abbrev okP : List (Int × Int) := [(-1, 1), (1, -1), (0, 0)]
theorem ok_pair (u v : List Bool) : (!decide ((cmpB u v, cmpB v u) ∈ okP)) = false := by
  rw [cmpB_neg u v]
  rcases cmpB_range u v with h | h | h <;> rw [h] <;> rfl
theorem Tr.notInP {c : Cx} {n : Nat} {sc : Scope} {loc : Loc} {ls ls1 ls2 : LS} {l r : Expr} {pos : Pos} {t : Bool} (H : Hy c) {q : Int × Int} {L : List (Int × Int)} (h0 : (!decide (q ∈ L)) = t) (hset : isSet r = false) (h1 : Ev c n sc loc ls l (pairI q) true ls1) (h2 : Ev c n sc loc ls1 r (.tup (L.map pairI)) true ls2) : Tr c n sc loc ls (.Compare l [.NotIn] [r] pos) t ls2 :=
  h0 ▸ Ev.notInP H hset h1 h2
noncomputable abbrev S1 (x : Nat) : Str := S [x]
section
variable {c : Cx} (H : Hy c) (TT : Tp c) (TL : Tl c) (n : Nat)
include H TT TL
set_option maxHeartbeats 2000000 in
theorem cl_taken {nr : Nat → Row} {t : Nat → Nat → Bool} {w : List Int} {l0 : LX} {Q : List Nat} (hw : ∀ x ∈ w, x = 1 ∨ x = -1) (w6 : w.length = 6) (hv : ∀ x ∈ NM, ∀ a ∈ NM, valR (nr x) a = b2i (t x a)) (hQ : Q.length = 6) (hm : ∀ x ∈ Q, x ∈ NM) :
    Cal c (n + 50) (Str.mk (Array.mk [95, 108, 97, 119, 95, 116, 97, 107, 101, 110])) [(.lex, true), (.dict (tbL NM nr), true), (intsL w, true)] (some { l0 with pb := Q.map S1 }) (wordsD (rnds t Q 6).1) (some { l0 with pb := [] }) := by
  refine ⟨_, TT.taken, [((Str.mk (Array.mk [108, 101, 120])), ⟨.fz, .lex⟩), ((Str.mk (Array.mk [110, 101, 97, 114])), ⟨.fz, .dict (tbL NM nr)⟩), ((Str.mk (Array.mk [119, 97, 121, 115])), ⟨.fz, intsL w⟩)], rfl, ?_⟩
  refine Ex.step (E1.newL H true rfl (ds := []) (by exact Evs.fzNil) (by decide) ⟨rfl, ?_⟩)
  have k3 : Blt (Str.mk (Array.mk [114, 97, 110, 103, 101])) [(.int 5, true), (.int (-1), true), (.int (-1), true)] (.range 5 (-1) (-1)) := .range3 _ _
  refine Ex.for H (fun i : Nat => .int (5 + (i : Int) * (-1))) (List.range 6) (fun p loc ls' => ls' = some { l0 with pb := (rnds t Q p.length).2.map S1 } ∧ loc = [((Str.mk (Array.mk [108, 101, 120])), ⟨.fz, .lex⟩), ((Str.mk (Array.mk [110, 101, 97, 114])), ⟨.fz, .dict (tbL NM nr)⟩), ((Str.mk (Array.mk [119, 97, 121, 115])), ⟨.fz, intsL w⟩), ((Str.mk (Array.mk [116, 97, 107, 101, 110])), ⟨.own, wordsD (rnds t Q p.length).1⟩)]) rfl (Ev.blt H (TT.blt rfl) rfl (Evs.cons rfl .int (Evs.cons rfl (Ev.neg H .int) (Evs.cons rfl (Ev.neg H .int) .nil))) k3) (iter_down ⟨by decide, by decide⟩ rfl (by decide)) (fun h => nomatch h) (by exact (SubL.cons rfl (SubL.cons rfl (SubL.cons rfl (SubL.cons rfl SubL.nil))))) ⟨rfl, rfl⟩ ?_ ?_
  · rintro p x q l ls1 e ⟨rfl, rfl⟩
    obtain ⟨rfl, hx⟩ := range_split e
    have hl := rnds_len t Q p.length (by omega)
    have hp := rnds_perm t Q p.length
    have e1 : rnds t Q (p ++ [p.length]).length = rnd t (rnds t Q p.length) := by rw [List.length_append]; rfl
    rw [e1]
    generalize rnds t Q p.length = s at *
    obtain ⟨tk, R⟩ := s
    dsimp only at hl hp ⊢
    have hpl := hp.length_eq
    rw [List.length_append, hl, hQ] at hpl
    have hN : ∀ x ∈ tk ++ R, x ∈ NM := fun x h => hm x (hp.mem_iff.mp h)
    cases R with
    | nil => simp at hpl; omega
    | cons f os =>
      generalize hm' : p.length = m at *
      subst hl
      have ho : os.length + tk.length = 5 := by simp at hpl; omega
      have hR : ∀ (x : Nat) (pb : List Nat), x ∈ NM → pb.length < 900000 → GetT c { l0 with pb := (x :: pb).map S1 } (S1 x) { l0 with pb := pb.map S1 } := fun x pb hx hl => TL.fget { l0 with pb := (x :: pb).map S1 } (S1 x) (pb.map S1) rfl (by rw [List.length_map]; exact hl)
      have hro : ∀ x ∈ NM, ∀ ls, Cal c (n + 49) (Str.mk (Array.mk [95, 108, 97, 119, 95, 114, 111, 119])) [(toD (nr x), true), (wordsD tk, false), (intsL w, true)] ls (rowTD w (lab t tk x)) ls := fun x hx ls => cl_row H TT (n + 49) ls (nr x) tk w (t x) hw (by omega) (by omega) fun a ha => hv x hx a (hN a (List.mem_append_left _ ha))
      have hnr : ∀ x ∈ NM, lookD (S [x]) (tbL NM nr) = some (toD (nr x)) := fun x hx => lookD_tb hx
      have ll : ∀ x, (lab t tk x).length = tk.length := fun x => by simp [lab]
      have k0 : Blt (Str.mk (Array.mk [108, 101, 110])) [(wordsD tk, false)] (.int (tk.length : Nat)) := by
        have := Blt.lenL (b := false) (tk.map fun c => D.str (S [c])) (by rw [List.length_map]; omega)
        rwa [List.length_map] at this
      have hcm : ∀ u v : List Bool, u.length = tk.length → v.length = tk.length → ∀ ls, Cl c (n + 49) rCompare.1 [(.inst 38 (ordL w tk.length), true), (rowTD w u, true), (rowTD w v, true)] ls (.int (cmpB u v)) ls := fun u v hu hv ls => by
        have := cl_cmp H TT (n + 49) ls w u v hw (by omega) (by omega) (hu.trans hv.symm)
        rwa [hu] at this
      have fN : f ∈ NM := hN f (by simp)
      have g0 := hR f os fN (by omega)
      have r0 := hro f fN
      have n0 := hnr f fN
      refine ⟨_, .name rfl, Ex.step (E1.assign H rfl rfl (d := .inst 38 (ordL w tk.length)) (ls' := some { l0 with pb := (f :: os).map S1 }) (Ev.cls H TT.cls (Nat.le_add_left 2 (n + 48)) rfl (.fzCons rfl (Ev.listComp H ?cc) .fzNil)) ⟨rfl, ?_⟩)⟩
      case cc =>
        refine CompG.step (fun i : Nat => .int (0 + (i : Int) * 1)) (List.range tk.length) [((Str.mk (Array.mk [116, 97, 107, 101, 110])), ⟨.bor, wordsD tk⟩), ((Str.mk (Array.mk [119, 97, 121, 115])), ⟨.fz, intsL w⟩)] (fun q => q.map fun i : Nat => D.tup [.int ((tk.length : Int) - 1 - (0 + (i : Int) * 1)), .int (-(w.getD i 0))]) rfl rfl rfl rfl rfl (fun _ h => nomatch h) (by exact (Ev.blt H (Tp.blt TT rfl) rfl (Evs.cons rfl (Ev.blt H (Tp.blt TT rfl) rfl (Evs.cons rfl (Ev.nameO rfl rfl) Evs.nil) k0) Evs.nil) (.range1 _))) (fun h => nomatch h) (iter_up ⟨by decide, by decide⟩ ⟨by omega, by omega⟩ (by omega) (by omega)) (by exact (SubL.cons rfl (SubL.cons rfl SubL.nil))) ?_
        intro p0 k r0' e0
        obtain ⟨rfl, hk⟩ := range_split e0
        have s1 := sub_ints (ns := w) (i := 0 + (p0.length : Int) * 1) (j := p0.length) (by omega) (by omega) (by omega)
        have wk : w.getD p0.length 0 = w[p0.length] := by rw [List.getD_eq_getElem?_getD, List.getElem?_eq_getElem (by omega)]; rfl
        exact Step1.pass (.name rfl) (by exact (SubL.cons rfl (SubL.cons rfl SubL.nil))) .nil (emL_step (by exact (Ev.tuple H (Evs.fzCons rfl (Ev.bin H (Ev.bin H (Ev.blt H (Tp.blt TT rfl) rfl (Evs.cons rfl (Ev.nameB rfl rfl) Evs.nil) k0) Ev.int (.subI _ _)) (Ev.nameF rfl rfl) (.subI _ _)) (Evs.fzCons rfl (Ev.neg H (Ev.sub H (fun _ _ => rfl) (Ev.nameF rfl rfl) (Ev.nameF rfl rfl) s1)) Evs.fzNil)) (Nat.le_of_ble_eq_true rfl))) (by rw [List.length_map]; omega) (by rw [List.map_append, ← wk]; rfl))
      refine Ex.step (E1.assign H rfl rfl (Ev.get H TL (by omega) rfl rfl rfl g0) ⟨rfl, ?_⟩)
      refine Ex.step (E1.assign H rfl rfl (by have r0 := r0 (some { l0 with pb := os.map S1 }); exact (Ev.def2 H rfl (Evs.cons rfl (Ev.sub H (fun _ _ => rfl) (Ev.nameF rfl rfl) (Ev.nameF rfl rfl) (.dict n0)) (Evs.cons rfl (Ev.nameO rfl rfl) (Evs.cons rfl (Ev.nameF rfl rfl) Evs.nil))) r0)) ⟨rfl, ?_⟩)
      have el : 5 + (tk.length : Int) * -1 = ((os.length : Nat) : Int) := by omega
      rw [el]
      refine Ex.for H (fun i : Nat => .int (0 + (i : Int) * 1)) (List.range os.length) (fun r loc ls' => ls' = some { l0 with pb := (os.drop r.length ++ ((os.take r.length).foldl (selS (lab t tk)) (f, [])).2).map S1 } ∧ loc = [((Str.mk (Array.mk [108, 101, 120])), ⟨.fz, .lex⟩), ((Str.mk (Array.mk [110, 101, 97, 114])), ⟨.fz, .dict (tbL NM nr)⟩), ((Str.mk (Array.mk [119, 97, 121, 115])), ⟨.fz, intsL w⟩), ((Str.mk (Array.mk [116, 97, 107, 101, 110])), ⟨.own, wordsD tk⟩), ((Str.mk (Array.mk [111, 114, 100, 101, 114])), ⟨.fz, .inst 38 (ordL w tk.length)⟩), ((Str.mk (Array.mk [102, 105, 114, 115, 116])), ⟨.fz, .str (S [((os.take r.length).foldl (selS (lab t tk)) (f, [])).1])⟩), ((Str.mk (Array.mk [114, 111, 119])), ⟨.fz, rowTD w (lab t tk ((os.take r.length).foldl (selS (lab t tk)) (f, [])).1)⟩)]) rfl (by exact (Ev.blt H (Tp.blt TT rfl) rfl (Evs.cons rfl (Ev.nameF rfl rfl) Evs.nil) (.range1 _))) (iter_up ⟨by decide, by decide⟩ ⟨by omega, by omega⟩ (by omega) (by omega)) (fun h => nomatch h) (by exact (SubL.cons rfl (SubL.cons rfl (SubL.cons rfl (SubL.cons rfl (SubL.cons rfl (SubL.cons rfl (SubL.cons rfl SubL.nil)))))))) ⟨by simp, rfl⟩ ?_ ?_
      · rintro r y q2 l ls2 e2 ⟨rfl, rfl⟩
        obtain ⟨rfl, hy⟩ := range_split e2
        have ed : os.drop r.length = os[r.length] :: os.drop (r.length + 1) := List.drop_eq_getElem_cons hy
        have et : os.take (r ++ [r.length]).length = os.take r.length ++ [os[r.length]] := by rw [List.length_append, List.length_singleton, List.take_add_one, List.getElem?_eq_getElem hy]; rfl
        have oN : os[r.length] ∈ NM := hN _ (List.mem_append_right _ (List.mem_cons_of_mem _ (List.getElem_mem hy)))
        have er : (r ++ [r.length]).length = r.length + 1 := by simp
        have hsp := (selS_perm (lab t tk) (os.take r.length) (f, [])).length_eq
        rw [et, List.foldl_append, er, ed]
        have hlt : (os.drop (r.length + 1)).length ≤ 5 := by rw [List.length_drop]; omega
        generalize os.drop (r.length + 1) = od at *
        generalize os[r.length] = o at *
        have hst2 : ((os.take r.length).foldl (selS (lab t tk)) (f, [])).2.length ≤ 5 := by simp at hsp; omega
        generalize (os.take r.length).foldl (selS (lab t tk)) (f, []) = st at *
        obtain ⟨st1, st2⟩ := st
        dsimp only at hst2 ⊢
        have g1 := hR o (od ++ st2) oN (by rw [List.length_append]; omega)
        have r1 := hro o oN (some { l0 with pb := (od ++ st2).map S1 })
        have n1 := hnr o oN
        refine ⟨_, .name rfl, Ex.step (E1.assign H rfl rfl (Ev.get H TL (by omega) rfl rfl rfl g1) ⟨rfl, ?_⟩)⟩
        refine Ex.step (E1.assign H rfl rfl (by exact (Ev.def2 H rfl (Evs.cons rfl (Ev.sub H (fun _ _ => rfl) (Ev.nameF rfl rfl) (Ev.nameF rfl rfl) (.dict n1)) (Evs.cons rfl (Ev.nameO rfl rfl) (Evs.cons rfl (Ev.nameF rfl rfl) Evs.nil))) r1)) ⟨rfl, ?_⟩)
        have lu := ll o
        have lv := ll st1
        have hso : selS (lab t tk) (st1, st2) o = if cmpB (lab t tk o) (lab t tk st1) = -1 then (o, st2 ++ [st1]) else (st1, st2 ++ [o]) := rfl
        show Ex c _ _ _ _ _ (Go (fun loc ls' => ls' = some { l0 with pb := (od ++ (selS (lab t tk) (st1, st2) o).2).map S1 } ∧ loc = [((Str.mk (Array.mk [108, 101, 120])), ⟨.fz, .lex⟩), ((Str.mk (Array.mk [110, 101, 97, 114])), ⟨.fz, .dict (tbL NM nr)⟩), ((Str.mk (Array.mk [119, 97, 121, 115])), ⟨.fz, intsL w⟩), ((Str.mk (Array.mk [116, 97, 107, 101, 110])), ⟨.own, wordsD tk⟩), ((Str.mk (Array.mk [111, 114, 100, 101, 114])), ⟨.fz, .inst 38 (ordL w tk.length)⟩), ((Str.mk (Array.mk [102, 105, 114, 115, 116])), ⟨.fz, .str (S [(selS (lab t tk) (st1, st2) o).1])⟩), ((Str.mk (Array.mk [114, 111, 119])), ⟨.fz, rowTD w (lab t tk (selS (lab t tk) (st1, st2) o).1)⟩)]) _)
        have c1 := hcm _ _ lu lv (some { l0 with pb := (od ++ st2).map S1 })
        have c2 := hcm _ _ lv lu (some { l0 with pb := (od ++ st2).map S1 })
        refine Ex.step (E1.assign H rfl rfl (Ev.own H TT.cmp base_name rfl (Nat.le_of_ble_eq_true rfl) (by exact (Ev.nameF rfl rfl)) rfl (by exact (Evs.cons rfl (Ev.nameF rfl rfl) (Evs.cons rfl (Ev.nameF rfl rfl) Evs.nil))) c1) ⟨rfl, ?_⟩)
        have t1 : Cmp .Eq (.int (cmpB (lab t tk o) (lab t tk st1))) (.int 0) (cmpB (lab t tk o) (lab t tk st1) == 0) := cmp_int rfl
        have t2 := eqs_tupB (w := w) (lu.trans lv.symm)
        have t3 := same_false (same_rows (w := w) hw (by omega) (lu.trans lv.symm))
        have t4 := ok_pair (lab t tk o) (lab t tk st1)
        refine Ex.step (E1.ifF H (Tr.boolop (.orF H (Tr.notInP (L := okP) (q := (cmpB (lab t tk o) (lab t tk st1), cmpB (lab t tk st1) (lab t tk o))) H t4 rfl (Ev.tuple H (ds := [.int _, .int _]) (.fzCons rfl (.nameF rfl rfl) (.fzCons rfl (Ev.own H TT.cmp base_name rfl (Nat.le_of_ble_eq_true rfl) (by exact (Ev.nameF rfl rfl)) rfl (by exact (Evs.cons rfl (Ev.nameF rfl rfl) (Evs.cons rfl (Ev.nameF rfl rfl) Evs.nil))) c2) .fzNil)) (Nat.le_of_ble_eq_true rfl)) (Ev.tuple H (ds := [.tup [.int (-1), .int 1], .tup [.int 1, .int (-1)], .tup [.int 0, .int 0]]) (by exact (Evs.fzCons rfl (Ev.tuple H (Evs.fzCons rfl (Ev.neg H Ev.int) (Evs.fzCons rfl Ev.int Evs.fzNil)) (Nat.le_of_ble_eq_true rfl)) (Evs.fzCons rfl (Ev.tuple H (Evs.fzCons rfl Ev.int (Evs.fzCons rfl (Ev.neg H Ev.int) Evs.fzNil)) (Nat.le_of_ble_eq_true rfl)) (Evs.fzCons rfl (Ev.tuple H (Evs.fzCons rfl Ev.int (Evs.fzCons rfl Ev.int Evs.fzNil)) (Nat.le_of_ble_eq_true rfl)) Evs.fzNil)))) (by decide))) (.orF H (by exact (Tr.cmp H rfl (Ev.cmp H rfl (Ev.nameF rfl rfl) Ev.int t1) (Ev.cmp H rfl (Ev.nameF rfl rfl) (Ev.nameF rfl rfl) t2) t3)) .nil))) (Ex.nil ⟨rfl, ?_⟩))
        clear t1 t2 t3 t4 c1 c2 r1 g1
        have hpz : ((od ++ st2).map S1).length < 1000000 := by rw [List.length_map, List.length_append]; omega
        by_cases hc : cmpB (lab t tk o) (lab t tk st1) = -1
        · rw [if_pos hc] at hso
          have t6 : Cmp .Eq (.int (cmpB (lab t tk o) (lab t tk st1))) (.int (-1)) true := cmp_int (by rw [hc]; rfl)
          rw [hso]
          generalize cmpB (lab t tk o) (lab t tk st1) = C at *
          refine Ex.step (E1.ifT H (Tr.cmp H rfl (.nameF rfl rfl) (Ev.neg H .int) t6) (Ex.step (E1.triple H (by decide) (by decide) (by decide) rfl rfl rfl rfl (Ev.tuple H (ds := [.str (S [o]), rowTD w (lab t tk o), .str (S [st1])]) (by exact (Evs.fzCons rfl (Ev.nameF rfl rfl) (Evs.fzCons rfl (Ev.nameF rfl rfl) (Evs.fzCons rfl (Ev.nameF rfl rfl) Evs.fzNil)))) (Nat.le_of_ble_eq_true rfl)) ⟨rfl, Ex.nil ⟨rfl, ?_⟩⟩)))
          exact Ex.step (E1.expr H (Ev.push H TL (by omega) rfl rfl rfl rfl (.nameF rfl rfl) hpz) ⟨rfl, Ex.nil (Go.next (by exact (SubL.cons rfl (SubL.cons rfl (SubL.cons rfl (SubL.cons rfl (SubL.cons rfl (SubL.cons rfl (SubL.cons rfl SubL.nil)))))))) ⟨by simp, rfl⟩)⟩)
        · rw [if_neg hc] at hso
          have t6 : Cmp .Eq (.int (cmpB (lab t tk o) (lab t tk st1))) (.int (-1)) false := cmp_int (beq_false_of_ne hc)
          rw [hso]
          generalize cmpB (lab t tk o) (lab t tk st1) = C at *
          refine Ex.step (E1.ifF H (Tr.cmp H rfl (.nameF rfl rfl) (Ev.neg H .int) t6) (Ex.nil ⟨rfl, ?_⟩))
          exact Ex.step (E1.expr H (Ev.push H TL (by omega) rfl rfl rfl rfl (.nameF rfl rfl) hpz) ⟨rfl, Ex.nil (Go.next (by exact (SubL.cons rfl (SubL.cons rfl (SubL.cons rfl (SubL.cons rfl (SubL.cons rfl (SubL.cons rfl (SubL.cons rfl SubL.nil)))))))) ⟨by simp, rfl⟩)⟩)
      · rintro l ls2 ⟨rfl, rfl⟩
        rw [List.length_range, List.take_length, List.drop_length, List.nil_append]
        have er : rnd t (tk, f :: os) = (tk ++ [(os.foldl (selS (lab t tk)) (f, [])).1], (os.foldl (selS (lab t tk)) (f, [])).2) := rfl
        rw [er]
        have hap : App (Str.mk (Array.mk [97, 112, 112, 101, 110, 100])) (tk.map fun x => .str (S [x])) (.str (S [(os.foldl (selS (lab t tk)) (f, [])).1])) ((tk ++ [(os.foldl (selS (lab t tk)) (f, [])).1]).map fun x => .str (S [x])) := by
          rw [List.map_append]; exact .append (by rw [List.length_map]; omega)
        exact Ex.step (E1.app H rfl rfl rfl (by decide) (.fzCons rfl (.nameF rfl rfl) .fzNil) hap ⟨rfl, Ex.nil (Go.next (by exact (SubL.cons rfl (SubL.cons rfl (SubL.cons rfl (SubL.cons rfl SubL.nil))))) ⟨rfl, rfl⟩)⟩)
  · rintro l ls1 ⟨rfl, rfl⟩
    rw [List.length_range]
    have e0 : (rnds t Q 6).2 = [] := by
      have h1 := rnds_len t Q 6 (by omega)
      have h2 := (rnds_perm t Q 6).length_eq
      rw [List.length_append, h1, hQ] at h2
      exact List.eq_nil_of_length_eq_zero (by omega)
    rw [e0]
    exact Ex.ret H (.nameF rfl rfl) ⟨.inl rfl, rfl⟩
end
noncomputable abbrev rowTD6 (T : Nat → Nat → Bool) (i : Nat) : D := .list ((List.range 6).map fun j => .bool (T i j))
noncomputable abbrev tiesD (T : Nat → Nat → Bool) : D := .list ((List.range 6).map fun i => rowTD6 T i)
theorem iter_n {b : Int} {k : Nat} (hb : b = (k : Int)) (h : k ≤ 1000000) : Iter (.range 0 b 1) ((List.range k).map fun i : Nat => D.int (i : Int)) := by
  have := iter_up (a := 0) (b := b) (k := k) ⟨by decide, by decide⟩ ⟨by omega, by omega⟩ (by omega) h
  simpa using this
theorem sub_tiesR (T : Nat → Nat → Bool) {i : Nat} (h : i < 6) : Sub (tiesD T) (.int (i : Int)) (rowTD6 T i) := sub_list rfl (by omega) (by rw [List.getElem?_map, List.getElem?_range h]; rfl)
theorem sub_tiesC (T : Nat → Nat → Bool) (i : Nat) {j : Nat} (h : j < 6) : Sub (rowTD6 T i) (.int (j : Int)) (.bool (T i j)) := sub_list rfl (by omega) (by rw [List.getElem?_map, List.getElem?_range h]; rfl)
theorem sub_nats {O : List Nat} {i : Nat} (h : i < O.length) (hl : O.length ≤ 1000) : Sub (natsL O) (.int (i : Int)) (.int ((O.getD i 0 : Nat) : Int)) :=
  sub_list rfl (by omega) (by rw [List.getElem?_map, List.getD_eq_getElem?_getD, List.getElem?_eq_getElem h]; rfl)
section
variable {c : Cx} {n : Nat} {sc : Scope} {loc : Loc} {ls : LS} {A B : Expr} {x y : Bool} {p pos : Pos}
theorem Tr.andNot {t : Bool} (H : Hy c) (ht : (x && !y) = t) (h1 : Tr c n sc loc ls A x ls) (h2 : Tr c n sc loc ls B y ls) : Tr c n sc loc ls (.BoolOp .And [A, .UnaryOp .Not B p] pos) t ls := by
  subst ht
  cases x with
  | false => exact Tr.boolop (.andF h1)
  | true => cases y with
    | false => exact Tr.boolop (.andT H h1 (.andT H (Tr.not (t := false) h2) .nil))
    | true => exact Tr.boolop (.andT H h1 (.andF (Tr.not (t := true) h2)))
theorem Tr.sub {v i : Expr} {a b : D} {q r : Bool} (H : Hy c) (hi : SubsOK i) (h1 : Ev c n sc loc ls v a q ls) (h2 : Ev c n sc loc ls i b r ls) (h : Sub a b (.bool x)) : Tr c n sc loc ls (.Subscript v i pos) x ls :=
  .val H (fun _ _ => rfl) (.sub H hi h1 h2 h) (.bool _)
end
theorem list_nil {l : List D} (h : l ≠ []) : Cmp .Eq (.list l) (.list []) false := .eq (.low (.lens (by simpa using h)))
def Four (T : Nat → Nat → Bool) (O : List Nat) : Prop := ∀ a b c, a < b → b < c → c < 6 → T (O.getD a 0) (O.getD c 0) = true → T (O.getD a 0) (O.getD b 0) = false → ∃ d, d < a ∧ T (O.getD d 0) (O.getD b 0) = true ∧ T (O.getD d 0) (O.getD c 0) = false
section
variable {c : Cx} (H : Hy c) (TT : Tp c) (n : Nat) (ls : LS)
include H TT
theorem cl_four (T : Nat → Nat → Bool) (O : List Nat) (h6 : O.length = 6) (hO : ∀ i ∈ O, i < 6) (h4 : Four T O) : Cal c n (Str.mk (Array.mk [95, 108, 97, 119, 95, 98, 121, 95, 102, 111, 117, 114, 95, 112, 111, 105, 110, 116, 115])) [(tiesD T, true), (natsL O, true)] ls (.bool true) ls := by
  refine ⟨_, TT.four, [((Str.mk (Array.mk [116, 105, 101, 100])), ⟨.fz, tiesD T⟩), ((Str.mk (Array.mk [111, 114, 100, 101, 114])), ⟨.fz, natsL O⟩)], rfl, ?_⟩
  have s0 : ∀ {i : Nat}, i < 6 → Sub (natsL O) (.int (i : Int)) (.int ((O.getD i 0 : Nat) : Int)) := fun h => sub_nats (by omega) (by omega)
  have o6 : ∀ i, i < 6 → O.getD i 0 < 6 := fun i h => by
    rw [List.getD_eq_getElem?_getD, List.getElem?_eq_getElem (by omega)]
    exact hO _ (List.getElem_mem _)
  have s1 : ∀ {i : Nat}, i < 6 → Sub (tiesD T) (.int ((O.getD i 0 : Nat) : Int)) (rowTD6 T (O.getD i 0)) := fun h => sub_tiesR T (o6 _ h)
  have s2 : ∀ {i j : Nat}, i < 6 → j < 6 → Sub (rowTD6 T (O.getD i 0)) (.int ((O.getD j 0 : Nat) : Int)) (.bool (T (O.getD i 0) (O.getD j 0))) := fun _ h => sub_tiesC T _ (o6 _ h)
  refine Ex.for H (fun i : Nat => .int (i : Int)) (List.range 6) (fun p loc ls' => ls' = ls ∧ loc = [((Str.mk (Array.mk [116, 105, 101, 100])), ⟨.fz, tiesD T⟩), ((Str.mk (Array.mk [111, 114, 100, 101, 114])), ⟨.fz, natsL O⟩)]) rfl (by exact (Ev.blt H (Tp.blt TT rfl) rfl (Evs.cons rfl Ev.int Evs.nil) (.range1 _))) (iter_n rfl (by decide)) (fun h => nomatch h) SubL.refl ⟨rfl, rfl⟩ ?_ ?_
  · rintro p c' r l ls1 e ⟨rfl, rfl⟩
    obtain ⟨rfl, hc⟩ := range_split e
    generalize p.length = cc at *
    refine ⟨_, .name rfl, ?_⟩
    refine Ex.for H (fun i : Nat => .int (i : Int)) (List.range cc) (fun p loc ls' => ls' = ls1 ∧ loc = [((Str.mk (Array.mk [116, 105, 101, 100])), ⟨.fz, tiesD T⟩), ((Str.mk (Array.mk [111, 114, 100, 101, 114])), ⟨.fz, natsL O⟩), ((Str.mk (Array.mk [99])), ⟨.fz, .int (cc : Int)⟩)]) rfl (by exact (Ev.blt H (Tp.blt TT rfl) rfl (Evs.cons rfl (Ev.nameF rfl rfl) Evs.nil) (.range1 _))) (iter_n rfl (by omega)) (fun h => nomatch h) SubL.refl ⟨rfl, rfl⟩ ?_ ?_
    · rintro p2 b' r2 l2 ls2 e2 ⟨rfl, rfl⟩
      obtain ⟨rfl, hb⟩ := range_split e2
      generalize p2.length = bb at *
      refine ⟨_, .name rfl, ?_⟩
      refine Ex.for H (fun i : Nat => .int (i : Int)) (List.range bb) (fun p loc ls' => ls' = ls2 ∧ loc = [((Str.mk (Array.mk [116, 105, 101, 100])), ⟨.fz, tiesD T⟩), ((Str.mk (Array.mk [111, 114, 100, 101, 114])), ⟨.fz, natsL O⟩), ((Str.mk (Array.mk [99])), ⟨.fz, .int (cc : Int)⟩), ((Str.mk (Array.mk [98])), ⟨.fz, .int (bb : Int)⟩)]) rfl (by exact (Ev.blt H (Tp.blt TT rfl) rfl (Evs.cons rfl (Ev.nameF rfl rfl) Evs.nil) (.range1 _))) (iter_n rfl (by omega)) (fun h => nomatch h) SubL.refl ⟨rfl, rfl⟩ ?_ ?_
      · rintro p3 a' r3 l3 ls3 e3 ⟨rfl, rfl⟩
        obtain ⟨rfl, ha⟩ := range_split e3
        generalize p3.length = aa at *
        refine ⟨_, .name rfl, ?_⟩
        have a6 : aa < 6 := by omega
        have b6 : bb < 6 := by omega
        have qa := s0 a6
        have qb := s0 b6
        have qc := s0 hc
        have ra := s1 a6
        have tac := s2 a6 hc
        have tab := s2 a6 b6
        cases h : (T (O.getD aa 0) (O.getD cc 0) && !T (O.getD aa 0) (O.getD bb 0)) with
        | false =>
          exact Ex.step (E1.ifF H (Tr.andNot H h (Tr.sub H (fun _ _ => rfl) (by exact (Ev.sub H (fun _ _ => rfl) (Ev.nameF rfl rfl) (Ev.sub H (fun _ _ => rfl) (Ev.nameF rfl rfl) (Ev.nameF rfl rfl) qa) ra)) (by exact (Ev.sub H (fun _ _ => rfl) (Ev.nameF rfl rfl) (Ev.nameF rfl rfl) qc)) tac) (Tr.sub H (fun _ _ => rfl) (by exact (Ev.sub H (fun _ _ => rfl) (Ev.nameF rfl rfl) (Ev.sub H (fun _ _ => rfl) (Ev.nameF rfl rfl) (Ev.nameF rfl rfl) qa) ra)) (by exact (Ev.sub H (fun _ _ => rfl) (Ev.nameF rfl rfl) (Ev.nameF rfl rfl) qb)) tab)) (Ex.nil ⟨rfl, Ex.nil (Go.next (by exact (SubL.cons rfl (SubL.cons rfl (SubL.cons rfl (SubL.cons rfl SubL.nil))))) ⟨rfl, rfl⟩)⟩))
        | true =>
          refine Ex.step (E1.ifT H (Tr.andNot H h (Tr.sub H (fun _ _ => rfl) (by exact (Ev.sub H (fun _ _ => rfl) (Ev.nameF rfl rfl) (Ev.sub H (fun _ _ => rfl) (Ev.nameF rfl rfl) (Ev.nameF rfl rfl) qa) ra)) (by exact (Ev.sub H (fun _ _ => rfl) (Ev.nameF rfl rfl) (Ev.nameF rfl rfl) qc)) tac) (Tr.sub H (fun _ _ => rfl) (by exact (Ev.sub H (fun _ _ => rfl) (Ev.nameF rfl rfl) (Ev.sub H (fun _ _ => rfl) (Ev.nameF rfl rfl) (Ev.nameF rfl rfl) qa) ra)) (by exact (Ev.sub H (fun _ _ => rfl) (Ev.nameF rfl rfl) (Ev.nameF rfl rfl) qb)) tab)) ?_)
          have h' := h
          simp only [Bool.and_eq_true, Bool.not_eq_true'] at h'
          obtain ⟨d, hd, h1, h2⟩ := h4 aa bb cc ha hb hc h'.1 h'.2
          have hne : ((List.range aa).filter fun d => T (O.getD d 0) (O.getD bb 0) && !T (O.getD d 0) (O.getD cc 0)).map (fun d : Nat => D.int (d : Int)) ≠ [] := by
            have m : d ∈ (List.range aa).filter fun d => T (O.getD d 0) (O.getD bb 0) && !T (O.getD d 0) (O.getD cc 0) := List.mem_filter.mpr ⟨List.mem_range.mpr hd, by rw [h1, h2]; rfl⟩
            exact fun e => by rw [List.map_eq_nil_iff] at e; rw [e] at m; cases m
          refine Ex.step (E1.ifF H (ls1 := ls3) (Tr.cmp H rfl (Ev.listComp H (ls' := ls3) ?lc) (Ev.list H (ds := []) .nil (by decide)) (list_nil hne)) (Ex.nil ⟨rfl, Ex.nil ⟨rfl, Ex.nil (Go.next (by exact (SubL.cons rfl (SubL.cons rfl (SubL.cons rfl (SubL.cons rfl SubL.nil))))) ⟨rfl, rfl⟩)⟩⟩))
          refine CompG.step (fun i : Nat => .int (i : Int)) (List.range aa) [((Str.mk (Array.mk [116, 105, 101, 100])), ⟨.fz, tiesD T⟩), ((Str.mk (Array.mk [111, 114, 100, 101, 114])), ⟨.fz, natsL O⟩), ((Str.mk (Array.mk [99])), ⟨.fz, .int (cc : Int)⟩), ((Str.mk (Array.mk [98])), ⟨.fz, .int (bb : Int)⟩)] (fun q => (q.filter fun d => T (O.getD d 0) (O.getD bb 0) && !T (O.getD d 0) (O.getD cc 0)).map fun d : Nat => D.int (d : Int)) rfl rfl rfl rfl rfl (fun _ h => nomatch h) (by exact (Ev.blt H (Tp.blt TT rfl) rfl (Evs.cons rfl (Ev.nameF rfl rfl) Evs.nil) (.range1 _))) (fun h => nomatch h) (iter_n rfl (by omega)) (by exact (SubL.cons rfl (SubL.cons rfl (SubL.cons rfl (SubL.cons rfl SubL.nil))))) ?_
          intro p0 d0 r0 e0
          obtain ⟨rfl, hd0⟩ := range_split e0
          have lf := List.length_filter_le (fun d => T (O.getD d 0) (O.getD bb 0) && !T (O.getD d 0) (O.getD cc 0)) p0
          rw [List.filter_append]
          generalize p0.length = dd at *
          have d6 : dd < 6 := by omega
          have qd := s0 d6
          have rd := s1 d6
          have tdb := s2 d6 b6
          have tdc := s2 d6 hc
          cases h : (T (O.getD dd 0) (O.getD bb 0) && !T (O.getD dd 0) (O.getD cc 0)) with
          | false =>
            rw [List.filter_cons_of_neg (by rw [h]; decide)]
            exact Step1.skip (.name rfl) (by exact (SubL.cons rfl (SubL.cons rfl (SubL.cons rfl (SubL.cons rfl SubL.nil))))) (.stop (Tr.andNot H h (Tr.sub H (fun _ _ => rfl) (by exact (Ev.sub H (fun _ _ => rfl) (Ev.nameF rfl rfl) (Ev.sub H (fun _ _ => rfl) (Ev.nameF rfl rfl) (Ev.nameF rfl rfl) qd) rd)) (by exact (Ev.sub H (fun _ _ => rfl) (Ev.nameF rfl rfl) (Ev.nameF rfl rfl) qb)) tdb) (Tr.sub H (fun _ _ => rfl) (by exact (Ev.sub H (fun _ _ => rfl) (Ev.nameF rfl rfl) (Ev.sub H (fun _ _ => rfl) (Ev.nameF rfl rfl) (Ev.nameF rfl rfl) qd) rd)) (by exact (Ev.sub H (fun _ _ => rfl) (Ev.nameF rfl rfl) (Ev.nameF rfl rfl) qc)) tdc))) (by rw [List.filter_nil, List.append_nil])
          | true =>
            rw [List.filter_cons_of_pos (by rw [h])]
            exact Step1.pass (.name rfl) (by exact (SubL.cons rfl (SubL.cons rfl (SubL.cons rfl (SubL.cons rfl SubL.nil))))) (.cons (Tr.andNot H h (Tr.sub H (fun _ _ => rfl) (by exact (Ev.sub H (fun _ _ => rfl) (Ev.nameF rfl rfl) (Ev.sub H (fun _ _ => rfl) (Ev.nameF rfl rfl) (Ev.nameF rfl rfl) qd) rd)) (by exact (Ev.sub H (fun _ _ => rfl) (Ev.nameF rfl rfl) (Ev.nameF rfl rfl) qb)) tdb) (Tr.sub H (fun _ _ => rfl) (by exact (Ev.sub H (fun _ _ => rfl) (Ev.nameF rfl rfl) (Ev.sub H (fun _ _ => rfl) (Ev.nameF rfl rfl) (Ev.nameF rfl rfl) qd) rd)) (by exact (Ev.sub H (fun _ _ => rfl) (Ev.nameF rfl rfl) (Ev.nameF rfl rfl) qc)) tdc)) .nil) (emL_step (by exact (Ev.nameF rfl rfl)) (by rw [List.length_map]; omega) (by rw [List.map_append]; rfl))
      · rintro l3 ls3 ⟨rfl, rfl⟩
        exact Ex.nil (Go.next (by exact (SubL.cons rfl (SubL.cons rfl (SubL.cons rfl SubL.nil)))) ⟨rfl, rfl⟩)
    · rintro l3 ls3 ⟨rfl, rfl⟩
      exact Ex.nil (Go.next (by exact (SubL.cons rfl (SubL.cons rfl SubL.nil))) ⟨rfl, rfl⟩)
  · rintro l ls1 ⟨rfl, rfl⟩
    exact Ex.ret H (by exact Ev.bool) ⟨.inl rfl, rfl⟩
end
noncomputable def ownF (f : Nat) : List Nat := (List.range 6).filter fun i => f / 2 ^ i % 2 == 1
noncomputable def deg (T : Nat → Nat → Bool) (S : List Nat) (i : Nat) : Nat := (S.filter (T i)).length
noncomputable def clq (T : Nat → Nat → Bool) (S : List Nat) : Bool := S.all fun i => deg T S i + 1 == S.length
noncomputable def two (T : Nat → Nat → Bool) (S : List Nat) : Bool := S.all fun i => deg T S i == 2
noncomputable def nbs (T : Nat → Nat → Bool) (S : List Nat) : List Nat := S.filter (T (S.getD 0 0))
noncomputable def rg (T : Nat → Nat → Bool) (S : List Nat) : Bool := !clq T S && (decide (3 < S.length) && (two T S && !T ((nbs T S).getD 0 0) ((nbs T S).getD 1 0)))
noncomputable def wholeN (T : Nat → Nat → Bool) (p : List Nat) : Nat := p.countP fun f => clq T (ownF f)
noncomputable def ringsN (T : Nat → Nat → Bool) (p : List Nat) : Nat := p.countP fun f => rg T (ownF f)
noncomputable abbrev figs : List Nat := (List.range 63).map (1 + ·)
theorem eqs_rep {k : Nat} (g : Nat → Nat) (v : Int) : ∀ S : List Nat, Eqs (S.map fun i => D.int (g i : Int)) (List.replicate S.length (.int v)) (S.all fun i => (g i : Int) == v)
  | [] => .nil
  | i :: S => by
    rw [List.all_cons]
    exact .cons (Eqf.int _ _) (eqs_rep (k := k) g v S)
theorem own_lt {f i : Nat} (h : i ∈ ownF f) : i < 6 := List.mem_range.mp (List.mem_filter.mp h).1
theorem own_len (f : Nat) : (ownF f).length ≤ 6 := List.length_filter_le _ _
theorem swapped_const {ts vs : List Expr} {k k' : Nat} {p p' : Pos} {env : Env} (h : vs.all (foldedForSure 8) = true) : swappedStores [.Tuple ts k p] (.Tuple vs k' p') env = pure none := by
  unfold swappedStores
  dsimp only
  rw [h]
  split
  · rfl
  · split
    · rfl
    · split <;> rfl
theorem bit_int (f i : Nat) : (((f : Int) / (2 : Int) ^ i % 2) == 1) = (f / 2 ^ i % 2 == 1) := by
  have : (f : Int) / (2 : Int) ^ i % 2 = ((f / 2 ^ i % 2 : Nat) : Int) := by simp
  rw [this, Bool.eq_iff_iff, beq_iff_eq, beq_iff_eq]
  omega
theorem clq_int (T : Nat → Nat → Bool) (S : List Nat) : (S.all fun i => (deg T S i : Int) == (S.length : Int) - 1) = clq T S := by
  unfold clq
  congr 1
  funext i
  rw [Bool.eq_iff_iff, beq_iff_eq, beq_iff_eq]
  omega
theorem two_int (T : Nat → Nat → Bool) (S : List Nat) : (S.all fun i => (deg T S i : Int) == 2) = two T S := by
  unfold two
  congr 1
  funext i
  rw [Bool.eq_iff_iff, beq_iff_eq, beq_iff_eq]
  omega
section
variable {c : Cx} {n : Nat} {sc csc : Scope} {loc : Loc} {ls : LS} {w v : Str} {p1 p2 p3 p4 p5 : Pos} {it cnd : Expr}
theorem comp_filter (g : Nat → Bool) {S : List Nat} {b : Bool} {d : D} {base : Loc} (h1 : isSet it = false) (h3 : capOK sc csc = true) (he : Ev c n sc loc ls it d b ls) (hit : Iter d (S.map fun i : Nat => D.int (i : Int))) (hl : S.length ≤ 1000) (h0 : SubL base (capt csc loc)) (hw : canW csc w = true) (hp : plainN w = true)     (hs : ∀ (k : Nat), k ∈ S → SubL base (setL w ⟨.fz, .int (k : Int)⟩ base) ∧ Tr c n csc (setL w ⟨.fz, .int (k : Int)⟩ base) ls cnd (g k) ls) :
    CompG c n sc loc ls csc [⟨.Name w p1, it, [cnd], 0⟩] (EmL c n csc (.Name w p2)) [] ((S.filter g).map fun i : Nat => D.int (i : Int)) ls := by
  refine CompG.step (fun i : Nat => D.int (i : Int)) S base (fun q => (q.filter g).map fun i : Nat => D.int (i : Int)) rfl rfl h1 rfl h3 (fun _ h => nomatch h) he (fun h => nomatch h) hit h0 ?_
  intro p k q e
  obtain ⟨k1, k2⟩ := hs k (by rw [e]; simp)
  have lp : p.length ≤ S.length := by rw [e]; simp
  have lf := List.length_filter_le g p
  rw [List.filter_append]
  cases hg : g k with
  | false =>
    rw [hg] at k2
    rw [List.filter_cons_of_neg (by rw [hg]; decide)]
    exact Step1.skip (.name hw) k1 (.stop k2) (by rw [List.filter_nil, List.append_nil])
  | true =>
    rw [hg] at k2
    rw [List.filter_cons_of_pos hg]
    exact Step1.pass (.name hw) k1 (.cons k2 .nil) (emL_step (.nameF hp (by rw [lookup_setL, if_pos rfl])) (by rw [List.length_map]; omega) (by rw [List.map_append]; rfl))
end
noncomputable def tst : Expr × Expr := match rCounts.1.body with
  | [_, .For _ _ [_, _, .If a _ [.If (.BoolOp _ [_, b] _) _ _ _] _] _ _, _] => (a, b)
  | _ => (.Constant .none 0 default, .Constant .none 0 default)
section
variable {c : Cx} (H : Hy c) (TT : Tp c) (n : Nat) (ls : LS)
include H TT
theorem cl_counts (T : Nat → Nat → Bool) : Cal c n (Str.mk (Array.mk [95, 108, 97, 119, 95, 99, 111, 117, 110, 116, 115])) [(tiesD T, true)] ls (.tup [.int (wholeN T figs : Nat), .int (ringsN T figs : Nat)]) ls := by
  refine ⟨_, TT.counts, [((Str.mk (Array.mk [116, 105, 101, 100])), ⟨.fz, tiesD T⟩)], rfl, ?_⟩
  refine Ex.step (E1.tuple H rfl (fun env => swapped_const rfl) (Ev.tuple H (ds := [.int 0, .int 0]) (by exact (Evs.fzCons rfl Ev.int (Evs.fzCons rfl Ev.int Evs.fzNil))) (by decide)) (.cons rfl (.cons rfl .nil)) ⟨rfl, ?_⟩)
  refine Ex.for H (fun i : Nat => .int ((1 + i : Nat) : Int)) (List.range 63) (fun p loc ls' => ls' = ls ∧ loc = [((Str.mk (Array.mk [116, 105, 101, 100])), ⟨.fz, tiesD T⟩), ((Str.mk (Array.mk [119, 104, 111, 108, 101])), ⟨.fz, .int (wholeN T (p.map (1 + ·)) : Nat)⟩), ((Str.mk (Array.mk [114, 105, 110, 103, 115])), ⟨.fz, .int (ringsN T (p.map (1 + ·)) : Nat)⟩)]) rfl (by exact (Ev.blt H (Tp.blt TT rfl) rfl (Evs.cons rfl Ev.int (Evs.cons rfl Ev.int Evs.nil)) (.range2 _ _))) (by
    have := iter_up (a := 1) (b := 64) (k := 63) ⟨by decide, by decide⟩ ⟨by decide, by decide⟩ rfl (by decide)
    simpa using this) (fun h => nomatch h) (by exact (SubL.cons rfl (SubL.cons rfl (SubL.cons rfl SubL.nil)))) ⟨rfl, rfl⟩ ?_ ?_
  · rintro p i0 r l ls1 e ⟨rfl, rfl⟩
    have lp : (p.map (1 + ·)).length ≤ 63 := by
      have := congrArg List.length e
      rw [List.length_range, List.length_append] at this
      rw [List.length_map]; omega
    rw [List.map_append]
    show ∃ l1, _ ∧ Ex _ _ _ _ _ _ (Go (fun loc ls' => ls' = ls1 ∧ loc = [_, (_, ⟨_, .int (wholeN T (p.map (1 + ·) ++ [1 + i0]) : Nat)⟩), (_, ⟨_, .int (ringsN T (p.map (1 + ·) ++ [1 + i0]) : Nat)⟩)]) _)
    generalize p.map (1 + ·) = q at *
    generalize 1 + i0 = f at *
    have ew : wholeN T (q ++ [f]) = wholeN T q + if clq T (ownF f) then 1 else 0 := by unfold wholeN; rw [List.countP_append, List.countP_singleton]
    have er : ringsN T (q ++ [f]) = ringsN T q + if rg T (ownF f) then 1 else 0 := by unfold ringsN; rw [List.countP_append, List.countP_singleton]
    rw [ew, er]
    have lw : wholeN T q ≤ q.length := List.countP_le_length
    have lr : ringsN T q ≤ q.length := List.countP_le_length
    generalize wholeN T q = W at *
    generalize ringsN T q = R at *
    have lo := own_len f
    refine ⟨_, .name rfl, Ex.step (E1.newLC H false rfl (l := (ownF f).map fun i : Nat => D.int (i : Int)) (ls' := ls1) (comp_filter (fun i => f / 2 ^ i % 2 == 1) (S := List.range 6) (base := [((Str.mk (Array.mk [102, 105, 103, 117, 114, 101])), ⟨.fz, .int (f : Int)⟩)]) rfl rfl (by exact (Ev.blt H (Tp.blt TT rfl) rfl (Evs.cons rfl Ev.int Evs.nil) (.range1 _))) (iter_n rfl (by decide)) (by decide) (by exact (SubL.cons rfl SubL.nil)) rfl rfl ?own) ⟨rfl, ?_⟩)⟩
    case own =>
      intro k hk
      have hk := List.mem_range.mp hk
      have b1 : Bin .Pow (.int 2) (.int (k : Int)) (.int ((2 : Int) ^ k)) := .powI 2 (k : Int) (by omega) (by omega) ⟨by decide, by decide⟩
      have e2 : (2 : Int) ^ k = ((2 ^ k : Nat) : Int) := by simp
      have hp := Nat.pow_le_pow_right (n := 2) (by decide) (show k ≤ 6 by omega)
      have hp2 := Nat.pow_pos (n := k) (show 0 < 2 by decide)
      have b2 : Bin .FloorDiv (.int (f : Int)) (.int ((2 : Int) ^ k)) (.int ((f : Int) / (2 : Int) ^ k)) := .divI _ _ (by rw [e2]; omega) (by rw [e2]; omega)
      have t1 : Cmp .Eq (.int ((f : Int) / (2 : Int) ^ k % 2)) (.int 1) (f / 2 ^ k % 2 == 1) := cmp_int (bit_int f k)
      exact ⟨by exact (SubL.cons rfl SubL.nil), by exact (Tr.cmp H rfl (Ev.bin H (Ev.bin H (Ev.nameF rfl rfl) (Ev.bin H Ev.int (Ev.nameF rfl rfl) b1) b2) Ev.int (.modI _ _ (by decide) (by decide))) Ev.int t1)⟩
    have hS : ∀ i ∈ ownF f, i < 6 := fun i => own_lt
    generalize ownF f = S at *
    have it : Iter (.list (S.map fun i : Nat => D.int (i : Int))) (S.map fun i : Nat => D.int (i : Int)) := .list (by rw [List.length_map]; omega)
    refine Ex.step (E1.newLC H false rfl (l := S.map fun i => D.int (deg T S i : Nat)) (ls' := ls1) ?ties ⟨rfl, ?_⟩)
    case ties =>
      refine CompG.step (fun i : Nat => D.int (i : Int)) S [((Str.mk (Array.mk [116, 105, 101, 100])), ⟨.fz, tiesD T⟩), ((Str.mk (Array.mk [111, 119, 110])), ⟨.fz, natsL S⟩)] (fun q => q.map fun i => D.int (deg T S i : Nat)) rfl rfl rfl rfl rfl (fun _ h => nomatch h) (by exact (Ev.nameF rfl rfl)) (fun h => nomatch h) it (by exact (SubL.cons rfl (SubL.cons rfl SubL.nil))) ?_
      intro p0 k r0 e0
      have hk := hS k (by rw [e0]; simp)
      have lp0 : p0.length ≤ S.length := by rw [e0]; simp
      have s1 := sub_tiesR T hk
      have lf := List.length_filter_le (T k) S
      have k1 : Blt (Str.mk (Array.mk [108, 101, 110])) [(.list ((S.filter (T k)).map fun i : Nat => D.int (i : Int)), true)] (.int (deg T S k : Nat)) := by
        have := Blt.lenL (b := true) ((S.filter (T k)).map fun i : Nat => D.int (i : Int)) (by rw [List.length_map]; omega)
        rwa [List.length_map] at this
      refine Step1.pass (.name rfl) (by exact (SubL.cons rfl (SubL.cons rfl SubL.nil))) .nil (emL_step (Ev.blt H (TT.blt rfl) rfl (Evs.cons rfl (Ev.listComp H (ls' := ls1) (comp_filter (T k) (S := S) (base := [((Str.mk (Array.mk [116, 105, 101, 100])), ⟨.fz, tiesD T⟩), ((Str.mk (Array.mk [105])), ⟨.fz, .int (k : Int)⟩)]) rfl rfl (by exact (Ev.nameF rfl rfl)) it (by omega) (by exact (SubL.cons rfl (SubL.cons rfl SubL.nil))) rfl rfl ?_)) .nil) k1) (by rw [List.length_map]; omega) (by rw [List.map_append]; rfl))
      intro j hj
      have s2 := sub_tiesC T k (hS j hj)
      exact ⟨by exact (SubL.cons rfl (SubL.cons rfl SubL.nil)), Tr.sub H (fun _ _ => rfl) (by exact (Ev.sub H (fun _ _ => rfl) (Ev.nameF rfl rfl) (Ev.nameF rfl rfl) s1)) (by exact (Ev.nameF rfl rfl)) s2⟩
    have k1 : Blt (Str.mk (Array.mk [108, 101, 110])) [(natsL S, true)] (.int (S.length : Nat)) := by
      have := Blt.lenL (b := true) (S.map fun i : Nat => D.int (i : Int)) (by rw [List.length_map]; omega)
      rwa [List.length_map] at this
    have b1 : Bin .Mult (.list [.int ((S.length : Nat) - 1)]) (.int (S.length : Nat)) (.list (List.replicate S.length (.int ((S.length : Nat) - 1)))) := .mulL _ _ (by omega) (by omega)
    have t1 : Cmp .Eq (.list (S.map fun i => D.int (deg T S i : Nat))) (.list (List.replicate S.length (.int ((S.length : Nat) - 1)))) (clq T S) := .eq (.low (.list (clq_int T S ▸ eqs_rep (k := 0) (deg T S) _ S)))
    have hrg : rg T S = (!clq T S && (decide (3 < S.length) && (two T S && !T ((nbs T S).getD 0 0) ((nbs T S).getD 1 0)))) := rfl
    have et : Tr c n rCounts.1.scope [((Str.mk (Array.mk [116, 105, 101, 100])), ⟨.fz, tiesD T⟩), ((Str.mk (Array.mk [119, 104, 111, 108, 101])), ⟨.fz, .int (W : Int)⟩), ((Str.mk (Array.mk [114, 105, 110, 103, 115])), ⟨.fz, .int (R : Int)⟩), ((Str.mk (Array.mk [111, 119, 110])), ⟨.fz, natsL S⟩), ((Str.mk (Array.mk [116, 105, 101, 115])), ⟨.fz, .list (S.map fun i => D.int (deg T S i : Nat))⟩)] ls1 tst.1 (clq T S) ls1 := Tr.cmp H rfl (.nameF rfl rfl) (Ev.bin H (Ev.list H (ds := [.int ((S.length : Nat) - 1)]) (by exact (Evs.fzCons rfl (Ev.bin H (Ev.blt H (Tp.blt TT rfl) rfl (Evs.cons rfl (Ev.nameF rfl rfl) Evs.nil) k1) Ev.int (.subI _ _)) Evs.fzNil)) (Nat.le_of_ble_eq_true rfl)) (by exact (Ev.blt H (Tp.blt TT rfl) rfl (Evs.cons rfl (Ev.nameF rfl rfl) Evs.nil) k1)) b1) t1
    refine Ex.sub (loc' := [((Str.mk (Array.mk [116, 105, 101, 100])), ⟨.fz, tiesD T⟩), ((Str.mk (Array.mk [119, 104, 111, 108, 101])), ⟨.fz, .int (W : Int)⟩), ((Str.mk (Array.mk [114, 105, 110, 103, 115])), ⟨.fz, .int (R : Int)⟩), ((Str.mk (Array.mk [111, 119, 110])), ⟨.fz, natsL S⟩), ((Str.mk (Array.mk [116, 105, 101, 115])), ⟨.fz, .list (S.map fun i => D.int (deg T S i : Nat))⟩)]) (by exact (SubL.cons rfl (SubL.cons rfl (SubL.cons rfl (SubL.cons rfl (SubL.cons rfl SubL.nil)))))) ?_
    cases hc : clq T S with
    | true =>
      rw [hc] at et hrg
      rw [hrg]
      exact Ex.step (E1.ifT H et (Ex.step (E1.aug H rfl rfl rfl .int (.addI _ _) ⟨rfl, Ex.nil ⟨rfl, Ex.nil (Go.next (loc' := [((Str.mk (Array.mk [116, 105, 101, 100])), ⟨.fz, tiesD T⟩), ((Str.mk (Array.mk [119, 104, 111, 108, 101])), ⟨.fz, .int ((W : Int) + 1)⟩), ((Str.mk (Array.mk [114, 105, 110, 103, 115])), ⟨.fz, .int (R : Int)⟩)]) (by exact (SubL.cons rfl (SubL.cons rfl (SubL.cons rfl SubL.nil)))) ⟨rfl, rfl⟩)⟩⟩)))
    | false =>
      rw [hc] at et hrg
      rw [hrg]
      have g1 := Cmp.gt (S.length : Nat) 3
      have b2 : Bin .Mult (.list [.int 2]) (.int (S.length : Nat)) (.list (List.replicate S.length (.int 2))) := .mulL _ _ (by omega) (by omega)
      have t2 : Cmp .Eq (.list (S.map fun i => D.int (deg T S i : Nat))) (.list (List.replicate S.length (.int 2))) (two T S) := .eq (.low (.list (two_int T S ▸ eqs_rep (k := 0) (deg T S) _ S)))
      cases h3 : decide (3 < S.length) with
      | false =>
        rw [decide_eq_false (by have := of_decide_eq_false h3; omega)] at g1
        refine Ex.step (E1.ifF H et (Ex.step (E1.ifF H (Tr.boolop (.andF (by exact (Tr.cmp H rfl (Ev.blt H (Tp.blt TT rfl) rfl (Evs.cons rfl (Ev.nameF rfl rfl) Evs.nil) k1) Ev.int g1)))) (Ex.nil ⟨rfl, Ex.nil ⟨rfl, Ex.nil (Go.next (by exact (SubL.cons rfl (SubL.cons rfl (SubL.cons rfl SubL.nil)))) ⟨rfl, rfl⟩)⟩⟩))))
      | true =>
        have h3' : 3 < S.length := of_decide_eq_true h3
        rw [decide_eq_true (by omega)] at g1
        have e2 : Tr c n rCounts.1.scope [((Str.mk (Array.mk [116, 105, 101, 100])), ⟨.fz, tiesD T⟩), ((Str.mk (Array.mk [119, 104, 111, 108, 101])), ⟨.fz, .int (W : Int)⟩), ((Str.mk (Array.mk [114, 105, 110, 103, 115])), ⟨.fz, .int (R : Int)⟩), ((Str.mk (Array.mk [111, 119, 110])), ⟨.fz, natsL S⟩), ((Str.mk (Array.mk [116, 105, 101, 115])), ⟨.fz, .list (S.map fun i => D.int (deg T S i : Nat))⟩)] ls1 tst.2 (two T S) ls1 := Tr.cmp H rfl (.nameF rfl rfl) (Ev.bin H (Ev.list H (ds := [.int 2]) (.cons rfl .int .nil) (by decide)) (by exact (Ev.blt H (Tp.blt TT rfl) rfl (Evs.cons rfl (Ev.nameF rfl rfl) Evs.nil) k1)) b2) t2
        cases h2 : two T S with
        | false =>
          rw [h2] at e2
          refine Ex.step (E1.ifF H et (Ex.step (E1.ifF H (Tr.boolop (.andT H (by exact (Tr.cmp H rfl (Ev.blt H (Tp.blt TT rfl) rfl (Evs.cons rfl (Ev.nameF rfl rfl) Evs.nil) k1) Ev.int g1)) (.andF e2))) (Ex.nil ⟨rfl, Ex.nil ⟨rfl, Ex.nil (Go.next (by exact (SubL.cons rfl (SubL.cons rfl (SubL.cons rfl SubL.nil)))) ⟨rfl, rfl⟩)⟩⟩))))
        | true =>
          rw [h2] at e2
          have hh : S.getD 0 0 ∈ S := by
            rw [List.getD_eq_getElem?_getD, List.getElem?_eq_getElem (by omega)]; exact List.getElem_mem _
          have l2 : (nbs T S).length = 2 := beq_iff_eq.mp (List.all_eq_true.mp h2 _ hh)
          have m2 : ∀ i ∈ nbs T S, i < 6 := fun i hi => hS i (List.mem_filter.mp hi).1
          have s0 := sub_nats (O := S) (i := 0) (by omega) (by omega)
          have s1 := sub_tiesR T (hS _ hh)
          refine Ex.step (E1.ifF H et (Ex.step (E1.ifT H (Tr.boolop (.andT H (by exact (Tr.cmp H rfl (Ev.blt H (Tp.blt TT rfl) rfl (Evs.cons rfl (Ev.nameF rfl rfl) Evs.nil) k1) Ev.int g1)) (.andT H e2 .nil))) ?_)))
          refine Ex.step (E1.unlist H (ds := (nbs T S).map fun i : Nat => D.int (i : Int)) (ls1 := ls1) (loc' := [((Str.mk (Array.mk [116, 105, 101, 100])), ⟨.fz, tiesD T⟩), ((Str.mk (Array.mk [119, 104, 111, 108, 101])), ⟨.fz, .int (W : Int)⟩), ((Str.mk (Array.mk [114, 105, 110, 103, 115])), ⟨.fz, .int (R : Int)⟩), ((Str.mk (Array.mk [111, 119, 110])), ⟨.fz, natsL S⟩), ((Str.mk (Array.mk [116, 105, 101, 115])), ⟨.fz, .list (S.map fun i => D.int (deg T S i : Nat))⟩), ((Str.mk (Array.mk [105])), ⟨.fz, .int ((nbs T S).getD 0 0 : Nat)⟩), ((Str.mk (Array.mk [106])), ⟨.fz, .int ((nbs T S).getD 1 0 : Nat)⟩)]) (fun env => swapped_none (fun _ _ _ => nofun)) (Ev.listComp H (comp_filter (T (S.getD 0 0)) (S := S) (base := [((Str.mk (Array.mk [116, 105, 101, 100])), ⟨.fz, tiesD T⟩), ((Str.mk (Array.mk [111, 119, 110])), ⟨.fz, natsL S⟩)]) rfl rfl (by exact (Ev.nameF rfl rfl)) it (by omega) (by exact (SubL.cons rfl (SubL.cons rfl SubL.nil))) rfl rfl ?nb)) ?set ⟨rfl, ?_⟩)
          case nb =>
            intro j hj
            have s2 := sub_tiesC T (S.getD 0 0) (hS j hj)
            exact ⟨by exact (SubL.cons rfl (SubL.cons rfl SubL.nil)), Tr.sub H (fun _ _ => rfl) (by exact (Ev.sub H (fun _ _ => rfl) (Ev.nameF rfl rfl) (Ev.sub H (fun _ _ => rfl) (Ev.nameF rfl rfl) Ev.int s0) s1)) (by exact (Ev.nameF rfl rfl)) s2⟩
          case set =>
            obtain ⟨a, b, e⟩ : ∃ a b, nbs T S = [a, b] := by
              match nbs T S, l2 with
              | [a, b], _ => exact ⟨a, b, rfl⟩
            rw [e]
            exact .cons rfl (.cons rfl .nil)
          have n0 : (nbs T S).getD 0 0 < 6 := by
            rw [List.getD_eq_getElem?_getD, List.getElem?_eq_getElem (by omega)]; exact m2 _ (List.getElem_mem _)
          have n1 : (nbs T S).getD 1 0 < 6 := by
            rw [List.getD_eq_getElem?_getD, List.getElem?_eq_getElem (by omega)]; exact m2 _ (List.getElem_mem _)
          generalize (nbs T S).getD 0 0 = a at *
          generalize (nbs T S).getD 1 0 = b at *
          have s3 := sub_tiesR T n0
          have s4 := sub_tiesC T a n1
          cases h5 : T a b with
          | true =>
            rw [h5] at s4
            exact Ex.step (E1.aug H rfl rfl rfl (Ev.ifT H (Tr.sub H (fun _ _ => rfl) (by exact (Ev.sub H (fun _ _ => rfl) (Ev.nameF rfl rfl) (Ev.nameF rfl rfl) s3)) (by exact (Ev.nameF rfl rfl)) s4) .int) (.addI _ _) ⟨rfl, Ex.nil ⟨rfl, Ex.nil ⟨rfl, Ex.nil (Go.next (loc' := [((Str.mk (Array.mk [116, 105, 101, 100])), ⟨.fz, tiesD T⟩), ((Str.mk (Array.mk [119, 104, 111, 108, 101])), ⟨.fz, .int (W : Int)⟩), ((Str.mk (Array.mk [114, 105, 110, 103, 115])), ⟨.fz, .int ((R : Int) + 0)⟩)]) (by exact (SubL.cons rfl (SubL.cons rfl (SubL.cons rfl SubL.nil)))) ⟨rfl, rfl⟩)⟩⟩⟩)
          | false =>
            rw [h5] at s4
            exact Ex.step (E1.aug H rfl rfl rfl (Ev.ifF H (Tr.sub H (fun _ _ => rfl) (by exact (Ev.sub H (fun _ _ => rfl) (Ev.nameF rfl rfl) (Ev.nameF rfl rfl) s3)) (by exact (Ev.nameF rfl rfl)) s4) .int) (.addI _ _) ⟨rfl, Ex.nil ⟨rfl, Ex.nil ⟨rfl, Ex.nil (Go.next (loc' := [((Str.mk (Array.mk [116, 105, 101, 100])), ⟨.fz, tiesD T⟩), ((Str.mk (Array.mk [119, 104, 111, 108, 101])), ⟨.fz, .int (W : Int)⟩), ((Str.mk (Array.mk [114, 105, 110, 103, 115])), ⟨.fz, .int ((R : Int) + 1)⟩)]) (by exact (SubL.cons rfl (SubL.cons rfl (SubL.cons rfl SubL.nil)))) ⟨rfl, rfl⟩)⟩⟩⟩)
  · rintro l ls1 ⟨rfl, rfl⟩
    exact Ex.ret H (Ev.tuple H (ds := [.int _, .int _]) (by exact (Evs.fzCons rfl (Ev.nameF rfl rfl) (Evs.fzCons rfl (Ev.nameF rfl rfl) Evs.fzNil))) (Nat.le_of_ble_eq_true rfl)) ⟨.inl rfl, rfl⟩
end
theorem gch_in {l : LX} {c : Nat} (h : l.text.cps[l.pos]? = some c) : gch l = ⟨#[c]⟩ := by
  obtain ⟨hlt, hc⟩ := Array.getElem?_eq_some_iff.mp h
  unfold gch Txt.slice
  have e : ((l.pos : Int) + 1) = ((l.pos + 1 : Nat) : Int) := by omega
  rw [e]
  have h1 := StrLaws.sliced_plain l.text (a := l.pos) (b := l.pos + 1) (by omega) (by exact hlt)
  have h2 := StrLaws.strSliceIndices_plain (a := l.pos) (b := l.pos + 1) (len := l.text.length) (by omega) (by exact hlt)
  have h3 : (l.text.cps.toList.drop l.pos).take (l.pos + 1 - l.pos) = [c] := by
    rw [show l.pos + 1 - l.pos = 1 by omega]
    have : l.pos < l.text.cps.toList.length := by simpa using hlt
    rw [List.drop_eq_getElem_cons this]
    simp [hc]
  split
  · rename_i hh
    have hlen : l.text.length = 1 := by
      rw [h2] at hh
      simp at hh
      omega
    have hp : l.pos = 0 := by have : l.pos < l.text.length := hlt; omega
    obtain ⟨text, pos, line, pb, en⟩ := l
    dsimp only at *
    obtain ⟨a⟩ := text
    congr 1
    apply Array.ext
    · exact hlen
    · intro i hi hi'
      have h1 : i < 1 := by simpa using hi'
      have h0 : i = 0 := by omega
      subst h0
      subst hp
      simpa using hc
  · rw [h1, h3]
theorem gch_out {l : LX} (h : l.text.length ≤ l.pos) : gch l = ⟨#[]⟩ := by
  have h0 : (PySem.Builtin.Str.strSliceIndices (some (l.pos : Int)) (some ((l.pos : Int) + 1)) 1 l.text.length) = [] := by
    have e1 : ¬ ((l.pos : Int) < 0) := by omega
    have e2 : ¬ ((l.pos : Int) + 1 < 0) := by omega
    have e3 : max (0 : Int) (min (l.pos : Int) (l.text.length : Int)) = l.text.length := by omega
    have e4 : max (0 : Int) (min ((l.pos : Int) + 1) (l.text.length : Int)) = l.text.length := by omega
    simp only [PySem.Builtin.Str.strSliceIndices, sliceRange, e1, e2, if_false, e3, e4, show ((1 : Int) > 0) = True from by simp, if_true]
    simp
  unfold gch Txt.slice
  rw [h0]
  split
  · rename_i hh
    have : l.text.length = 0 := by simp at hh; omega
    obtain ⟨text, pos, line, pb, en⟩ := l
    obtain ⟨a⟩ := text
    show Str.mk a = _
    congr 1
    exact Array.eq_empty_of_size_eq_zero this
  · rfl
theorem adv_le {l : LX} (h : l.pos ≤ l.text.length) : (adv l).pos ≤ l.text.length := by
  unfold adv
  show l.pos + (gch l).length ≤ _
  by_cases hlt : l.pos < l.text.length
  · rw [gch_in (Array.getElem?_eq_getElem hlt)]
    exact hlt
  · rw [gch_out (by omega)]
    exact h
noncomputable def lno (c : Nat) (ln : Int) : Int := if c = 10 then ln + 1 else ln
theorem drop_get {L r : List Nat} {p c : Nat} (h : L.drop p = c :: r) : L[p]? = some c := by
  have : (L.drop p)[0]? = some c := by rw [h]; rfl
  rw [List.getElem?_drop] at this
  simpa using this
theorem drop_succ {L r : List Nat} {p c : Nat} (h : L.drop p = c :: r) : L.drop (p + 1) = r := by
  rw [← List.drop_drop, h]; rfl
theorem gch_at {L r : List Nat} {p c : Nat} {ln : Int} {pb : List Str} {en : Bool} (h : L.drop p = c :: r) : gch ⟨S L, p, ln, pb, en⟩ = S [c] := gch_in (by
  show (Array.mk L)[p]? = _
  rw [List.getElem?_toArray]
  exact drop_get h)
theorem rdc_at {L r : List Nat} {p c : Nat} {ln : Int} {pb : List Str} {en : Bool} (h : L.drop p = c :: r) : rdc ⟨S L, p, ln, pb, en⟩ = ⟨S L, p + 1, lno c ln, pb, en⟩ := by
  unfold rdc adv
  rw [gch_at h]
  unfold lno
  by_cases q : c = 10
  · subst q; rfl
  · rw [if_neg q, if_neg]
    · rfl
    · show ¬ (S [c] == S [10]) = true
      rw [s_beq]; simp [q]
theorem gch_end {L : List Nat} {p : Nat} {ln : Int} {pb : List Str} {en : Bool} (h : L.drop p = []) : gch ⟨S L, p, ln, pb, en⟩ = S [] :=
  gch_out (List.drop_eq_nil_iff.mp h)
def isWs (v : Nat) : Prop := v = 32 ∨ v = 9 ∨ v = 10 ∨ v = 13
theorem lno_count (c : Nat) (ln : Int) : lno c ln = ln + (([c].count 10 : Nat) : Int) := by
  unfold lno
  by_cases h : c = 10
  · subst h; simp
  · rw [if_neg h]
    simp [List.count_cons, h]
noncomputable def LXk (L : List Nat) (p : Nat) (e : Bool) : LX := ⟨S L, p, 1 + (((L.take p).count 10 : Nat) : Int), [], e⟩
theorem LXk_add {L C r : List Nat} {p : Nat} {ln : Int} {e : Bool} (h : L.drop p = C ++ r) (hl : ln = 1 + (((L.take p).count 10 : Nat) : Int) + ((C.count 10 : Nat) : Int)) : (⟨S L, p + C.length, ln, [], e⟩ : LX) = LXk L (p + C.length) e := by
  unfold LXk
  rw [hl, List.take_add, h, List.take_left', List.count_append]
  · congr 1
    omega
  · rfl
theorem drop_add {L C r : List Nat} {p : Nat} (h : L.drop p = C ++ r) : L.drop (p + C.length) = r := by
  rw [← List.drop_drop, h, List.drop_left]
noncomputable def itm (e : Bool) (c : Nat) : List Nat := if e then [92, c] else [c]
noncomputable def lc (C : List Nat) (ln : Int) : Int := ln + ((C.count 10 : Nat) : Int)
theorem lc_app (C D : List Nat) (ln : Int) : lc D (lc C ln) = lc (C ++ D) ln := by
  unfold lc
  rw [List.count_append]
  omega
theorem lno_lc (c : Nat) (ln : Int) : lno c ln = lc [c] ln := lno_count c ln
theorem lno_lc2 (c d : Nat) (ln : Int) : lno d (lno c ln) = lc [c, d] ln := by rw [lno_lc, lno_lc, lc_app]; rfl
inductive TokW : List Nat → List Nat → Prop
  | bare {a b v : Nat} {e : Bool} : isWs v → (e = false → b ∉ [10, 9, 13, 32] ∧ b ≠ 92) → TokW (92 :: a :: (itm e b ++ [v])) [a, b]
  | quot {a b : Nat} {e f : Bool} : (e = false → a ≠ 34 ∧ a ≠ 92) → (f = false → b ≠ 34 ∧ b ≠ 92) → TokW (34 :: (itm e a ++ (itm f b ++ [34]))) [a, b]
theorem inp_s {x y z : List Nat} (h : x ++ y = z) (hl : x.length + y.length ≤ 1000000) : Inp .Add (.str (S x)) (.str (S y)) (.str (S z)) := by
  rw [← h, ← s_add]; exact .addS _ _ hl
theorem nx_at {L r : List Nat} {p c : Nat} {ln : Int} {pb : List Str} (h : L.drop p = c :: r) : NxL ⟨S L, p, ln, pb, false⟩ (some (.str (S [c]))) ⟨S L, p + 1, lno c ln, pb, false⟩ := by
  have := NxL.sign (l := ⟨S L, p, ln, pb, false⟩) rfl (by rw [gch_at h]; intro e; have := congrArg (fun s : Str => s.cps.size) e; simp at this)
  rwa [gch_at h, rdc_at h] at this
theorem nx_end {L : List Nat} {p : Nat} {ln : Int} (h : L.drop p = []) : NxL ⟨S L, p, ln, [], false⟩ none ⟨S L, p, ln, [], true⟩ := by
  have := NxL.stop (l := ⟨S L, p, ln, [], false⟩) rfl (gch_end h)
  have e : rdc ⟨S L, p, ln, [], false⟩ = ⟨S L, p, ln, [], false⟩ := by
    unfold rdc adv
    rw [gch_end h]
    rfl
  rwa [e] at this
noncomputable def fT : List Stmt → Expr × List Stmt
  | .For t _ b _ _ :: _ => (t, b)
  | _ => (.Constant .none 0 default, [])
noncomputable def gTB : { p : Expr × List Stmt // fT (rGet.1.body.drop 3) = p } := by
  refine ⟨?f, ?h⟩
  case h =>
    conv => lhs; reduce
noncomputable def fQ : List Stmt → (Expr × List Stmt) × (Expr × List Stmt)
  | [_, .If _ [.For u _ q _ _] [_, _, .For v _ b _ _] _] => ((u, q), (v, b))
  | _ => ((.Constant .none 0 default, []), (.Constant .none 0 default, []))
noncomputable def gQB : { p : (Expr × List Stmt) × (Expr × List Stmt) // fQ gTB.1.2 = p } := by
  refine ⟨?f, ?h⟩
  case h =>
    conv => lhs; reduce
structure Tg (c : Cx) : Prop where
  fit : FitG c 16 NxL
  read : LexG c (Str.mk (Array.mk [95, 114, 101, 97, 100, 95, 99, 104, 97, 114])) 77 14 (fun l as r l' => Cl c 13 rRead.1 ((.lex, true) :: fz as) (some l) r (some l'))
  rd : ∀ l, Cl c 13 rRead.1 [(.lex, true)] (some l) (.str (gch l)) (some (rdc l))
  ws : LexA c (Str.mk (Array.mk [119, 104, 105, 116, 101, 115, 112, 97, 99, 101])) (fun _ => .str (S [10, 9, 13, 32]))
section
variable {c : Cx} (H : Hy c) (G : Tg c) {n : Nat} {sc : Scope} {loc : Loc} {L r : List Nat} {p x v : Nat} {ln : Int} {T : AF → Loc → LS → Prop} {w w' : Str} {p1 p2 p3 p4 : Pos}
include H G
theorem Tr.wsp {t : Bool} {l : LX} (ho : loc.lookup w' = some ⟨.fz, .lex⟩) (hw' : plainN w' = true) (hx : loc.lookup w = some ⟨.fz, .str (S [x])⟩) (hw : plainN w = true) (ht : decide (x ∈ [10, 9, 13, 32]) = t) : Tr c n sc loc (some l) (.Compare (.Name w p1) [.In] [.Attribute (.Name w' p2) (Str.mk (Array.mk [119, 104, 105, 116, 101, 115, 112, 97, 99, 101])) p3] p4) t (some l) :=
  .cmp H rfl (.nameF hw hx) (.lexA H G.ws (.nameF hw' ho)) (ht ▸ .inS x (S [10, 9, 13, 32]))
theorem Ev.rdch {l l' : LX} {d : D} (h16 : 16 ≤ n) (hl : (p2.endLine == p3.line) = true) (hw : plainN w = true) (ho : loc.lookup w = some ⟨.fz, .lex⟩) (h1 : D.str (gch l) = d) (h2 : rdc l = l') : Ev c n sc loc (some l) (.Call (.Attribute (.Name w p1) (Str.mk (Array.mk [95, 114, 101, 97, 100, 95, 99, 104, 97, 114])) p2) [] [] p3) d true (some l') :=
  h1 ▸ h2 ▸ .lexM H G.read (by omega) base_name hl (by decide) (.nameF hw ho) .fzNil (G.rd l)
def FR (c : Cx) (n : Nat) (T : AF → Loc → LS → Prop) (k : Nat) (loc : Loc) (l : LX) : Prop := ForR (NxF NxL) c n rGet.1.scope gTB.1.1 gTB.1.2 T k () loc (some l)
noncomputable abbrev gbase : Loc := [((Str.mk (Array.mk [115, 101, 108, 102])), ⟨.fz, .lex⟩), ((Str.mk (Array.mk [116, 111, 107, 101, 110])), ⟨.fz, .str (S [])⟩), ((Str.mk (Array.mk [102, 105, 116, 101, 114])), ⟨.fz, .fit⟩)]
theorem fr_ws {k : Nat} (h : L.drop p = v :: r) (hv : isWs v) (hl : SubL gbase loc) (hk : ∀ loc', SubL gbase loc' → FR c n T k loc' ⟨S L, p + 1, lno v ln, [], false⟩) : FR c n T (k + 1) loc ⟨S L, p, ln, [], false⟩ := by
  refine .inr ⟨(), _, _, _, ⟨_, _, rfl, rfl, nx_at h⟩, .name rfl, Ex.sub hl.set ?_⟩
  refine Ex.cons (E1.ifT H (Tr.wsp H G rfl rfl rfl rfl (by rcases hv with rfl | rfl | rfl | rfl <;> rfl)) (.cons (.cont (.inr ⟨(nomatch ·), .inr ⟨(nomatch ·), .inl ⟨.inr rfl, hk _ (by exact (SubL.cons rfl (SubL.cons rfl (SubL.cons rfl SubL.nil))))⟩⟩⟩))))
noncomputable abbrev tbase (t : List Nat) : Loc := [((Str.mk (Array.mk [115, 101, 108, 102])), ⟨.fz, .lex⟩), ((Str.mk (Array.mk [116, 111, 107, 101, 110])), ⟨.fz, .str (S t)⟩), ((Str.mk (Array.mk [102, 105, 116, 101, 114])), ⟨.fz, .fit⟩)]
def FQ (c : Cx) (n : Nat) (T : AF → Loc → LS → Prop) (k : Nat) (loc : Loc) (l : LX) : Prop := ForR (NxF NxL) c n rGet.1.scope gQB.1.1.1 gQB.1.1.2 T k () loc (some l)
def FB (c : Cx) (n : Nat) (T : AF → Loc → LS → Prop) (k : Nat) (loc : Loc) (l : LX) : Prop := ForR (NxF NxL) c n rGet.1.scope gQB.1.2.1 gQB.1.2.2 T k () loc (some l)
theorem fq_item {k : Nat} {t : List Nat} (e : Bool) (h16 : 16 ≤ n) (h : L.drop p = itm e x ++ r) (hx : e = false → x ≠ 34 ∧ x ≠ 92) (ht : t.length ≤ 9) (hl : SubL (tbase t) loc) (hk : ∀ loc', SubL (tbase (t ++ [x])) loc' → FQ c n T k loc' ⟨S L, p + (itm e x).length, lc (itm e x) ln, [], false⟩) : FQ c n T (k + 1) loc ⟨S L, p, ln, [], false⟩ := by
  have ia := inp_s (x := t) (y := [x]) rfl (by simp; omega)
  cases e with
  | true =>
    have h : L.drop p = 92 :: x :: r := h
    have hk : ∀ loc', SubL (tbase (t ++ [x])) loc' → FQ c n T k loc' ⟨S L, p + 1 + 1, lc [92, x] ln, [], false⟩ := hk
    refine .inr ⟨(), _, _, _, ⟨_, _, rfl, rfl, nx_at h⟩, .name rfl, Ex.sub hl.set ?_⟩
    have c2 : Cmp .Eq (.str (S [92])) (.str (S [34])) false := cmp_str (by decide)
    have c3 : Cmp .Eq (.str (S [92])) (.str (S [92])) true := cmp_str (by decide)
    refine Ex.step (E1.ifF H (by exact (Tr.cmp H rfl (Ev.nameF rfl rfl) Ev.str c2)) (Ex.step (E1.ifT H (by exact (Tr.cmp H rfl (Ev.nameF rfl rfl) Ev.str c3)) (Ex.step (E1.assign H rfl rfl (Ev.rdch H G h16 rfl rfl rfl (congrArg D.str (gch_at (drop_succ h))) (rdc_at (drop_succ h))) ⟨rfl, Ex.nil ⟨rfl, Ex.nil ⟨rfl, ?_⟩⟩⟩)))))
    rw [lno_lc2]
    exact Ex.step (E1.aug H rfl rfl rfl (by exact (Ev.nameF rfl rfl)) ia ⟨rfl, Ex.nil (.inl ⟨.inl rfl, hk _ (by exact (SubL.cons rfl (SubL.cons rfl (SubL.cons rfl SubL.nil))))⟩)⟩)
  | false =>
    have h : L.drop p = x :: r := h
    have hk : ∀ loc', SubL (tbase (t ++ [x])) loc' → FQ c n T k loc' ⟨S L, p + 1, lc [x] ln, [], false⟩ := hk
    obtain ⟨h1, h2⟩ := hx rfl
    refine .inr ⟨(), _, _, _, ⟨_, _, rfl, rfl, nx_at h⟩, .name rfl, Ex.sub hl.set ?_⟩
    have c2 : Cmp .Eq (.str (S [x])) (.str (S [34])) false := cmp_str (by simpa using h1)
    have c3 : Cmp .Eq (.str (S [x])) (.str (S [92])) false := cmp_str (by simpa using h2)
    rw [lno_lc]
    exact Ex.step (E1.ifF H (by exact (Tr.cmp H rfl (Ev.nameF rfl rfl) Ev.str c2)) (Ex.step (E1.ifF H (by exact (Tr.cmp H rfl (Ev.nameF rfl rfl) Ev.str c3)) (Ex.nil ⟨rfl, Ex.nil ⟨rfl, Ex.step (E1.aug H rfl rfl rfl (by exact (Ev.nameF rfl rfl)) ia ⟨rfl, Ex.nil (.inl ⟨.inl rfl, hk _ (by exact (SubL.cons rfl (SubL.cons rfl (SubL.cons rfl SubL.nil))))⟩)⟩)⟩⟩))))
theorem fq_end {k : Nat} {t : List Nat} (h : L.drop p = 34 :: r) (hl : SubL (tbase t) loc) (hT : ∀ l, T (.ret (.str (S t))) l (some ⟨S L, p + 1, lc [34] ln, [], false⟩)) : FQ c n T (k + 1) loc ⟨S L, p, ln, [], false⟩ := by
  refine .inr ⟨(), _, _, _, ⟨_, _, rfl, rfl, nx_at h⟩, .name rfl, Ex.sub hl.set ?_⟩
  have c2 : Cmp .Eq (.str (S [34])) (.str (S [34])) true := cmp_str (by decide)
  rw [lno_lc]
  exact Ex.cons (E1.ifT H (by exact (Tr.cmp H rfl (Ev.nameF rfl rfl) Ev.str c2)) (Ex.ret H (by exact (Ev.nameF rfl rfl)) (.inr ⟨(nomatch ·), .inr (.inr ⟨⟨_, rfl⟩, hT _⟩)⟩)))
theorem fb_item {k : Nat} {t : List Nat} (e : Bool) (h16 : 16 ≤ n) (h : L.drop p = itm e x ++ r) (hx : e = false → x ∉ [10, 9, 13, 32] ∧ x ≠ 92) (ht : t.length ≤ 9) (hl : SubL (tbase t) loc) (hk : ∀ loc', SubL (tbase (t ++ [x])) loc' → FB c n T k loc' ⟨S L, p + (itm e x).length, lc (itm e x) ln, [], false⟩) : FB c n T (k + 1) loc ⟨S L, p, ln, [], false⟩ := by
  have ia := inp_s (x := t) (y := [x]) rfl (by simp; omega)
  cases e with
  | true =>
    have h : L.drop p = 92 :: x :: r := h
    have hk : ∀ loc', SubL (tbase (t ++ [x])) loc' → FB c n T k loc' ⟨S L, p + 1 + 1, lc [92, x] ln, [], false⟩ := hk
    refine .inr ⟨(), _, _, _, ⟨_, _, rfl, rfl, nx_at h⟩, .name rfl, Ex.sub hl.set ?_⟩
    have c3 : Cmp .Eq (.str (S [92])) (.str (S [92])) true := cmp_str (by decide)
    refine Ex.step (E1.ifF H (Tr.wsp H G rfl rfl rfl rfl rfl) (Ex.step (E1.ifT H (by exact (Tr.cmp H rfl (Ev.nameF rfl rfl) Ev.str c3)) (Ex.step (E1.assign H rfl rfl (Ev.rdch H G h16 rfl rfl rfl (congrArg D.str (gch_at (drop_succ h))) (rdc_at (drop_succ h))) ⟨rfl, Ex.nil ⟨rfl, Ex.nil ⟨rfl, ?_⟩⟩⟩)))))
    rw [lno_lc2]
    exact Ex.step (E1.aug H rfl rfl rfl (by exact (Ev.nameF rfl rfl)) ia ⟨rfl, Ex.nil (.inl ⟨.inl rfl, hk _ (by exact (SubL.cons rfl (SubL.cons rfl (SubL.cons rfl SubL.nil))))⟩)⟩)
  | false =>
    have h : L.drop p = x :: r := h
    have hk : ∀ loc', SubL (tbase (t ++ [x])) loc' → FB c n T k loc' ⟨S L, p + 1, lc [x] ln, [], false⟩ := hk
    obtain ⟨h1, h2⟩ := hx rfl
    refine .inr ⟨(), _, _, _, ⟨_, _, rfl, rfl, nx_at h⟩, .name rfl, Ex.sub hl.set ?_⟩
    have c3 : Cmp .Eq (.str (S [x])) (.str (S [92])) false := cmp_str (by simpa using h2)
    rw [lno_lc]
    exact Ex.step (E1.ifF H (Tr.wsp H G rfl rfl rfl rfl (decide_eq_false h1)) (Ex.step (E1.ifF H (by exact (Tr.cmp H rfl (Ev.nameF rfl rfl) Ev.str c3)) (Ex.nil ⟨rfl, Ex.nil ⟨rfl, Ex.step (E1.aug H rfl rfl rfl (by exact (Ev.nameF rfl rfl)) ia ⟨rfl, Ex.nil (.inl ⟨.inl rfl, hk _ (by exact (SubL.cons rfl (SubL.cons rfl (SubL.cons rfl SubL.nil))))⟩)⟩)⟩⟩))))
theorem fb_end {k : Nat} {t : List Nat} (h : L.drop p = v :: r) (hv : isWs v) (hl : SubL (tbase t) loc) (hT : ∀ l, T (.ret (.str (S t))) l (some ⟨S L, p + 1, lc [v] ln, [], false⟩)) : FB c n T (k + 1) loc ⟨S L, p, ln, [], false⟩ := by
  refine .inr ⟨(), _, _, _, ⟨_, _, rfl, rfl, nx_at h⟩, .name rfl, Ex.sub hl.set ?_⟩
  rw [lno_lc]
  exact Ex.cons (E1.ifT H (Tr.wsp H G rfl rfl rfl rfl (by rcases hv with rfl | rfl | rfl | rfl <;> rfl)) (Ex.ret H (by exact (Ev.nameF rfl rfl)) (.inr ⟨(nomatch ·), .inr (.inr ⟨⟨_, rfl⟩, hT _⟩)⟩)))
theorem fr_tok {k : Nat} {t y : List Nat} (h16 : 16 ≤ n) (hT : TokW t y) (h : L.drop p = t ++ r) (hl : SubL gbase loc) (hr : ∀ l, T (.ret (.str (S y))) l (some ⟨S L, p + t.length, lc t ln, [], false⟩)) : FR c n T (k + 1) loc ⟨S L, p, ln, [], false⟩ := by
  cases hT with
  | @bare a b v e hv hb =>
    have h : L.drop p = 92 :: a :: (itm e b ++ (v :: r)) := by rw [h]; simp [List.append_assoc]
    refine .inr ⟨(), _, _, _, ⟨_, _, rfl, rfl, nx_at h⟩, .name rfl, Ex.sub hl.set ?_⟩
    have c1 : Cmp .Eq (.str (S [92])) (.str (S [34])) false := cmp_str (by decide)
    have c2 : Cmp .Eq (.str (S [92])) (.str (S [92])) true := cmp_str (by decide)
    have ia := inp_s (x := []) (y := [a]) rfl (Nat.le_of_ble_eq_true rfl)
    refine Ex.step (E1.ifF H (Tr.wsp H G rfl rfl rfl rfl rfl) (Ex.nil ⟨rfl, ?_⟩))
    refine Ex.cons (E1.ifF H (by exact (Tr.cmp H rfl (Ev.nameF rfl rfl) Ev.str c1)) (Ex.step (E1.ifT H (by exact (Tr.cmp H rfl (Ev.nameF rfl rfl) Ev.str c2)) (Ex.step (E1.assign H rfl rfl (Ev.rdch H G h16 rfl rfl rfl (congrArg D.str (gch_at (drop_succ h))) (rdc_at (drop_succ h))) ⟨rfl, Ex.nil ⟨rfl, ?_⟩⟩)))))
    rw [lno_lc2]
    refine Ex.step (E1.aug H rfl rfl rfl (by exact (Ev.nameF rfl rfl)) ia ⟨rfl, ?_⟩)
    have h2 := drop_succ (drop_succ h)
    have h3 := drop_add h2
    refine .cons (.forX H G.fit h16 rfl rfl (by exact (Ev.nameF rfl rfl)) (k := 2) (fb_item (t := [a]) H G e h16 h2 hb (Nat.le_of_ble_eq_true rfl) (by exact (SubL.cons rfl (SubL.cons rfl (SubL.cons rfl SubL.nil)))) fun loc' hl' => fb_end H G h3 hv hl' fun l => ?_))
    have e1 : p + 1 + 1 + (itm e b).length + 1 = p + (92 :: a :: (itm e b ++ [v])).length := by simp; omega
    have e2 : lc [v] (lc (itm e b) (lc [92, a] ln)) = lc (92 :: a :: (itm e b ++ [v])) ln := by rw [lc_app, lc_app]; rfl
    rw [e1, e2]
    exact .inr ⟨(nomatch ·), .inr ⟨(nomatch ·), .inr (.inr ⟨⟨_, rfl⟩, hr _⟩)⟩⟩
  | @quot a b e f ha hb =>
    have h : L.drop p = 34 :: (itm e a ++ (itm f b ++ (34 :: r))) := by rw [h]; simp [List.append_assoc]
    refine .inr ⟨(), _, _, _, ⟨_, _, rfl, rfl, nx_at h⟩, .name rfl, Ex.sub hl.set ?_⟩
    have c1 : Cmp .Eq (.str (S [34])) (.str (S [34])) true := cmp_str (by decide)
    have h2 := drop_succ h
    have h3 := drop_add h2
    have h4 := drop_add h3
    refine Ex.step (E1.ifF H (Tr.wsp H G rfl rfl rfl rfl rfl) (Ex.nil ⟨rfl, ?_⟩))
    rw [lno_lc]
    refine Ex.cons (E1.ifT H (by exact (Tr.cmp H rfl (Ev.nameF rfl rfl) Ev.str c1)) (.cons (.forX H G.fit h16 rfl rfl (by exact (Ev.nameF rfl rfl)) (k := 3) (fq_item (t := []) H G e h16 h2 ha (Nat.le_of_ble_eq_true rfl) (by exact (SubL.cons rfl (SubL.cons rfl (SubL.cons rfl SubL.nil)))) fun loc' hl' => fq_item (t := [a]) H G f h16 h3 hb (Nat.le_of_ble_eq_true rfl) hl' fun loc2 hl2 => fq_end H G h4 hl2 fun l => ?_))))
    have e1 : p + 1 + (itm e a).length + (itm f b).length + 1 = p + (34 :: (itm e a ++ (itm f b ++ [34]))).length := by simp; omega
    have e2 : lc [34] (lc (itm f b) (lc (itm e a) (lc [34] ln))) = lc (34 :: (itm e a ++ (itm f b ++ [34]))) ln := by rw [lc_app, lc_app, lc_app]; simp
    rw [e1, e2]
    exact .inr ⟨(nomatch ·), .inr ⟨(nomatch ·), .inr (.inr ⟨⟨_, rfl⟩, hr _⟩)⟩⟩
theorem fr_dot {k : Nat} (h16 : 16 ≤ n) (h : L.drop p = [46]) (hl : SubL gbase loc) (hT : ∀ l, l.lookup (Str.mk (Array.mk [116, 111, 107, 101, 110])) = some ⟨.fz, .str (S [46])⟩ → T .next l (some ⟨S L, p + 1, ln, [], true⟩)) : FR c n T (k + 2) loc ⟨S L, p, ln, [], false⟩ := by
  refine .inr ⟨(), _, _, _, ⟨_, _, rfl, rfl, nx_at h⟩, .name rfl, Ex.sub hl.set ?_⟩
  have c1 : Cmp .Eq (.str (S [46])) (.str (S [34])) false := cmp_str (by decide)
  have c2 : Cmp .Eq (.str (S [46])) (.str (S [92])) false := cmp_str (by decide)
  have e0 : lno 46 ln = ln := rfl
  rw [e0]
  refine Ex.step (E1.ifF H (Tr.wsp H G rfl rfl rfl rfl rfl) (Ex.nil ⟨rfl, ?_⟩))
  refine Ex.cons (E1.ifF H (by exact (Tr.cmp H rfl (Ev.nameF rfl rfl) Ev.str c1)) (Ex.step (E1.ifF H (by exact (Tr.cmp H rfl (Ev.nameF rfl rfl) Ev.str c2)) (Ex.nil ⟨rfl, ?_⟩))))
  refine Ex.step (E1.aug H rfl rfl rfl (by exact (Ev.nameF rfl rfl)) (.addS _ _ (Nat.le_of_ble_eq_true rfl)) ⟨rfl, ?_⟩)
  refine .cons (.forX H G.fit h16 rfl rfl (by exact (Ev.nameF rfl rfl)) (k := 0) ⟨(), _, ⟨_, _, rfl, rfl, nx_end (drop_succ h)⟩, .inl ⟨rfl, ?_⟩⟩)
  exact Ex.nil (.inl ⟨rfl, Ex.nil (.inl ⟨.inl rfl, .inl ⟨(), _, ⟨_, _, rfl, rfl, .ended rfl⟩, hT _ rfl⟩⟩)⟩)
theorem fr_end {k : Nat} (h : L.drop p = []) (hT : T .next loc (some ⟨S L, p, ln, [], true⟩)) : FR c n T k loc ⟨S L, p, ln, [], false⟩ := by
  cases k with
  | zero => exact ⟨(), _, ⟨_, _, rfl, rfl, nx_end h⟩, hT⟩
  | succ k => exact .inl ⟨(), _, ⟨_, _, rfl, rfl, nx_end h⟩, hT⟩
end
noncomputable def giveOf : List Stmt → LCon
  | _ :: .FunctionDef n a b _ _ _ sc _ _ _ :: _ => ⟨94, n, a, b, sc⟩
  | _ => ⟨94, "", { posonlyargs := [], args := [], vararg := none, kwonlyargs := [], kw_defaults := [], kwarg := none, defaults := [] }, [], default⟩
noncomputable def rGive : { C : LCon // giveOf rLexer.1.body = C } := by
  refine ⟨?f, ?h⟩
  case h =>
    conv => lhs; reduce
noncomputable abbrev LC : LCon := rGive.1
section
variable {c : Cx}
theorem give_ok2 (H : Hy c) (T0 : Tp (cx0 c)) : GiveOK c LC where
  bind := fun qual cl doc pm cdv ct v => by rfl
  cell := by
    intro y hy
    have : (LC.gscope.names.all fun p => p.2 != .cell) = true := by kernel_rfl
    have := List.all_eq_true.mp this y hy
    simpa using this
  k1 := by kernel_rfl
  k2 := by kernel_rfl
  k3 := by kernel_rfl
  fr := by
    intro n e
    have h : (LC.gscope.names.all fun p => p.2 != .free || (p.1 == nT || p.1 == nA)) = true := by kernel_rfl
    have := List.all_eq_true.mp h (n, .free) (mem_of_lookup e)
    simpa using this
  co := by kernel_rfl
  ge := by kernel_rfl
  ki := by kernel_rfl
  le := fun l h => adv_le h
  run := by
    intro text pos h1 h2
    have H0 := hy0 H
    have h3 : (Txt.slice text (some (pos : Int)) (some ((pos : Int) + 1))).length ≤ 1000000 := by
      have := Txt.slice_le text (some (pos : Int)) (some ((pos : Int) + 1))
      omega
    have s0 : Sub (.list [.int pos]) (.int 0) (.int pos) := .list (by decide) (by decide) rfl
    refine Ex.step (E1.assign H0 rfl rfl (Ev.sliceS H0 (by exact (Ev.nameF rfl rfl)) (.some (by exact (Ev.sub H0 (fun _ _ => rfl) (Ev.nameO rfl rfl) Ev.int s0))) (.some (by exact (Ev.bin H0 (Ev.sub H0 (fun _ _ => rfl) (Ev.nameO rfl rfl) Ev.int s0) (Ev.nameF rfl rfl) (.addI _ _)))) (by omega)) ⟨rfl, ?_⟩)
    generalize Txt.slice text (some (pos : Int)) (some ((pos : Int) + 1)) = piece at *
    have k1 : Blt (Str.mk (Array.mk [108, 101, 110])) [(.str piece, true)] (.int (piece.length : Nat)) := .lenS _ h3
    refine Ex.step (E1.augS H0 rfl rfl rfl (by exact Ev.int) s0 (by exact (Ev.blt H0 (Tp.blt T0 rfl) rfl (Evs.cons rfl (Ev.nameF rfl rfl) Evs.nil) k1)) (.addI _ _) (.list (by decide) (show (0 : Int) < 1 by decide) (Nat.le_of_ble_eq_true rfl)) ⟨rfl, ?_⟩)
    exact Ex.ret H0 (by exact (Ev.nameF rfl rfl)) ⟨rfl, rfl⟩
end
section
variable {c : Cx} {x : LXA} {l : LX}
theorem cl_read (H : Hy c) (GO : GiveOK c LC) (p : PL c LC x) (k : KLex c.K 94 77) {n : Nat} (hn : 11 ≤ n) : Cl c n rRead.1 [(.lex, true)] (some l) (.str (gch l)) (some (rdc l)) := by
  refine ⟨[((Str.mk (Array.mk [115, 101, 108, 102])), ⟨.fz, .lex⟩)], rfl, ?_⟩
  refine Ex.step (E1.assign H rfl rfl (Ev.read H GO p k hn rfl (.nameF rfl rfl)) ⟨rfl, ?_⟩)
  have t := Cmp.eq (Eq2.low (Eql.flat (Eqf.str (gch l) (⟨#[10]⟩ : Str))))
  cases hv : (gch l == (⟨#[10]⟩ : Str)) with
  | true =>
    rw [hv] at t
    have e : { adv l with line := (adv l).line + 1 } = rdc l := by unfold rdc; rw [if_pos hv]; rfl
    exact Ex.step (E1.ifT H (by exact (Tr.cmp H rfl (Ev.nameF rfl rfl) Ev.str t)) (Ex.step (E1.line H p k rfl rfl ⟨rfl, Ex.nil ⟨rfl, Ex.ret H (by exact (Ev.nameF rfl rfl)) ⟨.inl rfl, by rw [← e]⟩⟩⟩)))
  | false =>
    rw [hv] at t
    have e : adv l = rdc l := by unfold rdc; rw [if_neg (by rw [hv]; simp)]
    exact Ex.step (E1.ifF H (by exact (Tr.cmp H rfl (Ev.nameF rfl rfl) Ev.str t)) (Ex.nil ⟨rfl, Ex.ret H (by exact (Ev.nameF rfl rfl)) ⟨.inl rfl, by rw [e]⟩⟩))
theorem cl_push (H : Hy c) (p : PL c LC x) (k : KLex c.K 94 77) {n : Nat} {y : Str} (hz : l.pb.length < 1000000) : Cl c n rPush.1 [(.lex, true), (.str y, true)] (some l) .none (some { l with pb := l.pb ++ [y] }) := by
  refine ⟨[((Str.mk (Array.mk [115, 101, 108, 102])), ⟨.fz, .lex⟩), ((Str.mk (Array.mk [116, 111, 107, 101, 110])), ⟨.fz, .str y⟩)], rfl, ?_⟩
  exact Ex.step (E1.expr H (Ev.pushT H p k rfl (.nameF rfl rfl) rfl (by exact (Ev.nameF rfl rfl)) hz) ⟨rfl, Ex.nil ⟨.inr ⟨rfl, rfl⟩, rfl⟩⟩)
theorem get_pb (H : Hy c) (p : PL c LC x) (k : KLex c.K 94 77) {y : Str} {r : List Str} (hpb : l.pb = y :: r) (hz : r.length < 900000) : GetT c l y { l with pb := r } := by
  have hz' : l.pb.length < 1000000 := by rw [hpb, List.length_cons]; omega
  · refine ⟨[((Str.mk (Array.mk [115, 101, 108, 102])), ⟨.fz, .lex⟩)], rfl, ?_⟩
    have t := fun sc p1 p2 => Tr.pushb (sc := sc) (p1 := p1) (p2 := p2) (n := 39) (loc := [((Str.mk (Array.mk [115, 101, 108, 102])), ⟨.fz, .lex⟩)]) (w := (Str.mk (Array.mk [115, 101, 108, 102]))) H p k (.nameF rfl rfl) hz'
    rw [hpb] at t
    refine Ex.cons (E1.ifT H (t _ _ _) (Ex.ret H (Ev.pop H p k rfl (.nameF rfl rfl) hpb (by omega)) ?_))
    exact .inr ⟨(nomatch ·), .inl rfl, rfl⟩
theorem get_run (H : Hy c) (H' : ∀ x', Hy { c with X := some x', P := LexI LC 77 }) (G' : ∀ x', x'.on = true → Tg { c with X := some x', P := LexI LC 77 }) (hX : c.X = some x) (ho : x.on = true) (hP : c.P = LexM LC) (k : KLex c.K 94 77) (hi : c.mg "iter" = none ∧ c.mb "iter" = some (.builtin "iter")) {y : Str} {lE : LX} (hpb : l.pb = [])
    (h : ∀ (c' : Cx), Hy c' → Tg c' → ∀ T loc, SubL gbase loc → (∀ l, T (.ret (.str y)) l (some lE)) → (∀ l, l.lookup (Str.mk (Array.mk [116, 111, 107, 101, 110])) = some ⟨.fz, .str y⟩ → T .next l (some lE)) → ∃ k, FR c' 39 T k loc { l with en := false }) : GetT c l y lE := by
  have p : PL c LC x := pl_M hX ho hP
  refine ⟨[((Str.mk (Array.mk [115, 101, 108, 102])), ⟨.fz, .lex⟩)], rfl, ?_⟩
  have t := fun sc p1 p2 => Tr.pushb (sc := sc) (p1 := p1) (p2 := p2) (n := 39) (loc := [((Str.mk (Array.mk [115, 101, 108, 102])), ⟨.fz, .lex⟩)]) (ls := some l) (w := (Str.mk (Array.mk [115, 101, 108, 102]))) H p k (.nameF rfl rfl) (by rw [hpb]; decide)
  rw [hpb] at t
  refine Ex.step (E1.ifF H (t _ _ _) (Ex.nil ⟨rfl, ?_⟩))
  refine Ex.step (E1.assign H rfl rfl Ev.str ⟨rfl, ?_⟩)
  refine Ex.iter H H' hX ho hP k hi rfl rfl rfl rfl (fun y lv e => ?_) fun x' ho' => ?_
  · rw [lookup_setL] at e
    split at e
    · cases e; exact .inr ⟨_, rfl⟩
    · exact .inl (Prod.mk.inj (List.mem_singleton.mp (mem_of_lookup e))).2
  · have hn : ∀ l2 : Loc, l2.lookup (Str.mk (Array.mk [116, 111, 107, 101, 110])) = some ⟨.fz, .str y⟩ → Ex { c with X := some x', P := LexI LC 77 } 39 rGet.1.scope l2 (some lE) (rGet.1.body.drop 4) fun af _ ls' => ∃ t l', af = .ret (.str t) ∧ ls' = some l' ∧ (af = .ret (.str y) ∨ af = .next ∧ D.str y = .none) ∧ some l' = some lE := fun l2 hl => by
      exact Ex.sub (SubL.cons hl .nil) (Ex.ret (H' x') (.nameF rfl rfl) ⟨y, lE, rfl, rfl, .inl rfl, rfl⟩)
    obtain ⟨kk, hk⟩ := h _ (H' x') (G' x' ho') (Then _ 39 rGet.1.scope (rGet.1.body.drop 4) fun af _ ls' => ∃ t l', af = .ret (.str t) ∧ ls' = some l' ∧ (af = .ret (.str y) ∨ af = .next ∧ D.str y = .none) ∧ some l' = some lE) (setL (Str.mk (Array.mk [102, 105, 116, 101, 114])) ⟨.fz, .fit⟩ (setL (Str.mk (Array.mk [116, 111, 107, 101, 110])) ⟨.fz, .str (S [])⟩ [((Str.mk (Array.mk [115, 101, 108, 102])), ⟨.fz, .lex⟩)])) (SubL.cons rfl (SubL.cons rfl (SubL.cons rfl .nil))) (fun l2 => .inr ⟨(nomatch ·), y, lE, rfl, rfl, .inl rfl, rfl⟩) fun l2 hl => .inl ⟨rfl, hn l2 hl⟩
    exact .cons (.forX (H' x') (G' x' ho').fit (by decide) rfl rfl (.nameF rfl rfl) (k := kk) hk)
end
section
variable {c : Cx} (H : Hy c) (G : Tg c) {n : Nat} {T : AF → Loc → LS → Prop}
include H G
theorem fr_skip {L r : List Nat} {k : Nat} : ∀ (W : List Nat) (p : Nat) (ln : Int) (loc : Loc), (∀ v ∈ W, isWs v) → L.drop p = W ++ r → SubL gbase loc → (∀ loc', SubL gbase loc' → FR c n T k loc' ⟨S L, p + W.length, ln + ((W.count 10 : Nat) : Int), [], false⟩) → FR c n T (k + W.length) loc ⟨S L, p, ln, [], false⟩
  | [], p, ln, loc, _, h, hl, hk => by
    have := hk loc hl
    rwa [List.count_nil, Int.natCast_zero, Int.add_zero] at this
  | v :: W, p, ln, loc, hv, h, hl, hk => by
    have h1 : L.drop p = v :: (W ++ r) := h
    refine fr_ws H G h1 (hv v (List.mem_cons_self ..)) hl fun loc' hl' => fr_skip W (p + 1) (lno v ln) loc' (fun u hu => hv u (List.mem_cons_of_mem _ hu)) (drop_succ h1) hl' fun loc2 hl2 => ?_
    have e1 : p + 1 + W.length = p + (v :: W).length := by rw [List.length_cons]; omega
    have e2 : lno v ln + ((W.count 10 : Nat) : Int) = ln + (((v :: W).count 10 : Nat) : Int) := by
      rw [lno_count, List.count_cons, List.count_cons]
      simp
      omega
    rw [e1, e2]
    exact hk loc2 hl2
end
structure Reads (l : LX) (y : Str) (lE : LX) : Prop where
  pb : l.pb = []
  run : ∀ (c' : Cx), Hy c' → Tg c' → ∀ T loc, SubL gbase loc → (∀ l, T (.ret (.str y)) l (some lE)) → (∀ l, l.lookup (Str.mk (Array.mk [116, 111, 107, 101, 110])) = some ⟨.fz, .str y⟩ → T .next l (some lE)) → ∃ k, FR c' 39 T k loc { l with en := false }
theorem reads_tok {L W t y r : List Nat} {p : Nat} {e : Bool} (h : L.drop p = W ++ (t ++ r)) (hW : ∀ v ∈ W, isWs v) (hT : TokW t y) : Reads (LXk L p e) (S y) (LXk L (p + (W ++ t).length) false) ∧ L.drop (p + (W ++ t).length) = r := by
  have h' : L.drop p = (W ++ t) ++ r := by rw [h, List.append_assoc]
  refine ⟨⟨rfl, fun c' H G Tt loc hl hr hn => ?_⟩, drop_add h'⟩
  refine ⟨_, fr_skip H G (k := 1) W p _ loc hW h hl fun loc' hl' => fr_tok H G (by decide) hT (drop_add h) hl' fun l => ?_⟩
  have e2 := LXk_add h' (e := false) (ln := lc t (1 + (((L.take p).count 10 : Nat) : Int) + ((W.count 10 : Nat) : Int))) (by
    unfold lc
    rw [List.count_append]
    omega)
  rw [List.length_append, ← Nat.add_assoc] at e2
  rw [List.length_append, ← Nat.add_assoc] at hr
  exact e2 ▸ hr l
theorem reads_dot {L W : List Nat} {p : Nat} {e : Bool} (h : L.drop p = W ++ [46]) (hW : ∀ v ∈ W, isWs v) (hp : p ≤ L.length) : Reads (LXk L p e) (S [46]) (LXk L L.length true) := by
  refine ⟨rfl, fun c' H G Tt loc hl hr hn => ?_⟩
  have hd := drop_add h
  refine ⟨_, fr_skip H G (k := 2) W p _ loc hW h hl fun loc' hl' => ?_⟩
  refine fr_dot (k := 0) H G (by decide) hd hl' fun l hl2 => ?_
  have h' : L.drop p = (W ++ [46]) ++ [] := by rw [h, List.append_nil]
  have hlen : L.length = p + (W ++ [46]).length := by
    have := congrArg List.length h
    rw [List.length_drop] at this
    omega
  have e2 := LXk_add h' (e := true) (ln := 1 + (((L.take p).count 10 : Nat) : Int) + ((W.count 10 : Nat) : Int)) (by rw [List.count_append]; simp)
  rw [← hlen] at e2
  rw [List.length_append, ← Nat.add_assoc] at hlen
  have := hn l hl2
  rw [← e2] at this
  rw [hlen] at this
  exact this
theorem reads_end (L : List Nat) : Reads (LXk L L.length true) (S []) (LXk L L.length true) :=
  ⟨rfl, fun c' H G Tt loc hl hr hn => ⟨0, fr_end H G List.drop_length (hn loc (hl _ _ rfl))⟩⟩
theorem join_flat : ∀ l : List (List Nat), Txt.join (S []) (l.map S) = S l.flatten := by
  intro l
  rw [beq_iff_eq.mp (join_plain_closes (S []) (l.map S))]
  induction l with
  | nil => rfl
  | cons a l ih =>
    rw [List.map_cons]
    have : Str.join (S []) (S a :: l.map S) = S a ++ Str.join (S []) (l.map S) := by
      cases l with
      | nil =>
        show S a = S a ++ S []
        rw [s_add, List.append_nil]
      | cons b l =>
        have e : S a ++ S [] = S a := by rw [s_add, List.append_nil]
        show S a ++ S [] ++ Str.join (S []) (S b :: l.map S) = _
        rw [e]
        rfl
    rw [this, ih, s_add]
    rfl
theorem flatten_len (l : List (List Nat)) (n : Nat) (h : ∀ x ∈ l, x.length ≤ n) : l.flatten.length ≤ n * l.length := by
  induction l with
  | nil => simp
  | cons a l ih =>
    rw [List.flatten_cons, List.length_append, List.length_cons, Nat.mul_succ]
    have := ih fun x hx => h x (List.mem_cons_of_mem _ hx)
    have := h a (List.mem_cons_self ..)
    omega
noncomputable def nOf (nums : List Int) (k : Nat) : Int := nums.getD k 0
noncomputable def odd (nums : List Int) (k : Nat) : Bool := nOf nums k % 2 == 1
noncomputable def mOf (nums : List Int) (k : Nat) : Nat := (nOf nums k / 2 % 16).toNat
noncomputable def drawnOf (nums : List Int) : List Nat := (List.range 15).filter (odd nums)
noncomputable def wOf (nums : List Int) (k : Nat) : Nat × Nat := if mOf nums k % 2 = 0 then (NM.getD (PR.getD k (0, 0)).1 0, NM.getD (PR.getD k (0, 0)).2 0) else (NM.getD (PR.getD k (0, 0)).2 0, NM.getD (PR.getD k (0, 0)).1 0)
noncomputable def wsOf (nums : List Int) : List (Nat × Nat) := (drawnOf nums).map (wOf nums)
noncomputable def pcOf (nums : List Int) (k : Nat) : List Nat := wrT (wOf nums k).1 (wOf nums k).2 (mOf nums k) ++ wrW (mOf nums k)
noncomputable def pcs (nums : List Int) : List (List Nat) := (drawnOf nums).map (pcOf nums)
noncomputable def txt (nums : List Int) : List Nat := (pcs nums).flatten ++ [13, 32, 46]
theorem mOf_eq (nums : List Int) (k : Nat) : nOf nums k / 2 % 16 = ((mOf nums k : Nat) : Int) := by unfold mOf; omega
theorem mOf_lt (nums : List Int) (k : Nat) : mOf nums k < 16 := by unfold mOf; omega
theorem nm_mem (i : Nat) (h : i < 6) : NM.getD i 0 ∈ NM := by
  rw [List.getD_eq_getElem?_getD, List.getElem?_eq_getElem (by exact h)]; exact List.getElem_mem _
theorem nm_get (i : Nat) (h : i < 6) : NM[i]'h = NM.getD i 0 := by
  rw [List.getD_eq_getElem?_getD, List.getElem?_eq_getElem (by exact h)]; rfl
theorem drawn_lt {nums : List Int} {k : Nat} (h : k ∈ drawnOf nums) : k < 15 := List.mem_range.mp (List.mem_filter.mp h).1
theorem drawn_len (nums : List Int) : (drawnOf nums).length ≤ 15 := List.length_filter_le _ _
theorem wOf_mem {nums : List Int} {k : Nat} (h : k < 15) : (wOf nums k).1 ∈ NM ∧ (wOf nums k).2 ∈ NM := by
  obtain ⟨h1, h2⟩ := pr_lt k h
  unfold wOf
  split
  · exact ⟨nm_mem _ h1, nm_mem _ h2⟩
  · exact ⟨nm_mem _ h2, nm_mem _ h1⟩
theorem sep_len (j : Nat) : (sepAt j).length ≤ 1 := by
  unfold sepAt
  split
  · decide
  · split
    · decide
    · split <;> decide
theorem wr_len (a b m : Nat) : (wrT a b m ++ wrW m).length ≤ 8 := by
  rw [List.length_append]
  have h1 := (esc_len a).2
  have h2 := (esc_len b).2
  have h3 : (wrW m).length ≤ 1 := by
    unfold wrW
    split
    · exact sep_len _
    · decide
  have h4 : (hidT (hid b m)).length ≤ 1 := by cases hid b m <;> decide
  unfold wrT
  split
  · rw [List.length_append, List.length_cons, List.length_append, List.length_singleton]; omega
  · rw [List.length_append, List.length_append, List.length_append, List.length_singleton, List.length_singleton]
    simp only [List.length_cons, List.length_nil]
    unfold wrW
    rename_i q
    rw [if_neg q]
    simp only [List.length_nil]
    omega
theorem pcs_len (nums : List Int) : (pcs nums).flatten.length ≤ 120 := by
  have h1 := flatten_len (pcs nums) 8 fun x hx => by
    unfold pcs at hx
    obtain ⟨n, _, rfl⟩ := List.mem_map.mp hx
    exact wr_len _ _ _
  have h2 := drawn_len nums
  rw [show (pcs nums).length = (drawnOf nums).length from List.length_map ..] at h1
  omega
noncomputable abbrev loc7 (ns nums : List Int) : Loc := [((Str.mk (Array.mk [115, 99, 114, 105, 112, 116])), ⟨.bor, intsL ns⟩), ((Str.mk (Array.mk [110, 117, 109, 98, 101, 114, 115])), ⟨.fz, intsL nums⟩), ((Str.mk (Array.mk [112, 97, 105, 114, 115])), ⟨.fz, pairsD⟩), ((Str.mk (Array.mk [100, 114, 97, 119, 110])), ⟨.fz, natsL (drawnOf nums)⟩), ((Str.mk (Array.mk [119, 111, 114, 100, 115])), ⟨.fz, wsD (wsOf nums)⟩), ((Str.mk (Array.mk [112, 105, 101, 99, 101, 115])), ⟨.fz, .list (strsL ((pcs nums).map S))⟩), ((Str.mk (Array.mk [116, 101, 120, 116])), ⟨.fz, .str (S (txt nums))⟩), ((Str.mk (Array.mk [97, 116])), ⟨.own, .list [.int 0]⟩)]
section
variable {c : Cx} (H : Hy c) (TT : Tp c) (n : Nat) (ls : LS)
include H TT
theorem cl_word2 (nums : List Int) (k : Nat) (hk : k < 15) : Cal c (n + 1) (Str.mk (Array.mk [95, 108, 97, 119, 95, 119, 111, 114, 100])) [(pairN (PR.getD k (0, 0)), true), (.int (mOf nums k : Int), true)] ls (.str (S [(wOf nums k).1, (wOf nums k).2])) ls := by
  obtain ⟨h1, h2⟩ := pr_lt k hk
  have := cl_word H TT n ls (PR.getD k (0, 0)) (mOf nums k) h1 h2 (mOf_lt nums k)
  rw [nm_get _ h1, nm_get _ h2] at this
  unfold wOf
  split
  · rename_i q; rwa [if_pos q] at this
  · rename_i q; rwa [if_neg q] at this
theorem law_A (ns : List Int) (hl : ns.length ≤ 63) {T : AF → Loc → LS → Prop} (h : Ex c (n + 2) rLaw.1.scope (loc7 ns (numsOf ns)) ls (rLaw.1.body.drop 7) T) : Ex c (n + 2) rLaw.1.scope [((Str.mk (Array.mk [115, 99, 114, 105, 112, 116])), ⟨.bor, intsL ns⟩)] ls rLaw.1.body T := by
  have q0 := cl_pairs H TT (n + 1) ls
  have q1 := cl_numbers H TT (n + 1) ls ns hl
  have h15 : (numsOf ns).length = 15 := numsP_len ns _
  refine Ex.step (E1.assign H rfl rfl (by exact (Ev.def2 H rfl (Evs.cons rfl (Ev.nameB rfl rfl) Evs.nil) q1)) ⟨rfl, ?_⟩)
  refine Ex.step (E1.assign H rfl rfl (by exact (Ev.def2 H rfl Evs.nil q0)) ⟨rfl, ?_⟩)
  generalize numsOf ns = nums at *
  have hn : ∀ k : Nat, k < 15 → Sub (intsL nums) (.int (k : Int)) (.int (nOf nums k)) := fun k hk => by
    have := sub_ints (ns := nums) (i := (k : Int)) (j := k) rfl (by omega) (by omega)
    unfold nOf
    rwa [List.getD_eq_getElem?_getD, List.getElem?_eq_getElem (by omega)]
  refine Ex.step (E1.newLC H false rfl (l := (drawnOf nums).map fun i : Nat => D.int (i : Int)) (ls' := ls) (comp_filter (odd nums) (S := List.range 15) (base := [((Str.mk (Array.mk [110, 117, 109, 98, 101, 114, 115])), ⟨.fz, intsL nums⟩)]) rfl rfl (by exact (Ev.blt H (Tp.blt TT rfl) rfl (Evs.cons rfl Ev.int Evs.nil) (.range1 _))) (iter_n rfl (by decide)) (by decide) (by exact (SubL.cons rfl SubL.nil)) rfl rfl fun k hk => ?c1) ⟨rfl, ?_⟩)
  case c1 =>
    have s1 := hn k (List.mem_range.mp hk)
    have t1 : Cmp .Eq (.int (nOf nums k % 2)) (.int 1) (odd nums k) := cmp_int rfl
    exact ⟨by exact (SubL.cons rfl SubL.nil), by exact (Tr.cmp H rfl (Ev.bin H (Ev.sub H (fun _ _ => rfl) (Ev.nameF rfl rfl) (Ev.nameF rfl rfl) s1) Ev.int (.modI _ _ (by decide) (by decide))) Ev.int t1)⟩
  have dl := drawn_len nums
  refine Ex.step (E1.newLC H false rfl (l := (wsOf nums).map fun w => .str (S [w.1, w.2])) (ls' := ls) ?c2 ⟨rfl, ?_⟩)
  case c2 =>
    refine CompG.step (fun k : Nat => .int (k : Int)) (drawnOf nums) [((Str.mk (Array.mk [112, 97, 105, 114, 115])), ⟨.fz, pairsD⟩), ((Str.mk (Array.mk [110, 117, 109, 98, 101, 114, 115])), ⟨.fz, intsL nums⟩)] (fun q => (q.map (wOf nums)).map fun w => .str (S [w.1, w.2])) rfl rfl rfl rfl rfl (fun _ h => nomatch h) (by exact (Ev.nameF rfl rfl)) (fun h => nomatch h) (.list (by rw [List.length_map]; omega)) (by exact (SubL.cons rfl (SubL.cons rfl SubL.nil))) ?_
    intro p0 k r0 e0
    have hk := drawn_lt (show k ∈ drawnOf nums by rw [e0]; simp)
    have lp0 : p0.length ≤ (drawnOf nums).length := by rw [e0]; simp
    have s1 := hn k hk
    have s2 := sub_pairs (k := k) rfl hk
    have s3 := cl_word2 H TT n ls nums k hk
    rw [← mOf_eq] at s3
    exact Step1.pass (.name rfl) (by exact (SubL.cons rfl (SubL.cons rfl SubL.nil))) .nil (emL_step (by exact (Ev.def2 H rfl (Evs.cons rfl (Ev.sub H (fun _ _ => rfl) (Ev.nameF rfl rfl) (Ev.nameF rfl rfl) s2) (Evs.cons rfl (Ev.bin H (Ev.bin H (Ev.sub H (fun _ _ => rfl) (Ev.nameF rfl rfl) (Ev.nameF rfl rfl) s1) Ev.int (.divI _ _ (by decide) (by decide))) Ev.int (.modI _ _ (by decide) (by decide))) Evs.nil)) s3)) (by rw [List.length_map, List.length_map]; omega) (by rw [List.map_append, List.map_append]; rfl))
  have hw : (wsOf nums).length = (drawnOf nums).length := List.length_map ..
  have k1 : Blt (Str.mk (Array.mk [108, 101, 110])) [(natsL (drawnOf nums), true)] (.int ((drawnOf nums).length : Nat)) := by
    have := Blt.lenL (b := true) ((drawnOf nums).map fun i : Nat => D.int (i : Int)) (by rw [List.length_map]; omega)
    rwa [List.length_map] at this
  refine Ex.step (E1.newLC H false rfl (l := strsL ((pcs nums).map S)) (ls' := ls) ?c3 ⟨rfl, ?_⟩)
  case c3 =>
    refine CompG.step (fun k : Nat => .int (k : Int)) (List.range (drawnOf nums).length) [((Str.mk (Array.mk [119, 111, 114, 100, 115])), ⟨.fz, wsD (wsOf nums)⟩), ((Str.mk (Array.mk [110, 117, 109, 98, 101, 114, 115])), ⟨.fz, intsL nums⟩), ((Str.mk (Array.mk [100, 114, 97, 119, 110])), ⟨.fz, natsL (drawnOf nums)⟩)] (fun q => strsL ((((drawnOf nums).take q.length).map (pcOf nums)).map S)) rfl (by rw [List.length_range, List.take_length]; rfl) rfl rfl rfl (fun _ h => nomatch h) (by exact (Ev.blt H (Tp.blt TT rfl) rfl (Evs.cons rfl (Ev.blt H (Tp.blt TT rfl) rfl (Evs.cons rfl (Ev.nameF rfl rfl) Evs.nil) k1) Evs.nil) (.range1 _))) (fun h => nomatch h) (iter_n rfl (by omega)) (by exact (SubL.cons rfl (SubL.cons rfl (SubL.cons rfl SubL.nil)))) ?_
    intro p0 k r0 e0
    obtain ⟨rfl, hx⟩ := range_split e0
    have s0 := sub_nats (O := drawnOf nums) (i := p0.length) hx (by omega)
    have ed : (drawnOf nums).getD p0.length 0 = (drawnOf nums)[p0.length] := by rw [List.getD_eq_getElem?_getD, List.getElem?_eq_getElem hx]; rfl
    have hk := drawn_lt (List.getElem_mem hx)
    rw [ed] at s0
    have s1 := hn _ hk
    have s2 : Sub (wsD (wsOf nums)) (.int (p0.length : Int)) (.str (S [(wOf nums (drawnOf nums)[p0.length]).1, (wOf nums (drawnOf nums)[p0.length]).2])) := sub_list rfl (by omega) (by unfold wsOf; rw [List.getElem?_map, List.getElem?_map, List.getElem?_eq_getElem hx]; rfl)
    obtain ⟨m1, m2⟩ := wOf_mem (nums := nums) hk
    have s3 := cl_written H TT (n + 1) ls _ _ (mOf nums (drawnOf nums)[p0.length]) m1 m2 (mOf_lt _ _)
    rw [← mOf_eq] at s3
    have et : (drawnOf nums).take (p0 ++ [p0.length]).length = (drawnOf nums).take p0.length ++ [(drawnOf nums)[p0.length]] := by rw [List.length_append, List.length_singleton, List.take_add_one, List.getElem?_eq_getElem hx]; rfl
    have lt : (strsL ((((drawnOf nums).take p0.length).map (pcOf nums)).map S)).length ≤ 1000000 := by unfold strsL; rw [List.length_map, List.length_map, List.length_map, List.length_take]; omega
    exact Step1.pass (.name rfl) (by exact (SubL.cons rfl (SubL.cons rfl (SubL.cons rfl SubL.nil)))) .nil (emL_step (by exact (Ev.def2 H rfl (Evs.cons rfl (Ev.sub H (fun _ _ => rfl) (Ev.nameF rfl rfl) (Ev.nameF rfl rfl) s2) (Evs.cons rfl (Ev.bin H (Ev.bin H (Ev.sub H (fun _ _ => rfl) (Ev.nameF rfl rfl) (Ev.sub H (fun _ _ => rfl) (Ev.nameF rfl rfl) (Ev.nameF rfl rfl) s0) s1) Ev.int (.divI _ _ (by decide) (by decide))) Ev.int (.modI _ _ (by decide) (by decide))) Evs.nil)) s3)) lt (by rw [et, List.map_append, List.map_append]; unfold strsL; rw [List.map_append]; rfl))
  have hpl := pcs_len nums
  have hj : JoinOk (S []) ((pcs nums).map S) = true := by
    refine joinOk_of ?_
    have e : (((pcs nums).map S).map (·.length)).sum = (pcs nums).flatten.length := by
      rw [List.map_map, List.length_flatten]
      rfl
    rw [e]
    show _ + _ * 0 ≤ _
    omega
  have mj := Meth.join (b := true) (b' := true) (S []) ((pcs nums).map S) hj
  rw [join_flat] at mj
  have b1 := bin_s (x := (pcs nums).flatten) (y := [13, 32, 46]) (z := txt nums) rfl (by show _ + 3 ≤ _; omega)
  refine Ex.step (E1.assign H rfl rfl (Ev.bin H (Ev.meth H base_const rfl (by decide) Ev.str (Evs.cons rfl (.nameF rfl rfl) .nil) mj) Ev.str b1) ⟨rfl, ?_⟩)
  exact Ex.step (E1.newL H true rfl (ds := [.int 0]) (by exact (Evs.fzCons rfl Ev.int Evs.fzNil)) (Nat.le_of_ble_eq_true rfl) ⟨rfl, h⟩)
end
noncomputable def nmN (i : Nat) : Nat := NM.getD i 0
noncomputable def ixN (c : Nat) : Nat := NM.idxOf c
theorem ix_nm : ∀ i, i < 6 → ixN (nmN i) = i := by decide
theorem nm_ix : ∀ c ∈ NM, nmN (ixN c) = c := by decide
theorem ix_lt : ∀ c ∈ NM, ixN c < 6 := by decide
noncomputable def prN (k : Nat) : Nat × Nat := PR.getD k (0, 0)
noncomputable def hit (i j k : Nat) : Bool := decide (prN k = (i, j)) || decide (prN k = (j, i))
noncomputable def tieP (p : List Nat) (i j : Nat) : Bool := p.any (hit i j)
theorem tieP_snoc (p : List Nat) (k i j : Nat) : tieP (p ++ [k]) i j = (tieP p i j || hit i j k) := by unfold tieP; rw [List.any_append]; simp
theorem tieP_sym (p : List Nat) (i j : Nat) : tieP p i j = tieP p j i := by
  unfold tieP
  congr 1
  funext k
  unfold hit
  exact Bool.or_comm _ _
theorem pr_facts : ∀ k, k < 15 → (prN k).1 < (prN k).2 ∧ (prN k).2 < 6 := by decide
theorem tieP_irr (p : List Nat) (hp : ∀ k ∈ p, k < 15) (i : Nat) : tieP p i i = false := by
  unfold tieP
  rw [List.any_eq_false]
  intro k hk h
  have := (pr_facts k (hp k hk)).1
  unfold hit at h
  simp only [Bool.or_self, decide_eq_true_eq] at h
  rw [h] at this
  exact Nat.lt_irrefl _ this
noncomputable def rowS (f : Nat → Bool) : Str := ⟨((List.range 6).map fun j => if f j then 1 else 0).toArray⟩
theorem setS_row (f : Nat → Bool) (j : Nat) : setS (rowS f) j = rowS (fun b => f b || decide (b = j)) := by
  unfold setS rowS
  congr 2
  refine List.ext_getElem (by simp) fun i h1 h2 => ?_
  simp only [List.getElem_set, List.getElem_map, List.getElem_range]
  by_cases q : j = i
  · subst q; simp
  · simp [q, Ne.symm q]
theorem set_rows (g : Nat → Str) (i : Nat) (v : Str) : ((List.range 6).map g).set i v = (List.range 6).map fun a => if a = i then v else g a := by
  refine List.ext_getElem (by simp) fun k h1 h2 => ?_
  simp only [List.getElem_set, List.getElem_map, List.getElem_range]
  by_cases q : i = k
  · subst q; simp
  · simp [q, Ne.symm q]
theorem get_rows (g : Nat → Str) (i : Nat) (h : i < 6) : ((List.range 6).map g).getD i zeroS = g i := by
  rw [List.getD_eq_getElem?_getD, List.getElem?_map, List.getElem?_range h]; rfl
theorem tieStep_rows (f : Nat → Nat → Bool) (k : Nat) (hk : k < 15) : tieStep ((List.range 6).map fun i => rowS (f i)) k = (List.range 6).map fun i => rowS fun j => f i j || hit i j k := by
  obtain ⟨h1, h2⟩ := pr_facts k hk
  unfold tieStep
  show (List.set _ (prN k).2 _) = _
  show List.set (List.set _ (prN k).1 (setS (List.getD _ (prN k).1 zeroS) (prN k).2)) (prN k).2 (setS (List.getD (List.set _ (prN k).1 (setS (List.getD _ (prN k).1 zeroS) (prN k).2)) (prN k).2 zeroS) (prN k).1) = _
  unfold hit
  generalize prN k = p at *
  obtain ⟨i, j⟩ := p
  dsimp only at h1 h2 ⊢
  rw [get_rows _ i (by omega), setS_row, set_rows, get_rows _ j h2, if_neg (by omega), setS_row, set_rows]
  refine List.map_congr_left fun a ha => ?_
  by_cases q1 : a = j
  · subst q1
    rw [if_pos rfl]
    congr 1
    funext b
    have : ¬ (i = a) := by omega
    by_cases q2 : b = i
    · subst q2; simp
    · have : ¬ i = b := Ne.symm q2
      simp [q2, this, *]
  · rw [if_neg q1]
    by_cases q2 : a = i
    · subst q2
      rw [if_pos rfl]
      congr 1
      funext b
      have e1 : ¬ j = a := Ne.symm q1
      by_cases q3 : b = j
      · subst q3; simp
      · have : ¬ j = b := Ne.symm q3
        simp [q3, this, e1]
    · rw [if_neg q2]
      congr 1
      funext b
      have e1 : ¬ i = a := Ne.symm q2
      have e2 : ¬ j = a := Ne.symm q1
      simp [e1, e2]
theorem tiesF_rows : ∀ (n : Nat) (p : List Nat), p.length = n → (∀ k ∈ p, k < 15) → tiesF p = (List.range 6).map fun i => rowS (tieP p i)
  | 0, p, h, _ => by
    rw [List.eq_nil_of_length_eq_zero h]
    rfl
  | n + 1, p, h, hp => by
    rcases List.eq_nil_or_concat p with rfl | ⟨q, k, rfl⟩
    · cases h
    · rw [List.concat_eq_append] at *
      rw [tiesF_snoc, tiesF_rows n q (by simpa using h) (fun x hx => hp x (List.mem_append_left _ hx)), tieStep_rows _ _ (hp k (by simp))]
      refine List.map_congr_left fun i _ => ?_
      congr 1
      funext j
      rw [tieP_snoc]
theorem rowD_row (f : Nat → Bool) : rowD (rowS f) = .list ((List.range 6).map fun j => .bool (f j)) := by
  unfold rowD rowS
  rw [List.map_map]
  congr 1
  refine List.map_congr_left fun j _ => ?_
  show D.bool ((if f j = true then 1 else 0) == 1) = _
  cases f j <;> rfl
theorem ties_D (p : List Nat) (hp : ∀ k ∈ p, k < 15) : D.list ((tiesF p).map rowD) = tiesD (tieP p) := by
  rw [tiesF_rows _ p rfl hp, List.map_map]
  show _ = D.list _
  congr 1
  exact List.map_congr_left fun i _ => rowD_row _
noncomputable def nrow (f : Nat → Bool) : Row := ((List.range 6).filter f).map fun j => (nmN j, 1)
theorem filter_new (f : Nat → Bool) (j0 : Nat) (h : ∀ j, f j = true → j < j0) : ∀ m, j0 < m → (List.range m).filter (fun j => f j || decide (j = j0)) = (List.range m).filter f ++ [j0]
  | 0, h => absurd h (Nat.not_lt_zero _)
  | m + 1, hm => by
    rw [List.range_succ, List.filter_append, List.filter_append]
    have hm' : f m = false := by
      cases e : f m with
      | false => rfl
      | true => have := h m e; omega
    have e1 : [m].filter f = [] := by rw [List.filter_cons_of_neg (by rw [hm']; decide), List.filter_nil]
    rw [e1, List.append_nil]
    by_cases q : m = j0
    · subst q
      have : (List.range m).filter (fun j => f j || decide (j = m)) = (List.range m).filter f := List.filter_congr fun j hj => by
        have : j ≠ m := Nat.ne_of_lt (List.mem_range.mp hj)
        simp [this]
      rw [this, List.filter_cons_of_pos (by simp)]
      rfl
    · rw [filter_new f j0 h m (by omega), List.filter_cons_of_neg (by simp [hm', q]), List.filter_nil, List.append_nil]
theorem nrow_new (f : Nat → Bool) (j0 : Nat) (h : ∀ j, f j = true → j < j0) (h6 : j0 < 6) : addC (nrow f) (nmN j0) 1 = nrow fun j => f j || decide (j = j0) := by
  have hk : nmN j0 ∉ keysR (nrow f) := by
    unfold keysR nrow
    rw [List.map_map]
    intro m
    obtain ⟨j, hj, e⟩ := List.mem_map.mp m
    have e : nmN j = nmN j0 := e
    have hj := List.mem_filter.mp hj
    have := congrArg ixN e
    rw [ix_nm j (List.mem_range.mp hj.1), ix_nm j0 h6] at this
    have := h j hj.2
    omega
  rw [addC_new hk]
  unfold nrow
  rw [filter_new f j0 h 6 h6, List.map_append]
  rfl
theorem pr_order : ∀ n, n < 15 → ∀ k, k < n → ∀ j, j < 6 → (hit (prN n).1 j k = true → j < (prN n).2) ∧ (hit (prN n).2 j k = true → j < (prN n).1) := by decide +kernel
theorem hit_lt {i j k : Nat} (hk : k < 15) (h : hit i j k = true) : j < 6 := by
  obtain ⟨h1, h2⟩ := pr_facts k hk
  unfold hit at h
  rw [Bool.or_eq_true, decide_eq_true_eq, decide_eq_true_eq] at h
  rcases h with h | h <;> rw [h] at h1 h2 <;> dsimp only at h1 h2 <;> omega
theorem book_row (t : Nat → Row) (x y z : Nat) (h : x ≠ y) : stepP 1 (stepP 1 t (y, x)) (x, y) z = if z = x then addC (t x) y 1 else if z = y then addC (t y) x 1 else t z := by
  unfold stepP updR
  dsimp only
  by_cases h1 : z = y
  · subst h1; rw [if_pos rfl, if_neg (Ne.symm h), if_neg (Ne.symm h), if_pos rfl]
  · rw [if_neg h1, if_neg h1]
noncomputable def dN (nums : List Int) (n : Nat) : List Nat := (List.range n).filter (odd nums)
theorem nm_inj {i j : Nat} (hi : i < 6) (hj : j < 6) (h : i ≠ j) : nmN i ≠ nmN j := fun e => h (by rw [← ix_nm i hi, e, ix_nm j hj])
theorem dN_lt {nums : List Int} {n k : Nat} (h : k ∈ dN nums n) : k < n := List.mem_range.mp (List.mem_filter.mp h).1
theorem book_rows (nums : List Int) : ∀ n, n ≤ 15 → ∀ i, i < 6 → bookT ((dN nums n).map (wOf nums)) (nmN i) = nrow (tieP (dN nums n) i)
  | 0, _, i, _ => rfl
  | n + 1, h, i, hi => by
    have ih := book_rows nums n (by omega)
    have e0 : dN nums (n + 1) = dN nums n ++ [n].filter (odd nums) := by unfold dN; rw [List.range_succ, List.filter_append]
    cases ho : odd nums n with
    | false => rw [e0, List.filter_cons_of_neg (by rw [ho]; decide), List.filter_nil, List.append_nil]; exact ih i hi
    | true =>
      rw [e0, List.filter_cons_of_pos ho, List.filter_nil, List.map_append]
      show bookT (_ ++ [wOf nums n]) _ = _
      rw [bookT_snoc]
      obtain ⟨p1, p2⟩ := pr_facts n (by omega)
      have po := fun j => pr_order n (by omega) (j := j)
      have tl : ∀ i j, tieP (dN nums n) i j = true → ∃ k, k < n ∧ hit i j k = true := fun i j h => by
        obtain ⟨k, hk, e⟩ := List.any_eq_true.mp h
        exact ⟨k, dN_lt hk, e⟩
      have ew : wOf nums n = (nmN (prN n).1, nmN (prN n).2) ∨ wOf nums n = (nmN (prN n).2, nmN (prN n).1) := by
        unfold wOf
        split
        · exact .inl rfl
        · exact .inr rfl
      have f1 : ∀ j, tieP (dN nums n) (prN n).1 j = true → j < (prN n).2 := fun j h => by
        obtain ⟨k, hk, e⟩ := tl _ _ h
        exact (pr_order n (by omega) k hk j (hit_lt (by omega) e)).1 e
      have f2 : ∀ j, tieP (dN nums n) (prN n).2 j = true → j < (prN n).1 := fun j h => by
        obtain ⟨k, hk, e⟩ := tl _ _ h
        exact (pr_order n (by omega) k hk j (hit_lt (by omega) e)).2 e
      have i1 := ih (prN n).1 (by omega)
      have i2 := ih (prN n).2 (by omega)
      have ii := ih i hi
      have ne := nm_inj (i := (prN n).1) (j := (prN n).2) (by omega) p2 (by omega)
      have fin : (if nmN i = nmN (prN n).1 then addC (bookT ((dN nums n).map (wOf nums)) (nmN (prN n).1)) (nmN (prN n).2) 1 else if nmN i = nmN (prN n).2 then addC (bookT ((dN nums n).map (wOf nums)) (nmN (prN n).2)) (nmN (prN n).1) 1 else bookT ((dN nums n).map (wOf nums)) (nmN i)) = nrow (tieP (dN nums n ++ [n]) i) := by
        have es : tieP (dN nums n ++ [n]) i = fun j => tieP (dN nums n) i j || hit i j n := by funext j; rw [tieP_snoc]
        rw [es, i1, i2, ii]
        unfold hit
        generalize prN n = p at *
        obtain ⟨a, b⟩ := p
        dsimp only at *
        by_cases q1 : i = a
        · subst q1
          rw [if_pos rfl, nrow_new _ _ f1 p2]
          congr 1
          funext j
          have : ¬ b = i := by omega
          simp [this, eq_comm]
        · rw [if_neg (nm_inj hi (by omega) q1)]
          by_cases q2 : i = b
          · subst q2
            rw [if_pos rfl, nrow_new _ _ f2 (by omega)]
            congr 1
            funext j
            simp [q1, Ne.symm q1, eq_comm]
          · rw [if_neg (nm_inj hi p2 q2)]
            congr 1
            funext j
            simp [Ne.symm q1, Ne.symm q2]
      rcases ew with ew | ew <;> rw [ew, book_row _ _ _ _ (by first | exact ne | exact ne.symm)]
      · exact fin
      · rw [← fin]
        by_cases q1 : nmN i = nmN (prN n).2
        · rw [if_pos q1, if_neg (fun e => ne (e.symm.trans q1)), if_pos q1]
        · rw [if_neg q1, if_neg q1]
noncomputable def tC (T : Nat → Nat → Bool) (x a : Nat) : Bool := T (ixN x) (ixN a)
theorem keys_nrow (f : Nat → Bool) : keysR (nrow f) = ((List.range 6).filter f).map nmN := by
  unfold keysR nrow
  rw [List.map_map]
  rfl
theorem mem_keys (f : Nat → Bool) {j : Nat} (h : j < 6) : nmN j ∈ keysR (nrow f) ↔ f j = true := by
  rw [keys_nrow, List.mem_map]
  constructor
  · rintro ⟨i, hi, e⟩
    obtain ⟨h1, h2⟩ := List.mem_filter.mp hi
    have := congrArg ixN e
    rw [ix_nm i (List.mem_range.mp h1), ix_nm j h] at this
    rwa [this] at h2
  · exact fun e => ⟨j, List.mem_filter.mpr ⟨List.mem_range.mpr h, e⟩, rfl⟩
theorem lookup_one (c : Nat) : ∀ L : List Nat, (L.map fun j => (nmN j, (1 : Int))).lookup c = if c ∈ L.map nmN then some 1 else none
  | [] => by simp
  | j :: L => by
    rw [List.map_cons, List.lookup_cons, lookup_one c L, List.map_cons]
    by_cases h : c = nmN j
    · subst h; simp
    · have : (c == nmN j) = false := by simpa using h
      simp [this, h]
theorem val_nrow (f : Nat → Bool) {j : Nat} (h : j < 6) : valR (nrow f) (nmN j) = b2i (f j) := by
  unfold valR nrow
  rw [lookup_one, ← keys_nrow]
  by_cases q : f j = true
  · rw [if_pos ((mem_keys f h).mpr q), q]; rfl
  · rw [if_neg (fun m => q ((mem_keys f h).mp m)), Bool.eq_false_iff.mpr q]; rfl
theorem nrow_nodup (f : Nat → Bool) : (keysR (nrow f)).Nodup := by
  rw [keys_nrow]
  have h : ((List.range 6).map nmN).Nodup := by decide
  exact List.Sublist.nodup (List.filter_sublist.map nmN) h
theorem cmpB_trans : ∀ x u v : List Bool, x.length = u.length → v.length = u.length → cmpB v u = -1 → cmpB x u ≠ -1 → cmpB x v ≠ -1
  | [], u, v, _, _, _, _ => by cases v <;> simp [cmpB]
  | a :: x, [], v, h, _, _, _ => by cases h
  | a :: x, b :: u, [], _, h, _, _ => by cases h
  | a :: x, b :: u, d :: v, h1, h2, h3, h4 => by
    have ih := cmpB_trans x u v (by simpa using h1) (by simpa using h2)
    unfold cmpB at h3 h4 ⊢
    cases a <;> cases b <;> cases d <;> simp at h3 h4 ⊢ <;> exact ih h3 h4
theorem sel_best (g : Nat → List Bool) (m : Nat) (hg : ∀ x, (g x).length = m) : ∀ (os : List Nat) (s : Nat × List Nat), (∀ x ∈ s.2, cmpB (g x) (g s.1) ≠ -1) → ∀ x ∈ (os.foldl (selS g) s).2, cmpB (g x) (g (os.foldl (selS g) s).1) ≠ -1
  | [], s, h => h
  | o :: os, s, h => by
    refine sel_best g m hg os (selS g s o) ?_
    unfold selS
    split
    · rename_i q
      intro x hx
      rcases List.mem_append.mp hx with hx | hx
      · exact cmpB_trans _ _ _ ((hg _).trans (hg _).symm) ((hg _).trans (hg _).symm) q (h x hx)
      · rw [List.mem_singleton.mp hx, cmpB_neg, q]
        decide
    · rename_i q
      intro x hx
      rcases List.mem_append.mp hx with hx | hx
      · exact h x hx
      · rw [List.mem_singleton.mp hx]; exact q
section
variable (t : Nat → Nat → Bool) (Q : List Nat)
theorem rnds_step (n : Nat) (h : (rnds t Q n).2 ≠ []) : ∃ r, r ∈ (rnds t Q n).2 ∧ (rnds t Q (n + 1)).1 = (rnds t Q n).1 ++ [r] ∧ (∀ x ∈ (rnds t Q (n + 1)).2, x ∈ (rnds t Q n).2) ∧ ∀ x ∈ (rnds t Q (n + 1)).2, cmpB (lab t (rnds t Q n).1 x) (lab t (rnds t Q n).1 r) ≠ -1 := by
  show ∃ r, _ ∧ (rnd t (rnds t Q n)).1 = _ ∧ (∀ x ∈ (rnd t (rnds t Q n)).2, _) ∧ ∀ x ∈ (rnd t (rnds t Q n)).2, _
  generalize rnds t Q n = s at *
  obtain ⟨tk, R⟩ := s
  cases R with
  | nil => exact absurd rfl h
  | cons f os =>
    have hp := selS_perm (lab t tk) os (f, [])
    have hb := sel_best (lab t tk) tk.length (fun x => by simp [lab]) os (f, []) (fun _ h => nomatch h)
    exact ⟨_, hp.mem_iff.mp (List.mem_cons_self ..), rfl, fun x hx => hp.mem_iff.mp (List.mem_cons_of_mem _ hx), hb⟩
theorem rnds_more (m : Nat) : ∀ n, ∃ l, (rnds t Q (m + n)).1 = (rnds t Q m).1 ++ l ∧ (∀ x ∈ l, x ∈ (rnds t Q m).2) ∧ ∀ x ∈ (rnds t Q (m + n)).2, x ∈ (rnds t Q m).2
  | 0 => ⟨[], (List.append_nil _).symm, fun _ h => (nomatch h), fun _ h => h⟩
  | n + 1 => by
    obtain ⟨l, h1, h2, h3⟩ := rnds_more m n
    by_cases q : (rnds t Q (m + n)).2 = []
    · have e : rnds t Q (m + (n + 1)) = rnds t Q (m + n) := by
        show rnd t (rnds t Q (m + n)) = _
        generalize rnds t Q (m + n) = s at *
        obtain ⟨tk, R⟩ := s
        cases (q : R = [])
        rfl
      rw [e]
      exact ⟨l, h1, h2, h3⟩
    · obtain ⟨r, r1, r2, r3, _⟩ := rnds_step t Q (m + n) q
      refine ⟨l ++ [r], by rw [← List.append_assoc, ← h1]; exact r2, fun x hx => ?_, fun x hx => h3 x (r3 x hx)⟩
      rcases List.mem_append.mp hx with hx | hx
      · exact h2 x hx
      · rw [List.mem_singleton.mp hx]; exact h3 r r1
theorem lex_best (hQ : Q.length = 6) (b c : Nat) (hb : b < c) (hc : c < 6) : cmpB (lab t ((rnds t Q 6).1.take b) ((rnds t Q 6).1.getD c 0)) (lab t ((rnds t Q 6).1.take b) ((rnds t Q 6).1.getD b 0)) ≠ -1 := by
  have lb := rnds_len t Q b (by omega)
  have pb := (rnds_perm t Q b).length_eq
  rw [List.length_append, lb, hQ] at pb
  obtain ⟨r, r1, r2, r3, r4⟩ := rnds_step t Q b (fun e => by rw [e] at pb; simp at pb; omega)
  obtain ⟨l, l1, l2, l3⟩ := rnds_more t Q (b + 1) (5 - b)
  rw [show b + 1 + (5 - b) = 6 by omega, r2] at l1
  have l6 := rnds_len t Q 6 (by omega)
  rw [l1] at l6 ⊢
  simp at l6
  have e1 : (((rnds t Q b).1 ++ [r]) ++ l).take b = (rnds t Q b).1 := by
    rw [List.append_assoc, List.take_append_of_le_length (by omega), List.take_of_length_le (by omega)]
  have e2 : (((rnds t Q b).1 ++ [r]) ++ l).getD b 0 = r := by
    rw [List.getD_eq_getElem?_getD, List.append_assoc, List.getElem?_append_right (by omega), lb, Nat.sub_self]
    rfl
  have e3 : (((rnds t Q b).1 ++ [r]) ++ l).getD c 0 ∈ l := by
    rw [List.getD_eq_getElem?_getD, List.getElem?_append_right (by simp; omega), List.getElem?_eq_getElem (by simp; omega)]
    exact List.getElem_mem _
  rw [e1, e2]
  exact r4 _ (l2 _ e3)
end
theorem cmpB_four : ∀ (u v : List Bool), cmpB u v ≠ -1 → ∀ a : Nat, u[a]? = some true → v[a]? = some false → ∃ d, d < a ∧ u[d]? = some false ∧ v[d]? = some true
  | [], v, _, a, h, _ => by simp at h
  | x :: u, [], _, a, _, h => by simp at h
  | x :: u, y :: v, h, a, h1, h2 => by
    unfold cmpB at h
    split at h
    · rename_i q
      cases a with
      | zero => simp at h1 h2; rw [h1, h2] at q; cases q
      | succ a =>
        obtain ⟨d, d1, d2, d3⟩ := cmpB_four u v h a h1 h2
        exact ⟨d + 1, by omega, d2, d3⟩
    · rename_i q
      cases a with
      | zero => simp at h1; rw [h1] at h; exact absurd rfl h
      | succ a =>
        cases x with
        | true => exact absurd rfl h
        | false => cases y with
          | true => exact ⟨0, by omega, rfl, rfl⟩
          | false => exact absurd rfl q
theorem lab_get (t : Nat → Nat → Bool) (tk : List Nat) (b x a : Nat) (ha : a < b) (hl : a < tk.length) : (lab t (tk.take b) x)[a]? = some (t x (tk.getD a 0)) := by
  unfold lab
  rw [List.getElem?_map, List.getElem?_take, if_pos ha, List.getD_eq_getElem?_getD, List.getElem?_eq_getElem hl]
  rfl
theorem four_ok (T : Nat → Nat → Bool) (hs : ∀ i j, T i j = T j i) (Q : List Nat) (hQ : Q.length = 6) : Four T ((rnds (tC T) Q 6).1.map ixN) := by
  intro a b c hab hbc hc h1 h2
  have l6 := rnds_len (tC T) Q 6 (by omega)
  have hb := lex_best (tC T) Q hQ b c hbc hc
  generalize (rnds (tC T) Q 6).1 = tk at *
  have gm : ∀ i, i < 6 → (tk.map ixN).getD i 0 = ixN (tk.getD i 0) := fun i hi => by
    rw [List.getD_eq_getElem?_getD, List.getElem?_map, List.getD_eq_getElem?_getD, List.getElem?_eq_getElem (by omega)]
    rfl
  rw [gm a (by omega), gm b (by omega)] at h2
  rw [gm a (by omega), gm c hc] at h1
  obtain ⟨d, d1, d2, d3⟩ := cmpB_four _ _ hb a (by rw [lab_get _ _ _ _ _ hab (by omega)]; show some (T (ixN _) (ixN _)) = _; rw [hs, h1]) (by rw [lab_get _ _ _ _ _ hab (by omega)]; show some (T (ixN _) (ixN _)) = _; rw [hs, h2])
  refine ⟨d, d1, ?_, ?_⟩
  · rw [lab_get _ _ _ _ _ (by omega) (by omega)] at d3
    rw [gm d (by omega), gm b (by omega), hs]
    exact Option.some.inj d3
  · rw [lab_get _ _ _ _ _ (by omega) (by omega)] at d2
    rw [gm d (by omega), gm c hc, hs]
    exact Option.some.inj d2
noncomputable def qOf (tn : Nat) : List Nat := (List.range 6).map fun k => nmN ((tn + k * (1 + tn / 6 * 4)) % 6)
theorem qOf_perm : ∀ tn, tn < 12 → (qOf tn).Perm NM := by decide
theorem taken_perm (t : Nat → Nat → Bool) (Q : List Nat) (hQ : Q.Perm NM) : (rnds t Q 6).1.Perm NM := by
  have h1 := rnds_perm t Q 6
  have h2 := rnds_len t Q 6 (by rw [hQ.length_eq]; decide)
  have h3 := h1.length_eq
  rw [List.length_append, h2, hQ.length_eq] at h3
  rw [List.eq_nil_of_length_eq_zero (show (rnds t Q 6).2.length = 0 by have : NM.length = 6 := rfl; omega), List.append_nil] at h1
  exact h1.trans hQ
theorem eqs_words : ∀ cs : List Nat, Eqs (cs.map fun c => D.str (S [c])) (cs.map fun c => D.str (S [c])) true
  | [] => .nil
  | c :: cs => by
    have h := Eqf.str (S [c]) (S [c])
    rw [beq_self_eq_true] at h
    exact .cons (a := true) (b := true) h (eqs_words cs)
theorem ne_words (cs : List Nat) : Cmp .NotEq (wordsD cs) (wordsD cs) false := .ne (t := true) (.low (.list (eqs_words cs)))
theorem cnt_count (c : Nat) : ∀ L : List Nat, PyProof.Rows.cnt c L = ((L.count c : Nat) : Int)
  | [] => rfl
  | d :: L => by
    rw [PyProof.Rows.cnt_cons, cnt_count c L, List.count_cons]
    by_cases h : d = c
    · subst h; simp; try omega
    · have : (d == c) = false := by simpa using h
      simp [this, h]
theorem txt_count (L : List Nat) : Txt.count (S L) (S [10]) = ((L.count 10 : Nat) : Int) :=
  (count_cnt (S L) 10).trans (cnt_count 10 L)
theorem eqd_row (r : Row) (nd : (keysR r).Nodup) : Eqd Eqf (rowL r) (rowL r) true := by
  have : ∀ s : Row, (∀ p ∈ s, r.lookup p.1 = some p.2) → Eqd Eqf (rowL r) (rowL s) true := by
    intro s
    induction s with
    | nil => intro _; exact .nil
    | cons p s ih =>
      intro h
      have e := Eqf.int p.2 p.2
      rw [beq_self_eq_true] at e
      exact .hit (a := true) (b := true) (by rw [lookD_row, h p (List.mem_cons_self ..)]; rfl) e (ih fun q hq => h q (List.mem_cons_of_mem _ hq))
  refine this r fun p hp => ?_
  clear this
  induction r with
  | nil => cases hp
  | cons q r ih =>
    obtain ⟨b, u⟩ := q
    rw [List.lookup_cons]
    unfold keysR at nd
    rw [List.map_cons, List.nodup_cons] at nd
    rcases List.mem_cons.mp hp with rfl | hp
    · simp
    · have : (p.1 == b) = false := by
        have : p.1 ≠ b := fun e => nd.1 (e ▸ List.mem_map_of_mem (f := (·.1)) hp)
        simpa using this
      simp only [this]
      exact ih nd.2 hp
theorem eqd_tb (nm : List Nat) (t : Nat → Row) (nd : ∀ c, (keysR (t c)).Nodup) : Eqd Eq1 (tbL nm t) (tbL nm t) true := by
  have : ∀ s : List Nat, (∀ c ∈ s, c ∈ nm) → Eqd Eq1 (tbL nm t) (tbL s t) true := by
    intro s
    induction s with
    | nil => intro _; exact .nil
    | cons c s ih =>
      intro h
      exact .hit (a := true) (b := true) (lookD_tb (h c (List.mem_cons_self ..))) (.dict rfl (eqd_row _ (nd c))) (ih fun q hq => h q (List.mem_cons_of_mem _ hq))
  exact this nm fun _ h => h
theorem ne_tb (nm : List Nat) (t : Nat → Row) (nd : ∀ c, (keysR (t c)).Nodup) : Cmp .NotEq (.dict (tbL nm t)) (.dict (tbL nm t)) false := .ne (t := true) (.dict rfl (eqd_tb nm t nd))
theorem strs_words (cs : List Nat) : strsL (cs.map fun c => S [c]) = cs.map fun c => .str (S [c]) := List.map_map ..
theorem idx_at (c : Nat) (h : c ∈ NM) : Meth (.str (S NM)) true (Str.mk (Array.mk [105, 110, 100, 101, 120])) [(.str (S [c]), true)] (.int (ixN c : Nat)) := by
  have h1 : c = 97 ∨ c = 35 ∨ c = 34 ∨ c = 92 ∨ c = 32 ∨ c = 10 := by simpa [NM] using h
  rcases h1 with rfl | rfl | rfl | rfl | rfl | rfl
  · exact .index _ _ (i := 0) (r := []) (by kernel_rfl)
  · exact .index _ _ (i := 1) (r := []) (by kernel_rfl)
  · exact .index _ _ (i := 2) (r := []) (by kernel_rfl)
  · exact .index _ _ (i := 3) (r := []) (by kernel_rfl)
  · exact .index _ _ (i := 4) (r := []) (by kernel_rfl)
  · exact .index _ _ (i := 5) (r := []) (by kernel_rfl)
theorem ne_two (a b : Str) : Cmp .NotEq (.tup [.str a, .str b]) (.tup [.str a, .str b]) false := by
  have h1 := Eqf.str a a
  have h2 := Eqf.str b b
  rw [beq_self_eq_true] at h1 h2
  exact .ne (t := true) (.low (.tup (.cons (a := true) (b := true) h1 (.cons (a := true) (b := true) h2 .nil))))
theorem ne_twoI (i j : Int) : Cmp .NotEq (.tup [.int i, .int j]) (.tup [.int i, .int j]) false := by
  have h1 := Eqf.int i i
  have h2 := Eqf.int j j
  rw [beq_self_eq_true] at h1 h2
  exact .ne (t := true) (.low (.tup (.cons (a := true) (b := true) h1 (.cons (a := true) (b := true) h2 .nil))))
noncomputable def nrT (T : Nat → Nat → Bool) (c : Nat) : Row := nrow (T (ixN c))
noncomputable def eRow (T : Nat → Nat → Bool) (tk : List Nat) (k : Nat) : Row := ((tk.take k).filter (tC T (tk.getD k 0))).map fun a => (a, 1)
noncomputable def powN (T : Nat → Nat → Bool) (O : List Nat) : Nat := ((List.range 6).map fun k => 2 ^ ((O.take k).filter (T (O.getD k 0))).length).sum
structure Pl (T : Nat → Nat → Bool) (O : List Nat) : Prop where
  eq : ringsN T figs = 0 → powN T O = wholeN T figs
  lt : ringsN T figs ≠ 0 → wholeN T figs < powN T O
noncomputable def srt : List Nat := [10, 32, 34, 35, 92, 97]
theorem srt_perm : NM.Perm srt := by decide
theorem sum_ones (l : List Nat) : sumR (l.map fun a => (a, (1 : Int))) = ((l.length : Nat) : Int) := by
  unfold sumR
  rw [List.map_map]
  induction l with
  | nil => rfl
  | cons a l ih => rw [List.map_cons, List.sum_cons, ih, List.length_cons]; simp; omega
theorem sum_cast (f : Nat → Nat) : ∀ l : List Nat, (l.map fun k => ((f k : Nat) : Int)).sum = (((l.map f).sum : Nat) : Int)
  | [] => rfl
  | k :: l => by rw [List.map_cons, List.sum_cons, sum_cast f l, List.map_cons, List.sum_cons]; omega
theorem filt_len (T : Nat → Nat → Bool) (tk : List Nat) (h6 : tk.length = 6) (k : Nat) (hk : k < 6) : ((tk.take k).filter (tC T (tk.getD k 0))).length = (((tk.map ixN).take k).filter (T ((tk.map ixN).getD k 0))).length := by
  have e : (tk.map ixN).getD k 0 = ixN (tk.getD k 0) := by
    rw [List.getD_eq_getElem?_getD, List.getElem?_map, List.getD_eq_getElem?_getD, List.getElem?_eq_getElem (by omega)]; rfl
  rw [e, ← List.map_take, List.filter_map, List.length_map]
  rfl
theorem Ev.sliceW {c : Cx} {n : Nat} {sc : Scope} {loc : Loc} {ls : LS} {e : Expr} {x y : Bool} {w : Str} {p p' pos : Pos} (H : Hy c) {cs : List Nat} {k : Nat} (hl : k ≤ cs.length) (hf : cs.length ≤ 1000) (h1 : Ev c n sc loc ls (.Name w p) (wordsD cs) x ls) (h3 : Ev c n sc loc ls e (.int (k : Int)) y ls) :
    Ev c n sc loc ls (.Subscript (.Name w p) (.Slice Option.none (some e) Option.none p') pos) (wordsD (cs.take k)) true ls := by
  have := Ev.sliceL (p' := p') (pos := pos) H h1 .none (.some h3) (Int.natCast_nonneg k) (by rw [List.length_map]; omega) (by rw [List.length_map]; omega)
  rwa [Int.toNat_natCast, ← List.map_take] at this
theorem Ev.sortedW {c : Cx} {n : Nat} {sc : Scope} {loc : Loc} {ls ls1 : LS} {e : Expr} {x : Bool} {pos p : Pos} (H : Hy c) (hb : c.mg "sorted" = Option.none ∧ c.mb "sorted" = some (.builtin "sorted")) (hg : isGlob sc loc "sorted" = true) {tk : List Nat} (he : isStarred e = false) (hp : tk.Perm NM) (h1 : Ev c n sc loc ls e (wordsD tk) x ls1) : Ev c n sc loc ls (.Call (.Name "sorted" p) [e] [] pos) (.list (strsL (srt.map fun c => S [c]))) true ls1 := by
  have h1 : Ev c n sc loc ls e (.list (tk.map fun c => .str (S [c]))) x ls1 := h1
  rw [← strs_words] at h1
  exact Ev.sortedL H hb hg he (by rw [List.length_map, hp.length_eq]; decide) ((hp.trans srt_perm).map _) (by decide +kernel) h1
section
variable {c : Cx} (H : Hy c) (TT : Tp c) (TL : Tl c) (n : Nat)
include H TT TL
theorem law_B2 (L : List Nat) (hL : L.length ≤ 1000000) (p' : Nat) (T : Nat → Nat → Bool) (tk : List Nat) (hp : tk.Perm NM) (h4 : Four T (tk.map ixN)) (pl : Pl T (tk.map ixN)) (rdot : GetT c (LXk L p' false) (S [46]) (LXk L L.length true)) (rend : GetT c (LXk L L.length true) (S []) (LXk L L.length true)) :
    Ex c (n + 51) rLaw.1.scope [((Str.mk (Array.mk [116, 101, 120, 116])), ⟨.fz, .str (S L)⟩), ((Str.mk (Array.mk [97, 116])), ⟨.fz, .atl⟩), ((Str.mk (Array.mk [108, 101, 120])), ⟨.fz, .lex⟩), ((Str.mk (Array.mk [110, 101, 97, 114])), ⟨.fz, .dict (tbL NM (nrT T))⟩), ((Str.mk (Array.mk [110, 97, 109, 101, 115])), ⟨.fz, .str (S NM)⟩), ((Str.mk (Array.mk [116, 105, 101, 100])), ⟨.fz, tiesD T⟩), ((Str.mk (Array.mk [104, 101, 114, 101])), ⟨.fz, .int (p' : Nat)⟩), ((Str.mk (Array.mk [116, 97, 107, 101, 110])), ⟨.fz, wordsD tk⟩)] (some (LXk L p' false)) (rLaw.1.body.drop 19) fun af _ _ => af = .ret (.bool true) := by
  have h6 : tk.length = 6 := hp.length_eq
  have hN : ∀ c ∈ tk, c ∈ NM := fun c h => hp.mem_iff.mp h
  have ne1 : Cmp .NotEq (.list (strsL (srt.map fun c => S [c]))) (.list (strsL (srt.map fun c => S [c]))) false := by rw [strs_words]; exact ne_words srt
  have ne2 : Cmp .NotEq (.int ((LXk L p' false).pos : Nat)) (.int (p' : Nat)) false := cmp_nint (by simp [LXk])
  have ne3 := ne_two (S [46]) (S [])
  refine Ex.step (E1.ifF H (Tr.boolop (.orF (ls1 := some (LXk L p' false)) H (Tr.cmp H rfl (Ev.sortedW H TT.srt rfl rfl hp (.nameF rfl rfl)) (Ev.sortedS (y := S NM) (ls1 := some (LXk L p' false)) H TT.srt rfl (l0 := srt.map fun c => S [c]) rfl (Nat.lt_of_sub_pos (by decide)) (srt_perm.map fun c => S [c]) (by decide +kernel) (.nameF rfl rfl)) ne1) (.orF (ls1 := some (LXk L p' false)) H (by exact (Tr.cmp H rfl (Ev.at0 H (Tl.at0 TL) (fun _ _ => rfl) (Ev.nameF rfl rfl) Ev.int) (Ev.nameF rfl rfl) ne2)) (.orF (ls1 := some (LXk L L.length true)) H (by exact (Tr.cmp H rfl (Ev.tuple H (Evs.fzCons rfl (Ev.get H TL (Nat.le_of_ble_eq_true rfl) rfl rfl rfl rdot) (Evs.fzCons rfl (Ev.get H TL (Nat.le_of_ble_eq_true rfl) rfl rfl rfl rend) Evs.fzNil)) (Nat.le_of_ble_eq_true rfl)) (Ev.tuple H (Evs.fzCons rfl Ev.str (Evs.fzCons rfl Ev.str Evs.fzNil)) (Nat.le_of_ble_eq_true rfl)) ne3)) .nil)))) (Ex.nil ⟨rfl, ?_⟩))
  have mc := Meth.count (b := true) (b' := true) (S L) (S [10])
  rw [txt_count] at mc
  have k2 : Blt (Str.mk (Array.mk [108, 101, 110])) [(.str (S L), true)] (.int (L.length : Nat)) := .lenS (S L) hL
  have t5 : Cmp .NotEq (.tup [.int ((LXk L L.length true).pos : Nat), .int (LXk L L.length true).line]) (.tup [.int (L.length : Nat), .int (1 + (L.count 10 : Nat))]) false := by
    have eL : (LXk L L.length true).line = 1 + (L.count 10 : Nat) := by unfold LXk; rw [List.take_length]
    rw [eL]; exact ne_twoI _ _
  refine Ex.step (E1.ifF H (ls1 := some (LXk L L.length true)) (by exact (Tr.cmp H rfl (Ev.tuple H (Evs.fzCons rfl (Ev.at0 H (Tl.at0 TL) (fun _ _ => rfl) (Ev.nameF rfl rfl) Ev.int) (Evs.fzCons rfl (Ev.lexA H (Tl.line TL) (Ev.nameF rfl rfl)) Evs.fzNil)) (Nat.le_of_ble_eq_true rfl)) (Ev.tuple H (Evs.fzCons rfl (Ev.blt H (Tp.blt TT rfl) rfl (Evs.cons rfl (Ev.nameF rfl rfl) Evs.nil) k2) (Evs.fzCons rfl (Ev.bin H Ev.int (Ev.meth H base_name rfl (Nat.le_of_ble_eq_true rfl) (Ev.nameF rfl rfl) (Evs.cons rfl Ev.str Evs.nil) mc) (.addI _ _)) Evs.fzNil)) (Nat.le_of_ble_eq_true rfl)) t5)) (Ex.nil ⟨rfl, ?_⟩))
  generalize (some (LXk L L.length true) : LS) = ls
  have hO : ∀ i ∈ tk.map ixN, i < 6 := fun i hi => by
    obtain ⟨c, hc, rfl⟩ := List.mem_map.mp hi
    exact ix_lt c (hN c hc)
  have q4 := cl_four H TT (n + 50) ls T (tk.map ixN) (by rw [List.length_map, h6]) hO h4
  refine Ex.step (E1.ifF H (ls1 := ls) (Tr.not (t := true) (Tr.val H (fun _ _ => rfl) (Ev.def2 H rfl (Evs.cons rfl (.nameF rfl rfl) (Evs.cons rfl (Ev.listComp H (ls' := ls) ?c1) .nil)) q4) (.bool _))) (Ex.nil ⟨rfl, ?_⟩))
  case c1 =>
    have e1 : (tk.map fun c => D.int (ixN c : Nat)) = (tk.map ixN).map fun i : Nat => D.int (i : Int) := by rw [List.map_map]; rfl
    refine CompG.step (fun c => .str (S [c])) tk [((Str.mk (Array.mk [110, 97, 109, 101, 115])), ⟨.fz, .str (S NM)⟩)] (fun q => q.map fun c => D.int (ixN c : Nat)) rfl e1 rfl rfl rfl (fun _ h => nomatch h) (.nameF rfl rfl) (fun h => nomatch h) (.list (by rw [List.length_map]; omega)) (by exact (SubL.cons rfl SubL.nil)) ?_
    intro p0 x r0 e0
    have lp0 : p0.length ≤ tk.length := by rw [e0]; simp
    have ix := idx_at x (hN x (by rw [e0]; simp))
    exact Step1.pass (.name rfl) (by exact (SubL.cons rfl SubL.nil)) .nil (emL_step (by exact (Ev.meth H base_name rfl (Nat.le_of_ble_eq_true rfl) (Ev.nameF rfl rfl) (Evs.cons rfl (Ev.nameF rfl rfl) Evs.nil) ix)) (by rw [List.length_map]; omega) (by rw [List.map_append]; rfl))
  refine Ex.step (E1.newLC H false rfl (l := (List.range 6).map fun k => toD (eRow T tk k)) (ls' := ls) ?c2 ⟨rfl, ?_⟩)
  case c2 =>
    refine CompG.step (fun k : Nat => .int (k : Int)) (List.range 6) [((Str.mk (Array.mk [110, 101, 97, 114])), ⟨.fz, .dict (tbL NM (nrT T))⟩), ((Str.mk (Array.mk [116, 97, 107, 101, 110])), ⟨.fz, wordsD tk⟩)] (fun q => q.map fun k => toD (eRow T tk k)) rfl rfl rfl rfl rfl (fun _ h => nomatch h) (by exact (Ev.blt H (Tp.blt TT rfl) rfl (Evs.cons rfl Ev.int Evs.nil) (.range1 _))) (fun h => nomatch h) (iter_n rfl (by decide)) (by exact (SubL.cons rfl (SubL.cons rfl SubL.nil))) ?_
    intro p0 k r0 e0
    obtain ⟨rfl, hk⟩ := range_split e0
    have hl : (p0.map fun k => toD (eRow T tk k)).length ≤ 1000000 := by rw [List.length_map]; omega
    refine Step1.pass (.name rfl) (SubL.cons rfl (SubL.cons rfl .nil)) .nil (emL_step (l1 := [((Str.mk (Array.mk [110, 101, 97, 114])), ⟨.fz, .dict (tbL NM (nrT T))⟩), ((Str.mk (Array.mk [116, 97, 107, 101, 110])), ⟨.fz, wordsD tk⟩), ((Str.mk (Array.mk [107])), ⟨.fz, .int (p0.length : Int)⟩)]) (Ev.dictComp H (ls' := ls) ?c3) hl (by rw [List.map_append]; rfl))
    have w0 : Sub (wordsD tk) (.int (p0.length : Int)) (.str (S [tk.getD p0.length 0])) := sub_list rfl (by omega) (by rw [List.getElem?_map, List.getD_eq_getElem?_getD, List.getElem?_eq_getElem (by omega)]; rfl)
    have hx : tk.getD p0.length 0 ∈ NM := by
      rw [List.getD_eq_getElem?_getD, List.getElem?_eq_getElem (by omega)]; exact hN _ (List.getElem_mem _)
    have w1 := lookD_tb (t := nrT T) hx
    have nd : tk.Nodup := hp.nodup_iff.mpr (by decide)
    show CompG _ _ _ _ _ _ _ _ _ (rowL (((tk.take p0.length).filter (tC T (tk.getD p0.length 0))).map fun a => (a, 1))) _
    generalize p0.length = k at *
    generalize tk.getD k 0 = x at *
    refine CompG.step (fun c => .str (S [c])) (tk.take k) [((Str.mk (Array.mk [110, 101, 97, 114])), ⟨.fz, .dict (tbL NM (nrT T))⟩), ((Str.mk (Array.mk [116, 97, 107, 101, 110])), ⟨.fz, wordsD tk⟩), ((Str.mk (Array.mk [107])), ⟨.fz, .int (k : Int)⟩)] (fun q => rowL ((q.filter (tC T x)).map fun a => (a, 1))) rfl rfl rfl rfl rfl (fun _ h => nomatch h) (Ev.sliceW H (by omega) (by omega) (.nameF rfl rfl) (.nameF rfl rfl)) (fun h => nomatch h) (.list (by rw [List.length_map, List.length_take]; omega)) (by exact (SubL.cons rfl (SubL.cons rfl (SubL.cons rfl SubL.nil)))) ?_
    intro p1 a r1 e1
    have ha : a ∈ tk := List.mem_of_mem_take (show a ∈ tk.take k by rw [e1]; simp)
    have aN := hN a ha
    have lp1 : p1.length ≤ 6 := by
      have := congrArg List.length e1
      simp at this
      omega
    have hf : rowL ([] : Row) = [] := rfl
    have lf := List.length_filter_le (tC T x) p1
    have t1 := Cmp.inD (S [a]) (rowL (nrT T x))
    have na : a ∉ p1 := by
      have := nd.sublist (List.take_sublist k tk)
      rw [e1, List.nodup_append] at this
      exact fun h => this.2.2 _ h _ (List.mem_cons_self ..) rfl
    have ek : a ∈ keysR (nrT T x) ↔ tC T x a = true := by
      have := mem_keys (T (ixN x)) (ix_lt a aN)
      rwa [nm_ix a aN] at this
    rw [lookD_isSome] at t1
    rw [List.filter_append]
    cases hc : tC T x a with
    | false =>
      rw [decide_eq_false (fun m => by rw [ek.mp m] at hc; cases hc)] at t1
      rw [List.filter_cons_of_neg (by rw [hc]; decide)]
      exact Step1.skip (.name rfl) (by exact (SubL.cons rfl (SubL.cons rfl (SubL.cons rfl SubL.nil)))) (.stop (by exact (Tr.cmp H rfl (Ev.nameF rfl rfl) (Ev.sub H (fun _ _ => rfl) (Ev.nameF rfl rfl) (Ev.sub H (fun _ _ => rfl) (Ev.nameF rfl rfl) (Ev.nameF rfl rfl) w0) (.dict w1)) t1))) (by rw [List.filter_nil, List.append_nil])
    | true =>
      have mk := ek.mpr hc
      rw [decide_eq_true mk] at t1
      have w2 := row_at mk
      have hv : valR (nrT T x) a = 1 := by
        have := val_nrow (T (ixN x)) (ix_lt a aN)
        rw [nm_ix a aN] at this
        unfold nrT
        rw [this, show T (ixN x) (ixN a) = true from hc]; rfl
      rw [hv] at w2
      have w3 : Sub (.dict (rowL (nrT T x))) (.str (S [a])) (.int 1) := .dict w2
      rw [List.filter_cons_of_pos hc, List.filter_nil, List.map_append]
      have hnew : a ∉ keysR ((p1.filter (tC T x)).map fun a => (a, (1 : Int))) := by
        unfold keysR
        rw [List.map_map]
        intro m
        obtain ⟨b, hb, e⟩ := List.mem_map.mp m
        have e : b = a := e
        exact na (e ▸ (List.mem_filter.mp hb).1)
      exact Step1.pass (.name rfl) (by exact (SubL.cons rfl (SubL.cons rfl (SubL.cons rfl SubL.nil)))) (.cons (by exact (Tr.cmp H rfl (Ev.nameF rfl rfl) (Ev.sub H (fun _ _ => rfl) (Ev.nameF rfl rfl) (Ev.sub H (fun _ _ => rfl) (Ev.nameF rfl rfl) (Ev.nameF rfl rfl) w0) (.dict w1)) t1)) .nil) (emD_step (by exact (Ev.nameF rfl rfl)) (d := .int 1) (by exact (Ev.sub H (fun _ _ => rfl) (Ev.sub H (fun _ _ => rfl) (Ev.nameF rfl rfl) (Ev.sub H (fun _ _ => rfl) (Ev.nameF rfl rfl) (Ev.nameF rfl rfl) w0) (.dict w1)) (Ev.nameF rfl rfl) w3)) (by rw [rowL_len, List.length_map]; omega) (putD_new _ a 1 hnew).symm)
  have k3 : Blt (Str.mk (Array.mk [115, 117, 109])) [(.list (((List.range 6).map fun k => ((2 ^ ((tk.take k).filter (tC T (tk.getD k 0))).length : Nat) : Int)).map .int), true)] (.int (powN T (tk.map ixN) : Nat)) := by
    have := Blt.sum (b := true) ((List.range 6).map fun k => ((2 ^ ((tk.take k).filter (tC T (tk.getD k 0))).length : Nat) : Int)) (Nat.le_of_ble_eq_true rfl)
    rw [sum_cast] at this
    have e : powN T (tk.map ixN) = ((List.range 6).map fun k => 2 ^ ((tk.take k).filter (tC T (tk.getD k 0))).length).sum := by
      unfold powN
      congr 1
      exact List.map_congr_left fun k hk => by rw [filt_len T tk h6 k (List.mem_range.mp hk)]
    rwa [← e] at this
  refine Ex.step (E1.assign H rfl rfl (Ev.blt H (TT.blt rfl) rfl (Evs.cons rfl (Ev.listComp H (ls' := ls) ?c4) .nil) k3) ⟨rfl, ?_⟩)
  case c4 =>
    refine CompG.step (fun k : Nat => toD (eRow T tk k)) (List.range 6) [] (fun q => (q.map fun k => ((2 ^ ((tk.take k).filter (tC T (tk.getD k 0))).length : Nat) : Int)).map .int) rfl rfl rfl rfl rfl (fun _ h => nomatch h) (.nameF rfl rfl) (fun h => nomatch h) (.list (Nat.le_of_ble_eq_true rfl)) .nil ?_
    intro p0 k r0 e0
    obtain ⟨rfl, hk⟩ := range_split e0
    have lf := List.length_filter_le (tC T (tk.getD p0.length 0)) (tk.take p0.length)
    rw [List.length_take] at lf
    have q5 := cl_count H TT (n + 50) ls (eRow T tk p0.length) (by unfold eRow; rw [List.length_map]; omega)
    have es : sumR (eRow T tk p0.length) = _ := sum_ones _
    rw [es] at q5
    have b1 : Bin .Pow (.int 2) (.int (((tk.take p0.length).filter (tC T (tk.getD p0.length 0))).length : Nat)) (.int ((2 ^ ((tk.take p0.length).filter (tC T (tk.getD p0.length 0))).length : Nat) : Int)) := by
      have := Bin.powI 2 (((tk.take p0.length).filter (tC T (tk.getD p0.length 0))).length : Nat) (by omega) (by omega) ⟨by decide, by decide⟩
      rw [Int.toNat_natCast] at this
      have e2 : (2 : Int) ^ ((tk.take p0.length).filter (tC T (tk.getD p0.length 0))).length = ((2 ^ ((tk.take p0.length).filter (tC T (tk.getD p0.length 0))).length : Nat) : Int) := by simp
      rwa [e2] at this
    exact Step1.pass (.name rfl) .nil .nil (emL_step (by exact (Ev.bin H Ev.int (Ev.def2 H rfl (Evs.cons rfl (Ev.nameF rfl rfl) Evs.nil) q5) b1)) (by rw [List.length_map, List.length_map]; omega) (by rw [List.map_append, List.map_append]; rfl))
  have q6 := cl_counts H TT (n + 50) ls T
  refine Ex.step (E1.tuple H rfl (fun _ => swapped_none (fun _ _ _ h => nomatch h)) (by exact (Ev.def2 H rfl (Evs.cons rfl (Ev.nameF rfl rfl) Evs.nil) q6)) (.cons rfl (.cons rfl .nil)) ⟨rfl, ?_⟩)
  obtain ⟨pe, pn⟩ := pl
  generalize powN T (tk.map ixN) = P at *
  generalize wholeN T figs = W at *
  generalize ringsN T figs = R at *
  by_cases hR : R = 0
  · have t1 : Cmp .Eq (.int (R : Nat)) (.int 0) true := cmp_int (by simp [hR])
    have t2 : Cmp .Eq (.int (P : Nat)) (.int (W : Nat)) true := cmp_int (by simp [pe hR])
    exact Ex.ret H (Ev.ifT H (by exact (Tr.cmp H rfl (Ev.nameF rfl rfl) Ev.int t1)) (by exact (Ev.cmp H rfl (Ev.nameF rfl rfl) (Ev.nameF rfl rfl) t2))) rfl
  · have t1 : Cmp .Eq (.int (R : Nat)) (.int 0) false := cmp_int (by simp [hR])
    have t2 : Cmp .Gt (.int (P : Nat)) (.int (W : Nat)) true := by
      have := Cmp.gt (P : Nat) (W : Nat)
      rwa [decide_eq_true (by have := pn hR; omega)] at this
    exact Ex.ret H (Ev.ifF H (by exact (Tr.cmp H rfl (Ev.nameF rfl rfl) Ev.int t1)) (by exact (Ev.cmp H rfl (Ev.nameF rfl rfl) (Ev.nameF rfl rfl) t2))) rfl
end
theorem pcs_drop {nums : List Int} {i : Nat} (h : i < (drawnOf nums).length) : (pcs nums).drop i = pcOf nums (drawnOf nums)[i] :: (pcs nums).drop (i + 1) := by
  rw [List.drop_eq_getElem_cons (by unfold pcs; rw [List.length_map]; exact h)]
  unfold pcs
  rw [List.getElem_map]
theorem escQ_itm (c : Nat) : ∃ e, escQ c = itm e c ∧ (e = false → c ≠ 34 ∧ c ≠ 92) := by
  unfold escQ
  split
  · exact ⟨true, rfl, nofun⟩
  · rename_i q
    exact ⟨false, rfl, fun _ => ⟨fun e => q (.inl e), fun e => q (.inr e)⟩⟩
theorem ws_at (j : Nat) : isWs (wsAt j) := by
  unfold wsAt isWs
  split
  · exact .inl rfl
  · split
    · exact .inr (.inl rfl)
    · split
      · exact .inr (.inr (.inl rfl))
      · exact .inr (.inr (.inr rfl))
theorem hid_itm (h : Bool) (b v : Nat) (a : Nat) : [92, a] ++ hidT h ++ [b] ++ [v] = 92 :: a :: (itm h b ++ [v]) := by
  cases h <;> rfl
theorem bare_ok : ∀ b ∈ NM, b ∉ [92, 32, 10] → b ∉ [10, 9, 13, 32] ∧ b ≠ 92 := by decide
theorem wr_tok (a b m : Nat) (hb : b ∈ NM) : TokW (wrT a b m) [a, b] ∧ ∀ v ∈ wrW m, isWs v := by
  unfold wrT wrW
  split
  · refine ⟨?_, fun v hv => ?_⟩
    · obtain ⟨e, e1, e2⟩ := escQ_itm a
      obtain ⟨f, f1, f2⟩ := escQ_itm b
      rw [e1, f1]
      have : 34 :: (itm e a ++ itm f b) ++ [34] = 34 :: (itm e a ++ (itm f b ++ [34])) := by simp
      rw [this]
      exact .quot e2 f2
    · unfold sepAt at hv
      split at hv
      · cases hv
      · split at hv
        · rw [List.mem_singleton.mp hv]; exact .inl rfl
        · split at hv
          · rw [List.mem_singleton.mp hv]; exact .inr (.inr (.inl rfl))
          · rw [List.mem_singleton.mp hv]; exact .inr (.inl rfl)
  · rw [hid_itm]
    refine ⟨.bare (ws_at _) fun h => bare_ok b hb ?_, fun v hv => nomatch hv⟩
    unfold hid at h
    rw [Bool.or_eq_false_iff] at h
    exact of_decide_eq_false h.2
noncomputable abbrev w2 (w : Nat × Nat) : D := .str (S [w.1, w.2])
theorem Ex.words {c : Cx} (H : Hy c) (TL : Tl c) {n : Nat} (h40 : 40 ≤ n) (hread : ∀ l y lE, Reads l y lE → GetT c l y lE) {sc csc : Scope} {loc : Loc} {T : AF → Loc → LS → Prop} {rest : List Stmt} {nums : List Int} {w lx k : Str} {p0 p2 p3 p4 p5 p6 p7 : Pos} {it : Expr} {b : Bool} (hw : canW sc w = true) (hset : isSet it = false) (hcap : capOK sc csc = true)
    (hit : Ev c n sc loc (some (LXk (txt nums) 0 false)) it (wsD (wsOf nums)) b (some (LXk (txt nums) 0 false))) (hk : canW csc k = true) (hlx : (capt csc loc).lookup lx = some ⟨.fz, .lex⟩) (hne : lx ≠ k) (hpl : plainN lx = true) (hl : (p3.endLine == p5.line) = true)
    (hT : ∀ p' W, (txt nums).drop p' = W ++ [13, 32, 46] → (∀ v ∈ W, isWs v) → Ex c n sc (setL w ⟨.fz, wsD (wsOf nums)⟩ loc) (some (LXk (txt nums) p' false)) rest T) :
    Ex c n sc loc (some (LXk (txt nums) 0 false)) (.Assign [.Name w p0] (.ListComp (.Call (.Attribute (.Name lx p2) (Str.mk (Array.mk [103, 101, 116, 95, 116, 111, 107, 101, 110])) p3) [] [] p5) [⟨.Name k p4, it, [], 0⟩] csc p6) p7 :: rest) T := by
  have dl := drawn_len nums
  obtain ⟨loc', acc', ls', hc, l', hs, rfl, rfl, p', W, rfl, hd, hW⟩ := citems_inv (c := c) (n := n) (sc := csc) (cg := ⟨.Name k p4, it, [], 0⟩) (rest := CRest c n csc (EmL c n csc (.Call (.Attribute (.Name lx p2) (Str.mk (Array.mk [103, 101, 116, 95, 116, 111, 107, 101, 110])) p3) [] [] p5)) []) (fun i : Nat => w2 (wOf nums i)) (drawnOf nums)
    (fun p l acc ls => l = [(lx, ⟨.fz, .lex⟩)] ∧ acc = p.map (fun i => w2 (wOf nums i)) ∧ ∃ p' W, ls = some (LXk (txt nums) p' false) ∧ (txt nums).drop p' = W ++ (((pcs nums).drop p.length).flatten ++ [13, 32, 46]) ∧ ∀ v ∈ W, isWs v)
    (fun p i q l acc ls e hI => by
      obtain ⟨rfl, rfl, p', W, rfl, hd, hW⟩ := hI
      have lp : p.length < (drawnOf nums).length := by rw [e]; simp
      have ei : (drawnOf nums)[p.length] = i := by
        have : (drawnOf nums)[p.length]? = some i := by rw [e]; simp
        rw [List.getElem?_eq_getElem lp] at this
        exact Option.some.inj this
      rw [pcs_drop lp, ei, List.flatten_cons] at hd
      have hi := drawn_lt (nums := nums) (k := i) (ei ▸ List.getElem_mem lp)
      obtain ⟨t1, t2⟩ := wr_tok (wOf nums i).1 (wOf nums i).2 (mOf nums i) (wOf_mem hi).2
      obtain ⟨R, hd'⟩ := reads_tok (L := txt nums) (W := W) (p := p') (e := false) (t := wrT (wOf nums i).1 (wOf nums i).2 (mOf nums i)) (r := wrW (mOf nums i) ++ (((pcs nums).drop (p.length + 1)).flatten ++ [13, 32, 46])) (by rw [hd]; unfold pcOf; simp [List.append_assoc]) hW t1
      have hsub : SubL [(lx, (⟨.fz, .lex⟩ : LV))] (setL k ⟨.fz, w2 (wOf nums i)⟩ [(lx, ⟨.fz, .lex⟩)]) := .cons (by rw [lookup_setL, if_neg hne]; exact List.lookup_cons_self ..) .nil
      refine ⟨_, _, true, .name hk, .nil, fun _ loc1 h1 => ⟨loc1, _, _, ⟨_, Ev.get H TL h40 hl hpl (h1 _ _ (hsub _ _ (List.lookup_cons_self ..))) (hread _ _ _ R), ?_, rfl, rfl⟩, _, hsub.trans h1, rfl, ?_, _, _, rfl, ?_, t2⟩, (nomatch ·)⟩
      · rw [List.length_map]; omega
      · rw [List.map_append]; rfl
      · rw [show (p ++ [i]).length = p.length + 1 by simp]; exact hd') (drawnOf nums) [] [(lx, ⟨.fz, .lex⟩)] (capt csc loc) [] (some (LXk (txt nums) 0 false)) rfl ⟨rfl, rfl, 0, [], rfl, by simp [txt], by simp⟩ (.cons hlx .nil)
  have e7 : (pcs nums).drop (drawnOf nums).length = [] := List.drop_of_length_le (by unfold pcs; rw [List.length_map]; exact Nat.le_refl _)
  rw [e7] at hd
  have em : (drawnOf nums).map (fun i => w2 (wOf nums i)) = (wsOf nums).map w2 := by unfold wsOf; rw [List.map_map]; rfl
  rw [em] at hc
  exact Ex.step (E1.newLC H false hw ⟨_, [], _, b, _, _, loc', rfl, hset, rfl, hcap, (fun _ h => nomatch h), hit, (fun h => nomatch h), .list (by unfold wsOf; rw [List.length_map, List.length_map]; omega), hc⟩ ⟨rfl, hT p' W hd hW⟩)
theorem eqs_ws : ∀ W : List (Nat × Nat), Eqs (W.map w2) (W.map w2) true
  | [] => .nil
  | w :: W => by
    have h := Eqf.str (S [w.1, w.2]) (S [w.1, w.2])
    rw [beq_self_eq_true] at h
    exact .cons (a := true) (b := true) h (eqs_ws W)
theorem ne_ws (W : List (Nat × Nat)) : Cmp .NotEq (wsD W) (wsD W) false := .ne (t := true) (.low (.list (eqs_ws W)))
theorem nm_range : (List.range 6).map nmN = NM := by decide
theorem near_eq (nums : List Int) : tbL NM (bookT (wsOf nums)) = tbL NM (nrT (tieP (drawnOf nums))) := by
  unfold tbL
  refine List.map_congr_left fun c hc => ?_
  have := book_rows nums 15 (Nat.le_refl _) (ixN c) (ix_lt c hc)
  rw [nm_ix c hc] at this
  show (_, toD (bookT ((dN nums 15).map (wOf nums)) c)) = _
  rw [this]
  rfl
theorem putD_tb_new {p : List Nat} {t : Nat → Row} {d : Nat} {v : D} (h : d ∉ p) : putD (tbL p t) (S [d]) v = tbL p t ++ [(S [d], v)] := by
  unfold putD
  rw [if_neg]
  intro h'
  obtain ⟨y, hy, e⟩ := List.any_eq_true.mp h'
  unfold tbL at hy
  obtain ⟨c, hc, rfl⟩ := List.mem_map.mp hy
  simp only [s_one, decide_eq_true_eq] at e
  exact h (e ▸ hc)
noncomputable def wyOf (nums : List Int) : List Int := (List.range 6).map fun k => 1 - 2 * (nOf nums k / 32 % 2)
theorem wy_ok (nums : List Int) : ∀ x ∈ wyOf nums, x = 1 ∨ x = -1 := by
  intro x hx
  obtain ⟨k, _, rfl⟩ := List.mem_map.mp hx
  omega
def PlainAll : Prop := ∀ (T : Nat → Nat → Bool) (O : List Nat), (∀ i j, T i j = T j i) → (∀ i, T i i = false) → O.Perm (List.range 6) → Four T O → Pl T O
section
variable {c : Cx} (H : Hy c) (TT : Tp c) (T0 : Tp (cN c)) (TL : Tl c) (n : Nat) (hread : ∀ l y lE, Reads l y lE → GetT c l y lE)
include H TT T0 TL hread
theorem law_B (hpa : PlainAll) (ns : List Int) (hns : ns.length ≤ 63) (nums : List Int) (h15 : nums.length = 15) :
    Ex c (n + 51) rLaw.1.scope (setL (Str.mk (Array.mk [108, 101, 120])) ⟨.fz, .lex⟩ (setL (Str.mk (Array.mk [97, 116])) ⟨.fz, .atl⟩ (loc7 ns nums))) (some (LXk (txt nums) 0 false)) (rLaw.1.body.drop 8) fun af _ _ => af = .ret (.bool true) := by
  unfold loc7
  refine Ex.words H TL (by omega) hread rfl rfl rfl (.nameF rfl rfl) rfl rfl (by decide) rfl rfl fun p' W hd hW => ?_
  have rdot := hread _ _ _ (reads_dot (W := W ++ [13, 32]) (e := false) (by rw [hd]; simp) (fun v hv => (List.mem_append.mp hv).elim (hW v) fun hv => by
    simp at hv
    rcases hv with rfl | rfl
    · exact .inr (.inr (.inr rfl))
    · exact .inl rfl) (by
    have := congrArg List.length hd
    rw [List.length_drop] at this
    simp at this
    omega))
  have hL : (txt nums).length ≤ 1000000 := by
    have := pcs_len nums
    unfold txt
    rw [List.length_append, List.length_cons, List.length_cons, List.length_singleton]
    omega
  have rend := hread _ _ _ (reads_end (txt nums))
  have hN : ∀ k : Nat, k < 6 → Sub (intsL nums) (.int (k : Int)) (.int (nOf nums k)) := fun k hk => by
    have := sub_ints (ns := nums) (i := (k : Int)) (j := k) rfl (by omega) (by omega)
    unfold nOf
    rwa [List.getD_eq_getElem?_getD, List.getElem?_eq_getElem (by omega)]
  have hdl := drawn_len nums
  have hd15 : ∀ k ∈ drawnOf nums, k < 15 := fun k => drawn_lt
  have lW : (wsOf nums).length ≤ 15 := by unfold wsOf; rw [List.length_map]; exact hdl
  have mW : ∀ w ∈ wsOf nums, w.1 ∈ NM ∧ w.2 ∈ NM := fun w hw => by
    obtain ⟨k, hk, rfl⟩ := List.mem_map.mp hw
    exact wOf_mem (hd15 k hk)
  have qb := cl_book H TT (n + 49) (some (LXk (txt nums) p' false)) (wsOf nums) lW mW
  rw [near_eq] at qb
  have qt := cl_ties H T0 (n + 49) (drawnOf nums) hd15 hdl
  rw [ties_D _ hd15] at qt
  have sy := tieP_sym (drawnOf nums)
  have ir := tieP_irr (drawnOf nums) hd15
  have ed : natsL (drawnOf nums) = .list (((drawnOf nums).map fun k : Nat => (k : Int)).map .int) := by rw [List.map_map]; rfl
  generalize hL' : txt nums = L at *
  generalize drawnOf nums = dr at *
  generalize wsOf nums = Ws at *
  generalize tieP dr = T at *
  have ne1 := ne_ws Ws
  refine Ex.sub (loc' := [((Str.mk (Array.mk [115, 99, 114, 105, 112, 116])), ⟨.bor, intsL ns⟩), ((Str.mk (Array.mk [110, 117, 109, 98, 101, 114, 115])), ⟨.fz, intsL nums⟩), ((Str.mk (Array.mk [100, 114, 97, 119, 110])), ⟨.fz, natsL dr⟩), ((Str.mk (Array.mk [116, 101, 120, 116])), ⟨.fz, .str (S L)⟩), ((Str.mk (Array.mk [97, 116])), ⟨.fz, .atl⟩), ((Str.mk (Array.mk [108, 101, 120])), ⟨.fz, .lex⟩), ((Str.mk (Array.mk [119, 111, 114, 100, 115])), ⟨.fz, wsD Ws⟩), ((Str.mk (Array.mk [116, 111, 108, 100])), ⟨.fz, wsD Ws⟩)]) (by exact (SubL.cons rfl (SubL.cons rfl (SubL.cons rfl (SubL.cons rfl (SubL.cons rfl (SubL.cons rfl (SubL.cons rfl (SubL.cons rfl SubL.nil))))))))) ?_
  refine Ex.step (E1.ifF H (by exact (Tr.cmp H rfl (Ev.nameF rfl rfl) (Ev.nameF rfl rfl) ne1)) (Ex.nil ⟨rfl, ?_⟩))
  refine Ex.step (E1.assign H rfl rfl (by exact (Ev.def2 H rfl (Evs.cons rfl (Ev.nameF rfl rfl) Evs.nil) qb)) ⟨rfl, ?_⟩)
  have q0 := cl_names H TT (n + 50) (some (LXk L p' false))
  refine Ex.step (E1.assign H rfl rfl (by exact (Ev.def2 H rfl Evs.nil q0)) ⟨rfl, ?_⟩)
  refine Ex.step (E1.assign H rfl rfl (d := tiesD T) (ls' := some (LXk L p' false)) (Ev.defN (l := dr.map fun k : Nat => (k : Int)) H TT.ties rfl (.cons rfl (ed ▸ .nameF rfl rfl) .nil) (by rw [ed] at qt; exact qt)) ⟨rfl, ?_⟩)
  have l6 : ∀ q : List Nat, (∃ r, List.range 6 = q ++ r) → q.length ≤ 6 := fun q ⟨r, e⟩ => by have := congrArg List.length e; simp at this; omega
  have nq : ∀ (q : List Nat) (k : Nat) (r : List Nat), List.range 6 = q ++ k :: r → nmN k ∉ q.map nmN := fun q k r e => by
    have : ((List.range 6).map nmN).Nodup := by decide
    rw [e, List.map_append, List.map_cons, List.nodup_append] at this
    exact fun h => this.2.2 _ h _ (List.mem_cons_self ..) rfl
  have ntb := ne_tb NM (nrT T) fun c => nrow_nodup _
  refine Ex.step (E1.ifF H (ls1 := some (LXk L p' false)) (Tr.cmp H rfl (.nameF rfl rfl) (Ev.dictComp H (r := tbL NM (nrT T)) (ls' := some (LXk L p' false)) ?dc) ntb) (Ex.nil ⟨rfl, ?_⟩))
  case dc =>
    refine CompG.step (fun i : Nat => .int (i : Int)) (List.range 6) [((Str.mk (Array.mk [110, 97, 109, 101, 115])), ⟨.fz, .str (S NM)⟩), ((Str.mk (Array.mk [116, 105, 101, 100])), ⟨.fz, tiesD T⟩)] (fun q => tbL (q.map nmN) (nrT T)) rfl (by rw [nm_range]) rfl rfl rfl (fun _ h => nomatch h) (by exact (Ev.blt H (Tp.blt TT rfl) rfl (Evs.cons rfl Ev.int Evs.nil) (.range1 _))) (fun h => nomatch h) (iter_n rfl (by decide)) (by exact (SubL.cons rfl (SubL.cons rfl SubL.nil))) ?_
    intro p0 k r0 e0
    have hk : k < 6 := List.mem_range.mp (by rw [e0]; simp)
    have lp0 := l6 p0 ⟨_, e0⟩
    have s1 := sub_nm H TT (i := k) rfl hk
    rw [nm_get k hk] at s1
    have s1 : Sub (.str (S NM)) (.int (k : Int)) (.str (S [nmN k])) := s1
    have hput : tbL ((p0 ++ [k]).map nmN) (nrT T) = putD (tbL (p0.map nmN) (nrT T)) (S [nmN k]) (toD (nrow (T k))) := by
      have : nrT T (nmN k) = nrow (T k) := by unfold nrT; rw [ix_nm k hk]
      rw [← this, putD_tb_new (nq p0 k r0 e0)]
      unfold tbL
      rw [List.map_append, List.map_append]
      rfl
    refine Step1.pass (.name rfl) (by exact (SubL.cons rfl (SubL.cons rfl SubL.nil))) .nil (emD_step (d := toD (nrow (T k))) (by exact (Ev.sub H (fun _ _ => rfl) (Ev.nameF rfl rfl) (Ev.nameF rfl rfl) s1)) (Ev.dictComp H (ls' := some (LXk L p' false)) ?dc2) (by rw [tbL_len, List.length_map]; omega) hput)
    refine CompG.step (fun i : Nat => .int (i : Int)) (List.range 6) [((Str.mk (Array.mk [110, 97, 109, 101, 115])), ⟨.fz, .str (S NM)⟩), ((Str.mk (Array.mk [116, 105, 101, 100])), ⟨.fz, tiesD T⟩), ((Str.mk (Array.mk [105])), ⟨.fz, .int (k : Int)⟩)] (fun q => rowL ((q.filter (T k)).map fun j => (nmN j, 1))) rfl rfl rfl rfl rfl (fun _ h => nomatch h) (by exact (Ev.blt H (Tp.blt TT rfl) rfl (Evs.cons rfl Ev.int Evs.nil) (.range1 _))) (fun h => nomatch h) (iter_n rfl (by decide)) (by exact (SubL.cons rfl (SubL.cons rfl (SubL.cons rfl SubL.nil)))) ?_
    intro p1 j r1 e1
    have hj : j < 6 := List.mem_range.mp (by rw [e1]; simp)
    have lp1 := l6 p1 ⟨_, e1⟩
    have s2 := sub_nm H TT (i := j) rfl hj
    rw [nm_get j hj] at s2
    have s2 : Sub (.str (S NM)) (.int (j : Int)) (.str (S [nmN j])) := s2
    have s3 := sub_tiesR T hk
    have s4 := sub_tiesC T k hj
    have lf := List.length_filter_le (T k) p1
    rw [List.filter_append]
    cases hc : T k j with
    | false =>
      rw [hc] at s4
      rw [List.filter_cons_of_neg (by rw [hc]; decide)]
      exact Step1.skip (.name rfl) (by exact (SubL.cons rfl (SubL.cons rfl (SubL.cons rfl SubL.nil)))) (.stop (Tr.sub H (fun _ _ => rfl) (by exact (Ev.sub H (fun _ _ => rfl) (Ev.nameF rfl rfl) (Ev.nameF rfl rfl) s3)) (by exact (Ev.nameF rfl rfl)) s4)) (by rw [List.filter_nil, List.append_nil])
    | true =>
      rw [hc] at s4
      rw [List.filter_cons_of_pos hc, List.filter_nil, List.map_append]
      have hnew : nmN j ∉ keysR ((p1.filter (T k)).map fun j => (nmN j, (1 : Int))) := by
        unfold keysR
        rw [List.map_map]
        intro m
        obtain ⟨b, hb, e⟩ := List.mem_map.mp m
        have e : nmN b = nmN j := e
        exact nq p1 j r1 e1 (e ▸ List.mem_map_of_mem (List.mem_filter.mp hb).1)
      exact Step1.pass (.name rfl) (by exact (SubL.cons rfl (SubL.cons rfl (SubL.cons rfl SubL.nil)))) (.cons (Tr.sub H (fun _ _ => rfl) (by exact (Ev.sub H (fun _ _ => rfl) (Ev.nameF rfl rfl) (Ev.nameF rfl rfl) s3)) (by exact (Ev.nameF rfl rfl)) s4) .nil) (emD_step (by exact (Ev.sub H (fun _ _ => rfl) (Ev.nameF rfl rfl) (Ev.nameF rfl rfl) s2)) (d := .int 1) .int (by rw [rowL_len, List.length_map]; omega) (putD_new _ (nmN j) 1 hnew).symm)
  have k1 : Blt (Str.mk (Array.mk [115, 117, 109])) [(intsL ns, false)] (.int ns.sum) := .sum ns (by omega)
  refine Ex.step (E1.assign H rfl rfl (d := .int (ns.sum % 12)) (by exact (Ev.bin H (Ev.blt H (Tp.blt TT rfl) rfl (Evs.cons rfl (Ev.nameB rfl rfl) Evs.nil) k1) Ev.int (.modI _ _ (by decide) (by decide)))) ⟨rfl, ?_⟩)
  obtain ⟨tn, ht, h12⟩ : ∃ tn : Nat, ns.sum % 12 = (tn : Int) ∧ tn < 12 := ⟨(ns.sum % 12).toNat, by omega, by omega⟩
  rw [ht]
  refine Ex.for (ls1 := some (LXk L p' false)) H (fun i : Nat => .int (i : Int)) (List.range 6) (fun p loc ls' => ls' = some { LXk L p' false with pb := (p.map fun k => nmN ((tn + k * (1 + tn / 6 * 4)) % 6)).map S1 } ∧ loc = [((Str.mk (Array.mk [110, 117, 109, 98, 101, 114, 115])), ⟨.fz, intsL nums⟩), ((Str.mk (Array.mk [116, 101, 120, 116])), ⟨.fz, .str (S L)⟩), ((Str.mk (Array.mk [97, 116])), ⟨.fz, .atl⟩), ((Str.mk (Array.mk [108, 101, 120])), ⟨.fz, .lex⟩), ((Str.mk (Array.mk [110, 101, 97, 114])), ⟨.fz, .dict (tbL NM (nrT T))⟩), ((Str.mk (Array.mk [110, 97, 109, 101, 115])), ⟨.fz, .str (S NM)⟩), ((Str.mk (Array.mk [116, 105, 101, 100])), ⟨.fz, tiesD T⟩), ((Str.mk (Array.mk [116, 117, 114, 110, 101, 100])), ⟨.fz, .int (tn : Int)⟩)]) rfl (by exact (Ev.blt H (Tp.blt TT rfl) rfl (Evs.cons rfl Ev.int Evs.nil) (.range1 _))) (iter_n rfl (by decide)) (fun h => nomatch h) (by exact (SubL.cons rfl (SubL.cons rfl (SubL.cons rfl (SubL.cons rfl (SubL.cons rfl (SubL.cons rfl (SubL.cons rfl (SubL.cons rfl SubL.nil))))))))) ⟨rfl, rfl⟩ ?_ ?_
  · rintro p k q l ls1 e ⟨rfl, rfl⟩
    have hk : k < 6 := List.mem_range.mp (by rw [e]; simp)
    have lp := l6 p ⟨_, e⟩
    have b1 : Bin .Mult (.int ((tn : Int) / 6)) (.int 4) (.int ((tn : Int) / 6 * 4)) := .mulI _ _ ⟨by omega, by omega⟩
    have b2 : Bin .Mult (.int (k : Int)) (.int (1 + (tn : Int) / 6 * 4)) (.int ((k : Int) * (1 + (tn : Int) / 6 * 4))) := .mulI _ _ ⟨by omega, by omega⟩
    have s1 := sub_nm H TT (v := ((tn : Int) + (k : Int) * (1 + (tn : Int) / 6 * 4)) % 6) (i := (tn + k * (1 + tn / 6 * 4)) % 6) (by push_cast; rfl) (Nat.mod_lt _ (by decide))
    rw [nm_get _ (Nat.mod_lt _ (by decide))] at s1
    have hz : ((p.map fun k => nmN ((tn + k * (1 + tn / 6 * 4)) % 6)).map S1).length < 1000000 := by rw [List.length_map, List.length_map]; omega
    refine ⟨_, .name rfl, ?_⟩
    exact Ex.step (E1.expr H (Ev.push H TL (by omega) rfl rfl rfl rfl (by exact (Ev.sub H (fun _ _ => rfl) (Ev.nameF rfl rfl) (Ev.bin H (Ev.bin H (Ev.nameF rfl rfl) (Ev.bin H (Ev.nameF rfl rfl) (Ev.bin H Ev.int (Ev.bin H (Ev.bin H (Ev.nameF rfl rfl) Ev.int (.divI _ _ (by decide) (by decide))) Ev.int b1) (.addI _ _)) b2) (.addI _ _)) Ev.int (.modI _ _ (by decide) (by decide))) s1)) hz) ⟨rfl, Ex.nil (Go.next (by exact (SubL.cons rfl (SubL.cons rfl (SubL.cons rfl (SubL.cons rfl (SubL.cons rfl (SubL.cons rfl (SubL.cons rfl (SubL.cons rfl SubL.nil))))))))) ⟨by rw [List.map_append, List.map_append]; rfl, rfl⟩)⟩)
  · rintro l ls1 ⟨rfl, rfl⟩
    have eq : ((List.range 6).map fun k => nmN ((tn + k * (1 + tn / 6 * 4)) % 6)) = qOf tn := rfl
    rw [eq]
    have hQ := qOf_perm tn h12
    have w6 : (wyOf nums).length = 6 := rfl
    refine Ex.step (E1.newLC H false rfl (l := (wyOf nums).map .int) (ls' := some { LXk L p' false with pb := (qOf tn).map S1 }) ?c1 ⟨rfl, ?_⟩)
    case c1 =>
      refine CompG.step (fun k : Nat => .int (k : Int)) (List.range 6) [((Str.mk (Array.mk [110, 117, 109, 98, 101, 114, 115])), ⟨.fz, intsL nums⟩)] (fun q => (q.map fun k => 1 - 2 * (nOf nums k / 32 % 2)).map .int) rfl rfl rfl rfl rfl (fun _ h => nomatch h) (by exact (Ev.blt H (Tp.blt TT rfl) rfl (Evs.cons rfl Ev.int Evs.nil) (.range1 _))) (fun h => nomatch h) (iter_n rfl (by decide)) (by exact (SubL.cons rfl SubL.nil)) ?_
      intro p0 k r0 e0
      have lp0 := l6 p0 ⟨_, e0⟩
      have s1 := hN k (List.mem_range.mp (by rw [e0]; simp))
      have b3 : Bin .Mult (.int 2) (.int (nOf nums k / 32 % 2)) (.int (2 * (nOf nums k / 32 % 2))) := .mulI _ _ ⟨by decide, by decide⟩
      exact Step1.pass (.name rfl) (by exact (SubL.cons rfl SubL.nil)) .nil (emL_step (by exact (Ev.bin H Ev.int (Ev.bin H Ev.int (Ev.bin H (Ev.bin H (Ev.sub H (fun _ _ => rfl) (Ev.nameF rfl rfl) (Ev.nameF rfl rfl) s1) Ev.int (.divI _ _ (by decide) (by decide))) Ev.int (.modI _ _ (by decide) (by decide))) b3) (.subI _ _))) (by rw [List.length_map, List.length_map]; omega) (by rw [List.map_append, List.map_append]; rfl))
    refine Ex.step (E1.assign H rfl rfl (d := .int (p' : Nat)) (ls' := some { LXk L p' false with pb := (qOf tn).map S1 }) (Ev.at0 H TL.at0 (fun _ _ => rfl) (.nameF rfl rfl) .int) ⟨rfl, ?_⟩)
    have hv : ∀ x ∈ NM, ∀ a ∈ NM, valR (nrT T x) a = b2i (tC T x a) := fun x hx a ha => by
      have := val_nrow (T (ixN x)) (ix_lt a ha)
      rwa [nm_ix a ha] at this
    have qk := cl_taken H TT TL n (nr := nrT T) (t := tC T) (w := wyOf nums) (l0 := LXk L p' false) (Q := qOf tn) (wy_ok nums) w6 hv (hQ.length_eq) fun x hx => hQ.mem_iff.mp hx
    refine Ex.step (E1.assign H rfl rfl (by exact (Ev.def2 H rfl (Evs.cons rfl (Ev.nameF rfl rfl) (Evs.cons rfl (Ev.nameF rfl rfl) (Evs.cons rfl (Ev.nameF rfl rfl) Evs.nil))) qk)) ⟨rfl, ?_⟩)
    have tp := taken_perm (tC T) (qOf tn) hQ
    have f4 := four_ok T sy (qOf tn) hQ.length_eq
    have po : ((rnds (tC T) (qOf tn) 6).1.map ixN).Perm (List.range 6) := (tp.map ixN).trans (by decide)
    exact Ex.sub (by exact (SubL.cons rfl (SubL.cons rfl (SubL.cons rfl (SubL.cons rfl (SubL.cons rfl (SubL.cons rfl (SubL.cons rfl (SubL.cons rfl SubL.nil))))))))) (law_B2 H TT TL n L hL p' T _ tp f4 (hpa T _ sy ir po f4) rdot rend)
end
noncomputable abbrev cxL (w : World) (o : Obj) (mg mb : Str → Option Value) (X : Option LXA) (P : LXA → LX → Heap → Prop) : Cx := ⟨tw.1, w, KK w o, X, P, mg, mb⟩
noncomputable def rNlInit : { f : Fn // ∀ w o, fnK (KK w o) 70 = f } := by
  refine ⟨?f, fun w o => ?h⟩
  case h =>
    conv => lhs; reduce
noncomputable def rTcInit : { f : Fn // ∀ w o, fnK (KK w o) 28 = f } := by
  refine ⟨?f, fun w o => ?h⟩
  case h =>
    conv => lhs; reduce
section
variable {w : World} {o : Obj} {mg mb : Str → Option Value} {X : Option LXA} {P : LXA → LX → Heap → Prop} {F : FC} {A : Around} {z mu : Addr → Prop} {loc : Loc} {ls : LS} {s : Shared} {Q E : Value → Shared → Prop}
theorem ok_fn {f : Fn} {a : Addr} (e : fnK (KK w o) a = f) (h : fnGood (KK w o) a = true) : FnOK (cxL w o mg mb X P) f := e ▸ fn_of (c := cxL w o mg mb X P) h
theorem ini94 : KIni (KK w o) 94 70 := ⟨by kernel_rfl, by kernel_rfl, by kernel_rfl, by kernel_rfl, by kernel_rfl, by kernel_rfl⟩
theorem ini38 : KIni (KK w o) 38 28 := ⟨by kernel_rfl, by kernel_rfl, by kernel_rfl, by kernel_rfl, by kernel_rfl, by kernel_rfl⟩
theorem nl_make (H : Hy (cxL w o mg mb X P)) (hd : A.depth + 20 < 1000) (K0 : (KK w o).In s.heap) {f1 : Addr}
    (hq : ∀ x dx pb u h' tk, s.heap.objs.size ≤ dx → dx < x → x < pb → h'.get? x = some (instObj 94 dx) → h'.get? dx = some (dictOf (lxEs u 1 f1 pb) 4) → h'.PlainList pb #[] → (∀ b o, s.heap.get? b = some o → h'.get? b = some o) → Q (.ref x) { s with heap := h', toks := tk }) :
    wpAny (model tw.1 w) A (call (.ref 94) [.ref f1]) Q E s := by
  refine make_ok (c := cxL w o mg mb X P) (f := rNlInit.1) (sf := (Str.mk (Array.mk [115, 101, 108, 102]))) (x := (Str.mk (Array.mk [102, 112]))) H hd K0 ini94 (ok_fn (rNlInit.2 w o) (by kernel_rfl)) rfl rfl (by decide +kernel) fun env h1 tk A' I => ?_
  refine wpAny_execs_cons (plainObj_wpAny_Assign_Attribute (wpAny_Constant_int ?_))
  refine ini_set (s := { s with heap := h1, toks := tk + 1 }) K0 ini94 I rfl (by kernel_rfl) (by kernel_rfl) (fun k => Nat.le_of_ble_eq_true (by rfl)) fun h2 tk2 ka I2 k2 => ?_
  refine wpAny_execs_cons (plainObj_wpAny_Assign_Attribute (ini_arg (s := { s with heap := h2, toks := tk2 }) I2 rfl ?_))
  refine ini_set (s := { s with heap := h2, toks := tk2 }) K0 ini94 I2 rfl (by kernel_rfl) (by rfl) (fun k => Nat.le_of_ble_eq_true (by rfl)) fun h3 tk3 kb I3 k3 => ?_
  refine wpAny_execs_cons (plainObj_wpAny_Assign_Attribute (wpAny_Constant_str ?_))
  refine ini_set (s := { s with heap := h3, toks := tk3 + 1 }) K0 ini94 I3 rfl (by kernel_rfl) (by rfl) (fun k => Nat.le_of_ble_eq_true (by rfl)) fun h4 tk4 kc I4 k4 => ?_
  refine wpAny_execs_cons (plainObj_wpAny_Assign_Attribute (wpAny_List (Calls.spliced_nil ⟨Nat.zero_le _, ?_⟩)))
  have I5 := I4.step (s := { s with heap := h4, toks := tk4 }) (h' := h4.push { cls := .type "list", data := .seq [].toArray }) fun b o e => Heap.get?_push_of_some _ e
  have P5 := Heap.get?_push_size h4 (o := { cls := .type "list", data := .seq [].toArray }) rfl
  have xlt : s.heap.objs.size + 1 < h4.objs.size := Heap.lt_size I4.ix
  refine ini_set (s := { s with heap := h4.push { cls := .type "list", data := .seq [].toArray }, toks := tk4 }) K0 ini94 I5 rfl (by kernel_rfl) (by rfl) (fun k => Nat.le_of_ble_eq_true (by rfl)) fun h6 tk6 ke I6 k6 => ?_
  refine wpAny_execs_nil ⟨rfl, ?_⟩
  refine hq (s.heap.objs.size + 1) s.heap.objs.size h4.objs.size ⟨PyData.keyHash w.params "lineno", PyData.keyHash w.params "instream", PyData.keyHash w.params "whitespace", PyData.keyHash w.params "pushback", ka, kb, kc, ke, tk, tk3⟩ h6 tk6 (Nat.le_refl _) (Nat.lt_succ_self _) xlt I6.ix ?_ ?_ I6.kp
  · rw [I6.od]; rfl
  · exact ⟨0, k6 _ _ (Nat.ne_of_gt (Nat.lt_of_succ_lt xlt)) P5⟩
theorem tc_cls (H : Hy (cxL w o mg mb X P)) (hg : mg (Str.mk (Array.mk [84, 117, 112, 108, 101, 67, 111, 109, 112])) = some (.ref 38)) : ClsG (cxL w o mg mb X P) (Str.mk (Array.mk [84, 117, 112, 108, 101, 67, 111, 109, 112])) 38 (Str.mk (Array.mk [99, 111, 109, 112, 95, 115, 101, 108, 101, 99, 116, 95, 108, 105, 115, 116])) 2 := by
  refine ⟨hg, by kernel_rfl, fun F A z mu loc ls s Q E v d hr R rv hq => ?_⟩
  refine make_ok (c := cxL w o mg mb X P) (f := rTcInit.1) (sf := (Str.mk (Array.mk [115, 101, 108, 102]))) (x := (Str.mk (Array.mk [99, 111, 109, 112, 95, 115, 101, 108, 101, 99, 116, 95, 108, 105, 115, 116]))) H (by have := hr.d; omega) R.kin ini38 (ok_fn (rTcInit.2 w o) (by kernel_rfl)) rfl rfl (by decide +kernel) fun env h1 tk A' I => ?_
  refine wpAny_execs_cons (plainObj_wpAny_Assign_Attribute (ini_arg (s := { s with heap := h1, toks := tk }) I rfl ?_))
  refine ini_set (s := { s with heap := h1, toks := tk }) R.kin ini38 I rfl (by kernel_rfl) (by rfl) (fun k => Nat.le_of_ble_eq_true (by rfl)) fun h2 tk2 ka I2 k2 => wpAny_execs_nil ⟨rfl, ?_⟩
  have n0 : s.heap.get? s.heap.objs.size = none := get_size _
  have n1 : s.heap.get? (s.heap.objs.size + 1) = none := Heap.get?_none_of_le (Nat.le_succ _)
  have S := StpE.keep (tk := tk2) R I2.kp (fun a => a = s.heap.objs.size ∨ a = s.heap.objs.size + 1) (fun a h => by
    rcases h with rfl | rfl
    · exact ⟨n0, ⟨_, I2.od⟩⟩
    · exact ⟨n1, ⟨_, I2.ix⟩⟩)
  exact hq _ _ _ S (R.lx.keep H I2.kp) (.inst (.inr (.inr rfl)) (.inr (.inl rfl)) I2.ix (dictOne (prog := tw.1) (w := w) I2.od) (.cons (rv.mono (fun _ h => .inl h) (fun a o _ e => I2.kp a o e)) .nil))
end
theorem sorted_new {n0 f1 gc gv fd dx x pb a : Nat} (p1 : n0 + 2 < f1) (p2 : f1 < gc) (p3 : gc < gv) (p4 : gv < fd) (p5 : fd < dx) (p6 : dx < x) (p7 : x < pb) (p8 : a < n0) (p9 : 138 < n0) (p0 : a ≠ 138) :
    [dx, pb, a].Nodup ∧ (∀ b ∈ [x, f1, fd, gv, n0 + 1, n0 + 2, gc, 138], b ∉ [dx, pb, a]) ∧ ∀ b ∈ [dx, pb, a, dx] ++ dx :: [x, f1, fd, gv, n0 + 1, n0 + 2, gc, 138], b = a ∨ b = 138 ∨ n0 ≤ b := by
  refine ⟨?_, ?_, ?_⟩
  · simp only [List.nodup_cons, List.mem_cons, not_or, List.not_mem_nil, not_false_eq_true, and_true, List.nodup_nil]
    omega
  · simp only [List.mem_cons, List.not_mem_nil, or_false]
    omega
  · simp only [List.cons_append, List.nil_append, List.mem_cons, List.not_mem_nil, or_false]
    omega
section
variable {w : World} {o : Obj} {mg mb : Str → Option Value} {X : Option LXA} {P : LXA → LX → Heap → Prop} {A : Around} {s : Shared} {Q E : Value → Shared → Prop}
theorem lexer_make (H : Hy (cxL w o mg mb X P)) (hd : A.depth + 30 < 1000) (K0 : (KK w o).In s.heap) (hP : s.heap.get? 138 = some (tabObj #[])) (hgl : ∀ n v, nsIn (KK w o) mainGlobals n = some v → mg n = v)
    {a : Addr} {ta t : Tok} {text : Str} (hat : s.heap.PlainList a #[.int 0 ta]) (hlen : text.length ≤ 100000)
    (hq : ∀ x h' tk, x.on = true → LexM LC x ⟨text, 0, 1, [], false⟩ h' → x.at' = a → x.tb = 138 → (∀ b o, b ≠ 138 → s.heap.get? b = some o → h'.get? b = some o) → (∀ y ∈ x.mus ++ x.bm :: x.fix, y = a ∨ y = 138 ∨ s.heap.get? y = none) → (∃ ps, h'.get? 138 = some (tabObj ps)) → Q (.ref x.x) { s with heap := h', toks := tk }) :
    wpAny (model tw.1 w) A (call (.ref 143) [.str text t, .ref a]) Q E s := by
  obtain ⟨⟨ob, fd, ho, hod, hbody, hsc, hclo, hgb, hbi, hbind, hcr⟩, hco, hge, hki, _, _, _⟩ := ok_fn (mg := mg) (mb := mb) (X := X) (P := P) (rLexer.2 w o) (by kernel_rfl)
  have hC : CodeHd s.heap 142 138 := codeHd_of_K K0 (by kernel_rfl)
  have hcode : fd.code = .ref 142 := by
    have : ∃ ob', (KK w o).lookup 143 = some ob' ∧ (fdD ob'.data).code = .ref 142 := ⟨_, rfl, rfl⟩
    obtain ⟨ob', e1, e2⟩ := this
    cases Option.some.inj (e1.symm.trans ho)
    rw [hod] at e2; exact e2
  have ex4 : ∃ o4 : Obj, (KK w o).lookup 4 = some o4 ∧ o4.cls = .type "module" ∧ o4.dict = some builtinsNs ∧ o4.data = .plain := ⟨_, rfl, rfl, rfl, rfl⟩
  obtain ⟨o4, e4, c1, c2, c3⟩ := ex4
  have hbm : mg "__builtins__" = some (.ref 4) := hgl _ _ (by kernel_rfl)
  have hnl : mg "_netrclex" = some (.ref 94) := hgl _ _ (by kernel_rfl)
  refine wpAny_call (codeAny_call_cells (body := rLexer.1.body) (binds := [(nT, .str text t), (nA, .ref a)]) (by unfold recursionLimit; omega) (K0 _ _ ho) hod (H.lim _ K0) (hcr _ K0) hbody ((hbind _ rfl).trans rfl) hclo ?_ (fun s₁ I => ?_) (by rw [hsc]; exact hco) (by rw [hsc]; exact hge) (by rw [hsc]; exact hki))
  · rw [hsc]
    intro y hy
    rcases List.mem_cons.mp hy with rfl | hy
    · exact .inr ⟨by kernel_rfl, by kernel_rfl⟩
    · rw [List.mem_singleton.mp hy]
      exact .inr ⟨by kernel_rfl, by kernel_rfl⟩
  obtain ⟨⟨⟨h1, tk, rfl⟩, ns, keep, fresh⟩, hcell, hap, hab⟩ := I
  simp only [rLexer]
  generalize henv : callEnvC fd s.heap.objs.size 143 = env at *
  have hcells : env.cells = [(nA, s.heap.objs.size + 2), (nT, s.heap.objs.size + 1)] := by subst henv; show cellsFrom _ fd.scope.names [] = _; rw [hsc]; kernel_rfl
  have hloc : env.locals = s.heap.objs.size := by subst henv; rfl
  have hfk : env.scope.kind = .function := by subst henv; show fd.scope.kind = _; rw [hsc]; exact hki
  have hgl' : env.globals = mainGlobals := by subst henv; exact hgb
  have hcd : env.code = .ref 142 := by subst henv; exact hcode
  have kd : ∀ n, env.kindOf n = rLexer.1.scope.names.lookup n := fun n => by subst henv; show fd.scope.names.lookup n = _; rw [hsc]
  have bindc : ∀ y v, bindC (fun n => rLexer.1.scope.names.lookup n) [(nT, .str text t), (nA, .ref a)] (fun _ => none) y = some v → bindC env.kindOf [(nT, .str text t), (nA, .ref a)] (fun _ => none) y = some v := fun y v e => by
    have : env.kindOf = fun n => rLexer.1.scope.names.lookup n := funext kd
    rw [this]; exact e
  have hct : h1.IsCell (s.heap.objs.size + 1) (some (.str text t)) := by
    have := hcell nT (s.heap.objs.size + 1) (by rw [hcells]; rfl)
    rwa [bindc nT (.str text t) (by kernel_rfl)] at this
  have hca : h1.IsCell (s.heap.objs.size + 2) (some (.ref a)) := by
    have := hcell nA (s.heap.objs.size + 2) (by rw [hcells]; rfl)
    rwa [bindc nA (.ref a) (by kernel_rfl)] at this
  have K138 : ∀ a ob, (KK w o).lookup a = some ob → a ≠ 138 := by
    rintro a ob e rfl
    have : ((KK w o).lookup 138).isSome = false := by kernel_rfl
    rw [e] at this; cases this
  have KL : ∀ a ob, (KK w o).lookup a = some ob → a ≠ env.locals := fun a o e => by rw [hloc]; exact Nat.ne_of_lt (Heap.lt_size (K0 a o e))
  have bat : ∀ {h : Heap}, (KK w o).In h → h.BuiltinsAt mg 138 := fun K => ⟨4, o4, hbm, by decide, by decide, by decide, K 4 o4 e4, c1, c2, c3⟩
  have K1 : (KK w o).In h1 := fun a o e => keep a o (K0 a o e)
  have sz1 : s.heap.objs.size + 2 < h1.objs.size := by obtain ⟨o, e, _⟩ := hca; exact Heap.lt_size e
  have ns0 := ns
  refine wpAny_execs_cons (wpAny_Assign_Name (lam_made (mg := mg) (clos := []) (by rfl) (by rfl) hgl' (H.mg _ K1) hcd (hC.keeps keep) (keep _ _ hP) trivial rfl (by decide) (bat K1) fun fd1 c1 f1 h3 tk3 hf3 hge3 hlt3 hsz3 k3 htb3 => ?_) (swaps_no rfl _ _ _))
  replace k3 : ∀ b o, b ≠ 138 → h1.get? b = some o → h3.get? b = some o := k3
  replace hge3 : h1.objs.size ≤ c1 := hge3
  have hL138 : env.locals ≠ 138 := fun q => by
    have := Heap.lt_size hP
    rw [← q, hloc] at this
    exact Nat.lt_irrefl _ this
  have ns3 : h3.Ns env.locals _ := ns0.at' fun o e => k3 _ _ hL138 e
  refine wpAny_storeName_local ((kd _).trans (by kernel_rfl)) ns3 (fun h4 ns4 sb4 => ?_) (by rw [hfk]; rfl)
  replace sb4 : Heap.SameBut env.locals h3 h4 := sb4
  have k4 : ∀ b o, b ≠ 138 → b ≠ env.locals → h1.get? b = some o → h4.get? b = some o := fun b o n1 n2 e => (sb4.2 b n2).trans (k3 b o n1 e)
  have K4 : (KK w o).In h4 := fun a o e => k4 a o (K138 a o e) (KL a o e) (K1 a o e)
  have hP4 := (sb4.2 138 hL138.symm).trans htb3
  refine wpAny_execs_cons (def_made (mg := mg) (clos := [(nT, s.heap.objs.size + 1), (nA, s.heap.objs.size + 2)]) rfl rfl (by rfl) ?cl hgl' (H.mg _ K4) hcd ?hd hP4 ?ht ?hnf (by decide) (bat K4) fun qual doc pm ctv gc gv h6 tk6 hgv6 hgc6 hge6 hlt6 hsz6 k6 htb6 => ?_)
  case cl =>
    refine (closure_eq fun y hy => ?_).trans (by rw [hcells]; kernel_rfl)
    have hh : (LC.gscope.names.all fun p => p.2 != .free || (p.1 == nT || p.1 == nA)) = true := by kernel_rfl
    have := List.all_eq_true.mp hh (y, .free) hy
    rw [hcells]
    rcases (by simpa using this : y = nT ∨ y = nA) with rfl | rfl <;> exact ⟨_, rfl⟩
  case hd =>
    obtain ⟨o', vs, file, tf, flags, tg, inF, text', tt, e, r⟩ := hC
    exact ⟨o', vs, file, tf, flags, tg, inF, text', tt, k4 _ _ (by decide) (fun q => by have := Heap.lt_size e; rw [q, hloc] at this; exact Nat.lt_irrefl _ this) (keep _ _ e), r⟩
  case ht => exact trivial
  case hnf => rfl
  replace k6 : ∀ b o, b ≠ 138 → h4.get? b = some o → h6.get? b = some o := k6
  have s43 : h4.objs.size = h3.objs.size := sb4.1
  have ns6 := ns4.at' fun o e => k6 _ _ hL138 e
  refine wpAny_storeName_local ((kd _).trans (by kernel_rfl)) ns6 (fun h7 ns7 sb7 => ?_) (by rw [hfk]; rfl)
  replace sb7 : Heap.SameBut env.locals h6 h7 := sb7
  have k7 : ∀ b o, b ≠ 138 → b ≠ env.locals → h4.get? b = some o → h7.get? b = some o := fun b o n1 n2 e => (sb7.2 b n2).trans (k6 b o n1 e)
  have s76 : h7.objs.size = h6.objs.size := sb7.1
  have o1 : s.heap.objs.size + 2 < f1 := Nat.lt_trans (Nat.lt_of_lt_of_le sz1 hge3) hlt3
  have o2 : f1 < gc := Nat.lt_of_lt_of_le (by rw [s43]; exact hsz3) hge6
  have o3 : gc < gv := hlt6
  have o4 : gv < h7.objs.size := by rw [s76]; exact hsz6
  have l138 : (138 : Nat) < s.heap.objs.size := Heap.lt_size hP
  have ge1 : ∀ y, s.heap.objs.size < y → y ≠ 138 ∧ y ≠ env.locals := fun y h => ⟨Nat.ne_of_gt (Nat.lt_trans l138 h), by rw [hloc]; exact Nat.ne_of_gt h⟩
  have gf1 := ge1 f1 (Nat.lt_of_le_of_lt (Nat.le_add_right _ 2) o1)
  have ggc := ge1 gc (Nat.lt_of_le_of_lt (Nat.le_add_right _ 2) (Nat.lt_trans o1 o2))
  have ggv := ge1 gv (Nat.lt_of_le_of_lt (Nat.le_add_right _ 2) (Nat.lt_trans o1 (Nat.lt_trans o2 o3)))
  have hf7 : h7.get? f1 = some { cls := .type "function", data := .func fd1 } := k7 _ _ gf1.1 gf1.2 ((sb4.2 f1 gf1.2).trans hf3)
  have hgv7 := (sb7.2 gv ggv.2).trans hgv6
  refine wpAny_execs_cons (plainObj_wpAny_Assign_Attribute ?_)
  refine wpAny_Name (wpAny_loadName_local hfk ((kd _).trans (by kernel_rfl)) ns7 (by rfl) ?_) (by decide)
  refine wpAny_Name (wpAny_loadName_local hfk ((kd _).trans (by kernel_rfl)) ns7 (by rfl) ?_) (by decide)
  refine fn_setattr hf7 fun h8 tk8 hh8 kk8 hf8 hfd8 hsz8 k8 => ?_
  have ns8 := ns7.at' fun o e => k8 _ _ gf1.2.symm e
  have K7 : (KK w o).In h7 := fun a o e => k7 a o (K138 a o e) (KL a o e) (K4 a o e)
  have Kf : ∀ a ob, (KK w o).lookup a = some ob → a ≠ f1 := fun a o e => Nat.ne_of_lt (Nat.lt_trans (Heap.lt_size (K0 a o e)) (Nat.lt_of_le_of_lt (Nat.le_add_right _ 2) o1))
  have K8 : (KK w o).In h8 := fun a o e => k8 a o (Kf a o e) (K7 a o e)
  refine wpAny_execs_cons (wpAny_Return_some (wpAny_Call_NameR (Calls.Name_function_global hfk ((kd _).trans (by kernel_rfl)) (Calls.loadGlobal_global (hgl' ▸ H.mg _ K8) hnl ?_) (by decide))))
  refine call_with (c := cxL w o mg mb X P) (F := ⟨env, []⟩) (P := (KK w o).In) rfl (keeps_K (by kernel_rfl)) ?_
  rw [starEach_cons rfl]
  refine Calls.spliced_cons ?_
  refine wpAny_Name (wpAny_loadName_local hfk ((kd _).trans (by kernel_rfl)) ns8 (by rfl) ?_) (by decide)
  refine Calls.spliced_nil ⟨K8, nl_make H (by show A.depth + 1 + 20 < 1000; omega) K8 fun x dx pb u h9 tk9 hdx1 hdx2 hdx3 hix hidx hpb k9 => ?_⟩
  have kall : ∀ b o, b ≠ 138 → b ≠ env.locals → b ≠ f1 → h1.get? b = some o → h9.get? b = some o := fun b o n1 n2 n3 e => k9 b o (k8 b o n3 (k7 b o n1 n2 (k4 b o n1 n2 e)))
  have o5 : h7.objs.size < dx := Nat.lt_of_lt_of_le hsz8 hdx1
  have q1 := ge1 (s.heap.objs.size + 1) (Nat.lt_succ_self _)
  have q2 := ge1 (s.heap.objs.size + 2) (Nat.lt_succ_of_lt (Nat.lt_succ_self _))
  obtain ⟨na, hea⟩ := hat
  have hal : a < s.heap.objs.size := Heap.lt_size hea
  have ha1 : a ≠ 138 := fun q => by rw [q, hP] at hea; simp at hea
  obtain ⟨d1, d2, d3⟩ := sorted_new o1 o2 o3 o4 o5 hdx2 hdx3 hal l138 ha1
  obtain ⟨oct, ect, dct⟩ := hct
  obtain ⟨oca, eca, dca⟩ := hca
  obtain ⟨cc, ogc, vs, tt, egc, hogc, rgc⟩ := hgc6
  cases egc
  obtain ⟨ps', etb⟩ := htb6
  have t9 : h9.get? 138 = some (tabObj ps') := k9 _ _ (k8 _ _ gf1.1.symm ((sb7.2 _ hL138.symm).trans etb))
  have f1n : s.heap.objs.size + 1 ≠ f1 := Nat.ne_of_lt (Nat.lt_trans (Nat.lt_succ_self _) o1)
  have f2n : s.heap.objs.size + 2 ≠ f1 := Nat.ne_of_lt o1
  have gvn : gv ≠ f1 := Nat.ne_of_gt (Nat.lt_trans o2 o3)
  have anf : a ≠ f1 := Nat.ne_of_lt (Nat.lt_trans hal (Nat.lt_of_le_of_lt (Nat.le_add_right _ 2) o1))
  refine hq ⟨x, dx, pb, f1, h7.objs.size, gv, s.heap.objs.size + 1, s.heap.objs.size + 2, a, dx, gc, dx, 138, true, []⟩ h9 tk9 rfl ⟨⟨⟨u, hidx⟩, ⟨[], hpb, rfl⟩, ⟨ta, na, kall _ _ ha1 (by rw [hloc]; exact Nat.ne_of_lt hal) anf (keep _ _ hea)⟩, .mk (qual := qual) (doc := doc) (pm := pm) (ctv := ctv) ⟨hix, k9 _ _ hf8, k9 _ _ hfd8, (k9 _ _ (k8 _ _ gvn hgv7)).trans (by kernel_rfl), kall _ _ q1.1 q1.2 f1n ect, kall _ _ q2.1 q2.2 f2n eca, k9 _ _ (k8 _ _ (Nat.ne_of_gt o2) ((sb7.2 _ ggc.2).trans hogc)), t9, trivial⟩ dct dca (fun h e => ⟨_, ogc, vs, tt, rfl, e, rgc⟩), d1, d2, Nat.ne_of_lt (Nat.lt_succ_self _), Nat.zero_le _, hlen⟩, rfl, rfl, rfl⟩ rfl rfl ?_ ?_ ⟨ps', t9⟩
  · exact fun b o n e => kall b o n (by rw [hloc]; exact Nat.ne_of_lt (Heap.lt_size e)) (Nat.ne_of_lt (Nat.lt_trans (Heap.lt_size e) (Nat.lt_of_le_of_lt (Nat.le_add_right _ 2) o1))) (keep b o e)
  · exact fun y hy => (d3 y hy).imp id (·.imp id Heap.get?_none_of_le)
end
noncomputable def x0 : LXA := ⟨138, 138, 138, 138, 138, 138, 138, 138, 138, 138, 138, 138, 138, false, []⟩
def P0 : LXA → LX → Heap → Prop := fun x l h => ∃ ps, h.get? x.tb = some (tabObj ps) ∧ (l.en = false → ps = #[])
noncomputable def l0 (b : Bool) : LX := ⟨⟨#[]⟩, 0, 0, [], b⟩
noncomputable abbrev c0 (w : World) (o : Obj) (mg mb : Str → Option Value) : Cx := cxL w o mg mb (some x0) P0
theorem x0_mu {a : Addr} (h : lexall (some x0) a) : a = 138 := by
  obtain ⟨x, e, m⟩ := h
  cases e
  simpa [LXA.mus, LXA.fix, x0] using m
theorem mu_x0 : lexmu (some x0) 138 := ⟨x0, rfl, .head _⟩
section
variable {w : World} {o : Obj} {mg mb : Str → Option Value} {n : Nat} {sc : Scope} {loc : Loc} {text : Str} {rest : List Stmt} {p1 p2 p3 p4 p5 p6 : Pos}
theorem K138 : ∀ a ob, (KK w o).lookup a = some ob → a ≠ 138 := by
  rintro a ob e rfl
  have : ((KK w o).lookup 138).isSome = false := by kernel_rfl
  rw [e] at this; cases this
theorem Ex.lexer (H : Hy (c0 w o mg mb)) (H1 : ∀ x, Hy (cxL w o mg mb (some x) (LexM LC))) (hgl : ∀ n v, nsIn (KK w o) mainGlobals n = some v → mg n = v) (ht : loc.lookup (Str.mk (Array.mk [116, 101, 120, 116])) = some ⟨.fz, .str text⟩) (ha : loc.lookup (Str.mk (Array.mk [97, 116])) = some ⟨.own, .list [.int 0]⟩) (hown : ∀ y d, loc.lookup y = some ⟨.own, d⟩ → y = (Str.mk (Array.mk [97, 116]))) (hlen : text.length ≤ 100000)
    (hg : isGlob sc loc (Str.mk (Array.mk [95, 108, 97, 119, 95, 108, 101, 120, 101, 114])) = true) (hc : canW sc (Str.mk (Array.mk [108, 101, 120])) = true) (hn : 20 ≤ n) {T : AF → Loc → LS → Prop} (hT : T (.ret (.bool true)) [] (some (l0 true)))
    (h : ∀ x, x.on = true → Ex (cxL w o mg mb (some x) (LexM LC)) n sc (setL (Str.mk (Array.mk [108, 101, 120])) ⟨.fz, .lex⟩ (setL (Str.mk (Array.mk [97, 116])) ⟨.fz, .atl⟩ loc)) (some ⟨text, 0, 1, [], false⟩) rest fun af _ _ => af = .ret (.bool true)) :
    Ex (c0 w o mg mb) n sc loc (some (l0 false)) (.Assign [.Name (Str.mk (Array.mk [108, 101, 120])) p1] (.Call (.Name (Str.mk (Array.mk [95, 108, 97, 119, 95, 108, 101, 120, 101, 114])) p2) [.Name (Str.mk (Array.mk [116, 101, 120, 116])) p3, .Name (Str.mk (Array.mk [97, 116])) p4] [] p5) p6 :: rest) T := by
  refine .of ?_
  intro F A hr hs z mu s Q E R hq
  obtain ⟨vt, st, rt⟩ := R.vars (Str.mk (Array.mk [116, 101, 120, 116])) _ ht
  obtain ⟨tt, rfl⟩ := Rd.i rt
  obtain ⟨a, sa, ma, na, fa⟩ := own_at R ha
  obtain ⟨vs, pa, ra⟩ := fa.i
  obtain ⟨v1, vs', rfl, r1, r2⟩ := ra.i
  cases (r2.i : vs' = [])
  obtain ⟨ta, rfl⟩ := Rd.i r1
  obtain ⟨lx, e1, ps0, hP, e2⟩ := R.lx.get rfl
  cases e1
  cases (e2 rfl)
  have hlx : mg (Str.mk (Array.mk [95, 108, 97, 119, 95, 108, 101, 120, 101, 114])) = some (.ref 143) := hgl _ _ (by kernel_rfl)
  refine wpAny_execs_cons (wpAny_Assign_Name (wpAny_Call_NameR (name_glob H R hs hg (.inl hlx) (call_with (c := c0 w o mg mb) (P := (KK w o).In) rfl (keeps_K (by kernel_rfl)) ?_))) (swaps_no rfl _ _ _))
  rw [starEach_cons rfl, starEach_cons rfl]
  refine Calls.spliced_cons (wpAny_Name (load_slot hs.fk (by rfl) st ?_) (by rfl))
  refine Calls.spliced_cons (wpAny_Name (load_slot hs.fk (by rfl) sa ?_) (by rfl))
  refine Calls.spliced_nil ⟨R.kin, lexer_make H (by have := hr.d; omega) R.kin hP hgl pa hlen fun x h' tk ho hM hx htb hk hnew hts => ?_⟩
  have hma : mu x.at' := hx ▸ ma
  have m138 : mu 138 := R.lmu _ mu_x0
  have z138 : ¬ z 138 := fun k => R.zl _ k mu_x0
  have newmu : ∀ b, Al s.heap b → lexmu (some x) b → mu b := fun b hb ⟨y, e, m⟩ => by
    cases e
    rcases hnew b (List.mem_append_left _ m) with q | q | q
    · exact q ▸ ma
    · exact q ▸ m138
    · exact absurd rfl (alive_ne hb q)
  have newall : ∀ b, Al s.heap b → lexall (some x) b → b = a ∨ b = 138 := fun b hb ⟨y, e, m⟩ => by
    cases e
    rcases hnew b m with q | q | q
    · exact .inl q
    · exact .inr q
    · exact absurd rfl (alive_ne hb q)
  obtain ⟨os1, os2⟩ := R.osep (Str.mk (Array.mk [97, 116])) _ a ha sa
  obtain ⟨pst, hts⟩ := hts
  have hkz : ∀ b ob, z b → s.heap.get? b = some ob → h'.get? b = some ob := fun b ob zb e => hk b ob (fun q => z138 (q ▸ zb)) e
  have al' : ∀ b, Al s.heap b → Al h' b := fun b ⟨ob, e⟩ => by
    by_cases q : b = 138
    · rw [q]; exact ⟨_, hts⟩
    · exact ⟨ob, hk b ob q e⟩
  have hXoff : ∀ y, (c0 w o mg mb).X = some y → y.on = false := fun y e => by cases e; rfl
  have R3 : Rep (cxL w o mg mb (some x) (LexM LC)) F z (fun q => mu q ∨ lexmu (some x) q) (setL (Str.mk (Array.mk [97, 116])) ⟨.fz, .atl⟩ loc) (some ⟨text, 0, 1, [], false⟩) { s with heap := h', toks := tk } :=
    R.cx (fun b ob e => hk b ob (K138 b ob e) (R.kin b ob e)) (fun b ob e m => R.kz b ob e (m.elim id (newmu b ⟨_, R.kin b ob e⟩))) (fun b zb m => R.zmu b zb (m.elim id (newmu b (R.zal b zb)))) (fun b => .inr) (fun b zb => al' b (R.zal b zb)) (fun b m => m.elim (fun m => al' b (R.mal b m)) fun m => hM.al b (lexall_of m)) (.inr ⟨x, _, rfl, rfl, hM⟩) (fun b => .inl)
      (fun b m hb => by
        rcases newall b hb m with q | q
        · exact ⟨q ▸ os1, fun y e => os2 y b e q.symm⟩
        · exact ⟨fun e => R.fl (e ▸ q ▸ lexall_of mu_x0), fun y e => (R.cl y b e).1 (q ▸ lexall_of mu_x0)⟩)
      (fun b hb ob e => hk b ob (by
        rintro rfl
        rcases hb with q | ⟨y, q⟩
        · exact R.fl (q ▸ lexall_of mu_x0)
        · exact (R.cl y _ q).1 (lexall_of mu_x0)) e)
      (fun y lv e => by
        rw [lookup_setL] at e
        split at e
        · rename_i q
          cases e
          refine ⟨nofun, .ref a, q ▸ sa, ?_⟩
          have : Rd (cxL w o mg mb (some x) (LexM LC)) z h' (.ref x.at') .atl := Rd.atl rfl ho
          rw [hx] at this; exact this
        · rename_i q
          obtain ⟨v, h1, h2⟩ := R.vars y lv e
          refine ⟨fun k => q (hown y lv.d (by rw [e]; exact congrArg some (lv_own k))), v, h1, ?_⟩
          obtain ⟨k, d⟩ := lv
          cases k with
          | fz => exact Rd.cx (c := c0 w o mg mb) (c' := cxL w o mg mb (some x) (LexM LC)) (fun _ _ _ h => h) hXoff hkz h2
          | own => exact absurd (hown y d e) q
          | bor => exact h2.imp (Rd.cx (c := c0 w o mg mb) (c' := cxL w o mg mb (some x) (LexM LC)) (fun _ _ _ h => h) hXoff hkz) fun ⟨b, e1, nm, f⟩ => ⟨b, e1, fun m => nm (m.elim id (newmu b f.al)), f.cx (c := c0 w o mg mb) (c' := cxL w o mg mb (some x) (LexM LC)) (fun _ _ _ h => h) hXoff hkz fun ob e => hk b ob (fun q => nm (q ▸ m138)) e⟩)
  refine store_fz (H1 x) R3 hs.fk (hs.wn _ hc) (d := .lex) (Rd.lex rfl ho) fun s4 C4 R4 => ?_
  refine (h x ho).go F A hr hs _ _ _ _ _ R4 fun af loc8 ls8 fl z8 mu8 s8 e S8 R8 r8 => ?_
  cases e
  obtain ⟨vr, rfl, rv⟩ := r8
  cases (rv.i : vr = .bool true)
  obtain ⟨lx8, _, p8⟩ := R8.lx.get rfl
  have tb8 : ∃ ps, s8.heap.get? 138 = some (tabObj ps) := by
    have p8' : LexM LC x lx8 s8.heap := p8
    cases p8'.p.fx with
    | mk q =>
      obtain ⟨_, _, _, _, _, _, _, q, _⟩ := q
      exact ⟨_, htb ▸ q⟩
  have al4 : ∀ b, Al s.heap b → Al s4.heap b := fun b hb => C4.al b (al' b hb)
  have old : ∀ b, Al s.heap b → mu b ∨ lexmu (some x) b → mu b := fun b hb m => m.elim id (newmu b hb)
  refine hq _ [] (some (l0 true)) _ (fun b => z8 b ∧ b ≠ 138) (fun b => mu8 b ∨ b = 138) s8 hT ⟨fun b hb => S8.al b (al4 b hb), fun b zb => ⟨S8.zz b zb, fun q => z138 (q ▸ zb)⟩, fun b hb k => (S8.zn b (al4 b hb) k.1).imp id (old b hb), fun b hb m => m.elim (fun m => old b hb (S8.mm b (al4 b hb) m)) fun q => q ▸ m138, fun b ob e nm => ?_, S8.ge.trans C4.ge, S8.os.trans C4.os, S8.dr.trans C4.dr⟩ ?_ ⟨_, rfl, .bool _⟩
  · have nm3 : ¬ (mu b ∨ lexmu (some x) b) := fun m => nm (old b ⟨ob, e⟩ m)
    exact S8.kp b ob (C4.kp b ob (hk b ob (fun q => nm (q ▸ m138)) e) fun m => nm3 m.1) nm3
  · refine ⟨R8.kin, fun b ob e m => m.elim (R8.kz b ob e) (K138 b ob e), fun b k m => m.elim (R8.zmu b k.1) k.2, fun b m => .inr (x0_mu (lexall_of m)), fun b k => R8.zal b k.1, fun b m => m.elim (R8.mal b) fun q => q ▸ tb8.elim fun _ e => ⟨_, e⟩, .inr ⟨x0, l0 true, rfl, rfl, tb8.elim fun ps e => ⟨ps, e, nofun⟩⟩, .inl R8.fmu, R.fl, R8.ns, fun y b e => ⟨(R.cl y b e).1, (R.cl y b e).2.1, fun k => (R8.cl y b e).2.2.1 k.1, (R8.cl y b e).2.2.2⟩, R8.cinj, fun y hy => ?_, fun _ _ e => (nomatch e), fun _ _ _ e => (nomatch e), fun _ _ _ _ _ e => (nomatch e)⟩
    · cases R8.wr y hy with
      | loc k => exact .loc k
      | cell k l m n => exact .cell k l (.inl m) n
end
section
variable {w : World} {o : Obj} {mg mb : Str → Option Value} {X : Option LXA} {P : LXA → LX → Heap → Prop}
structure TopG (w : World) (o : Obj) (mg mb : Str → Option Value) : Prop where
  g : ∀ h, (KK w o).In h → h.Ns mainGlobals mg
  b : ∀ h, (KK w o).In h → h.Ns builtinsNs mb
  l : ∀ h, (KK w o).In h → h.NoLimit
  gl : ∀ n v, nsIn (KK w o) mainGlobals n = some v → mg n = v
  bb : ∀ n : Str, n ≠ "__name__" → mb n = bootBuiltins n
theorem hy_make (T : TopG w o mg mb) (h1 : ∀ x l h h', X = some x → P x l h → (∀ a o, lexall X a → h.get? a = some o → h'.get? a = some o) → P x l h') (h2 : ∀ x l h, X = some x → P x l h → ∀ a, lexall X a → Al h a) : Hy (cxL w o mg mb X P) :=
  ⟨h1, h2, ⟨143, obK (KK w o) 143, by kernel_rfl, by decide⟩, T.g, T.b, T.l⟩
theorem hy_M (T : TopG w o mg mb) (x : LXA) : Hy (cxL w o mg mb (some x) (LexM LC)) :=
  hy_make T (fun y l h h' e p k => by cases e; exact LexM.keep p k) fun y l h e p => by cases e; exact LexM.al p
theorem hy_I (T : TopG w o mg mb) (x : LXA) : Hy (cxL w o mg mb (some x) (LexI LC 77)) :=
  hy_make T (fun y l h h' e p k => by cases e; exact LexI.keep p k) fun y l h e p => by cases e; exact LexI.al p
theorem hy_0 (T : TopG w o mg mb) : Hy (c0 w o mg mb) :=
  hy_make T (fun y l h h' e p k => by
    cases e
    obtain ⟨ps, q, r⟩ := p
    exact ⟨ps, k 138 _ (lexall_of mu_x0) q, r⟩) fun y l h e p a m => by
    cases e
    obtain ⟨ps, q, r⟩ := p
    rw [x0_mu m]
    exact ⟨_, q⟩
theorem built (T : TopG w o mg mb) {f : Str} {v : Value} (h1 : nsIn (KK w o) mainGlobals f = some none) (h2 : f ≠ "__name__") (h3 : bootBuiltins f = some v) : mg f = none ∧ mb f = some v := ⟨T.gl _ _ h1, (T.bb _ h2).trans h3⟩
theorem klex : KLex (KK w o) 94 77 := ⟨fun n => by show plainGet (KK w o) 94 "" = true; kernel_rfl, by kernel_rfl, by kernel_rfl, by kernel_rfl, by kernel_rfl, by kernel_rfl, by kernel_rfl, by kernel_rfl, by kernel_rfl, by kernel_rfl, by kernel_rfl, by kernel_rfl, by kernel_rfl⟩
theorem fn_g (T : TopG w o mg mb) {f : Str} {a : Addr} {fn : Fn} (e : ∀ w o, fnK (KK w o) a = fn) (h : fnGood (KK w o) a = true) (he : nsIn (KK w o) mainGlobals f = some (some (.ref a))) (hk : keepIn (KK w o) (.ref a) = true) : FnG (cxL w o mg mb X P) f fn :=
  e w o ▸ fng_of (c := cxL w o mg mb X P) h T.gl he hk
theorem tp_ok (T : TopG w o mg mb) (H : Hy (cxL w o mg mb X P)) : Tp (cxL w o mg mb X P) := by
  have b1 := built T (f := "tuple") (by kernel_rfl) (by decide) (by boot_fast)
  have b2 := built T (f := "isinstance") (by kernel_rfl) (by decide) (by boot_fast)
  refine ⟨⟨b2.1, b2.2, b1.1, b1.2, fun A s Q E i t _ hq => IsiPair.int_tuple (hq _)⟩, fun {f v} hv => ?_, built T (f := "sorted") (by kernel_rfl) (by decide) (by boot_fast), fn_g T rAdd.2 (by kernel_rfl) (by kernel_rfl) (by kernel_rfl), fn_g T rCount.2 (by kernel_rfl) (by kernel_rfl) (by kernel_rfl), fn_g T rNames.2 (by kernel_rfl) (by kernel_rfl) (by kernel_rfl), fn_g T rPairs.2 (by kernel_rfl) (by kernel_rfl) (by kernel_rfl), fn_g T rNumbers.2 (by kernel_rfl) (by kernel_rfl) (by kernel_rfl), fn_g T rTies.2 (by kernel_rfl) (by kernel_rfl) (by kernel_rfl), fn_g T rWord.2 (by kernel_rfl) (by kernel_rfl) (by kernel_rfl), fn_g T rWritten.2 (by kernel_rfl) (by kernel_rfl) (by kernel_rfl), fn_g T rBook.2 (by kernel_rfl) (by kernel_rfl) (by kernel_rfl), fn_g T rRow.2 (by kernel_rfl) (by kernel_rfl) (by kernel_rfl), fn_g T rTaken.2 (by kernel_rfl) (by kernel_rfl) (by kernel_rfl), fn_g T rFour.2 (by kernel_rfl) (by kernel_rfl) (by kernel_rfl), fn_g T rCounts.2 (by kernel_rfl) (by kernel_rfl) (by kernel_rfl),
    tc_cls H (T.gl _ _ (by kernel_rfl)), ⟨ok_fn (rCompare.2 w o) (by kernel_rfl), by kernel_rfl, fun A z s a l pl Q E K0 r hl hq => ?_⟩, fun A z s a l r Q E K0 rr hl hq => ?_⟩
  · refine ⟨v, hv, ?_⟩
    unfold bval at hv
    repeat' split at hv
    all_goals first
      | (rename_i q; cases hv; exact ⟨nofun, q ▸ built T (by kernel_rfl) (by decide) (by boot_fast)⟩)
      | cases hv
  · obtain ⟨dx, es, n, I, g⟩ := inst_at r
    have hg : getL (Str.mk (Array.mk [99, 111, 109, 112, 97, 114, 101])) es = some none := by
      rcases g (Str.mk (Array.mk [99, 111, 109, 112, 97, 114, 101])) with ⟨_, q⟩ | ⟨d, v, q, _⟩
      · exact q
      · rw [hl] at q; cases q
    exact method_fn (K := KK w o) K0 I (by kernel_rfl) (by kernel_rfl) (f := 35) (by kernel_rfl) (by kernel_rfl) (by show (lookIn _ (dictOf es n)).map _ = _; rw [lookIn_dict, hg]; rfl) hq
  · obtain ⟨dx, es, n, I, g⟩ := inst_at rr
    rcases g (Str.mk (Array.mk [99, 111, 109, 112, 95, 115, 101, 108, 101, 99, 116, 95, 108, 105, 115, 116])) with ⟨q, _⟩ | ⟨d, v, q, hg, rv⟩
    · rw [hl] at q; cases q
    · rw [hl] at q; cases q
      exact get_value (K := KK w o) K0 I (by kernel_rfl) (findObj_own (by kernel_rfl) (attr := none) (by kernel_rfl) rfl (by show lookIn _ (dictOf es n) = _; rw [lookIn_dict, hg])) (by cases rv <;> rfl) (hq v _ rv)
end
section
variable {w : World} {o : Obj} {mg mb : Str → Option Value} {x : LXA}
theorem tg_ok (T : TopG w o mg mb) (ho : x.on = true) : Tg (cxL w o mg mb (some x) (LexI LC 77)) := by
  have H := hy_I (mg := mg) (mb := mb) T x
  have p : PL (cxL w o mg mb (some x) (LexI LC 77)) LC x := pl_I rfl ho rfl
  have GO := give_ok2 H (tp_ok (X := none) (P := fun _ _ _ => False) T (hy0 H))
  have hr : FnOK (cxL w o mg mb (some x) (LexI LC 77)) rRead.1 := ok_fn (rRead.2 w o) (by kernel_rfl)
  exact ⟨fit_of (rm := 14) H rfl ho rfl hr fun l => cl_read H GO p klex (by decide), lexg_of (f := rRead.1) H p klex hr (by kernel_rfl) (by kernel_rfl) (by kernel_rfl) lx_read fun _ _ _ _ h => h, fun l => cl_read H GO p klex (by decide), lex_a p klex (by kernel_rfl) (fun l u => lx_whitespace u _ _ _) (fun _ _ => rfl) fun _ _ _ _ => .str _ _⟩
theorem read_ok (T : TopG w o mg mb) (ho : x.on = true) : ∀ l y lE, Reads l y lE → GetT (cxL w o mg mb (some x) (LexM LC)) l y lE := fun l y lE R =>
  get_run (x := x) (hy_M T x) (fun x' => hy_I T x') (fun x' h => tg_ok T h) rfl ho rfl klex (built T (by kernel_rfl) (by decide) (by boot_fast)) R.pb R.run
theorem tl_ok (T : TopG w o mg mb) (ho : x.on = true) : Tl (cxL w o mg mb (some x) (LexM LC)) := by
  have H := hy_M (mg := mg) (mb := mb) T x
  have p : PL (cxL w o mg mb (some x) (LexM LC)) LC x := pl_M rfl ho rfl
  exact ⟨lexg_of (f := rGet.1) H p klex (ok_fn (rGet.2 w o) (by kernel_rfl)) (by kernel_rfl) (by kernel_rfl) (by kernel_rfl) lx_get fun _ _ _ _ h => h, lexg_of (f := rPush.1) H p klex (ok_fn (rPush.2 w o) (by kernel_rfl)) (by kernel_rfl) (by kernel_rfl) (by kernel_rfl) lx_push fun _ _ _ _ h => h,
    lex_a p klex (by kernel_rfl) (fun l u => lx_lineno u _ _ _) (fun _ _ => rfl) fun _ _ _ _ => .int _ _, lex_at0 p, fun l y r hpb hz => get_pb H p klex hpb hz, fun l y hz => cl_push H p klex hz⟩
end
theorem ints_rds {c : Cx} {z : Addr → Prop} {h : Heap} {vs : List Value} {ns : List Int} (r : Ints vs ns) : Rds c z h vs (ns.map .int) := by
  induction r with
  | nil => exact .nil
  | cons _ ih => exact .cons (.int _ _) ih
section
variable {w : World} {o : Obj} {mg mb : Str → Option Value}
theorem law_cl (hp : PlainAll) (T : TopG w o mg mb) (ns : List Int) (hns : ns.length ≤ 63) : Cl (c0 w o mg mb) 51 rLaw.1 [(intsL ns, false)] (some (l0 false)) (.bool true) (some (l0 true)) := by
  refine ⟨[((Str.mk (Array.mk [115, 99, 114, 105, 112, 116])), ⟨.bor, intsL ns⟩)], rfl, ?_⟩
  have H0 := hy_0 (mg := mg) (mb := mb) T
  have T0 := tp_ok (X := some x0) (P := P0) T H0
  refine law_A H0 T0 49 (some (l0 false)) ns hns ?_
  have h15 : (numsOf ns).length = 15 := numsP_len ns _
  generalize numsOf ns = nums at *
  have hB : ∀ x : LXA, x.on = true → Ex (cxL w o mg mb (some x) (LexM LC)) (0 + 51) rLaw.1.scope (setL (Str.mk (Array.mk [108, 101, 120])) ⟨.fz, .lex⟩ (setL (Str.mk (Array.mk [97, 116])) ⟨.fz, .atl⟩ (loc7 ns nums))) (some (LXk (txt nums) 0 false)) (rLaw.1.body.drop 8) fun af _ _ => af = .ret (.bool true) := fun x ho => by
    have H := hy_M (mg := mg) (mb := mb) T x
    exact law_B H (tp_ok T H) (tp_ok (X := none) (P := fun _ _ _ => False) T (hy_N H)) (tl_ok T ho) 0 (read_ok T ho) hp ns hns nums h15
  have hlen : (S (txt nums)).length ≤ 100000 := by
    have := pcs_len nums
    rw [s_len]
    unfold txt
    rw [List.length_append, List.length_cons, List.length_cons, List.length_singleton]
    omega
  simp only [rLaw, List.drop, loc7] at hB ⊢
  refine Ex.lexer H0 (hy_M T) T.gl rfl rfl (fun y d e => ?_) hlen rfl rfl (by decide) ⟨.inl rfl, rfl⟩ hB
  simp only [List.lookup_cons] at e
  repeat' split at e
  all_goals first
    | (rename_i q; exact beq_iff_eq.mp q)
    | cases e
end
theorem walk2 (hp : PlainAll) : Walk2 := by
  intro w o mg mb s a vs ns Q hlen T pl iv hq
  have TG : TopG w o mg mb := ⟨T.g, T.b, T.l, T.gl, T.bb⟩
  have hr : Room callerA (51 + 1) := ⟨rfl, by decide +kernel, by decide +kernel⟩
  have na : ¬ lexmu (some x0) a := fun m => by
    obtain ⟨n, e⟩ := pl
    rw [x0_mu (lexall_of m), T.t] at e
    cases e
  refine codeAny_mono (callC_ok (c := c0 w o mg mb) (z := fun _ => False) (E := fun _ _ => False) (Q := Q) (hy_0 TG) hr (ok_fn (rLaw.2 w o) (by kernel_rfl)) (law_cl hp TG ns hlen) ⟨T.k, fun b ob e m => K138 b ob e (x0_mu (lexall_of m)), fun b h => h.elim, fun b h => h.elim, fun b m => ⟨_, x0_mu m ▸ T.t⟩, .inr ⟨x0, l0 false, rfl, rfl, #[], T.t, fun _ => rfl⟩⟩ (.cons (v := .ref a) (d := (intsL ns, false)) (.inr ⟨a, rfl, na, .list pl (ints_rds iv)⟩) .nil) fun z' r s' S L rr => ?_) fun r s' h => h
  cases (rr.i : r = .bool true)
  obtain ⟨lx, _, ps, q, _⟩ := L.get rfl
  exact hq s' (fun b ob n e => S.kp b ob e fun m => n (x0_mu (lexall_of m))) ⟨ps, q⟩ S.ge S.os
theorem law1 (hp : PlainAll) : rwx.Holds := tp (walk2 hp)
noncomputable def subs : List Nat → List (List Nat)
  | [] => [[]]
  | v :: S => subs S ++ (subs S).map (v :: ·)
noncomputable def isC (T : Nat → Nat → Bool) : List Nat → Bool
  | [] => true
  | v :: S => S.all (T v) && isC T S
noncomputable def nC (T : Nat → Nat → Bool) (S : List Nat) : Nat := (subs S).countP (isC T)
theorem subs_len : ∀ S, (subs S).length = 2 ^ S.length
  | [] => rfl
  | v :: S => by rw [subs, List.length_append, List.length_map, subs_len S, List.length_cons, Nat.pow_succ]; omega
theorem subs_filter (p : Nat → Bool) : ∀ (S : List Nat) (q : List Nat → Bool), (subs S).countP (fun X => X.all p && q X) = (subs (S.filter p)).countP q
  | [], q => by simp [subs]
  | v :: S, q => by
    have h1 := subs_filter p S q
    cases hv : p v with
    | true =>
      have h2 := subs_filter p S (fun X => q (v :: X))
      rw [List.filter_cons_of_pos hv, subs, subs, List.countP_append, List.countP_append, List.countP_map, List.countP_map, h1]
      congr 1
      rw [← (show ((fun X => q (v :: X)) : List Nat → Bool) = q ∘ (v :: ·) from rfl), ← h2]
      congr 1
      funext X
      simp [hv]
    | false =>
      rw [List.filter_cons_of_neg (by rw [hv]; decide), subs, List.countP_append, List.countP_map, h1]
      have : (subs S).countP ((fun X => X.all p && q X) ∘ (v :: ·)) = 0 := by
        rw [List.countP_eq_zero]
        intro X _
        simp [hv]
      omega
theorem nC_cons (T : Nat → Nat → Bool) (v : Nat) (S : List Nat) : nC T (v :: S) = nC T S + nC T (S.filter (T v)) := by
  unfold nC
  rw [subs, List.countP_append, List.countP_map, ← subs_filter]
  rfl
theorem nC_perm (T : Nat → Nat → Bool) (hs : ∀ i j, T i j = T j i) {S S' : List Nat} (h : S.Perm S') : ∀ p : Nat → Bool, nC T (S.filter p) = nC T (S'.filter p) := by
  induction h with
  | nil => intro p; rfl
  | cons v _ ih =>
    intro p
    cases hv : p v with
    | true =>
      rw [List.filter_cons_of_pos hv, List.filter_cons_of_pos hv, nC_cons, nC_cons, ih p, List.filter_filter, List.filter_filter, ih]
    | false => rw [List.filter_cons_of_neg (by rw [hv]; decide), List.filter_cons_of_neg (by rw [hv]; decide), ih p]
  | swap a b S =>
    intro p
    cases ha : p a <;> cases hb : p b <;> simp only [List.filter_cons, ha, hb, Bool.false_eq_true, if_false, if_true]
    cases hab : T a b with
    | false =>
      have hba := (hs a b).symm.trans hab
      simp only [nC_cons, List.filter_cons, hab, hba, Bool.false_eq_true, if_false]
      omega
    | true =>
      have hba := (hs a b).symm.trans hab
      simp only [nC_cons, List.filter_cons, hab, hba, if_true, List.filter_filter]
      have : (fun x => T b x && (T a x && p x)) = fun x => T a x && (T b x && p x) := by funext x; cases T a x <;> cases T b x <;> rfl
      rw [this]
      omega
  | trans _ _ ih1 ih2 => exact fun p => (ih1 p).trans (ih2 p)
theorem filter_all (S : List Nat) : S.filter (fun _ => true) = S := List.filter_eq_self.mpr fun _ _ => rfl
theorem nC_perm' (T : Nat → Nat → Bool) (hs : ∀ i j, T i j = T j i) {S S' : List Nat} (h : S.Perm S') : nC T S = nC T S' := by
  have := nC_perm T hs h fun _ => true
  rwa [filter_all, filter_all] at this
theorem self_subs : ∀ S, S ∈ subs S
  | [] => List.mem_singleton.mpr rfl
  | v :: S => by rw [subs]; exact List.mem_append_right _ (List.mem_map_of_mem (self_subs S))
theorem filter_subs (p : Nat → Bool) : ∀ S, S.filter p ∈ subs S
  | [] => List.mem_singleton.mpr rfl
  | v :: S => by
    rw [subs]
    cases hv : p v with
    | true => rw [List.filter_cons_of_pos hv]; exact List.mem_append_right _ (List.mem_map_of_mem (filter_subs p S))
    | false => rw [List.filter_cons_of_neg (by rw [hv]; decide)]; exact List.mem_append_left _ (filter_subs p S)
theorem subs_mem : ∀ (S X : List Nat), X ∈ subs S → ∀ x ∈ X, x ∈ S
  | [], X, h, x, hx => by rw [List.mem_singleton.mp h] at hx; cases hx
  | v :: S, X, h, x, hx => by
    rw [subs] at h
    rcases List.mem_append.mp h with h | h
    · exact List.mem_cons_of_mem _ (subs_mem S X h x hx)
    · obtain ⟨Y, hY, rfl⟩ := List.mem_map.mp h
      rcases List.mem_cons.mp hx with rfl | hx
      · exact List.mem_cons_self ..
      · exact List.mem_cons_of_mem _ (subs_mem S Y hY x hx)
theorem subs_isC (T : Nat → Nat → Bool) : ∀ S, isC T S = true → ∀ X ∈ subs S, isC T X = true
  | [], _, X, h => by rw [List.mem_singleton.mp h]; rfl
  | v :: S, hc, X, h => by
    rw [isC, Bool.and_eq_true] at hc
    rw [subs] at h
    rcases List.mem_append.mp h with h | h
    · exact subs_isC T S hc.2 X h
    · obtain ⟨Y, hY, rfl⟩ := List.mem_map.mp h
      rw [isC, Bool.and_eq_true]
      exact ⟨List.all_eq_true.mpr fun x hx => List.all_eq_true.mp hc.1 x (subs_mem S Y hY x hx), subs_isC T S hc.2 Y hY⟩
theorem nC_le (T : Nat → Nat → Bool) (S : List Nat) : nC T S ≤ 2 ^ S.length := by rw [← subs_len]; exact List.countP_le_length
theorem nC_eq (T : Nat → Nat → Bool) (S : List Nat) (h : isC T S = true) : nC T S = 2 ^ S.length := by
  rw [← subs_len]
  exact List.countP_eq_length.mpr (subs_isC T S h)
theorem nC_lt (T : Nat → Nat → Bool) (S : List Nat) (h : isC T S = false) : nC T S < 2 ^ S.length := by
  refine Nat.lt_of_le_of_ne (nC_le T S) fun e => ?_
  rw [← subs_len] at e
  rw [List.countP_eq_length.mp e S (self_subs S)] at h
  cases h
theorem isC_iff (T : Nat → Nat → Bool) (hs : ∀ i j, T i j = T j i) : ∀ S : List Nat, S.Nodup → (isC T S = true ↔ ∀ i ∈ S, ∀ j ∈ S, i ≠ j → T i j = true)
  | [], _ => by simp [isC]
  | v :: S, nd => by
    rw [List.nodup_cons] at nd
    rw [isC, Bool.and_eq_true, List.all_eq_true, isC_iff T hs S nd.2]
    constructor
    · rintro ⟨h1, h2⟩ i hi j hj ne
      rcases List.mem_cons.mp hi with e1 | i1 <;> rcases List.mem_cons.mp hj with e2 | j1
      · exact absurd (e1.trans e2.symm) ne
      · rw [e1]; exact h1 j j1
      · rw [e2, hs]; exact h1 i i1
      · exact h2 i i1 j j1 ne
    · intro h
      exact ⟨fun x hx => h v (List.mem_cons_self ..) x (List.mem_cons_of_mem _ hx) (fun e => nd.1 (e ▸ hx)), fun i hi j hj => h i (List.mem_cons_of_mem _ hi) j (List.mem_cons_of_mem _ hj)⟩
theorem filt_split (p : Nat → Bool) : ∀ S : List Nat, S.length = (S.filter p).length + (S.filter fun j => !p j).length
  | [] => rfl
  | v :: S => by
    have := filt_split p S
    cases hv : p v <;> simp [List.filter_cons, hv] <;> omega
theorem clq_iff (T : Nat → Nat → Bool) (hs : ∀ i j, T i j = T j i) (hi : ∀ i, T i i = false) (S : List Nat) (nd : S.Nodup) : clq T S = isC T S := by
  rw [Bool.eq_iff_iff, isC_iff T hs S nd]
  unfold clq deg
  rw [List.all_eq_true]
  have key : ∀ i ∈ S, ((S.filter (T i)).length + 1 == S.length) = true ↔ ∀ j ∈ S, i ≠ j → T i j = true := by
    intro i hm
    rw [beq_iff_eq]
    have e := filt_split (T i) S
    have hin : i ∈ S.filter fun j => !T i j := List.mem_filter.mpr ⟨hm, by rw [hi]; rfl⟩
    constructor
    · intro h j hj ne
      have h1 : (S.filter fun j => !T i j).length = 1 := by omega
      obtain ⟨a, ha⟩ := List.length_eq_one_iff.mp h1
      cases q : T i j with
      | true => rfl
      | false =>
        have hj' : j ∈ S.filter fun j => !T i j := List.mem_filter.mpr ⟨hj, by rw [q]; rfl⟩
        rw [ha] at hin hj'
        exact absurd ((List.mem_singleton.mp hin).trans (List.mem_singleton.mp hj').symm) ne
    · intro h
      have h1 : S.filter (fun j => !T i j) = S.filter fun j => j == i := List.filter_congr fun j hj => by
        by_cases q : j = i
        · subst q; simp [hi]
        · simp [h j hj (Ne.symm q), q]
      have h2 : (S.filter fun j => j == i).length = 1 := by
        rw [← List.countP_eq_length_filter]
        exact nd.count.trans (if_pos hm)
      rw [h1, h2] at e
      exact e.symm
  exact ⟨fun h i hm => (key i hm).mp (h i hm), fun h i hm => (key i hm).mpr (h i hm)⟩
theorem own_nodup (f : Nat) : (ownF f).Nodup := List.Nodup.sublist List.filter_sublist (by decide)
theorem own_perm : ((List.range 64).map ownF).Perm (subs (List.range 6)) := by decide +kernel
theorem range_64 : List.range 64 = 0 :: figs := by decide
theorem whole_eq (T : Nat → Nat → Bool) (hs : ∀ i j, T i j = T j i) (hi : ∀ i, T i i = false) : wholeN T figs + 1 = nC T (List.range 6) := by
  unfold nC
  rw [← own_perm.countP_eq, List.countP_map, range_64, List.countP_cons]
  have : isC T (ownF 0) = true := rfl
  rw [Function.comp, this, if_pos rfl]
  unfold wholeN
  congr 2
  funext f
  exact clq_iff T hs hi _ (own_nodup f)
def Ring (T : Nat → Nat → Bool) (vs : List Nat) : Prop := vs.Nodup ∧ 3 < vs.length ∧ (∀ i ∈ vs, i < 6) ∧ ∀ i ∈ vs, ∃ x y, (vs.filter (T i)) = [x, y] ∧ T x y = false
theorem figs_mem {f : Nat} : f ∈ figs ↔ f < 64 ∧ f ≠ 0 := by
  constructor
  · intro h
    obtain ⟨k, hk, rfl⟩ := List.mem_map.mp h
    have := List.mem_range.mp hk
    omega
  · rintro ⟨h1, h2⟩
    exact List.mem_map.mpr ⟨f - 1, List.mem_range.mpr (by omega), by omega⟩
theorem ring_fig (T : Nat → Nat → Bool) (hs : ∀ i j, T i j = T j i) (vs : List Nat) (h : Ring T vs) : ∃ f ∈ figs, rg T (ownF f) = true := by
  obtain ⟨nd, h4, h6, hr⟩ := h
  have hm := filter_subs (fun i => decide (i ∈ vs)) (List.range 6)
  rw [← own_perm.mem_iff] at hm
  obtain ⟨f, hf, e⟩ := List.mem_map.mp hm
  have pm : (ownF f).Perm vs := by
    refine (List.perm_ext_iff_of_nodup (own_nodup f) nd).mpr fun i => ?_
    rw [e, List.mem_filter]
    exact ⟨fun h => of_decide_eq_true h.2, fun h => ⟨List.mem_range.mpr (h6 i h), decide_eq_true h⟩⟩
  have hl := pm.length_eq
  have dg : ∀ i ∈ ownF f, ∃ x y, ((ownF f).filter (T i)).Perm [x, y] ∧ T x y = false := fun i hi => by
    obtain ⟨x, y, h1, h2⟩ := hr i (pm.mem_iff.mp hi)
    exact ⟨x, y, h1 ▸ pm.filter (T i), h2⟩
  generalize hS : ownF f = S at *
  have h0 : S.getD 0 0 ∈ S := by
    rw [List.getD_eq_getElem?_getD, List.getElem?_eq_getElem (by omega)]; exact List.getElem_mem _
  have d2 : ∀ i ∈ S, deg T S i = 2 := fun i hi => by
    obtain ⟨x, y, h1, _⟩ := dg i hi
    exact h1.length_eq
  refine ⟨f, figs_mem.mpr ⟨List.mem_range.mp hf, fun e0 => ?_⟩, ?_⟩
  · subst e0
    have : S = [] := hS.symm
    rw [this] at hl
    simp at hl
    omega
  · rw [hS]
    unfold rg
    have c1 : clq T S = false := by
      rw [Bool.eq_false_iff]
      intro h
      have := beq_iff_eq.mp (List.all_eq_true.mp h _ h0)
      rw [d2 _ h0] at this
      omega
    have c2 : two T S = true := List.all_eq_true.mpr fun i hi => beq_iff_eq.mpr (d2 i hi)
    obtain ⟨x, y, h1, h2⟩ := dg _ h0
    have c3 : T ((nbs T S).getD 0 0) ((nbs T S).getD 1 0) = false := by
      have h1 : (nbs T S).Perm [x, y] := h1
      have hl := h1.length_eq
      match hn : nbs T S, hl with
      | [a, b], _ =>
        rw [hn] at h1
        show T a b = false
        rcases List.mem_cons.mp (h1.mem_iff.mp (List.mem_cons_self ..)) with rfl | ha
        · have := (List.perm_cons a).mp h1
          have e := List.perm_singleton.mp this
          cases e
          exact h2
        · rw [List.mem_singleton.mp ha] at h1 ⊢
          have h3 : [y, b].Perm [y, x] := h1.trans (.swap ..)
          have e := List.perm_singleton.mp ((List.perm_cons y).mp h3)
          cases e
          rw [hs]; exact h2
    rw [c1, c2, c3, decide_eq_true (by omega)]
    rfl
theorem least {P : Nat → Prop} : ∀ n, P n → ∃ d, d ≤ n ∧ P d ∧ ∀ e, e < d → ¬ P e := by
  intro n
  induction n using Nat.strongRecOn with
  | _ n ih =>
    intro h
    by_cases q : ∃ e, e < n ∧ P e
    · obtain ⟨e, h1, h2⟩ := q
      obtain ⟨d, d1, d2⟩ := ih e h1 h2
      exact ⟨d, by omega, d2⟩
    · exact ⟨n, Nat.le_refl _, h, fun e he hp => q ⟨e, he, hp⟩⟩
theorem rtl (A : Nat → Nat → Bool) (hs : ∀ i j, A i j = A j i) (hi : ∀ i, A i i = false) (h4 : ∀ a b c, a < b → b < c → c < 6 → A a c = true → A a b = false → ∃ d, d < a ∧ A d b = true ∧ A d c = false) {a b c : Nat} (hab : a < b) (hbc : b < c) (hc : c < 6) (ac : A a c = true) (bc : A b c = true) (ab : A a b = false) : ∃ ps : List Nat, ps.Nodup ∧ 3 < ps.length ∧ (∀ i ∈ ps, i < 6) ∧ ∀ i ∈ ps, ∃ x y, (ps.filter (A i)) = [x, y] ∧ A x y = false := by
  have ba := (hs b a).trans ab
  have ca := (hs c a).trans ac
  have cb := (hs c b).trans bc
  obtain ⟨d0, g1, g2, g3⟩ := h4 a b c hab hbc hc ac ab
  obtain ⟨d, d1, ⟨db, dc⟩, dm⟩ := least (P := fun d => A d b = true ∧ A d c = false) d0 ⟨g2, g3⟩
  have hda : d < a := by omega
  have bd := (hs b d).trans db
  have cd := (hs c d).trans dc
  cases da : A d a with
  | true =>
    have ad := (hs a d).trans da
    refine ⟨[c, a, d, b], by simp; omega, by simp, by simp; omega, fun i hm => ?_⟩
    simp only [List.mem_cons, List.not_mem_nil, or_false] at hm
    rcases hm with rfl | rfl | rfl | rfl
    · exact ⟨a, b, by simp [List.filter_cons, hi, *], ab⟩
    · exact ⟨c, d, by simp [List.filter_cons, hi, *], cd⟩
    · exact ⟨a, b, by simp [List.filter_cons, hi, *], ab⟩
    · exact ⟨c, d, by simp [List.filter_cons, hi, *], cd⟩
  | false =>
    have ad := (hs a d).trans da
    obtain ⟨e0, f1, f2, f3⟩ := h4 d a b hda hab (by omega) db da
    obtain ⟨e, e1, ⟨ea, eb⟩, em⟩ := least (P := fun e => A e a = true ∧ A e b = false) e0 ⟨f2, f3⟩
    have hed : e < d := by omega
    have ae := (hs a e).trans ea
    have be := (hs b e).trans eb
    have ec : A e c = false := by
      cases q : A e c with
      | false => rfl
      | true =>
        obtain ⟨d', q1, q2, q3⟩ := h4 e b c (by omega) hbc hc q eb
        exact absurd ⟨q2, q3⟩ (dm d' (by omega))
    have ce := (hs c e).trans ec
    cases de : A d e with
    | true =>
      have ed := (hs e d).trans de
      refine ⟨[c, a, e, d, b], by simp; omega, by simp, by simp; omega, fun i hm => ?_⟩
      simp only [List.mem_cons, List.not_mem_nil, or_false] at hm
      rcases hm with rfl | rfl | rfl | rfl | rfl
      · exact ⟨a, b, by simp [List.filter_cons, hi, *], ab⟩
      · exact ⟨c, e, by simp [List.filter_cons, hi, *], ce⟩
      · exact ⟨a, d, by simp [List.filter_cons, hi, *], ad⟩
      · exact ⟨e, b, by simp [List.filter_cons, hi, *], eb⟩
      · exact ⟨c, d, by simp [List.filter_cons, hi, *], cd⟩
    | false =>
      have ed := (hs e d).trans de
      obtain ⟨g, hge, gd, ga⟩ := h4 e d a hed hda (by omega) ea ed
      have dg := (hs d g).trans gd
      have ag := (hs a g).trans ga
      have gb : A g b = false := by
        cases q : A g b with
        | false => rfl
        | true =>
          obtain ⟨e', q1, q2, q3⟩ := h4 g a b (by omega) hab (by omega) q ga
          exact absurd ⟨q2, q3⟩ (em e' (by omega))
      have bg := (hs b g).trans gb
      have gc : A g c = false := by
        cases q : A g c with
        | false => rfl
        | true =>
          obtain ⟨d', q1, q2, q3⟩ := h4 g b c (by omega) hbc hc q gb
          exact absurd ⟨q2, q3⟩ (dm d' (by omega))
      have cg := (hs c g).trans gc
      cases ge : A g e with
      | true =>
        have eg := (hs e g).trans ge
        refine ⟨[c, a, e, g, d, b], by simp; omega, by simp, by simp; omega, fun i hm => ?_⟩
        simp only [List.mem_cons, List.not_mem_nil, or_false] at hm
        rcases hm with rfl | rfl | rfl | rfl | rfl | rfl
        · exact ⟨a, b, by simp [List.filter_cons, hi, *], ab⟩
        · exact ⟨c, e, by simp [List.filter_cons, hi, *], ce⟩
        · exact ⟨a, g, by simp [List.filter_cons, hi, *], ag⟩
        · exact ⟨e, d, by simp [List.filter_cons, hi, *], ed⟩
        · exact ⟨g, b, by simp [List.filter_cons, hi, *], gb⟩
        · exact ⟨c, d, by simp [List.filter_cons, hi, *], cd⟩
      | false =>
        obtain ⟨h, hh, _⟩ := h4 g e d hge hed (by omega) gd ge
        omega
theorem len_sub {l S : List Nat} (nl : l.Nodup) (nS : S.Nodup) (h : ∀ x ∈ l, x ∈ S) : l.length ≤ S.length := by
  have : l.Perm (S.filter fun x => decide (x ∈ l)) := (List.perm_ext_iff_of_nodup nl (nS.sublist List.filter_sublist)).mpr fun x => by
    rw [List.mem_filter]
    exact ⟨fun m => ⟨h x m, decide_eq_true m⟩, fun m => of_decide_eq_true m.2⟩
  rw [this.length_eq]
  exact List.length_filter_le _ _
theorem top_pos (pos : Nat → Nat) : ∀ S : List Nat, S ≠ [] → ∃ v ∈ S, ∀ u ∈ S, pos u ≤ pos v
  | [], h => absurd rfl h
  | [v], _ => ⟨v, by simp, fun u hu => by rw [List.mem_singleton.mp hu]; exact Nat.le_refl _⟩
  | v :: w :: S, _ => by
    obtain ⟨t, h1, h2⟩ := top_pos pos (w :: S) (by simp)
    by_cases q : pos v ≤ pos t
    · exact ⟨t, List.mem_cons_of_mem _ h1, fun u hu => by
        rcases List.mem_cons.mp hu with rfl | hu
        · exact q
        · exact h2 u hu⟩
    · exact ⟨v, List.mem_cons_self .., fun u hu => by
        rcases List.mem_cons.mp hu with rfl | hu
        · exact Nat.le_refl _
        · have := h2 u hu; omega⟩
theorem pair_mem {p q v y j : Nat} (hv : v ∈ [p, q]) (hy : y ∈ [p, q]) (ne : v ≠ y) (hj : j ∈ [p, q]) : j = v ∨ j = y := by
  simp only [List.mem_cons, List.not_mem_nil, or_false] at hv hy hj
  omega
theorem no_ring (T : Nat → Nat → Bool) (hs : ∀ i j, T i j = T j i) (hi : ∀ i, T i i = false) (pos : Nat → Nat) (pi : ∀ x y, x < 6 → y < 6 → pos x = pos y → x = y)
    (hp : ∀ v x y, v < 6 → x < 6 → y < 6 → pos x < pos v → pos y < pos v → x ≠ y → T v x = true → T v y = true → T x y = true) (f : Nat) : rg T (ownF f) = false := by
  rw [Bool.eq_false_iff]
  intro h
  unfold rg at h
  simp only [Bool.and_eq_true, Bool.not_eq_true', decide_eq_true_eq] at h
  obtain ⟨_, h3, h2, h0⟩ := h
  have nd := own_nodup f
  have l6 := own_len f
  have lt : ∀ i ∈ ownF f, i < 6 := fun i => own_lt
  generalize ownF f = S at *
  have N2 : ∀ i ∈ S, ∃ x y, S.filter (T i) = [x, y] := fun i hm => by
    have : (S.filter (T i)).length = 2 := beq_iff_eq.mp (List.all_eq_true.mp h2 i hm)
    match S.filter (T i), this with
    | [x, y], _ => exact ⟨x, y, rfl⟩
  have mF : ∀ {i j : Nat}, j ∈ S.filter (T i) ↔ j ∈ S ∧ T i j = true := List.mem_filter
  have irr : ∀ {i j : Nat}, T i j = true → i ≠ j := fun h e => by rw [e, hi] at h; cases h
  have sy : ∀ {i j : Nat}, T i j = true → T j i = true := fun h => (hs _ _).symm.trans h
  obtain ⟨v, vS, vm⟩ := top_pos pos S (fun e => by rw [e] at h3; simp at h3)
  obtain ⟨x, y, ev⟩ := N2 v vS
  obtain ⟨xS, vx⟩ := mF.mp (show x ∈ S.filter (T v) by rw [ev]; simp)
  obtain ⟨yS, vy⟩ := mF.mp (show y ∈ S.filter (T v) by rw [ev]; simp)
  have xy : x ≠ y := by
    have := nd.sublist (List.filter_sublist (p := T v))
    rw [ev] at this
    simpa using this
  have lp : ∀ w ∈ S, T v w = true → pos w < pos v := fun w hw t => by
    have := vm w hw
    have ne : pos v ≠ pos w := fun e => irr t (pi v w (lt v vS) (lt w hw) e)
    omega
  have txy := hp v x y (lt v vS) (lt x xS) (lt y yS) (lp x xS vx) (lp y yS vy) xy vx vy
  have cl : ∀ {a b d : Nat}, a ∈ S → b ∈ S → d ∈ S → b ≠ d → T a b = true → T a d = true → ∀ j ∈ S, T a j = true → j = b ∨ j = d := fun {a b d} ha hb hd ne t1 t2 j hj t => by
    obtain ⟨p, q, e⟩ := N2 a ha
    have k : ∀ {z : Nat}, z ∈ S → T a z = true → z ∈ [p, q] := fun hz tz => e ▸ mF.mpr ⟨hz, tz⟩
    exact pair_mem (k hb t1) (k hd t2) ne (k hj t)
  have cv := cl vS xS yS xy vx vy
  have cx := cl xS vS yS (irr vy) (sy vx) txy
  have cy := cl yS vS xS (irr vx) (sy vy) (sy txy)
  have uS : S.getD 0 0 ∈ S := by
    rw [List.getD_eq_getElem?_getD, List.getElem?_eq_getElem (by omega)]; exact List.getElem_mem _
  unfold nbs at h0
  generalize S.getD 0 0 = u at *
  obtain ⟨p, q, eu⟩ := N2 u uS
  rw [eu] at h0
  have h0 : T p q = false := h0
  obtain ⟨pS, up⟩ := mF.mp (show p ∈ S.filter (T u) by rw [eu]; simp)
  obtain ⟨qS, uq⟩ := mF.mp (show q ∈ S.filter (T u) by rw [eu]; simp)
  have pq : p ≠ q := by
    have := nd.sublist (List.filter_sublist (p := T u))
    rw [eu] at this
    simpa using this
  have tri : ∀ {a b : Nat}, T a b = true → (p = a ∨ p = b) → (q = a ∨ q = b) → False := fun {a b} t h1 h2 => by
    rcases h1 with rfl | rfl <;> rcases h2 with rfl | rfl
    · exact pq rfl
    · rw [h0] at t; cases t
    · rw [hs, h0] at t; cases t
    · exact pq rfl
  have nuv : u ≠ v := fun e => tri txy (cv p pS (e ▸ up)) (cv q qS (e ▸ uq))
  have nux : u ≠ x := fun e => tri vy (cx p pS (e ▸ up)) (cx q qS (e ▸ uq))
  have nuy : u ≠ y := fun e => tri vx (cy p pS (e ▸ up)) (cy q qS (e ▸ uq))
  have out : ∀ {a b : Nat}, a ∈ S → b ∈ S → T a b = true → a ≠ v → a ≠ x → a ≠ y → b ≠ v ∧ b ≠ x ∧ b ≠ y := fun {a b} ha hb t n1 n2 n3 => by
    refine ⟨fun e => ?_, fun e => ?_, fun e => ?_⟩
    · rcases cv a ha (e ▸ sy t) with e | e
      · exact n2 e
      · exact n3 e
    · rcases cx a ha (e ▸ sy t) with e | e
      · exact n1 e
      · exact n3 e
    · rcases cy a ha (e ▸ sy t) with e | e
      · exact n1 e
      · exact n2 e
  obtain ⟨p1, p2, p3⟩ := out uS pS up nuv nux nuy
  obtain ⟨q1, q2, q3⟩ := out uS qS uq nuv nux nuy
  obtain ⟨s, t, ep⟩ := N2 p pS
  have st : s ≠ t := by
    have := nd.sublist (List.filter_sublist (p := T p))
    rw [ep] at this
    simpa using this
  have hz : ∃ z, z ∈ S ∧ T p z = true ∧ z ≠ u := by
    by_cases q : s = u
    · obtain ⟨tS, pt⟩ := mF.mp (show t ∈ S.filter (T p) by rw [ep]; simp)
      exact ⟨t, tS, pt, fun e => st (q.trans e.symm)⟩
    · obtain ⟨sS, ps⟩ := mF.mp (show s ∈ S.filter (T p) by rw [ep]; simp)
      exact ⟨s, sS, ps, q⟩
  obtain ⟨z, zS, pz, zu⟩ := hz
  obtain ⟨z1, z2, z3⟩ := out pS zS pz p1 p2 p3
  have zq : z ≠ q := fun e => by rw [e, h0] at pz; cases pz
  have nl : [v, x, y, u, p, q, z].Nodup := by
    have := irr vx
    have := irr vy
    have := irr up
    have := irr uq
    have := irr pz
    simp only [List.nodup_cons, List.mem_cons, List.not_mem_nil, or_false, not_or, not_false_eq_true, List.nodup_nil, and_true, and_self]
    exact ⟨⟨irr vx, irr vy, Ne.symm nuv, Ne.symm p1, Ne.symm q1, Ne.symm z1⟩, ⟨xy, Ne.symm nux, Ne.symm p2, Ne.symm q2, Ne.symm z2⟩, ⟨Ne.symm nuy, Ne.symm p3, Ne.symm q3, Ne.symm z3⟩, ⟨irr up, irr uq, Ne.symm zu⟩, ⟨pq, irr pz⟩, Ne.symm zq⟩
  have := len_sub nl nd (by
    simp only [List.mem_cons, List.not_mem_nil, or_false]
    rintro w (rfl | rfl | rfl | rfl | rfl | rfl | rfl) <;> assumption)
  simp at this
  omega
theorem plain_all : PlainAll := by
  intro T O hs hi hO h4
  have h6 : O.length = 6 := by rw [hO.length_eq]; rfl
  have nd : O.Nodup := hO.nodup_iff.mpr (by decide)
  have lt : ∀ i ∈ O, i < 6 := fun i h => List.mem_range.mp (hO.mem_iff.mp h)
  have oL : ∀ i, i < 6 → O.getD i 0 ∈ O := fun i h => by
    rw [List.getD_eq_getElem?_getD, List.getElem?_eq_getElem (by omega)]; exact List.getElem_mem _
  have oI : ∀ i j, i < 6 → j < 6 → O.getD i 0 = O.getD j 0 → i = j := fun i j h1 h2 e => by
    rw [List.getD_eq_getElem?_getD, List.getD_eq_getElem?_getD, List.getElem?_eq_getElem (by omega), List.getElem?_eq_getElem (by omega)] at e
    exact (List.getElem_inj nd).mp e
  have tk : ∀ k x, k ≤ 6 → (x ∈ O.take k ↔ ∃ i, i < k ∧ O.getD i 0 = x) := fun k x hk => by
    rw [List.mem_take_iff_getElem]
    constructor
    · rintro ⟨i, h, e⟩
      exact ⟨i, by omega, by rw [List.getD_eq_getElem?_getD, List.getElem?_eq_getElem (by omega)]; exact e⟩
    · rintro ⟨i, h, e⟩
      exact ⟨i, by omega, by rw [List.getD_eq_getElem?_getD, List.getElem?_eq_getElem (by omega)] at e; exact e⟩
  have nk : ∀ k, ((O.take k).filter (T (O.getD k 0))).Nodup := fun k => nd.sublist (List.filter_sublist.trans (List.take_sublist ..))
  have hw := whole_eq T hs hi
  rw [nC_perm' T hs hO.symm] at hw
  have sum : wholeN T figs = ((List.range 6).map fun k => nC T ((O.take k).filter (T (O.getD k 0)))).sum := by
    clear oL oI tk nk h4 nd lt
    rw [← nC_perm' T hs O.reverse_perm] at hw
    match O, h6 with
    | [a, b, c, d, e, f], _ =>
      have e0 : nC T [] = 1 := rfl
      have r : ∀ (S : List Nat) v, nC T (S.reverse.filter (T v)) = nC T (S.filter (T v)) := fun S v => nC_perm T hs S.reverse_perm _
      have r5 := r [a, b, c, d, e] f
      have r4 := r [a, b, c, d] e
      have r3 := r [a, b, c] d
      have r2 := r [a, b] c
      have r1 := r [a] b
      have hw : wholeN T figs + 1 = nC T [f, e, d, c, b, a] := hw
      rw [nC_cons, nC_cons, nC_cons, nC_cons, nC_cons, nC_cons, e0] at hw
      have es : ((List.range 6).map fun k => nC T (([a, b, c, d, e, f].take k).filter (T ([a, b, c, d, e, f].getD k 0)))).sum = nC T [] + (nC T ([a].filter (T b)) + (nC T ([a, b].filter (T c)) + (nC T ([a, b, c].filter (T d)) + (nC T ([a, b, c, d].filter (T e)) + (nC T ([a, b, c, d, e].filter (T f)) + 0))))) := rfl
      rw [es, ← r5, ← r4, ← r3, ← r2, ← r1, e0]
      have e1 : nC T (([] : List Nat).filter (T a)) = 1 := rfl
      rw [e1] at hw
      show _ = 1 + (nC T ([a].filter (T b)) + (nC T ([b, a].filter (T c)) + (nC T ([c, b, a].filter (T d)) + (nC T ([d, c, b, a].filter (T e)) + (nC T ([e, d, c, b, a].filter (T f)) + 0)))))
      omega
  by_cases hc : ∀ k, k < 6 → isC T ((O.take k).filter (T (O.getD k 0))) = true
  · have eq : powN T O = wholeN T figs := by
      rw [sum]
      unfold powN
      congr 1
      exact List.map_congr_left fun k hk => (nC_eq T _ (hc k (List.mem_range.mp hk))).symm
    have hr : ringsN T figs = 0 := by
      unfold ringsN
      rw [List.countP_eq_zero]
      intro f _
      have := no_ring T hs hi O.idxOf (fun x y hx hy e => by
        have mx : x ∈ O := hO.mem_iff.mpr (List.mem_range.mpr hx)
        have my : y ∈ O := hO.mem_iff.mpr (List.mem_range.mpr hy)
        have e1 := List.getElem_idxOf (List.idxOf_lt_length_of_mem mx)
        have e2 := List.getElem_idxOf (List.idxOf_lt_length_of_mem my)
        rw [← e1, ← e2]
        congr 1) (fun v x y hv hx hy px py ne tx ty => by
        have mv : v ∈ O := hO.mem_iff.mpr (List.mem_range.mpr hv)
        have mx : x ∈ O := hO.mem_iff.mpr (List.mem_range.mpr hx)
        have my : y ∈ O := hO.mem_iff.mpr (List.mem_range.mpr hy)
        have iv := List.idxOf_lt_length_of_mem mv
        have ix := List.idxOf_lt_length_of_mem mx
        have iy := List.idxOf_lt_length_of_mem my
        have gD : ∀ {w : Nat} (h : O.idxOf w < O.length), O.getD (O.idxOf w) 0 = w := fun h => by
          rw [List.getD_eq_getElem?_getD, List.getElem?_eq_getElem h]; exact List.getElem_idxOf h
        have := (isC_iff T hs _ (nk (O.idxOf v))).mp (hc (O.idxOf v) (by omega))
        rw [gD iv] at this
        exact this x (List.mem_filter.mpr ⟨(tk _ x (by omega)).mpr ⟨_, px, gD ix⟩, tx⟩) y (List.mem_filter.mpr ⟨(tk _ y (by omega)).mpr ⟨_, py, gD iy⟩, ty⟩) ne) f
      rw [this]
      decide
    exact ⟨fun _ => eq, fun h => absurd hr h⟩
  · have hc : ∃ k, k < 6 ∧ isC T ((O.take k).filter (T (O.getD k 0))) = false := by
      refine Classical.byContradiction fun h => hc fun k hk => ?_
      cases q : isC T ((O.take k).filter (T (O.getD k 0))) with
      | true => rfl
      | false => exact absurd ⟨k, hk, q⟩ h
    obtain ⟨k, hk, ck⟩ := hc
    have lt' : wholeN T figs < powN T O := by
      rw [sum]
      unfold powN
      have : ∀ L : List Nat, (L.map fun k => nC T ((O.take k).filter (T (O.getD k 0)))).sum ≤ (L.map fun k => 2 ^ ((O.take k).filter (T (O.getD k 0))).length).sum ∧ (k ∈ L → (L.map fun k => nC T ((O.take k).filter (T (O.getD k 0)))).sum < (L.map fun k => 2 ^ ((O.take k).filter (T (O.getD k 0))).length).sum) := by
        intro L
        induction L with
        | nil => exact ⟨Nat.le_refl _, fun h => nomatch h⟩
        | cons j L ih =>
          rw [List.map_cons, List.map_cons, List.sum_cons, List.sum_cons]
          have l1 := nC_le T ((O.take j).filter (T (O.getD j 0)))
          refine ⟨by omega, fun h => ?_⟩
          rcases List.mem_cons.mp h with rfl | h
          · have := nC_lt T _ ck
            omega
          · have := ih.2 h
            omega
      exact (this _).2 (List.mem_range.mpr hk)
    have hr : ringsN T figs ≠ 0 := by
      have hne : ∃ x y, x ∈ (O.take k).filter (T (O.getD k 0)) ∧ y ∈ (O.take k).filter (T (O.getD k 0)) ∧ x ≠ y ∧ T x y = false := by
        refine Classical.byContradiction fun h => ?_
        rw [(isC_iff T hs _ (nk k)).mpr fun i h1 j h2 ne => by
          cases q : T i j with
          | true => rfl
          | false => exact absurd ⟨i, j, h1, h2, ne, q⟩ h] at ck
        cases ck
      obtain ⟨x, y, hx, hy, ne, txy⟩ := hne
      obtain ⟨x1, x2⟩ := List.mem_filter.mp hx
      obtain ⟨y1, y2⟩ := List.mem_filter.mp hy
      obtain ⟨a, ha, rfl⟩ := (tk k x (by omega)).mp x1
      obtain ⟨b, hb, rfl⟩ := (tk k y (by omega)).mp y1
      have hab : a ≠ b := fun e => ne (by rw [e])
      have RT := fun {a b : Nat} (hab : a < b) (hb : b < k) (x2 : T (O.getD k 0) (O.getD a 0) = true) (y2 : T (O.getD k 0) (O.getD b 0) = true) (txy : T (O.getD a 0) (O.getD b 0) = false) =>
        rtl (fun i j => T (O.getD i 0) (O.getD j 0)) (fun i j => hs _ _) (fun i => hi _) h4 hab hb hk ((hs _ _).trans x2) ((hs _ _).trans y2) txy
      have ring : ∃ ps : List Nat, ps.Nodup ∧ 3 < ps.length ∧ (∀ i ∈ ps, i < 6) ∧ ∀ i ∈ ps, ∃ x y, (ps.filter fun j => T (O.getD i 0) (O.getD j 0)) = [x, y] ∧ T (O.getD x 0) (O.getD y 0) = false := by
        rcases Nat.lt_or_gt_of_ne hab with h | h
        · exact RT h hb x2 y2 txy
        · exact RT h ha y2 x2 ((hs _ _).trans txy)
      obtain ⟨ps, r1, r2, r3, r4⟩ := ring
      have R : Ring T (ps.map fun i => O.getD i 0) := by
        refine ⟨?_, by rw [List.length_map]; exact r2, fun i hm => ?_, fun i hm => ?_⟩
        · have inj : ∀ L : List Nat, L.Nodup → (∀ i ∈ L, i < 6) → (L.map fun i => O.getD i 0).Nodup := by
            intro L
            induction L with
            | nil => intro _ _; exact List.nodup_nil
            | cons j L ih =>
              intro n1 n2
              rw [List.nodup_cons] at n1
              rw [List.map_cons, List.nodup_cons]
              refine ⟨fun m => ?_, ih n1.2 fun i hm => n2 i (List.mem_cons_of_mem _ hm)⟩
              obtain ⟨i, hm, e⟩ := List.mem_map.mp m
              exact n1.1 (oI i j (n2 i (List.mem_cons_of_mem _ hm)) (n2 j (List.mem_cons_self ..)) e ▸ hm)
          exact inj ps r1 r3
        · obtain ⟨j, hj, rfl⟩ := List.mem_map.mp hm
          exact lt _ (oL j (r3 j hj))
        · obtain ⟨j, hj, rfl⟩ := List.mem_map.mp hm
          obtain ⟨x, y, e1, e2⟩ := r4 j hj
          refine ⟨O.getD x 0, O.getD y 0, ?_, e2⟩
          rw [List.filter_map, show (T (O.getD j 0) ∘ fun i => O.getD i 0) = fun i => T (O.getD j 0) (O.getD i 0) from rfl, e1]
          rfl
      obtain ⟨f, hf, hg⟩ := ring_fig T hs _ R
      unfold ringsN
      rw [Ne, List.countP_eq_zero]
      exact fun h => h f hf hg
    exact ⟨fun h => absurd h hr, fun _ => lt'⟩
end Mine
set_option maxRecDepth 100000 in
theorem PySem.Challenge.cw_ph0058_01_holds : PySem.Challenge.rw_ph0058_01.Holds :=
  Mine.rw_eq ▸ Mine.law1 Mine.plain_all
