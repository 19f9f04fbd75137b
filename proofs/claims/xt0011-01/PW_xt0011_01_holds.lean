import PyProof.Rows.All
import Wide.All
import OpenK.AllK
import Wide.FinOn
import PySem.Challenge.RW_xt0011_01
set_option maxRecDepth 100000
set_option Elab.async false
set_option maxHeartbeats 8000000
open PySem PySem.W PySem.Calls PyProof.Rows PySem.Spec

namespace Mine

structure Cx where
  prog : Program
  w : World
  K : Frag
  p : Program
  loose : List Str
  mg : Str → Option Value
  mb : Str → Option Value
  C : Addr

abbrev Cx.M (c : Cx) : Model := model c.prog c.w

structure Gd (c : Cx) (s : Shared) : Prop where
  inK : c.K.In s.heap
  top : TopRead c.p c.loose c.mg c.mb s.heap
  tk : 0 < s.toks

abbrev ExtH (h h' : Heap) : Prop := ∀ b o, h.get? b = some o → h'.get? b = some o
abbrev Ext (s s' : Shared) : Prop := ExtH s.heap s'.heap ∧ s.toks ≤ s'.toks
/-- but for new objects and tokens all stays -/
def Keeps (s s' : Shared) : Prop := ∃ h tk, s' = { s with heap := h, toks := tk } ∧ Ext s s'

theorem Gd.keeps {c : Cx} {s s' : Shared} (G : Gd c s) (k : Ext s s') : Gd c s' := ⟨G.inK.keeps k.1, G.top.keeps k.1, Nat.lt_of_lt_of_le G.tk k.2⟩

/-- data, as trees -/
inductive D where
  | none
  | bool (b : Bool)
  | int (i : Int)
  | str (x : Str)
  | bytes (b : Array UInt8)
  | tuple (ds : List D)
  | list (ds : List D)
  | wlist (ds : List D)
  | table (ds : List D)
  | ty (n : String)
  | kref (a : Addr)
  | old (x : Str) (n : Nat)
  | new (x : Str) (n : Nat)
  | edict
  | flist (n : Nat)
  | tabAt (x dx hl : Addr) (hh : Int) (t : Tok) (n : Nat) (ds : List D)

/-- the dict of a table's object -/
abbrev hdrDict (hh : Int) (t : Tok) (hl : Addr) (n : Nat) : Obj := dictOf [⟨hh, .str (Str.ofString "_headers") t, .ref hl⟩] n

mutual
def At (X : Addr → Prop) (C : Addr) (s : Shared) : D → Value → Prop
  | .none, v => v = .none
  | .bool b, v => v = .bool b
  | .int i, v => ∃ t, v = .int i t
  | .str x, v => ∃ t, v = .str x t ∧ 0 < t ∧ t < s.toks
  | .bytes b, v => ∃ t, v = .bytes b t
  | .ty n, v => v = .type n
  | .kref a, v => v = .ref a
  | .old x n, v => ∃ t, v = .str x t ∧ 0 < t ∧ t < n ∧ n ≤ s.toks
  | .new x n, v => ∃ t, v = .str x t ∧ 0 < t ∧ n ≤ t ∧ t < s.toks
  | .tabAt x dx hl hh t n ds, v => ∃ vs, v = .ref x ∧ (¬ X x ∧ ¬ X dx ∧ ¬ X hl) ∧ s.heap.get? x = some (instObj C dx) ∧ s.heap.get? dx = some (hdrDict hh t hl n) ∧ s.heap.IsList hl vs ∧ AtAll X C s ds vs.toList
  | .flist n, v => ∃ a, v = .ref a ∧ ¬ X a ∧ @LE.le Nat _ n a ∧ s.heap.PlainList a #[]
  | .edict, v => ∃ a, v = .ref a ∧ ¬ X a ∧ (a == sysModules) = false ∧ s.heap.get? a = some { cls := .type "dict", data := .dict #[] }
  | .tuple ds, v => ∃ a vs, v = .ref a ∧ ¬ X a ∧ s.heap.IsTuple a vs ∧ AtAll X C s ds vs.toList
  | .list ds, v => ∃ a vs, v = .ref a ∧ ¬ X a ∧ s.heap.PlainList a vs ∧ AtAll X C s ds vs.toList
  | .wlist ds, v => ∃ a vs, v = .ref a ∧ ¬ X a ∧ s.heap.IsList a vs ∧ AtAll X C s ds vs.toList
  | .table ds, v => ∃ x dx hl hh t n vs, v = .ref x ∧ (¬ X x ∧ ¬ X dx ∧ ¬ X hl) ∧ s.heap.get? x = some (instObj C dx) ∧ s.heap.get? dx = some (hdrDict hh t hl n) ∧ s.heap.IsList hl vs ∧ AtAll X C s ds vs.toList
def AtAll (X : Addr → Prop) (C : Addr) (s : Shared) : List D → List Value → Prop
  | [], vs => vs = []
  | d :: ds, vs => ∃ v r, vs = v :: r ∧ At X C s d v ∧ AtAll X C s ds r
end

mutual
theorem At.imp {X X' : Addr → Prop} {C : Addr} {s s' : Shared} (hX : ∀ a o, s.heap.get? a = some o → ¬ X a → ¬ X' a) (hk : ∀ a o, ¬ X a → s.heap.get? a = some o → s'.heap.get? a = some o) (hN : s.toks ≤ s'.toks) : ∀ (d : D) (v : Value), At X C s d v → At X' C s' d v
  | .none, v, H => by simpa only [At] using H
  | .bool b, v, H => by simpa only [At] using H
  | .int i, v, H => by simpa only [At] using H
  | .str x, v, H => by
    simp only [At] at H ⊢
    obtain ⟨t, e, h0, h1⟩ := H
    exact ⟨t, e, h0, Nat.lt_of_lt_of_le h1 hN⟩
  | .bytes b, v, H => by simpa only [At] using H
  | .ty n, v, H => by simpa only [At] using H
  | .kref a, v, H => by simpa only [At] using H
  | .old x n, v, H => by
    simp only [At] at H ⊢
    obtain ⟨t, e, h0, h1, h2⟩ := H
    exact ⟨t, e, h0, h1, Nat.le_trans h2 hN⟩
  | .new x n, v, H => by
    simp only [At] at H ⊢
    obtain ⟨t, e, h0, h1, h2⟩ := H
    exact ⟨t, e, h0, h1, Nat.lt_of_lt_of_le h2 hN⟩
  | .tabAt x dx hl hh t n ds, v, H => by
    simp only [At] at H ⊢
    obtain ⟨vs, rfl, ⟨h1, h2, h3⟩, e1, e2, ht, hr⟩ := H
    obtain ⟨o, ho, _⟩ := id ht
    exact ⟨vs, rfl, ⟨hX _ _ e1 h1, hX _ _ e2 h2, hX _ _ ho h3⟩, hk _ _ h1 e1, hk _ _ h2 e2, ht.at fun o e => hk _ o h3 e, AtAll.imp hX hk hN ds _ hr⟩
  | .flist n, v, H => by
    simp only [At] at H ⊢
    obtain ⟨a, rfl, hx, h1, ht⟩ := H
    obtain ⟨o, ho⟩ := id ht
    exact ⟨a, rfl, hX _ _ ho hx, h1, ht.at fun o e => hk a o hx e⟩
  | .edict, v, H => by
    simp only [At] at H ⊢
    obtain ⟨a, rfl, hx, h1, ho⟩ := H
    exact ⟨a, rfl, hX _ _ ho hx, h1, hk _ _ hx ho⟩
  | .tuple ds, v, H => by
    simp only [At] at H ⊢
    obtain ⟨a, vs, rfl, hx, ht, hr⟩ := H
    obtain ⟨o, ho, _⟩ := id ht
    exact ⟨a, vs, rfl, hX _ _ ho hx, ht.at fun o e => hk a o hx e, AtAll.imp hX hk hN ds _ hr⟩
  | .list ds, v, H => by
    simp only [At] at H ⊢
    obtain ⟨a, vs, rfl, hx, ht, hr⟩ := H
    obtain ⟨o, ho⟩ := id ht
    exact ⟨a, vs, rfl, hX _ _ ho hx, ht.at fun o e => hk a o hx e, AtAll.imp hX hk hN ds _ hr⟩
  | .wlist ds, v, H => by
    simp only [At] at H ⊢
    obtain ⟨a, vs, rfl, hx, ht, hr⟩ := H
    obtain ⟨o, ho, _⟩ := id ht
    exact ⟨a, vs, rfl, hX _ _ ho hx, ht.at fun o e => hk a o hx e, AtAll.imp hX hk hN ds _ hr⟩
  | .table ds, v, H => by
    simp only [At] at H ⊢
    obtain ⟨x, dx, hl, hh, t, n, vs, rfl, ⟨h1, h2, h3⟩, e1, e2, ht, hr⟩ := H
    obtain ⟨o, ho, _⟩ := id ht
    exact ⟨x, dx, hl, hh, t, n, vs, rfl, ⟨hX _ _ e1 h1, hX _ _ e2 h2, hX _ _ ho h3⟩, hk _ _ h1 e1, hk _ _ h2 e2, ht.at fun o e => hk _ o h3 e, AtAll.imp hX hk hN ds _ hr⟩
theorem AtAll.imp {X X' : Addr → Prop} {C : Addr} {s s' : Shared} (hX : ∀ a o, s.heap.get? a = some o → ¬ X a → ¬ X' a) (hk : ∀ a o, ¬ X a → s.heap.get? a = some o → s'.heap.get? a = some o) (hN : s.toks ≤ s'.toks) : ∀ (ds : List D) (vs : List Value), AtAll X C s ds vs → AtAll X' C s' ds vs
  | [], vs, H => by simpa only [AtAll] using H
  | d :: ds, vs, H => by
    simp only [AtAll] at H ⊢
    obtain ⟨v, r, rfl, h1, h2⟩ := H
    exact ⟨v, r, rfl, At.imp hX hk hN d v h1, AtAll.imp hX hk hN ds r h2⟩
end
section
variable {X X' : Addr → Prop} {C : Addr} {s s' : Shared} {d : D} {ds es : List D} {v : Value} {vs ws : List Value}
theorem At.keeps (H : At X C s d v) (k : Ext s s') : At X C s' d v := At.imp (fun _ _ _ x => x) (fun a o _ e => k.1 a o e) k.2 d v H
theorem AtAll.keeps (H : AtAll X C s ds vs) (k : Ext s s') : AtAll X C s' ds vs := AtAll.imp (fun _ _ _ x => x) (fun a o _ e => k.1 a o e) k.2 ds vs H
theorem At.but (H : At X C s d v) (k : ∀ a o, ¬ X a → s.heap.get? a = some o → s'.heap.get? a = some o) (hN : s.toks ≤ s'.toks) : At X C s' d v := At.imp (fun _ _ _ x => x) k hN d v H
theorem AtAll.but (H : AtAll X C s ds vs) (k : ∀ a o, ¬ X a → s.heap.get? a = some o → s'.heap.get? a = some o) (hN : s.toks ≤ s'.toks) : AtAll X C s' ds vs := AtAll.imp (fun _ _ _ x => x) k hN ds vs H
theorem At.ext (H : At X C s d v) (k : ∀ a o, s.heap.get? a = some o → ¬ X a → ¬ X' a) : At X' C s d v := At.imp k (fun _ _ _ e => e) (Nat.le_refl _) d v H
theorem AtAll.ext (H : AtAll X C s ds vs) (k : ∀ a o, s.heap.get? a = some o → ¬ X a → ¬ X' a) : AtAll X' C s ds vs := AtAll.imp k (fun _ _ _ e => e) (Nat.le_refl _) ds vs H
theorem AtAll.nil : AtAll X C s [] [] := by simp only [AtAll]
theorem AtAll.cons (a : At X C s d v) (b : AtAll X C s ds vs) : AtAll X C s (d :: ds) (v :: vs) := by simp only [AtAll]; exact ⟨v, vs, rfl, a, b⟩
theorem AtAll.length : ∀ {ds : List D} {vs : List Value}, AtAll X C s ds vs → vs.length = ds.length
  | [], vs, H => by simp only [AtAll] at H; rw [H]; rfl
  | d :: ds, vs, H => by simp only [AtAll] at H; obtain ⟨v, r, rfl, _, h2⟩ := H; rw [List.length_cons, List.length_cons, AtAll.length h2]
theorem AtAll.append : ∀ {ds : List D} {vs : List Value}, AtAll X C s ds vs → AtAll X C s es ws → AtAll X C s (ds ++ es) (vs ++ ws)
  | [], vs, H, K => by simp only [AtAll] at H; rw [H]; exact K
  | d :: ds, vs, H, K => by simp only [AtAll] at H; obtain ⟨v, r, rfl, h1, h2⟩ := H; exact .cons h1 (AtAll.append h2 K)
theorem AtAll.get : ∀ {ds : List D} {vs : List Value}, AtAll X C s ds vs → ∀ {i : Nat} {d : D}, ds[i]? = some d → ∃ v, vs[i]? = some v ∧ At X C s d v
  | [], vs, H, i, d, e => by cases e
  | d :: ds, vs, H, i, d', e => by
    simp only [AtAll] at H
    obtain ⟨v, r, rfl, h1, h2⟩ := H
    cases i with
    | zero => cases e; exact ⟨v, rfl, h1⟩
    | succ i => exact AtAll.get h2 (i := i) e
theorem AtAll.of_get : ∀ {vs : List Value} {ds : List D}, vs.length = ds.length → (∀ (i : Nat) (d : D), ds[i]? = some d → ∃ v, vs[i]? = some v ∧ At X C s d v) → AtAll X C s ds vs
  | [], [], _, _ => .nil
  | v :: vs, d :: ds, hl, H => by
    obtain ⟨v', e, hv⟩ := H 0 d rfl
    cases e
    exact .cons hv (AtAll.of_get (Nat.succ.inj hl) fun i d' e => H (i + 1) d' e)
theorem AtAll.inv1 (H : AtAll X C s [d] vs) : ∃ v, vs = [v] ∧ At X C s d v := by
  simp only [AtAll] at H
  obtain ⟨v, _, rfl, h1, rfl⟩ := H
  exact ⟨v, rfl, h1⟩
theorem AtAll.inv2 {d' : D} (H : AtAll X C s [d, d'] vs) : ∃ v v', vs = [v, v'] ∧ At X C s d v ∧ At X C s d' v' := by
  simp only [AtAll] at H
  obtain ⟨v, _, rfl, h1, v', _, rfl, h2, rfl⟩ := H
  exact ⟨v, v', rfl, h1, h2⟩
theorem AtAll.inv3 {d' d'' : D} (H : AtAll X C s [d, d', d''] vs) : ∃ v v' v'', vs = [v, v', v''] ∧ At X C s d v ∧ At X C s d' v' ∧ At X C s d'' v'' := by
  simp only [AtAll] at H
  obtain ⟨v, _, rfl, h1, v', _, rfl, h2, v'', _, rfl, h3, rfl⟩ := H
  exact ⟨v, v', v'', rfl, h1, h2, h3⟩
end

/-- what a name holds: a datum; a list that is being filled; a table that is being filled -/
inductive Ent where
  | d (d : D)
  | m (ds : List D)
  | mw (ds : List D)
  | t (ds : List D)
  | s (ns : List Int)

def EntAt (X Y : Addr → Prop) (C : Addr) (s : Shared) : Ent → Value → Prop
  | .d d, v => At X C s d v
  | .s ns, v => ∃ a vs, v = .ref a ∧ ¬ X a ∧ s.heap.IsList a vs.toArray ∧ IntsAre vs ns
  | .m ds, v => ∃ a vs, v = .ref a ∧ Y a ∧ s.heap.PlainList a vs ∧ AtAll X C s ds vs.toList
  | .mw ds, v => ∃ a vs, v = .ref a ∧ Y a ∧ s.heap.IsList a vs ∧ AtAll X C s ds vs.toList
  | .t ds, v => ∃ x dx hl hh t n vs, v = .ref x ∧ (¬ X x ∧ ¬ X dx ∧ Y hl) ∧ s.heap.get? x = some (instObj C dx) ∧ s.heap.get? dx = some (hdrDict hh t hl n) ∧ s.heap.PlainList hl vs ∧ AtAll X C s ds vs.toList

/-- what changes, and what X' says, at most: marked objects that are no lists -/
theorem EntAt.imp {X X' Y Y' : Addr → Prop} {C : Addr} {s s' : Shared} (hX : ∀ a o, s.heap.get? a = some o → ¬ X a → ¬ X' a) (hY : ∀ a, Y a → Y' a) (hk : ∀ a o, ¬ X a → s.heap.get? a = some o → s'.heap.get? a = some o)
    (hl : ∀ a o xs n, Y a → s.heap.get? a = some o → o.data = .seq xs n → s'.heap.get? a = some o) (hN : s.toks ≤ s'.toks) {e : Ent} {v : Value} (H : EntAt X Y C s e v) : EntAt X' Y' C s' e v := by
  cases e with
  | d d => exact At.imp hX hk hN d v H
  | s ns =>
    obtain ⟨a, vs, rfl, hx, ht, hr⟩ := H
    obtain ⟨o, ho, _⟩ := id ht
    exact ⟨a, vs, rfl, hX _ _ ho hx, ht.at fun o e => hk a o hx e, hr⟩
  | m ds =>
    obtain ⟨a, vs, rfl, hx, ht, hr⟩ := H
    obtain ⟨n, ho⟩ := id ht
    exact ⟨a, vs, rfl, hY _ hx, ⟨n, hl _ _ _ _ hx ho rfl⟩, AtAll.imp hX hk hN ds _ hr⟩
  | mw ds =>
    obtain ⟨a, vs, rfl, hx, ht, hr⟩ := H
    obtain ⟨o, ho, hc, n, hd⟩ := id ht
    exact ⟨a, vs, rfl, hY _ hx, ⟨o, hl _ _ _ _ hx ho hd, hc, n, hd⟩, AtAll.imp hX hk hN ds _ hr⟩
  | t ds =>
    obtain ⟨x, dx, hl', hh, t, n, vs, rfl, ⟨h1, h2, h3⟩, e1, e2, ht, hr⟩ := H
    obtain ⟨n', ho⟩ := id ht
    exact ⟨x, dx, hl', hh, t, n, vs, rfl, ⟨hX _ _ e1 h1, hX _ _ e2 h2, hY _ h3⟩, hk _ _ h1 e1, hk _ _ h2 e2, ⟨n', hl _ _ _ _ h3 ho rfl⟩, AtAll.imp hX hk hN ds _ hr⟩
theorem EntAt.keeps {X Y : Addr → Prop} {C : Addr} {s s' : Shared} {e : Ent} {v : Value} (H : EntAt X Y C s e v) (k : Ext s s') : EntAt X Y C s' e v :=
  H.imp (fun _ _ _ x => x) (fun _ x => x) (fun a o _ x => k.1 a o x) (fun a o _ _ _ x _ => k.1 a o x) k.2

abbrev Gam := List (Str × Ent)

/-- the value that a name reads -/
def Rd (env : Env) (h : Heap) (x : Str) (v : Value) : Prop :=
  (env.kindOf x = some .local ∧ ∃ m, h.Ns env.locals m ∧ m x = some v) ∨
  ((env.kindOf x = some .cell ∨ env.kindOf x = some .free) ∧ ∃ a, env.cells.lookup x = some a ∧ h.IsCell a (some v))
theorem Rd.keeps {env : Env} {h h' : Heap} {x : Str} {v : Value} (H : Rd env h x v) (k : ExtH h h') : Rd env h' x v := by
  rcases H with ⟨a, m, b, c⟩ | ⟨a, b, c, d⟩
  · exact .inl ⟨a, m, b.keeps k, c⟩
  · exact .inr ⟨a, b, c, d.keeps k⟩

abbrev Live (X : Addr → Prop) (h : Heap) : Prop := ∀ a, X a → (h.get? a).isSome = true
theorem Live.keeps {X : Addr → Prop} {h h' : Heap} (H : Live X h) (k : ExtH h h') : Live X h' := fun a x => by
  obtain ⟨o, e⟩ := Option.isSome_iff_exists.mp (H a x)
  rw [k a o e]; rfl

structure EnvOk (env : Env) : Prop where
  fn : env.scope.kind = .function
  gl : env.globals = mainGlobals
  bl : env.builtins = builtinsNs
  inj : ∀ x y a, env.cells.lookup x = some a → env.cells.lookup y = some a → x = y

structure Ok (c : Cx) (env : Env) (X Y : Addr → Prop) (Γ : Gam) (s : Shared) : Prop where
  live : Live X s.heap
  gd : Gd c s
  eo : EnvOk env
  nm : ∀ x e, Γ.lookup x = some e → ∃ v, Rd env s.heap x v ∧ EntAt X Y c.C s e v
theorem Ok.keeps {c : Cx} {env : Env} {X Y : Addr → Prop} {Γ : Gam} {s s' : Shared} (O : Ok c env X Y Γ s) (k : Ext s s') : Ok c env X Y Γ s' :=
  ⟨O.live.keeps k.1, O.gd.keeps k, O.eo, fun x e l => let ⟨v, a, b⟩ := O.nm x e l; ⟨v, a.keeps k.1, b.keeps k⟩⟩

theorem kp_ext {s s' : Shared} (k : Keeps s s') : Ext s s' := by obtain ⟨h, tk, rfl, e⟩ := k; exact e
theorem kp_refl (s : Shared) : Keeps s s := ⟨s.heap, s.toks, rfl, fun _ _ e => e, Nat.le_refl _⟩
theorem kp_trans {s s' s'' : Shared} (k : Keeps s s') (k' : Keeps s' s'') : Keeps s s'' := by
  obtain ⟨h, tk, rfl, e⟩ := k
  obtain ⟨h', tk', rfl, e'⟩ := k'
  exact ⟨h', tk', rfl, fun b o x => e'.1 b o (e.1 b o x), Nat.le_trans e.2 e'.2⟩
theorem kp_tok (s : Shared) (t : Nat) (h : s.toks ≤ t := by first | assumption | omega) : Keeps s { s with toks := t } := ⟨s.heap, t, rfl, fun _ _ e => e, h⟩
/-- tokens never fall -/
theorem mono {M : Model} {A : Around} {α : Type} {t : Sem α} {Q : α → Shared → Prop} {E : Value → Shared → Prop} {s : Shared} (h : wpAny M A t (fun v s' => s.toks ≤ s'.toks → Q v s') E s) : wpAny M A t Q E s :=
  wpAny_mono (wpAny_toks_of (Nat.le_refl _) h) (fun _ _ q => q.2 q.1) fun _ _ q => q.2

abbrev NoE : Value → Shared → Prop := fun _ _ => False

/-- an expression's value -/
def Ev (c : Cx) (A : Around) (env : Env) (Γ : Gam) (e : Expr) (d : D) : Prop :=
  ∀ X Y s, Ok c env X Y Γ s → wpAny c.M A (eval e env) (fun v s' => Keeps s s' ∧ At X c.C s' d v) NoE s
/-- a test's -/
def EvB (c : Cx) (A : Around) (env : Env) (Γ : Gam) (e : Expr) (b : Bool) : Prop :=
  ∀ X Y s, Ok c env X Y Γ s → wpAny c.M A (isTrue e env (eval e env)) (fun v s' => Keeps s s' ∧ v = b) NoE s
/-- a row of expressions' -/
def EvL (c : Cx) (A : Around) (env : Env) (Γ : Gam) (es : List Expr) (ds : List D) : Prop :=
  ∀ X Y s (pos : Pos), Ok c env X Y Γ s → wpAny c.M A (spliced (backTo pos (starEach es env))) (fun vs s' => Keeps s s' ∧ AtAll X c.C s' ds vs) NoE s
/-- a tree upon values -/
def Tr (c : Cx) (A : Around) (ds : List D) (t : List Value → Sem Value) (d : D) : Prop :=
  ∀ X s vs, Live X s.heap → Gd c s → AtAll X c.C s ds vs → wpAny c.M A (t vs) (fun v s' => Keeps s s' ∧ At X c.C s' d v) NoE s

section
variable {c : Cx} {A : Around} {env : Env} {Γ : Gam} {e e1 e2 e3 : Expr} {d d1 d2 d3 : D} {pos : Pos}

theorem Ev.name {x : Str} {np : Pos} (h : Γ.lookup x = some (.d d)) (hd : (x == ("__debug__" : Str)) = false := by decide) (hn : (x == ("__classdict__" : Str)) = false := by decide) : Ev c A env Γ (.Name x np) d := by
  intro X Y s O
  obtain ⟨v, r, a⟩ := O.nm x _ h
  refine wpAny_Name ?_ hd
  rcases r with ⟨k, m, n, e⟩ | ⟨k, b, n, e⟩
  · exact wpAny_loadName_local O.eo.fn k n e ⟨kp_refl s, a⟩
  · rcases k with k | k
    · exact wpAny_loadName_cell O.eo.fn k n e ⟨kp_refl s, a⟩
    · exact wpAny_loadName_free O.eo.fn k n e ⟨kp_refl s, a⟩ hn
/-- a name's entry, whatever it is -/
theorem nameE {x : Str} {np : Pos} {en : Ent} (h : Γ.lookup x = some en) (hd : (x == ("__debug__" : Str)) = false := by decide) (hn : (x == ("__classdict__" : Str)) = false := by decide) :
    ∀ X Y s, Ok c env X Y Γ s → wpAny c.M A (eval (.Name x np) env) (fun v s' => s' = s ∧ EntAt X Y c.C s en v) NoE s := by
  intro X Y s O
  obtain ⟨v, r, a⟩ := O.nm x _ h
  refine wpAny_Name ?_ hd
  rcases r with ⟨k, m, n, e⟩ | ⟨k, b, n, e⟩
  · exact wpAny_loadName_local O.eo.fn k n e ⟨rfl, a⟩
  · rcases k with k | k
    · exact wpAny_loadName_cell O.eo.fn k n e ⟨rfl, a⟩
    · exact wpAny_loadName_free O.eo.fn k n e ⟨rfl, a⟩ hn

theorem Ev.cInt {i : Int} {k : Nat} : Ev c A env Γ (.Constant (.int i) k pos) (.int i) := fun _ _ s _ => wpAny_Constant_int ⟨kp_tok s _, by simp only [At]; exact ⟨_, rfl⟩⟩
theorem Ev.cStr {x : Str} {k : Nat} : Ev c A env Γ (.Constant (.str x) k pos) (.str x) := fun _ _ s O => wpAny_Constant_str ⟨kp_tok s _, by simp only [At]; exact ⟨_, rfl, O.gd.tk, Nat.lt_succ_self _⟩⟩
theorem Ev.cBool {b : Bool} {k : Nat} : Ev c A env Γ (.Constant (.bool b) k pos) (.bool b) := fun _ _ s _ => wpAny_Constant_bool ⟨kp_refl s, by simp only [At]⟩
theorem Ev.cNone {k : Nat} : Ev c A env Γ (.Constant .none k pos) .none := fun _ _ s _ => wpAny_Constant_none ⟨kp_refl s, by simp only [At]⟩
theorem Ev.cBytes {b : List UInt8} {k : Nat} : Ev c A env Γ (.Constant (.bytes b) k pos) (.bytes b.toArray) := fun _ _ s _ => fun _ _ _ => ⟨kp_tok s _, by simp only [At]; exact ⟨_, rfl⟩⟩

theorem Ev.bin {op : Operator} (ha : Ev c A env Γ e1 d1) (hb : Ev c A env Γ e2 d2) (ho : Tr c A [d1, d2] (fun vs => binaryOp op (vs.getD 0 .none) (vs.getD 1 .none)) d) : Ev c A env Γ (.BinOp e1 op e2 pos) d := by
  intro X Y s O
  refine wpAny_BinOp (wpAny_mono (ha X Y s O) (fun v s₁ h₁ => ?_) fun _ _ x => x)
  have O₁ := O.keeps (kp_ext h₁.1)
  refine wpAny_mono (hb X Y s₁ O₁) (fun u s₂ h₂ => ?_) fun _ _ x => x
  have k₂ := kp_ext h₂.1
  have O₂ := O₁.keeps k₂
  refine wpAny_mono (ho X s₂ [v, u] O₂.live O₂.gd (.cons (h₁.2.keeps k₂) (.cons h₂.2 .nil))) (fun r s₃ h₃ => ?_) fun _ _ x => x
  exact ⟨kp_trans (kp_trans h₁.1 h₂.1) h₃.1, h₃.2⟩
theorem Ev.un {op : UnaryOp} (ha : Ev c A env Γ e1 d1) (ho : Tr c A [d1] (fun vs => unaryOp op (vs.getD 0 .none)) d) : Ev c A env Γ (.UnaryOp op e1 pos) d := by
  intro X Y s O
  refine wpAny_UnaryOp (wpAny_mono (ha X Y s O) (fun v s₁ h₁ => ?_) fun _ _ x => x)
  have O₁ := O.keeps (kp_ext h₁.1)
  refine wpAny_mono (ho X s₁ [v] O₁.live O₁.gd (.cons h₁.2 .nil)) (fun r s₃ h₃ => ?_) fun _ _ x => x
  exact ⟨kp_trans h₁.1 h₃.1, h₃.2⟩
theorem Ev.cmp {op : CmpOp} (ha : Ev c A env Γ e1 d1) (hb : Ev c A env Γ e2 d2) (ho : Tr c A [d1, d2] (fun vs => compareOp op (vs.getD 0 .none) (vs.getD 1 .none)) d) (hm : behindInMarks op e2 = false := by rfl) : Ev c A env Γ (.Compare e1 [op] [e2] pos) d := by
  intro X Y s O
  refine wpAny_Compare1 (wpAny_mono (ha X Y s O) (fun v s₁ h₁ => ?_) fun _ _ x => x) hm
  have O₁ := O.keeps (kp_ext h₁.1)
  refine wpAny_mono (hb X Y s₁ O₁) (fun u s₂ h₂ => ?_) fun _ _ x => x
  have k₂ := kp_ext h₂.1
  have O₂ := O₁.keeps k₂
  refine wpAny_mono (ho X s₂ [v, u] O₂.live O₂.gd (.cons (h₁.2.keeps k₂) (.cons h₂.2 .nil))) (fun r s₃ h₃ => ?_) fun _ _ x => x
  exact ⟨kp_trans (kp_trans h₁.1 h₂.1) h₃.1, h₃.2⟩
theorem EvB.cmp {op : CmpOp} {b : Bool} (ha : Ev c A env Γ e1 d1) (hb : Ev c A env Γ e2 d2) (ho : Tr c A [d1, d2] (fun vs => compareOp op (vs.getD 0 .none) (vs.getD 1 .none)) (.bool b)) (hm : behindInMarks op e2 = false := by rfl) : EvB c A env Γ (.Compare e1 [op] [e2] pos) b := by
  intro X Y s O
  refine wpAny_isTrue_Compare1 (wpAny_mono (ha X Y s O) (fun v s₁ h₁ => ?_) fun _ _ x => x) hm
  have O₁ := O.keeps (kp_ext h₁.1)
  refine wpAny_mono (hb X Y s₁ O₁) (fun u s₂ h₂ => ?_) fun _ _ x => x
  have k₂ := kp_ext h₂.1
  have O₂ := O₁.keeps k₂
  refine wpAny_mono (ho X s₂ [v, u] O₂.live O₂.gd (.cons (h₁.2.keeps k₂) (.cons h₂.2 .nil))) (fun r s₃ h₃ => ?_) fun _ _ x => x
  have e := h₃.2
  simp only [At] at e
  subst e
  exact wpAny_truthy_bool ⟨kp_trans (kp_trans h₁.1 h₂.1) h₃.1, rfl⟩
theorem Ev.ife {b : Bool} (ht : EvB c A env Γ e1 b) (h1 : b = true → Ev c A env Γ e2 d) (h2 : b = false → Ev c A env Γ e3 d) : Ev c A env Γ (.IfExp e1 e2 e3 pos) d := by
  intro X Y s O
  refine wpAny_IfExp (wpAny_mono (ht X Y s O) (fun v s₁ h₁ => ?_) fun _ _ x => x)
  obtain ⟨k₁, rfl⟩ := h₁
  have O₁ := O.keeps (kp_ext k₁)
  cases v with
  | true => exact wpAny_mono (h1 rfl X Y s₁ O₁) (fun _ _ h => ⟨kp_trans k₁ h.1, h.2⟩) fun _ _ x => x
  | false => exact wpAny_mono (h2 rfl X Y s₁ O₁) (fun _ _ h => ⟨kp_trans k₁ h.1, h.2⟩) fun _ _ x => x
end

end Mine

namespace Mine

theorem dead {X : Addr → Prop} {h : Heap} (L : Live X h) : ¬ X h.objs.size := fun x => by
  obtain ⟨o, e⟩ := Option.isSome_iff_exists.mp (L _ x)
  exact Nat.lt_irrefl _ (Heap.lt_size e)
theorem dead_of_none {X : Addr → Prop} {h : Heap} (L : Live X h) {a : Addr} (e : h.get? a = none) : ¬ X a := fun x => by
  obtain ⟨o, e'⟩ := Option.isSome_iff_exists.mp (L _ x)
  rw [e] at e'; cases e'
theorem ext_push (h : Heap) (o : Obj) : ExtH h (h.push o) := fun _ _ e => Heap.get?_push_of_some _ e
theorem kp_push (s : Shared) (o : Obj) : Keeps s { s with heap := s.heap.push o } := ⟨_, s.toks, rfl, ext_push _ _, Nat.le_refl _⟩

section
variable {c : Cx} {A : Around} {env : Env} {Γ : Gam} {e e1 e2 e3 : Expr} {es : List Expr} {d d1 d2 d3 : D} {ds es' : List D} {pos : Pos}

theorem EvL.nil : EvL c A env Γ [] [] := fun _ _ s _ _ => wpAny_items_nil ⟨kp_refl s, .nil⟩
theorem EvL.cons (ha : Ev c A env Γ e d) (hb : EvL c A env Γ es ds) (he : starEach (e :: es) env = (false, eval e env) :: starEach es env := by rfl) : EvL c A env Γ (e :: es) (d :: ds) := by
  intro X Y s p O
  refine wpAny_items_cons (wpAny_mono (ha X Y s O) (fun v s₁ h₁ => ?_) fun _ _ x => x) he
  have O₁ := O.keeps (kp_ext h₁.1)
  exact wpAny_mono (hb X Y s₁ p O₁) (fun vs s₂ h₂ => ⟨kp_trans h₁.1 h₂.1, .cons (h₁.2.keeps (kp_ext h₂.1)) h₂.2⟩) fun _ _ x => x

theorem At.newTuple {X : Addr → Prop} {C : Addr} {s : Shared} {vs : List Value} (L : Live X s.heap) (H : AtAll X C s ds vs) (s' : Shared) (hs : s'.heap = s.heap.push { cls := .type "tuple", data := .seq vs.toArray }) (ht : s.toks ≤ s'.toks) :
    At X C s' (.tuple ds) (.ref s.heap.objs.size) := by
  simp only [At]
  refine ⟨_, _, rfl, dead L, ⟨_, by rw [hs]; exact Heap.get?_push_size _ rfl, rfl, _, rfl⟩, H.keeps ⟨by rw [hs]; exact ext_push _ _, ht⟩⟩
theorem At.newList {X : Addr → Prop} {C : Addr} {s : Shared} {vs : Array Value} {n : Nat} (L : Live X s.heap) (H : AtAll X C s ds vs.toList) (s' : Shared) (hs : s'.heap = s.heap.push { cls := .type "list", data := .seq vs n }) (ht : s.toks ≤ s'.toks) :
    At X C s' (.list ds) (.ref s.heap.objs.size) := by
  simp only [At]
  refine ⟨_, vs, rfl, dead L, ⟨_, by rw [hs]; exact Heap.get?_push_size _ rfl⟩, H.keeps ⟨by rw [hs]; exact ext_push _ _, ht⟩⟩

theorem Ev.tuple {k : Nat} (h : EvL c A env Γ es ds) (hz : ds.length ≤ 1000000 := by decide) : Ev c A env Γ (.Tuple es k pos) (.tuple ds) := by
  intro X Y s O
  refine wpAny_Tuple (wpAny_mono (h X Y s pos O) (fun vs s₁ h₁ => ⟨?_, ?_⟩) fun _ _ x => x)
  · rw [h₁.2.length]; exact Nat.le_trans hz (by decide)
  · exact ⟨kp_trans h₁.1 (kp_push _ _), At.newTuple (O.keeps (kp_ext h₁.1)).live h₁.2 _ rfl (Nat.le_refl _)⟩
theorem Ev.list (h : EvL c A env Γ es ds) (hz : ds.length ≤ 1000000 := by decide) : Ev c A env Γ (.List es pos) (.list ds) := by
  intro X Y s O
  refine wpAny_List (wpAny_mono (h X Y s pos O) (fun vs s₁ h₁ => ⟨?_, ?_⟩) fun _ _ x => x)
  · rw [h₁.2.length]; exact Nat.le_trans hz (by decide)
  · exact ⟨kp_trans h₁.1 (kp_push _ _), At.newList (O.keeps (kp_ext h₁.1)).live h₁.2 _ rfl (Nat.le_refl _)⟩

/-! tests -/
theorem EvB.not {b : Bool} (h : EvB c A env Γ e b) : EvB c A env Γ (.UnaryOp .Not e pos) (!b) := by
  intro X Y s O
  exact wpAny_isTrue_Not (wpAny_mono (h X Y s O) (fun v s₁ h₁ => ⟨h₁.1, by rw [h₁.2]⟩) fun _ _ x => x)
def EvBs (c : Cx) (A : Around) (env : Env) (Γ : Gam) (op : BoolOp) (es : List Expr) (b : Bool) : Prop :=
  ∀ X Y s, Ok c env X Y Γ s → wpAny c.M A (allTrue op es env) (fun v s' => Keeps s s' ∧ v = b) NoE s
theorem EvB.bool {op : BoolOp} {b : Bool} (h : EvBs c A env Γ op es b) : EvB c A env Γ (.BoolOp op es pos) b := fun X Y s O => wpAny_isTrue_BoolOp (h X Y s O)
theorem EvBs.and0 : EvBs c A env Γ .And [] true := fun _ _ s _ => wpAny_allTrue_And_nil ⟨kp_refl s, rfl⟩
theorem EvBs.or0 : EvBs c A env Γ .Or [] false := fun _ _ s _ => wpAny_allTrue_Or_nil ⟨kp_refl s, rfl⟩
theorem EvBs.and {a b : Bool} (h : EvB c A env Γ e a) (h2 : a = true → EvBs c A env Γ .And es b) : EvBs c A env Γ .And (e :: es) (a && b) := by
  intro X Y s O
  refine wpAny_allTrue_And_cons (wpAny_mono (h X Y s O) (fun v s₁ h₁ => ?_) fun _ _ x => x)
  obtain ⟨k, rfl⟩ := h₁
  cases v with
  | true => simp only [if_true]; exact wpAny_mono (h2 rfl X Y s₁ (O.keeps (kp_ext k))) (fun _ _ h => ⟨kp_trans k h.1, by rw [h.2]; rfl⟩) fun _ _ x => x
  | false => simp only [Bool.false_eq_true, if_false]; exact ⟨k, rfl⟩
theorem EvBs.or {a b : Bool} (h : EvB c A env Γ e a) (h2 : a = false → EvBs c A env Γ .Or es b) : EvBs c A env Γ .Or (e :: es) (a || b) := by
  intro X Y s O
  refine wpAny_allTrue_Or_cons (wpAny_mono (h X Y s O) (fun v s₁ h₁ => ?_) fun _ _ x => x)
  obtain ⟨k, rfl⟩ := h₁
  cases v with
  | false => simp only [Bool.false_eq_true, if_false]; exact wpAny_mono (h2 rfl X Y s₁ (O.keeps (kp_ext k))) (fun _ _ h => ⟨kp_trans k h.1, by rw [h.2]; rfl⟩) fun _ _ x => x
  | true => simp only [if_true]; exact ⟨k, rfl⟩
/-- a test that is a plain value -/
theorem EvB.val {b : Bool} (h : Ev c A env Γ e d) (ht : ∀ X s v, Live X s.heap → At X c.C s d v → wpAny c.M A (truthy v) (fun r s' => Keeps s s' ∧ r = b) NoE s)
    (he : isTrue e env (eval e env) = (do let v ← eval e env; standAt e.pos; holding [v] (truthy v)) := by rfl) : EvB c A env Γ e b := by
  intro X Y s O
  refine wpAny_isTrue_value (wpAny_mono (h X Y s O) (fun v s₁ h₁ => ?_) fun _ _ x => x) he
  exact wpAny_mono (ht X s₁ v (O.keeps (kp_ext h₁.1)).live h₁.2) (fun r s₂ h₂ => ⟨kp_trans h₁.1 h₂.1, h₂.2⟩) fun _ _ x => x
theorem EvB.valB {b : Bool} (h : Ev c A env Γ e (.bool b)) (he : isTrue e env (eval e env) = (do let v ← eval e env; standAt e.pos; holding [v] (truthy v)) := by rfl) : EvB c A env Γ e b :=
  .val h (fun X s v _ H => by simp only [At] at H; subst H; exact wpAny_truthy_bool ⟨kp_refl s, rfl⟩) he
theorem EvB.valI {i : Int} (h : Ev c A env Γ e (.int i)) (he : isTrue e env (eval e env) = (do let v ← eval e env; standAt e.pos; holding [v] (truthy v)) := by rfl) : EvB c A env Γ e (i != 0) :=
  .val h (fun X s v _ H => by simp only [At] at H; obtain ⟨t, rfl⟩ := H; exact truthy_int ⟨kp_refl s, rfl⟩) he

/-! whole numbers -/
theorem at_int {X : Addr → Prop} {C : Addr} {s : Shared} {i : Int} {t : Tok} : At X C s (.int i) (.int i t) := by simp only [At]; exact ⟨t, rfl⟩
theorem at_bool {X : Addr → Prop} {C : Addr} {s : Shared} {b : Bool} : At X C s (.bool b) (.bool b) := by simp only [At]
theorem at_str {X : Addr → Prop} {C : Addr} {s : Shared} {x : Str} {t : Tok} (h0 : 0 < t) (h1 : t < s.toks) : At X C s (.str x) (.str x t) := by simp only [At]; exact ⟨t, rfl, h0, h1⟩
theorem at_bytes {X : Addr → Prop} {C : Addr} {s : Shared} {x : Array UInt8} {t : Tok} : At X C s (.bytes x) (.bytes x t) := by simp only [At]; exact ⟨t, rfl⟩
theorem at_none {X : Addr → Prop} {C : Addr} {s : Shared} : At X C s .none .none := by simp only [At]
theorem tr_int2 {f : Value → Value → Sem Value} {x y : Int} (h : ∀ (X : Addr → Prop) (t u : Tok) (s : Shared), wpAny c.M A (f (.int x t) (.int y u)) (fun v s' => s.toks ≤ s'.toks → Keeps s s' ∧ At X c.C s' d v) NoE s) :
    Tr c A [.int x, .int y] (fun vs => f (vs.getD 0 .none) (vs.getD 1 .none)) d := by
  intro X s vs _ _ H
  obtain ⟨v, v', rfl, h1, h2⟩ := H.inv2
  simp only [At] at h1 h2
  obtain ⟨t, rfl⟩ := h1
  obtain ⟨u, rfl⟩ := h2
  exact mono (h X t u s)
variable {x y : Int}
abbrev B2 (op : Operator) : List Value → Sem Value := fun vs => binaryOp op (vs.getD 0 .none) (vs.getD 1 .none)
abbrev I2 (op : Operator) : List Value → Sem Value := fun vs => inplaceOp op (vs.getD 0 .none) (vs.getD 1 .none)
abbrev C2 (op : CmpOp) : List Value → Sem Value := fun vs => compareOp op (vs.getD 0 .none) (vs.getD 1 .none)
theorem tAdd : Tr c A [.int x, .int y] (B2 .Add) (.int (x + y)) := tr_int2 (fun _ _ _ s => wpAny_add_int fun _ => ⟨kp_tok s _, at_int⟩)
theorem tSub : Tr c A [.int x, .int y] (B2 .Sub) (.int (x - y)) := tr_int2 (fun _ _ _ s => sub_int' fun _ => ⟨kp_tok s _, at_int⟩)
theorem tMul (h : x.natAbs < 2 ^ 64) : Tr c A [.int x, .int y] (B2 .Mult) (.int (x * y)) := tr_int2 (fun _ _ _ s => mul_int fun _ => ⟨kp_tok s _, at_int⟩)
theorem tMod (h : y ≠ 0) : Tr c A [.int x, .int y] (B2 .Mod) (.int (x.fmod y)) := tr_int2 (fun _ _ _ s => mod_int' h fun _ => ⟨kp_tok s _, at_int⟩)
theorem tDiv (h : y ≠ 0) (hy : y.natAbs < 1073741824 := by decide) : Tr c A [.int x, .int y] (B2 .FloorDiv) (.int (x.fdiv y)) := tr_int2 (fun _ _ _ s => floordiv_int h (fun _ => ⟨kp_tok s _, at_int⟩) (.inl (PyProof.noPylong_small hy)))
theorem tAnd : Tr c A [.int x, .int y] (B2 .BitAnd) (.int (Builtin.bitAnd x y)) := tr_int2 (fun _ _ _ s => and_int fun _ => ⟨kp_tok s _, at_int⟩)
theorem tOr : Tr c A [.int x, .int y] (B2 .BitOr) (.int (Builtin.bitOr x y)) := tr_int2 (fun _ _ _ s => or_int fun _ => ⟨kp_tok s _, at_int⟩)
theorem tPow (h0 : 0 ≤ y) (h1 : y ≤ 1000000) (h2 : x.natAbs < 2 ^ 64) : Tr c A [.int x, .int y] (B2 .Pow) (.int (x ^ y.toNat)) := tr_int2 (fun _ _ _ s => pow_int_small h0 h1 h2 fun _ => ⟨kp_tok s _, at_int⟩)
theorem tiAdd : Tr c A [.int x, .int y] (I2 .Add) (.int (x + y)) := tr_int2 (fun _ _ _ s => wpAny_iadd_int fun _ => ⟨kp_tok s _, at_int⟩)
theorem tiSub : Tr c A [.int x, .int y] (I2 .Sub) (.int (x - y)) := tr_int2 (fun _ _ _ s => isub_int fun _ => ⟨kp_tok s _, at_int⟩)
theorem tiMul (h : x.natAbs < 2 ^ 64) : Tr c A [.int x, .int y] (I2 .Mult) (.int (x * y)) := tr_int2 (fun _ _ _ s => imul_int fun _ => ⟨kp_tok s _, at_int⟩)
theorem tiMod (h : y ≠ 0) : Tr c A [.int x, .int y] (I2 .Mod) (.int (x.fmod y)) := tr_int2 (fun _ _ _ s => imod_int h fun _ => ⟨kp_tok s _, at_int⟩)
theorem tiDiv (h : y ≠ 0) (hy : y.natAbs < 1073741824 := by decide) : Tr c A [.int x, .int y] (I2 .FloorDiv) (.int (x.fdiv y)) := tr_int2 (fun _ _ _ s => ifloordiv_int h (fun _ => ⟨kp_tok s _, at_int⟩) (.inl (PyProof.noPylong_small hy)))
theorem tiAnd : Tr c A [.int x, .int y] (I2 .BitAnd) (.int (Builtin.bitAnd x y)) := tr_int2 (fun _ _ _ s => iand_int fun _ => ⟨kp_tok s _, at_int⟩)
theorem tiXor : Tr c A [.int x, .int y] (I2 .BitXor) (.int (Builtin.bitXor x y)) := tr_int2 (fun _ _ _ s => ixor_int fun _ => ⟨kp_tok s _, at_int⟩)
theorem tiShl (h0 : 0 ≤ y) (h1 : y ≤ 1000000) (h2 : x.natAbs < 2 ^ 64) : Tr c A [.int x, .int y] (I2 .LShift) (.int (x * 2 ^ y.toNat)) := tr_int2 (fun _ _ _ s => ilshift_int_small h0 h1 h2 fun _ => ⟨kp_tok s _, at_int⟩)
theorem tXor : Tr c A [.int x, .int y] (B2 .BitXor) (.int (Builtin.bitXor x y)) := tr_int2 (fun _ _ _ s => xor_int fun _ => ⟨kp_tok s _, at_int⟩)
theorem tEqI : Tr c A [.int x, .int y] (C2 .Eq) (.bool (x == y)) := tr_int2 (fun _ _ _ s => wpAny_eq_int fun _ => ⟨kp_refl s, at_bool⟩)
theorem tGtI : Tr c A [.int x, .int y] (C2 .Gt) (.bool (decide (y < x))) := tr_int2 (fun _ _ _ s => gt_int fun _ => ⟨kp_refl s, at_bool⟩)
theorem tNeI : Tr c A [.int x, .int y] (C2 .NotEq) (.bool (x != y)) := tr_int2 (fun _ _ _ s => ne_int fun _ => ⟨kp_refl s, at_bool⟩)
theorem tNeg : Tr c A [.int x] (fun vs => unaryOp .USub (vs.getD 0 .none)) (.int (-x)) := by
  intro X s vs _ _ H
  obtain ⟨v, rfl, h1⟩ := H.inv1
  simp only [At] at h1
  obtain ⟨t, rfl⟩ := h1
  exact neg_int ⟨kp_tok s _, at_int⟩
end
end Mine

namespace Mine

section
variable {c : Cx} {A : Around} {env : Env} {Γ : Gam} {e e1 e2 e3 : Expr} {es : List Expr} {d d1 d2 d3 : D} {ds es' : List D} {pos : Pos}

/-! names of the text's top and of the built-ins -/
def Gl (c : Cx) (x : Str) (v : Value) : Prop := nsIn c.K mainGlobals x = some (some v) ∨ (nsIn c.K mainGlobals x = some none ∧ bootBuiltins x = some v ∧ x ≠ "__name__")
theorem glob {x : Str} {np : Pos} {v : Value} (g : Gl c x v) (hk : env.kindOf x = some .globalImplicit) (hd : (x == ("__debug__" : Str)) = false) :
    ∀ {X Y s} {Q : Value → Shared → Prop} {E : Value → Shared → Prop}, Ok c env X Y Γ s → Q v s → wpAny c.M A (eval (.Name x np) env) Q E s := by
  intro X Y s Q E O hq
  have hg : s.heap.Ns env.globals c.mg := by rw [O.eo.gl]; exact O.gd.top.g
  have hb : s.heap.Ns env.builtins c.mb := by rw [O.eo.bl]; exact O.gd.top.b
  rcases g with h | ⟨h, hv, hn⟩
  · exact Name_function_global O.eo.fn hk (loadGlobal_global hg (mg_of O.gd.inK O.gd.top.g h) hq) hd
  · exact Name_function_global O.eo.fn hk (loadGlobal_builtin hg (mg_none_of O.gd.inK O.gd.top.g h) hb ((O.gd.top.builtins x hn).trans hv) hq) hd

/-! calls by plain arguments -/
abbrev K1 (f : Value) : List Value → Sem Value := fun vs => call f vs
inductive Callee (c : Cx) : Value → Prop
  | ref (a : Addr) (h : keepIn c.K (.ref a) = true) : Callee c (.ref a)
  | bi (id : String) : Callee c (.builtin id)
  | ty (T : String) : Callee c (.type T)
theorem callWith_callee {f : Value} (hc : Callee c f) {e : Expr} {rest : List Expr} {s : Shared} {Q : Value → Shared → Prop} {E : Value → Shared → Prop}
    (he : starEach (e :: rest) env = (false, eval e env) :: starEach rest env) (hplain : (backTo pos (starEach rest env)).any (·.1) = false)
    (h : wpAny c.M A (spliced (backTo pos (starEach (e :: rest) env))) (fun vs s₁ => c.K.In s₁.heap ∧ wpAny c.M A (call f vs) Q E s₁) E s) :
    wpAny c.M A (callWith pos f [] (backTo pos (starEach (e :: rest) env)) []) Q E s := by
  cases hc with
  | ref a hk =>
    rw [he] at h ⊢
    exact callWith_of (P := c.K.In) (by show ((false || (backTo pos (starEach rest env)).any (·.1)) || false) = false; rw [hplain]; rfl) (keeps_K hk) (evalArgs_plain h)
  | bi id =>
    rw [he] at h ⊢
    exact callWith_builtin (by show (false || (backTo pos (starEach rest env)).any (·.1)) = false; rw [hplain]; rfl) (evalArgs_plain (wpAny_mono h (fun _ _ x => x.2) fun _ _ x => x))
  | ty T =>
    rw [he] at h ⊢
    exact PySem.callWith_type (by show (false || (backTo pos (starEach rest env)).any (·.1)) = false; rw [hplain]; rfl) (evalArgs_plain (wpAny_mono h (fun _ _ x => x.2) fun _ _ x => x))
theorem Ev.call {x : Str} {np : Pos} {f : Value} (g : Gl c x f) (hc : Callee c f) (ha : EvL c A env Γ (e :: es) ds) (hf : Tr c A ds (K1 f) d)
    (hk : env.kindOf x = some .globalImplicit := by rfl) (hd : (x == ("__debug__" : Str)) = false := by decide)
    (he : starEach (e :: es) env = (false, eval e env) :: starEach es env := by rfl) (hplain : (backTo pos (starEach es env)).any (·.1) = false := by rfl) :
    Ev c A env Γ (.Call (.Name x np) (e :: es) [] pos) d := by
  intro X Y s O
  refine wpAny_Call_NameR (glob g hk hd O (callWith_callee hc he hplain (wpAny_mono (ha X Y s pos O) (fun vs s₁ h₁ => ?_) fun _ _ x => x)))
  have O₁ := O.keeps (kp_ext h₁.1)
  refine ⟨O₁.gd.inK, wpAny_mono (hf X s₁ vs O₁.live O₁.gd h₁.2) (fun v s₂ h₂ => ⟨kp_trans h₁.1 h₂.1, h₂.2⟩) fun _ _ x => x⟩

/-! items -/
abbrev G2 : List Value → Sem Value := fun vs => getItem (vs.getD 0 .none) (vs.getD 1 .none)
theorem tailAny {value slice : Expr} {o i : Value} {T id : String} {s : Shared} {Q : Value → Shared → Prop} {E : Value → Shared → Prop} (hT : s.TypeIs o T)
    (hl : typeLookup (.type T) "__getitem__" = pure (some (.builtin id))) (h : wpAny c.M A (getItem o i) Q E s) : wpAny c.M A (subscriptTail value slice o i) Q E s := by
  unfold subscriptTail
  refine wpAny_bind ?_
  rw [getitemInPython_of_ne hT.not_modules]
  refine wpAny_bind (wpAny_specialOf hT hl ?_)
  have fin : wpAny c.M A (subscripted slice false o i) (fun r s₃ => wpAny c.M A (letTemporaryGo value o r >>= fun _ => pure r) Q E s₃) E s := by
    unfold subscripted
    split <;> first
      | exact wpAny_operating (wpAny_mono h (fun r s₃ h₃ => wpAny_bind (wpAny_letTemporaryGo (wpAny_pure h₃))) fun _ _ x => x)
      | (rename_i hh; cases hh)
  first
    | exact wpAny_pure (wpAny_bind fin)
    | exact wpAny_bind (wpAny_pure (wpAny_bind fin))
    | exact wpAny_bind fin
/-- the types that have items -/
def ItemTy (d : D) : Prop := match d with | .list _ | .wlist _ | .tuple _ | .str _ | .bytes _ => True | _ => False
theorem itemTail {value slice : Expr} {o i : Value} {X : Addr → Prop} {s : Shared} {Q : Value → Shared → Prop} {E : Value → Shared → Prop} (hi : ItemTy d) (H : At X c.C s d o)
    (h : wpAny c.M A (getItem o i) Q E s) : wpAny c.M A (subscriptTail value slice o i) Q E s := by
  cases d <;> simp only [ItemTy] at hi <;> simp only [At] at H
  · obtain ⟨t, rfl, _⟩ := H; exact tailAny (typeIs_str _ _ _) F.slot_str_getitem.lookup h
  · obtain ⟨t, rfl⟩ := H; exact tailAny (typeIs_bytes _ _ _) FB.slot_bytes_getitem.lookup h
  · obtain ⟨a, vs, rfl, _, ht, _⟩ := H; exact tailAny (IsTup.typeIs ht) slot_tuple_getitem.lookup h
  · obtain ⟨a, vs, rfl, _, ht, _⟩ := H; exact tailAny ht.isList.typeIs slot_list_getitem.lookup h
  · obtain ⟨a, vs, rfl, _, ht, _⟩ := H; exact tailAny ht.typeIs slot_list_getitem.lookup h
theorem At.weak {X : Addr → Prop} {C : Addr} {s : Shared} {v : Value} (H : At X C s (.list ds) v) : At X C s (.wlist ds) v := by
  simp only [At] at H ⊢
  obtain ⟨a, vs, rfl, hx, ht, hr⟩ := H
  exact ⟨a, vs, rfl, hx, ht.isList, hr⟩
theorem Ev.weak (ha : Ev c A env Γ e (.list ds)) : Ev c A env Γ e (.wlist ds) := fun X Y s O => wpAny_mono (ha X Y s O) (fun _ _ h => ⟨h.1, h.2.weak⟩) fun _ _ x => x
theorem Ev.sub (ha : Ev c A env Γ e1 d1) (hb : Ev c A env Γ e2 d2) (ho : Tr c A [d1, d2] G2 d) (hi : ItemTy d1 := by exact trivial) : Ev c A env Γ (.Subscript e1 e2 pos) d := by
  intro X Y s O
  refine Subscript_ (wpAny_mono (ha X Y s O) (fun v s₁ h₁ => ?_) fun _ _ x => x)
  have O₁ := O.keeps (kp_ext h₁.1)
  refine wpAny_mono (hb X Y s₁ O₁) (fun u s₂ h₂ => ?_) fun _ _ x => x
  have k₂ := kp_ext h₂.1
  have O₂ := O₁.keeps k₂
  refine itemTail hi (h₁.2.keeps k₂) (wpAny_mono (ho X s₂ [v, u] O₂.live O₂.gd (.cons (h₁.2.keeps k₂) (.cons h₂.2 .nil))) (fun r s₃ h₃ => ?_) fun _ _ x => x)
  exact ⟨kp_trans (kp_trans h₁.1 h₂.1) h₃.1, h₃.2⟩
theorem tGetL {k : Int} (h0 : 0 ≤ k) (h1 : k < 2 ^ 63) (h : ds[k.toNat]? = some d) : Tr c A [.list ds, .int k] G2 d := by
  intro X s vs _ _ H
  obtain ⟨v, v', rfl, h2, h3⟩ := H.inv2
  simp only [At] at h2 h3
  obtain ⟨a, vs, rfl, _, hl, hr⟩ := h2
  obtain ⟨t, rfl⟩ := h3
  obtain ⟨x, hx, hd⟩ := hr.get h
  exact wpAny_getItem_list hl.isList h0 h1 (by simpa using hx) ⟨kp_refl s, hd⟩
theorem tGetW {k : Int} (h0 : 0 ≤ k) (h1 : k < 2 ^ 63) (h : ds[k.toNat]? = some d) : Tr c A [.wlist ds, .int k] G2 d := by
  intro X s vs _ _ H
  obtain ⟨v, v', rfl, h2, h3⟩ := H.inv2
  simp only [At] at h2 h3
  obtain ⟨a, vs, rfl, _, hl, hr⟩ := h2
  obtain ⟨t, rfl⟩ := h3
  obtain ⟨x, hx, hd⟩ := hr.get h
  exact wpAny_getItem_list hl h0 h1 (by simpa using hx) ⟨kp_refl s, hd⟩
theorem tGetT {k : Int} (h0 : 0 ≤ k) (h1 : k < 2 ^ 63) (h : ds[k.toNat]? = some d) : Tr c A [.tuple ds, .int k] G2 d := by
  intro X s vs _ _ H
  obtain ⟨v, v', rfl, h2, h3⟩ := H.inv2
  simp only [At] at h2 h3
  obtain ⟨a, vs, rfl, _, hl, hr⟩ := h2
  obtain ⟨t, rfl⟩ := h3
  obtain ⟨x, hx, hd⟩ := hr.get h
  have hlt : k.toNat < ds.length := (List.getElem?_eq_some_iff.mp h).1
  have hlen := hr.length
  simp only [Array.length_toList] at hlen
  refine getItem_tuple (j := k.toNat) hl (by omega) h1 ?_ (by simpa using hx) ⟨kp_refl s, hd⟩
  unfold seqIndex?
  have e : ¬ k < 0 := by omega
  simp only [e, if_false]
  rw [if_pos (by simp only [Bool.and_eq_true, decide_eq_true_eq]; omega)]
theorem tGetS {x : Str} {k : Int} (h0 : 0 ≤ k) (h1 : k < x.length) (h2 : k < 2 ^ 62) : Tr c A [.str x, .int k] G2 (.str (Txt.item x k)) := by
  intro X s vs _ G H
  obtain ⟨v, v', rfl, h3, h4⟩ := H.inv2
  simp only [At] at h3 h4
  obtain ⟨t, rfl, _⟩ := h3
  obtain ⟨u, rfl⟩ := h4
  obtain ⟨_, _, _, _, hg⟩ := SB.item (prog := c.prog) (w := c.w) (A := A) (E := NoE) (s := s) (x := x) (t := t) (u := u) (i := k) (Q := fun v s' => Keeps s s' ∧ At X c.C s' (.str (Txt.item x k)) v)
    (by unfold fitsSsize; simp; omega) (charAt_isSome (by omega) h1) ⟨kp_tok s _, at_str G.tk (Nat.lt_succ_self _)⟩
  exact hg
theorem tGetY {x : Array UInt8} {k : Int} (h0 : 0 ≤ k) (h1 : k < x.size) (h2 : x.size ≤ 1000000) : Tr c A [.bytes x, .int k] G2 (.int (x.toList.getD k.toNat 0).toNat) := by
  intro X s vs _ _ H
  obtain ⟨v, v', rfl, h3, h4⟩ := H.inv2
  simp only [At] at h3 h4
  obtain ⟨t, rfl⟩ := h3
  obtain ⟨u, rfl⟩ := h4
  have g := getItem_bytes (prog := c.prog) (w := c.w) (A := A) (E := NoE) (s := s) (l := x.toList) (t := t) (u := u) (i := k) (Q := fun v s' => Keeps s s' ∧ At X c.C s' (.int (x.toList.getD k.toNat 0).toNat) v)
    (by rw [Array.length_toList]; omega) h0 (by rw [Array.length_toList]; omega) ⟨kp_tok s _, at_int⟩
  rw [Array.toArray_toList] at g
  exact g

/-! cuts -/
def EvP (c : Cx) (A : Around) (env : Env) (Γ : Gam) (e : Option Expr) (i : Option Int) : Prop :=
  ∀ X Y s, Ok c env X Y Γ s → wpAny c.M A (evalPart e env) (fun v s' => Keeps s s' ∧ IsPart v i) NoE s
theorem EvP.no : EvP c A env Γ none none := fun _ _ s _ => by rw [evalPart_none]; exact wpAny_pure ⟨kp_refl s, .none⟩
theorem EvP.yes {i : Int} (h : Ev c A env Γ e (.int i)) : EvP c A env Γ (some e) (some i) := fun X Y s O => by
  rw [evalPart_some]
  exact wpAny_mono (h X Y s O) (fun v s' q => ⟨q.1, by have := q.2; simp only [At] at this; obtain ⟨t, rfl⟩ := this; exact .int i t⟩) fun _ _ x => x
def pickIdx (n : Nat) (lo hi st : Option Int) : List Nat := sliceRange (sliceBounds lo hi st n).1 (sliceBounds lo hi st n).2.1 (sliceBounds lo hi st n).2.2
def pickD (ds : List D) (lo hi st : Option Int) : List D := (pickIdx ds.length lo hi st).filterMap (ds[·]?)
theorem AtAll.pick {X : Addr → Prop} {C : Addr} {s : Shared} {ds : List D} {vs : List Value} (H : AtAll X C s ds vs) : ∀ js : List Nat, AtAll X C s (js.filterMap (ds[·]?)) (js.filterMap (vs[·]?))
  | [] => .nil
  | j :: js => by
    have ih := AtAll.pick H js
    simp only [List.filterMap_cons]
    cases hd : ds[j]? with
    | none =>
      have : vs[j]? = none := by
        rw [List.getElem?_eq_none_iff] at hd ⊢
        rw [H.length]; exact hd
      rw [this]; exact ih
    | some d =>
      obtain ⟨v, hv, ha⟩ := H.get hd
      rw [hv]; exact .cons ha ih
theorem Ev.cutL {lo hi st : Option Int} {l u t : Option Expr} {p : Pos} (ha : Ev c A env Γ e (.list ds)) (hl : EvP c A env Γ l lo) (hu : EvP c A env Γ u hi) (ht : EvP c A env Γ t st) (h0 : st ≠ some 0) (hz : ds.length ≤ 1000000 := by decide) :
    Ev c A env Γ (.Subscript e (.Slice l u t p) pos) (.list (pickD ds lo hi st)) := by
  intro X Y s O
  refine Subscript_ (wpAny_mono (ha X Y s O) (fun v s₁ h₁ => ?_) fun _ _ x => x)
  have O₁ := O.keeps (kp_ext h₁.1)
  refine wpAny_Slice (wpAny_mono (hl X Y s₁ O₁) (fun vl s₂ h₂ => ?_) fun _ _ x => x)
  have O₂ := O₁.keeps (kp_ext h₂.1)
  refine wpAny_mono (hu X Y s₂ O₂) (fun vu s₃ h₃ => ?_) fun _ _ x => x
  have O₃ := O₂.keeps (kp_ext h₃.1)
  refine wpAny_mono (ht X Y s₃ O₃) (fun vt s₄ h₄ => ?_) fun _ _ x => x
  have O₄ := O₃.keeps (kp_ext h₄.1)
  have H := ((h₁.2.keeps (kp_ext h₂.1)).keeps (kp_ext h₃.1)).keeps (kp_ext h₄.1)
  have k := kp_trans (kp_trans (kp_trans h₁.1 h₂.1) h₃.1) h₄.1
  simp only [At] at H
  obtain ⟨a, vs, rfl, hx, hp, hr⟩ := H
  have hp' : (s₄.heap.push { cls := .type "slice", data := .fields #[vl, vu, vt] }).PlainList a vs := hp.at fun _ e => Heap.get?_push_of_some _ e
  refine tailAny hp'.isList.typeIs slot_list_getitem.lookup ?_
  have hlen := hr.length
  simp only [Array.length_toList] at hlen
  refine wpAny_getItem_list_slice hp'.isList (Heap.IsSliceOf.new ..) h₂.2 h₃.2 h₄.2 h0 ?_ (by rw [hlen]; exact Nat.le_trans hz (by decide))
  have kk : Keeps s₄ { s₄ with heap := s₄.heap.push { cls := .type "slice", data := .fields #[vl, vu, vt] } } := kp_push _ _
  refine ⟨kp_trans (kp_trans k kk) (kp_push _ _), ?_⟩
  refine At.newList (s := { s₄ with heap := s₄.heap.push { cls := .type "slice", data := .fields #[vl, vu, vt] } }) (Live.keeps O₄.live (ext_push _ _)) ?_ _ rfl (Nat.le_refl _)
  have := (hr.keeps (kp_ext kk)).pick (pickIdx ds.length lo hi st)
  simpa only [slicePick, pickD, pickIdx, hlen, Array.getElem?_toList] using this
theorem Ev.cutY {b : Array UInt8} {lo hi : Option Int} {l u : Option Expr} {p : Pos} (ha : Ev c A env Γ e (.bytes b)) (hl : EvP c A env Γ l lo) (hu : EvP c A env Γ u hi) (hz : b.size ≤ 1000000) :
    Ev c A env Γ (.Subscript e (.Slice l u none p) pos) (.bytes (KBy.picked b lo hi)) := by
  intro X Y s O
  refine Subscript_ (wpAny_mono (ha X Y s O) (fun v s₁ h₁ => ?_) fun _ _ x => x)
  have O₁ := O.keeps (kp_ext h₁.1)
  refine wpAny_Slice (wpAny_mono (hl X Y s₁ O₁) (fun vl s₂ h₂ => ?_) fun _ _ x => x)
  have O₂ := O₁.keeps (kp_ext h₂.1)
  refine wpAny_mono (hu X Y s₂ O₂) (fun vu s₃ h₃ => ?_) fun _ _ x => x
  rw [evalPart_none]
  have k := kp_trans (kp_trans h₁.1 h₂.1) h₃.1
  have H := h₁.2
  simp only [At] at H
  obtain ⟨t, rfl⟩ := H
  refine wpAny_pure (tailAny (typeIs_bytes _ _ _) FB.slot_bytes_getitem.lookup (mono ?_))
  refine getItem_meets (typeIs_bytes _ _ _) (by decide) FB.slot_bytes_getitem FB.entry_bytes_getitem (FB.args_bytes_getitem_2 _ _) (KBc.meets_slice2 b t _ h₂.2 h₃.2)
    ⟨Heap.IsSliceOf.new _ _ _ _, Nat.le_trans (KBc.size_picked_le b lo hi) (Nat.le_trans hz (by decide)), fun t' k' => fun ht => ⟨kp_trans k ⟨_, k', rfl, ext_push _ _, ht⟩, at_bytes⟩⟩

/-! two lists in a row -/
theorem tCat (hz : ds.length + es'.length ≤ 1000000 := by decide) : Tr c A [.list ds, .list es'] (B2 .Add) (.list (ds ++ es')) := by
  intro X s vs L _ H
  obtain ⟨v, v', rfl, h1, h2⟩ := H.inv2
  simp only [At] at h1 h2
  obtain ⟨a, xs, rfl, _, ⟨n, ha⟩, hr⟩ := h1
  obtain ⟨b, ys, rfl, _, ⟨m, hb⟩, hr'⟩ := h2
  have l1 := hr.length
  have l2 := hr'.length
  simp only [Array.length_toList] at l1 l2
  refine P.add_list ha hb ⟨kp_push _ _, At.newList L ?_ _ rfl (Nat.le_refl _)⟩ (by rw [l1, l2]; exact Nat.le_trans hz (by decide))
  rw [Array.toList_append]
  exact hr.append hr'
end
end Mine

namespace Mine

/-- the state of a frame (or of a comprehension's block): s0 is the state ahead of it; X the marked addresses, Y those that it may change; Xo the marks of the outside -/
structure FS (c : Cx) (s0 : Shared) (env : Env) (W : List Str) (Xo X Y : Addr → Prop) (Γ : Gam) (s : Shared) : Prop where
  kp : Keeps s0 s
  live : Live X s.heap
  out : ∀ a, Xo a → X a
  yx : ∀ a, Y a → X a
  yfr : ∀ a, Y a → s0.heap.get? a = none
  yL : Y env.locals
  loc : ∃ m, s.heap.Ns env.locals m ∧ ∀ x e, Γ.lookup x = some e → env.kindOf x = some .local → ∃ v, m x = some v ∧ EntAt X Y c.C s e v
  cel : ∀ x e, Γ.lookup x = some e → env.kindOf x ≠ some .local → (env.kindOf x = some .cell ∨ env.kindOf x = some .free) ∧ ∃ a v, env.cells.lookup x = some a ∧ s.heap.IsCell a (some v) ∧ EntAt X Y c.C s e v ∧ (Y a ∨ (s0.heap.get? a).isSome = true)
  own : ∀ x ∈ W, env.kindOf x = some .cell ∧ ∃ a ov, env.cells.lookup x = some a ∧ Y a ∧ s.heap.IsCell a ov

section
variable {c : Cx} {A : Around} {env : Env} {W : List Str} {Xo X Y : Addr → Prop} {Γ : Gam} {s0 s s' : Shared}

theorem FS.ok (F : FS c s0 env W Xo X Y Γ s) (G : Gd c s0) (eo : EnvOk env) : Ok c env X Y Γ s := by
  refine ⟨F.live, G.keeps (kp_ext F.kp), eo, fun x e l => ?_⟩
  by_cases hk : env.kindOf x = some .local
  · obtain ⟨m, hn, hm⟩ := F.loc
    obtain ⟨v, hv, he⟩ := hm x e l hk
    exact ⟨v, .inl ⟨hk, m, hn, hv⟩, he⟩
  · obtain ⟨k, a, v, h1, h2, h3, _⟩ := F.cel x e l hk
    exact ⟨v, .inr ⟨k, a, h1, h2⟩, h3⟩
theorem FS.keeps (F : FS c s0 env W Xo X Y Γ s) (k : Keeps s s') : FS c s0 env W Xo X Y Γ s' := by
  have x' := kp_ext k
  have x := x'.1
  refine ⟨kp_trans F.kp k, F.live.keeps x, F.out, F.yx, F.yfr, F.yL, ?_, ?_, ?_⟩
  · obtain ⟨m, hn, hm⟩ := F.loc
    exact ⟨m, hn.keeps x, fun y e l hk => let ⟨v, hv, he⟩ := hm y e l hk; ⟨v, hv, he.keeps x'⟩⟩
  · exact fun y e l hk => let ⟨k, a, v, h1, h2, h3, h4⟩ := F.cel y e l hk; ⟨k, a, v, h1, h2.keeps x, h3.keeps x', h4⟩
  · exact fun y hy => let ⟨k, a, ov, h1, h2, h3⟩ := F.own y hy; ⟨k, a, ov, h1, h2, h3.keeps x⟩

/-- no list where a dict or a cell lies -/
theorem ns_not_seq {h : Heap} {a b : Addr} {m : Str → Option Value} {o : Obj} {xs : Array Value} {n : Nat} (hn : h.Ns a m) (hb : h.get? b = some o) (hs : o.data = .seq xs n) : b ≠ a := by
  rintro rfl
  obtain ⟨o', es, ep, ho, hd, _⟩ := hn
  rw [hb] at ho; cases ho; rw [hd] at hs; cases hs
theorem cell_not_seq {h : Heap} {a b : Addr} {v : Option Value} {o : Obj} {xs : Array Value} {n : Nat} (hn : h.IsCell a v) (hb : h.get? b = some o) (hs : o.data = .seq xs n) : b ≠ a := by
  rintro rfl
  obtain ⟨o', ho, hd⟩ := hn
  rw [hb] at ho; cases ho; rw [hd] at hs; cases hs
theorem cell_not_ns {h : Heap} {a b : Addr} {v : Option Value} {m : Str → Option Value} (hc : h.IsCell a v) (hn : h.Ns b m) : a ≠ b := by
  rintro rfl
  obtain ⟨o, es, ep, ho, hd, _⟩ := hn
  obtain ⟨o', ho', hd'⟩ := hc
  rw [ho] at ho'; cases ho'; rw [hd] at hd'; cases hd'
theorem same_get {h h' : Heap} {a : Addr} (hs : Heap.SameBut a h h') {b : Addr} {o : Obj} (hb : b ≠ a) (e : h.get? b = some o) : h'.get? b = some o := (hs.2 b hb).trans e
theorem EntAt.same {C : Addr} {s s' : Shared} {a : Addr} {e : Ent} {v : Value} (H : EntAt X Y C s e v) (hs : Heap.SameBut a s.heap s'.heap) (hX : X a) (hl : ∀ b o xs n, s.heap.get? b = some o → o.data = .seq xs n → b ≠ a) (ht : s.toks ≤ s'.toks) : EntAt X Y C s' e v :=
  H.imp (fun _ _ _ x => x) (fun _ x => x) (fun b _ hb x => same_get hs (fun q => hb (q ▸ hX)) x) (fun b o xs n _ x y => same_get hs (hl b o xs n x y) x) ht
theorem live_same {h h' : Heap} {a : Addr} (L : Live X h) (hs : Heap.SameBut a h h') (ha : (h'.get? a).isSome = true) : Live X h' := fun b hb => by
  by_cases q : b = a
  · rw [q]; exact ha
  · rw [hs.2 b q]; exact L b hb
theorem ns_some {h : Heap} {a : Addr} {m : Str → Option Value} (hn : h.Ns a m) : (h.get? a).isSome = true := by obtain ⟨o, _, _, ho, _⟩ := hn; rw [ho]; rfl
theorem cell_some {h : Heap} {a : Addr} {m : Option Value} (hn : h.IsCell a m) : (h.get? a).isSome = true := by obtain ⟨o, ho, _⟩ := hn; rw [ho]; rfl

/-- what a step may do to the rest of the heap -/
structure Chg (X Y X' Y' : Addr → Prop) (s s' : Shared) : Prop where
  but : ∀ a o, ¬ Y a → s.heap.get? a = some o → s'.heap.get? a = some o
  xx : ∀ a, X a → X' a
  yy : ∀ a, Y' a → Y a ∨ s.heap.get? a = none
  xn : ∀ a, X' a → X a ∨ s.heap.get? a = none
  tk : s.toks ≤ s'.toks
theorem Chg.refl : Chg X Y X Y s s := ⟨fun _ _ _ e => e, fun _ x => x, fun _ y => .inl y, fun _ x => .inl x, Nat.le_refl _⟩
theorem Chg.keeps (k : Keeps s s') : Chg X Y X Y s s' := ⟨fun a o _ e => (kp_ext k).1 a o e, fun _ x => x, fun _ y => .inl y, fun _ x => .inl x, (kp_ext k).2⟩
theorem Chg.trans {X1 Y1 X2 Y2 X3 Y3 : Addr → Prop} {s1 s2 s3 : Shared} (p : Chg X1 Y1 X2 Y2 s1 s2) (q : Chg X2 Y2 X3 Y3 s2 s3) (h1 : ∀ a, Y1 a → X1 a) : Chg X1 Y1 X3 Y3 s1 s3 := by
  have back : ∀ a, ¬ Y1 a → ∀ o, s1.heap.get? a = some o → ¬ Y2 a := fun a h o e y => by
    rcases p.yy a y with y | y
    · exact h y
    · rw [e] at y; cases y
  have new : ∀ a, s2.heap.get? a = none → Y1 a ∨ s1.heap.get? a = none := fun a y => by
    by_cases h : Y1 a
    · exact .inl h
    · right
      cases e : s1.heap.get? a with
      | none => rfl
      | some o => rw [p.but a o h e] at y; cases y
  refine ⟨fun a o h e => q.but a o (back a h o e) (p.but a o h e), fun a x => q.xx a (p.xx a x), fun a y => ?_, fun a x => ?_, Nat.le_trans p.tk q.tk⟩
  · exact (q.yy a y).elim (p.yy a) (new a)
  · exact (q.xn a x).elim (p.xn a) fun y => (new a y).imp (h1 a) id

/-- a name is bound -/
theorem FS.store (F : FS c s0 env W Xo X Y Γ s) (eo : EnvOk env) {x : Str} {e : Ent} {v : Value} (he : EntAt X Y c.C s e v) (hk : env.kindOf x = some .local ∨ x ∈ W) :
    wpAny c.M A (storeName env x v) (fun _ s' => FS c s0 env W Xo X Y ((x, e) :: Γ) s' ∧ Chg X Y X Y s s') NoE s := by
  have lk : ∀ {y : Str} {e' : Ent}, List.lookup y ((x, e) :: Γ) = some e' → (y = x ∧ e' = e) ∨ (y ≠ x ∧ Γ.lookup y = some e') := by
    intro y e' h
    rw [List.lookup_cons] at h
    cases hb : y == x with
    | true => rw [hb] at h; cases h; exact .inl ⟨beq_iff_eq.mp hb, rfl⟩
    | false => rw [hb] at h; exact .inr ⟨fun q => by rw [q] at hb; simp at hb, h⟩
  obtain ⟨m, hn, hm⟩ := F.loc
  obtain ⟨hz, tz, ez, kz⟩ := F.kp
  have nk : s0.heap.get? env.locals = none := F.yfr _ F.yL
  have hX := F.yx _ F.yL
  rcases hk with hk | hk
  · refine wpAny_storeName_local hk hn (fun h' hn' hs' => ?_) (by rw [eo.fn]; rfl)
    have hl : ∀ b o xs n, s.heap.get? b = some o → o.data = .seq xs n → b ≠ env.locals := fun _ _ _ _ p q => ns_not_seq hn p q
    refine ⟨⟨⟨h', s.toks + 1, by rw [ez], fun b o q => ?_, Nat.le_succ_of_le kz.2⟩, live_same F.live hs' (ns_some hn'), F.out, F.yx, F.yfr, F.yL, ⟨_, hn', fun y e' l k => ?_⟩, fun y e' l k => ?_, fun y hy => ?_⟩,
      fun a o ha q => same_get hs' (fun q' => ha (q' ▸ F.yL)) q, fun _ x => x, fun _ y => .inl y, fun _ x => .inl x, Nat.le_succ _⟩
    · refine same_get hs' (fun q' => ?_) (kz.1 b o q)
      rw [q', nk] at q; cases q
    · rcases lk l with ⟨rfl, rfl⟩ | ⟨hne, l⟩
      · exact ⟨v, by simp, he.same hs' hX hl (Nat.le_succ _)⟩
      · obtain ⟨u, hu, hue⟩ := hm y e' l k
        exact ⟨u, by simp only [if_neg hne]; exact hu, hue.same hs' hX hl (Nat.le_succ _)⟩
    · rcases lk l with ⟨rfl, rfl⟩ | ⟨hne, l⟩
      · exact absurd hk k
      · obtain ⟨k', a, u, h1, h2, h3, h4⟩ := F.cel y e' l k
        exact ⟨k', a, u, h1, h2.sameBut hs' (cell_not_ns h2 hn), h3.same hs' hX hl (Nat.le_succ _), h4⟩
    · obtain ⟨k', a, ov, h1, h2, h3⟩ := F.own y hy
      exact ⟨k', a, ov, h1, h2, h3.sameBut hs' (cell_not_ns h3 hn)⟩
  · obtain ⟨k', a, ov, h1, h2, h3⟩ := F.own x hk
    refine wpAny_storeName_cell eo.fn k' h1 h3 fun h' hc' hs' => ?_
    have hl : ∀ b o xs n, s.heap.get? b = some o → o.data = .seq xs n → b ≠ a := fun _ _ _ _ p q => cell_not_seq h3 p q
    have hXa := F.yx _ h2
    have other : ∀ {y : Str} {b : Addr}, env.cells.lookup y = some b → y ≠ x → b ≠ a := fun hb hne q => hne (eo.inj _ _ _ (q ▸ hb) h1)
    refine ⟨⟨⟨h', s.toks, by rw [ez], fun b o q => ?_, kz.2⟩, live_same F.live hs' (cell_some hc'), F.out, F.yx, F.yfr, F.yL, ⟨m, hn.sameBut hs' (Ne.symm (cell_not_ns h3 hn)), fun y e' l k => ?_⟩, fun y e' l k => ?_, fun y hy => ?_⟩,
      fun b o hb q => same_get hs' (fun q' => hb (q' ▸ h2)) q, fun _ x => x, fun _ y => .inl y, fun _ x => .inl x, Nat.le_refl _⟩
    · refine same_get hs' (fun q' => ?_) (kz.1 b o q)
      rw [q', F.yfr _ h2] at q; cases q
    · rcases lk l with ⟨rfl, rfl⟩ | ⟨hne, l⟩
      · rw [k'] at k; cases k
      · obtain ⟨u, hu, hue⟩ := hm y e' l k
        exact ⟨u, hu, hue.same hs' hXa hl (Nat.le_refl _)⟩
    · rcases lk l with ⟨rfl, rfl⟩ | ⟨hne, l⟩
      · exact ⟨.inl k', a, v, h1, hc', he.same hs' hXa hl (Nat.le_refl _), .inl h2⟩
      · obtain ⟨k'', b, u, g1, g2, g3, g4⟩ := F.cel y e' l k
        exact ⟨k'', b, u, g1, g2.sameBut hs' (other g1 hne), g3.same hs' hXa hl (Nat.le_refl _), g4⟩
    · by_cases hne : y = x
      · subst hne
        exact ⟨k', a, some v, h1, h2, hc'⟩
      · obtain ⟨k'', b, ov', g1, g2, g3⟩ := F.own y hy
        exact ⟨k'', b, ov', g1, g2, g3.sameBut hs' (other g1 hne)⟩
end
end Mine

namespace Mine

def StN (c : Cx) (A : Around) (env : Env) (W : List Str) (Γ : Gam) (st : Stmt) (Γ' : Gam) : Prop :=
  ∀ s0 Xo X Y s, Gd c s0 → EnvOk env → FS c s0 env W Xo X Y Γ s →
    wpAny c.M A (exec st env) (fun fl s' => fl = .next ∧ ∃ X' Y', FS c s0 env W Xo X' Y' Γ' s' ∧ Chg X Y X' Y' s s') NoE s
def ExN (c : Cx) (A : Around) (env : Env) (W : List Str) (Γ : Gam) (ss : List Stmt) (Γ' : Gam) : Prop :=
  ∀ s0 Xo X Y s, Gd c s0 → EnvOk env → FS c s0 env W Xo X Y Γ s →
    wpAny c.M A (execs ss env) (fun fl s' => fl = .next ∧ ∃ X' Y', FS c s0 env W Xo X' Y' Γ' s' ∧ Chg X Y X' Y' s s') NoE s
def ExR (c : Cx) (A : Around) (env : Env) (W : List Str) (Γ : Gam) (ss : List Stmt) (d : D) : Prop :=
  ∀ s0 Xo X Y s, Gd c s0 → EnvOk env → Live Xo s0.heap → FS c s0 env W Xo X Y Γ s →
    wpAny c.M A (execs ss env) (fun fl s' => ∃ v, fl = .ret v ∧ Keeps s0 s' ∧ At Xo c.C s' d v) NoE s

/-- every entry of the one stands in the other -/
def Sub (Γ2 Γ1 : Gam) : Prop := ∀ x e, Γ2.lookup x = some e → Γ1.lookup x = some e
theorem Sub.nil {Γ : Gam} : Sub [] Γ := fun _ _ h => nomatch h
theorem Sub.refl {Γ : Gam} : Sub Γ Γ := fun _ _ h => h
theorem Sub.cons {Γ2 Γ1 : Gam} {x : Str} {e : Ent} (h : Γ1.lookup x = some e) (r : Sub Γ2 Γ1) : Sub ((x, e) :: Γ2) Γ1 := fun y e' l => by
  rw [List.lookup_cons] at l
  cases hb : y == x with
  | true => rw [hb] at l; cases l; rw [beq_iff_eq.mp hb]; exact h
  | false => rw [hb] at l; exact r y e' l

section
variable {c : Cx} {A : Around} {env : Env} {W : List Str} {Γ Γ1 Γ2 Γ' : Gam} {st : Stmt} {ss : List Stmt} {e e1 e2 : Expr} {es : List Expr} {d d1 d2 : D} {ds : List D} {pos : Pos} {x : Str} {np : Pos} {b : Bool}

theorem FS.sub {s0 s : Shared} {Xo X Y : Addr → Prop} (F : FS c s0 env W Xo X Y Γ1 s) (h : Sub Γ2 Γ1) : FS c s0 env W Xo X Y Γ2 s :=
  ⟨F.kp, F.live, F.out, F.yx, F.yfr, F.yL, let ⟨m, a, b⟩ := F.loc; ⟨m, a, fun x e l => b x e (h x e l)⟩, fun x e l => F.cel x e (h x e l), F.own⟩

theorem ExN.nil : ExN c A env W Γ [] Γ := fun _ _ X Y s _ _ F => wpAny_execs_nil ⟨rfl, X, Y, F, Chg.refl⟩
theorem ExN.cons (h1 : StN c A env W Γ st Γ1) (h2 : ExN c A env W Γ1 ss Γ2) : ExN c A env W Γ (st :: ss) Γ2 := by
  intro s0 Xo X Y s G eo F
  refine wpAny_execs_cons (wpAny_mono (h1 s0 Xo X Y s G eo F) (fun fl s₁ q => ?_) fun _ _ x => x)
  obtain ⟨rfl, X1, Y1, F1, C1⟩ := q
  refine wpAny_mono (h2 s0 Xo X1 Y1 s₁ G eo F1) (fun fl s₂ q => ?_) fun _ _ x => x
  obtain ⟨rfl, X2, Y2, F2, C2⟩ := q
  exact ⟨rfl, X2, Y2, F2, C1.trans C2 F.yx⟩
theorem ExN.sub (h1 : ExN c A env W Γ ss Γ1) (h2 : Sub Γ2 Γ1) : ExN c A env W Γ ss Γ2 := by
  intro s0 Xo X Y s G eo F
  refine wpAny_mono (h1 s0 Xo X Y s G eo F) (fun fl s₁ q => ?_) fun _ _ x => x
  obtain ⟨rfl, X1, Y1, F1, C1⟩ := q
  exact ⟨rfl, X1, Y1, F1.sub h2, C1⟩
theorem ExN.pre (h1 : ExN c A env W Γ1 ss Γ2) (h2 : Sub Γ1 Γ) : ExN c A env W Γ ss Γ2 := fun s0 Xo X Y s G eo F => h1 s0 Xo X Y s G eo (F.sub h2)
theorem ExR.pre (h1 : ExR c A env W Γ1 ss d) (h2 : Sub Γ1 Γ) : ExR c A env W Γ ss d := fun s0 Xo X Y s G eo L F => h1 s0 Xo X Y s G eo L (F.sub h2)
theorem ExR.cons (h1 : StN c A env W Γ st Γ1) (h2 : ExR c A env W Γ1 ss d) : ExR c A env W Γ (st :: ss) d := by
  intro s0 Xo X Y s G eo L F
  refine wpAny_execs_cons (wpAny_mono (h1 s0 Xo X Y s G eo F) (fun fl s₁ q => ?_) fun _ _ x => x)
  obtain ⟨rfl, X1, Y1, F1, C1⟩ := q
  exact h2 s0 Xo X1 Y1 s₁ G eo L F1
theorem ExR.ret (h : Ev c A env Γ e d) : ExR c A env W Γ (.Return (some e) pos :: ss) d := by
  intro s0 Xo X Y s G eo L F
  refine wpAny_execs_cons (wpAny_Return_some (wpAny_mono (h X Y s (F.ok G eo)) (fun v s₁ q => ?_) fun _ _ x => x))
  exact ⟨v, rfl, kp_trans F.kp q.1, q.2.ext fun a o _ hx hy => hx (F.out a hy)⟩
/-- a list that was filled is handed back -/
theorem ExR.retM (h : Γ.lookup x = some (.m ds)) (hd : (x == ("__debug__" : Str)) = false := by decide) (hn : (x == ("__classdict__" : Str)) = false := by decide) : ExR c A env W Γ (.Return (some (.Name x np)) pos :: ss) (.list ds) := by
  intro s0 Xo X Y s G eo L F
  refine wpAny_execs_cons (wpAny_Return_some (wpAny_mono (nameE h hd hn X Y s (F.ok G eo)) (fun v s₁ q => ?_) fun _ _ x => x))
  obtain ⟨rfl, a, vs, rfl, hy, hp, hr⟩ := q
  refine ⟨_, rfl, F.kp, ?_⟩
  simp only [At]
  exact ⟨a, vs, rfl, dead_of_none L (F.yfr _ hy), hp, hr.ext fun a o _ hx hy => hx (F.out a hy)⟩
theorem ExR.retMW (h : Γ.lookup x = some (.mw ds)) (hd : (x == ("__debug__" : Str)) = false := by decide) (hn : (x == ("__classdict__" : Str)) = false := by decide) : ExR c A env W Γ (.Return (some (.Name x np)) pos :: ss) (.wlist ds) := by
  intro s0 Xo X Y s G eo L F
  refine wpAny_execs_cons (wpAny_Return_some (wpAny_mono (nameE h hd hn X Y s (F.ok G eo)) (fun v s₁ q => ?_) fun _ _ x => x))
  obtain ⟨rfl, a, vs, rfl, hy, hp, hr⟩ := q
  refine ⟨_, rfl, F.kp, ?_⟩
  simp only [At]
  exact ⟨a, vs, rfl, dead_of_none L (F.yfr _ hy), hp, hr.ext fun a o _ hx hy => hx (F.out a hy)⟩
theorem ExR.ifr {body orelse : List Stmt} (ht : EvB c A env Γ e b) (h1 : b = true → ExR c A env W Γ body d) (h2 : b = false → ExR c A env W Γ ss d) (ho : orelse = [] := by rfl) : ExR c A env W Γ (.If e body orelse pos :: ss) d := by
  intro s0 Xo X Y s G eo L F
  subst ho
  refine wpAny_execs_cons (wpAny_If (wpAny_mono (ht X Y s (F.ok G eo)) (fun v s₁ q => ?_) fun _ _ x => x))
  obtain ⟨k, rfl⟩ := q
  have F1 := F.keeps k
  cases v with
  | true =>
    simp only [if_true]
    refine wpAny_mono (h1 rfl s0 Xo X Y s₁ G eo L F1) (fun fl s₂ q => ?_) fun _ _ x => x
    obtain ⟨v, rfl, r⟩ := q
    exact ⟨v, rfl, r⟩
  | false =>
    simp only [Bool.false_eq_true, if_false]
    exact wpAny_execs_nil (h2 rfl s0 Xo X Y s₁ G eo L F1)
theorem ExR.ife {body orelse : List Stmt} (ht : EvB c A env Γ e b) (h1 : b = true → ExR c A env W Γ body d) (h2 : b = false → ExR c A env W Γ orelse d) : ExR c A env W Γ (.If e body orelse pos :: ss) d := by
  intro s0 Xo X Y s G eo L F
  refine wpAny_execs_cons (wpAny_If (wpAny_mono (ht X Y s (F.ok G eo)) (fun v s₁ q => ?_) fun _ _ x => x))
  obtain ⟨k, rfl⟩ := q
  have F1 := F.keeps k
  have fin : ∀ body, ExR c A env W Γ body d → wpAny c.M A (execs body env) (fun f s' => match f with | .next => wpAny c.M A (execs ss env) (fun fl s' => ∃ v, fl = .ret v ∧ Keeps s0 s' ∧ At Xo c.C s' d v) NoE s' | f => ∃ v, f = .ret v ∧ Keeps s0 s' ∧ At Xo c.C s' d v) NoE s₁ := by
    intro body h
    refine wpAny_mono (h s0 Xo X Y s₁ G eo L F1) (fun fl s₂ q => ?_) fun _ _ x => x
    obtain ⟨v, rfl, r⟩ := q
    exact ⟨v, rfl, r⟩
  cases v with
  | true => simp only [if_true]; exact fin body (h1 rfl)
  | false => simp only [Bool.false_eq_true, if_false]; exact fin orelse (h2 rfl)
theorem StN.ife {body orelse : List Stmt} (ht : EvB c A env Γ e b) (h1 : b = true → ExN c A env W Γ body Γ') (h2 : b = false → ExN c A env W Γ orelse Γ') : StN c A env W Γ (.If e body orelse pos) Γ' := by
  intro s0 Xo X Y s G eo F
  refine wpAny_If (wpAny_mono (ht X Y s (F.ok G eo)) (fun v s₁ q => ?_) fun _ _ x => x)
  obtain ⟨k, rfl⟩ := q
  have F1 := F.keeps k
  have fin : ∀ body, ExN c A env W Γ body Γ' → wpAny c.M A (execs body env) (fun fl s' => fl = .next ∧ ∃ X' Y', FS c s0 env W Xo X' Y' Γ' s' ∧ Chg X Y X' Y' s s') NoE s₁ := by
    intro body h
    refine wpAny_mono (h s0 Xo X Y s₁ G eo F1) (fun fl s₂ q => ?_) fun _ _ x => x
    obtain ⟨rfl, X', Y', F', C'⟩ := q
    exact ⟨rfl, X', Y', F', (Chg.keeps k).trans C' F.yx⟩
  cases v with
  | true => simp only [if_true]; exact fin body (h1 rfl)
  | false => simp only [Bool.false_eq_true, if_false]; exact fin orelse (h2 rfl)

/-- name = e -/
theorem StN.assign (h : Ev c A env Γ e d) (hk : env.kindOf x = some .local ∨ x ∈ W) (hs : swapsWith e (some (.Name x np)) pos.line env = pure false := by rfl) : StN c A env W Γ (.Assign [.Name x np] e pos) ((x, .d d) :: Γ) := by
  intro s0 Xo X Y s G eo F
  refine wpAny_Assign_Name (wpAny_mono (h X Y s (F.ok G eo)) (fun v s₁ q => ?_) fun _ _ x => x) hs
  have F1 := F.keeps q.1
  refine wpAny_mono (F1.store eo (e := .d d) q.2 hk) (fun _ s₂ q2 => ?_) fun _ _ x => x
  exact ⟨rfl, X, Y, q2.1, (Chg.keeps q.1).trans q2.2 F.yx⟩
/-- name = [..]: a list that will be filled -/
theorem StN.assignM (h : EvL c A env Γ es ds) (hk : env.kindOf x = some .local ∨ x ∈ W) (hz : ds.length ≤ 1000000 := by decide) {lp : Pos} (hs : swapsWith (.List es lp) (some (.Name x np)) pos.line env = pure false := by rfl) :
    StN c A env W Γ (.Assign [.Name x np] (.List es lp) pos) ((x, .m ds) :: Γ) := by
  intro s0 Xo X Y s G eo F
  refine wpAny_Assign_Name (wpAny_List (wpAny_mono (h X Y s lp (F.ok G eo)) (fun vs s₁ q => ⟨?_, ?_⟩) fun _ _ x => x)) hs
  · rw [q.2.length]; exact Nat.le_trans hz (by decide)
  have F1 := F.keeps q.1
  have kk : Keeps s₁ { s₁ with heap := s₁.heap.push { cls := .type "list", data := .seq vs.toArray } } := kp_push _ _
  have F2 := F1.keeps kk
  have hnew : ∀ a o, s₁.heap.get? a = some o → a ≠ s₁.heap.objs.size := fun a o e => Nat.ne_of_lt (Heap.lt_size e)
  have hnone : s₁.heap.get? s₁.heap.objs.size = none := by
    cases e : s₁.heap.get? s₁.heap.objs.size with
    | none => rfl
    | some o => exact absurd rfl (hnew _ _ e)
  have F3 : FS c s0 env W Xo (fun a => X a ∨ a = s₁.heap.objs.size) (fun a => Y a ∨ a = s₁.heap.objs.size) Γ { s₁ with heap := s₁.heap.push { cls := .type "list", data := .seq vs.toArray } } := by
    have hE : ∀ {en v}, EntAt X Y c.C s₁ en v → EntAt (fun a => X a ∨ a = s₁.heap.objs.size) (fun a => Y a ∨ a = s₁.heap.objs.size) c.C { s₁ with heap := s₁.heap.push { cls := .type "list", data := .seq vs.toArray } } en v :=
      fun H => (H.imp (s' := s₁) (X' := fun a => X a ∨ a = s₁.heap.objs.size) (Y' := fun a => Y a ∨ a = s₁.heap.objs.size) (fun a o e hx hh => hh.elim hx (hnew a o e)) (fun a y => .inl y) (fun _ _ _ e => e) (fun _ _ _ _ _ e _ => e) (Nat.le_refl _)).keeps (kp_ext kk)
    refine ⟨F2.kp, fun a hx => ?_, fun a ha => .inl (F.out a ha), fun a ha => ha.imp (F.yx a) id, fun a ha => ?_, .inl F.yL, ?_, ?_, ?_⟩
    · rcases hx with hx | rfl
      · exact F2.live a hx
      · show ((s₁.heap.push _).get? _).isSome = true
        rw [Heap.get?_push_size _ rfl]; rfl
    · rcases ha with ha | rfl
      · exact F.yfr a ha
      · cases e : s0.heap.get? s₁.heap.objs.size with
        | none => rfl
        | some o => exact absurd rfl (hnew _ _ ((kp_ext F1.kp).1 _ _ e))
    · obtain ⟨m, hn, hm⟩ := F1.loc
      exact ⟨m, hn.keeps (ext_push _ _), fun y e l k => let ⟨v, a, b⟩ := hm y e l k; ⟨v, a, hE b⟩⟩
    · exact fun y e l k => let ⟨k, a, v, h1, h2, h3, h4⟩ := F1.cel y e l k; ⟨k, a, v, h1, h2.keeps (ext_push _ _), hE h3, h4.imp .inl id⟩
    · exact fun y hy => let ⟨k, a, ov, h1, h2, h3⟩ := F1.own y hy; ⟨k, a, ov, h1, .inl h2, h3.keeps (ext_push _ _)⟩
  have C3 : Chg X Y (fun a => X a ∨ a = s₁.heap.objs.size) (fun a => Y a ∨ a = s₁.heap.objs.size) s₁ { s₁ with heap := s₁.heap.push { cls := .type "list", data := .seq vs.toArray } } :=
    ⟨fun a o _ e => ext_push _ _ a o e, fun a x => .inl x, fun a y => y.imp id fun e => by rw [e]; exact hnone, fun a y => y.imp id fun e => by rw [e]; exact hnone, Nat.le_refl _⟩
  refine wpAny_mono (F3.store eo (e := .m ds) ⟨_, vs.toArray, rfl, .inr rfl, ⟨_, Heap.get?_push_size _ rfl⟩, ?_⟩ hk) (fun _ s₂ q2 => ?_) fun _ _ x => x
  · exact (q.2.ext (X' := fun a => X a ∨ a = s₁.heap.objs.size) fun a o e hx hh => hh.elim hx (hnew a o e)).keeps (kp_ext kk)
  · exact ⟨rfl, _, _, q2.1, ((Chg.keeps q.1).trans C3 F.yx).trans q2.2 F.yx⟩
/-- name op= e -/
theorem StN.aug {op : Operator} (h1 : Γ.lookup x = some (.d d1)) (h2 : Ev c A env Γ e d2) (ho : Tr c A [d1, d2] (I2 op) d) (hk : env.kindOf x = some .local ∨ x ∈ W) (hn : (x == ("__classdict__" : Str)) = false := by decide) : StN c A env W Γ (.AugAssign (.Name x np) op e pos) ((x, .d d) :: Γ) := by
  intro s0 Xo X Y s G eo F
  have O := F.ok G eo
  obtain ⟨v, r, a⟩ := O.nm x _ h1
  have rest : wpAny c.M A (eval e env) (fun u s₂ => wpAny c.M A (inplaceOp op v u) (fun r s₃ => wpAny c.M A (storeName env x r) (fun _ s' => (Flow.next : Flow) = .next ∧ ∃ X' Y', FS c s0 env W Xo X' Y' ((x, .d d) :: Γ) s' ∧ Chg X Y X' Y' s s') NoE s₃) NoE s₂) NoE s := by
    refine wpAny_mono (h2 X Y s O) (fun u s₁ q => ?_) fun _ _ x => x
    have O1 := O.keeps (kp_ext q.1)
    refine wpAny_mono (ho X s₁ [v, u] O1.live O1.gd (.cons (At.keeps a (kp_ext q.1)) (.cons q.2 .nil))) (fun r s₂ q2 => ?_) fun _ _ x => x
    have k := kp_trans q.1 q2.1
    refine wpAny_mono ((F.keeps k).store eo (e := .d d) q2.2 hk) (fun _ s₃ q3 => ?_) fun _ _ x => x
    exact ⟨rfl, X, Y, q3.1, (Chg.keeps k).trans q3.2 F.yx⟩
  refine wpAny_AugAssign_Name ?_
  rcases r with ⟨k, m, n, e⟩ | ⟨k, b, n, e⟩
  · exact wpAny_loadName_local eo.fn k n e rest
  · rcases k with k | k
    · exact wpAny_loadName_cell eo.fn k n e rest
    · exact wpAny_loadName_free eo.fn k n e rest hn
end
end Mine

namespace Mine

/-- but for wr all stays -/
def Kb (wr : List Addr) (s s' : Shared) : Prop := (∃ h tk, s' = { s with heap := h, toks := tk } ∧ s.toks ≤ tk) ∧ ∀ b o, b ∉ wr → s.heap.get? b = some o → s'.heap.get? b = some o

structure Itr (c : Cx) (A : Around) (tgt : Expr) (it : Value) (fp wr : List Addr) (bs : List D) (vs : List Value) (ds : List D) (St : Nat → Heap → Prop) : Prop where
  sub : ∀ b ∈ wr, b ∈ fp
  alive : ∀ i h, St i h → ∀ b ∈ wr, (h.get? b).isSome = true
  frame : ∀ i h h', St i h → (∀ b ∈ fp, ∀ o, h.get? b = some o → h'.get? b = some o) → St i h'
  item : ∀ (X : Addr → Prop) i s d, ds[i]? = some d → St i s.heap → Live X s.heap → (∀ b ∈ wr, X b) → AtAll X c.C s bs vs →
    wpAny c.M A (pyNext it) (fun r s₁ => ∃ v, r = some v ∧ wpAny c.M A (letOwnedTupleGo tgt it v) (fun _ s₂ => Kb wr s s₂ ∧ St (i + 1) s₂.heap ∧ At X c.C s₂ d v) NoE s₁) NoE s
  done : ∀ s, St ds.length s.heap → wpAny c.M A (pyNext it) (fun r s₁ => r = none ∧ Kb wr s s₁) NoE s
  self : ∀ i s, St i s.heap → wpAny c.M A (pyIter it) (fun r s₁ => r = it ∧ s₁ = s) NoE s

/-- an iterable's iterator -/
def IterOf (c : Cx) (A : Around) (tgt : Expr) (X : Addr → Prop) (s0 : Shared) (ds : List D) (it : Value) (s : Shared) : Prop :=
  Keeps s0 s ∧ ∃ fp wr bs vs St, Itr c A tgt it fp wr bs vs ds St ∧ St 0 s.heap ∧ (∀ b ∈ wr, s0.heap.get? b = none) ∧ (∀ b ∈ fp, b ∈ wr ∨ ¬ X b) ∧ AtAll (fun a => X a ∨ a ∈ wr) c.C s bs vs ∧ ∀ b ∈ fp, (s.heap.get? b).isSome = true
def EvI (c : Cx) (A : Around) (env : Env) (Γ : Gam) (iter tgt : Expr) (ds : List D) : Prop :=
  ∀ X Y s, Ok c env X Y Γ s → wpAny c.M A (eval iter env) (fun xv s₁ => wpAny c.M A (pyIter xv) (IterOf c A tgt X s ds) NoE s₁) NoE s
/-- a value's iterator -/
def TrI (c : Cx) (A : Around) (d : D) (tgt : Expr) (ds : List D) : Prop :=
  ∀ X s v, Live X s.heap → Gd c s → At X c.C s d v → wpAny c.M A (pyIter v) (IterOf c A tgt X s ds) NoE s

section
variable {c : Cx} {A : Around} {env : Env} {W : List Str} {Γ Γ1 Γ2 Γ' : Gam} {st : Stmt} {ss : List Stmt} {e e1 e2 : Expr} {es : List Expr} {d d1 d2 : D} {ds : List D} {pos : Pos} {x : Str} {np : Pos} {b : Bool} {tgt iter : Expr}

theorem IterOf.kp {X : Addr → Prop} {s0 s1 s : Shared} {it : Value} (k : Keeps s0 s1) (H : IterOf c A tgt X s1 ds it s) : IterOf c A tgt X s0 ds it s := by
  obtain ⟨k', fp, wr, bs, vs, St, h1, h2, h3, h4, h5⟩ := H
  refine ⟨kp_trans k k', fp, wr, bs, vs, St, h1, h2, fun b hb => ?_, h4, h5⟩
  cases e : s0.heap.get? b with
  | none => rfl
  | some o => have := h3 b hb; rw [(kp_ext k).1 b o e] at this; cases this
theorem EvI.of (h : Ev c A env Γ iter d) (t : TrI c A d tgt ds) : EvI c A env Γ iter tgt ds := by
  intro X Y s O
  refine wpAny_mono (h X Y s O) (fun v s₁ q => ?_) fun _ _ x => x
  have O1 := O.keeps (kp_ext q.1)
  exact wpAny_mono (t X s₁ v O1.live O1.gd q.2) (fun it s₂ q2 => q2.kp q.1) fun _ _ x => x

/-- targets that hold no iterator's tuple -/
def PlainTgt (tgt : Expr) : Prop := ∀ it v, letOwnedTupleGo tgt it v = pure ()
theorem plain_name {x : Str} {p : Pos} : PlainTgt (.Name x p) := fun _ _ => rfl

theorem Itr.ofWalks {I : Addr} {fp wr : List Addr} {n : Nat} {P : Nat → Value → Prop} {St : Nat → Heap → Prop} {bs : List D} {vs : List Value} (Wk : Walks c.prog c.w A I fp wr n P St) (hn : ds.length = n)
    (ht : PlainTgt tgt) (hal : ∀ i h, St i h → ∀ b ∈ wr, (h.get? b).isSome = true)
    (hP : ∀ (X : Addr → Prop) i v (s s' : Shared) d, P i v → ds[i]? = some d → s.toks ≤ s'.toks → AtAll X c.C s' bs vs → At X c.C s' d v) (hd : ∀ (X : Addr → Prop) (s s' : Shared), (∀ b ∈ wr, X b) → Kb wr s s' → AtAll X c.C s bs vs → AtAll X c.C s' bs vs) :
    Itr c A tgt (.ref I) fp wr bs vs ds St where
  sub := Wk.sub
  alive := hal
  frame := Wk.frame
  item := fun X i s d hi st L hw H => by
    have hlt : i < n := hn ▸ (List.getElem?_eq_some_iff.mp hi).1
    refine mono (Wk.item i s _ _ hlt st fun v h' tk hp st' hk => fun hm => ⟨v, rfl, ?_⟩)
    rw [ht]
    have kb : Kb wr s { s with heap := h', toks := tk } := ⟨⟨h', tk, rfl, hm⟩, hk⟩
    exact wpAny_pure ⟨kb, st', hP X i v s _ d hp hi hm (hd X _ _ hw kb H)⟩
  done := fun s st => mono (Wk.done s _ _ (hn ▸ st) fun h' tk hk => fun hm => ⟨rfl, ⟨⟨h', tk, rfl, hm⟩, hk⟩⟩)
  self := fun i s st => Wk.self i s _ _ st ⟨rfl, rfl⟩

theorem Kb.tk {wr : List Addr} {s s' : Shared} (k : Kb wr s s') : s.toks ≤ s'.toks := by obtain ⟨⟨h, tk, rfl, t⟩, _⟩ := k; exact t
theorem AtAll.kb {X : Addr → Prop} {C : Addr} {s s' : Shared} {bs : List D} {vs : List Value} {wr : List Addr} (hw : ∀ b ∈ wr, X b) (k : Kb wr s s') (H : AtAll X C s bs vs) : AtAll X C s' bs vs :=
  H.but (fun a o ha e => k.2 a o (fun q => ha (hw a q)) e) k.tk

/-- for x in a list -/
theorem tiL (hh : A.handled = none) (ht : PlainTgt tgt) : TrI c A (.wlist ds) tgt ds := by
  intro X s v L _ H
  simp only [At] at H
  obtain ⟨l, vs, rfl, hx, hl, hr⟩ := H
  obtain ⟨o, ho, _⟩ := id hl
  have hlt : l < s.heap.objs.size := Heap.lt_size ho
  refine wpAny_pyIter_list hl ⟨kp_push _ _, [s.heap.objs.size, l], [s.heap.objs.size], ds, vs.toList, _,
    Itr.ofWalks (Walks.list hh s.heap.objs.size l (Nat.ne_of_lt hlt) vs) (by rw [← hr.length, Array.length_toList]) ht ?_ ?_ (fun X s s' hw k H => H.kb hw k), ⟨⟨_, Heap.get?_push_size _ rfl, rfl, rfl⟩, hl.push _⟩, ?_, ?_, ?_, ?_⟩
  · rintro i h st b hb
    rw [List.mem_singleton.mp hb]
    obtain ⟨⟨o, e, _⟩, _⟩ := st
    rw [e]; rfl
  · intro X i v s s' d hp hi _ H
    obtain ⟨u, hu, ha⟩ := H.get hi
    have e : some u = some v := by rw [← hu, ← hp]; simp
    cases e; exact ha
  · intro b hb
    rw [List.mem_singleton.mp hb]
    cases e : s.heap.get? s.heap.objs.size with
    | none => rfl
    | some o => exact absurd (Heap.lt_size e) (Nat.lt_irrefl _)
  · intro b hb
    rcases List.mem_cons.mp hb with rfl | hb
    · exact .inl (List.mem_singleton.mpr rfl)
    · rw [List.mem_singleton.mp hb]; exact .inr hx
  · refine (hr.ext fun a o e h1 h2 => h2.elim h1 fun q => ?_).keeps (kp_ext (kp_push _ _))
    exact absurd (Heap.lt_size e) (by rw [List.mem_singleton.mp q]; exact Nat.lt_irrefl _)
  · intro b hb
    show ((s.heap.push _).get? b).isSome = true
    rcases List.mem_cons.mp hb with rfl | hb
    · rw [Heap.get?_push_size _ rfl]; rfl
    · rw [List.mem_singleton.mp hb, Heap.get?_push_of_some _ ho]; rfl
theorem TrI.str (t : TrI c A (.wlist ds) tgt ds) : TrI c A (.list ds) tgt ds := fun X s v L G H => t X s v L G H.weak

/-- binding the target -/
def Asg (c : Cx) (A : Around) (env : Env) (W : List Str) (tgt : Expr) (d : D) (Γ Γ1 : Gam) : Prop :=
  ∀ s0 Xo X Y s v, Gd c s0 → EnvOk env → FS c s0 env W Xo X Y Γ s → At X c.C s d v →
    wpAny c.M A (assign tgt env v) (fun _ s' => FS c s0 env W Xo X Y Γ1 s' ∧ Chg X Y X Y s s') NoE s
theorem Asg.name (hk : env.kindOf x = some .local ∨ x ∈ W) : Asg c A env W (.Name x np) d Γ ((x, .d d) :: Γ) :=
  fun _ _ _ _ _ _ _ eo F H => wpAny_assign_Name (F.store eo (e := .d d) H hk)

/-- the loop's state: the frame's, with the iterator's own objects marked, not changed by the body -/
structure LoopSt (c : Cx) (s0 : Shared) (env : Env) (W : List Str) (Xo X Y : Addr → Prop) (wr : List Addr) (bs : List D) (vs : List Value) (Γ : Gam) (s : Shared) : Prop where
  fs : FS c s0 env W Xo X Y Γ s
  src : AtAll X c.C s bs vs
  wx : ∀ b ∈ wr, X b
  wy : ∀ b ∈ wr, ¬ Y b

theorem LoopSt.start {s0 s s' : Shared} {Xo X Y : Addr → Prop} {wr : List Addr} {bs : List D} {vs : List Value} (F : FS c s0 env W Xo X Y Γ s) (k : Keeps s s') (hw : ∀ b ∈ wr, s.heap.get? b = none) (hl : ∀ b ∈ wr, (s'.heap.get? b).isSome = true)
    (H : AtAll (fun a => X a ∨ a ∈ wr) c.C s' bs vs) : LoopSt c s0 env W Xo (fun a => X a ∨ a ∈ wr) Y wr bs vs Γ s' ∧ Chg X Y (fun a => X a ∨ a ∈ wr) Y s s' := by
  have F1 := F.keeps k
  have hE : ∀ {en v}, EntAt X Y c.C s en v → EntAt (fun a => X a ∨ a ∈ wr) Y c.C s' en v :=
    fun H => (H.imp (s' := s) (X' := fun a => X a ∨ a ∈ wr) (Y' := Y) (fun a o e hx hh => hh.elim hx fun q => by rw [hw a q] at e; cases e) (fun a y => y) (fun _ _ _ e => e) (fun _ _ _ _ _ e _ => e) (Nat.le_refl _)).keeps (kp_ext k)
  refine ⟨⟨⟨F1.kp, fun a ha => ha.elim (F1.live a) (hl a), fun a ha => .inl (F.out a ha), fun a ha => .inl (F.yx a ha), F.yfr, F.yL, ?_, ?_, ?_⟩, H, fun b hb => .inr hb, fun b hb hy => ?_⟩,
    ⟨fun a o _ e => (kp_ext k).1 a o e, fun a x => .inl x, fun a y => .inl y, fun a x => x.imp id (hw a), (kp_ext k).2⟩⟩
  · obtain ⟨m, hn, hm⟩ := F.loc
    exact ⟨m, hn.keeps (kp_ext k).1, fun y e l k => let ⟨v, a, b⟩ := hm y e l k; ⟨v, a, hE b⟩⟩
  · exact fun y e l k' => let ⟨k', a, v, h1, h2, h3, h4⟩ := F.cel y e l k'; ⟨k', a, v, h1, h2.keeps (kp_ext k).1, hE h3, h4⟩
  · exact fun y hy => let ⟨k', a, ov, h1, h2, h3⟩ := F.own y hy; ⟨k', a, ov, h1, h2, h3.keeps (kp_ext k).1⟩
  · obtain ⟨o, e⟩ := Option.isSome_iff_exists.mp (F.live b (F.yx b hy))
    rw [hw b hb] at e; cases e

theorem kb_kp {s0 s s' : Shared} {wr : List Addr} (F : Keeps s0 s) (k : Kb wr s s') (hw0 : ∀ b ∈ wr, s0.heap.get? b = none) : Keeps s0 s' := by
  obtain ⟨h, tz, rfl, kz⟩ := F
  obtain ⟨⟨h', tk, rfl, ht⟩, hk⟩ := k
  exact ⟨h', tk, rfl, fun b o e => hk b o (fun q => by rw [hw0 b q] at e; cases e) (kz.1 b o e), Nat.le_trans kz.2 ht⟩
/-- a step of the iterator -/
theorem LoopSt.step {s0 s s' : Shared} {Xo X Y : Addr → Prop} {wr : List Addr} {bs : List D} {vs : List Value} (S : LoopSt c s0 env W Xo X Y wr bs vs Γ s) (k : Kb wr s s') (hw0 : ∀ b ∈ wr, s0.heap.get? b = none) (hl : ∀ b ∈ wr, (s'.heap.get? b).isSome = true) :
    LoopSt c s0 env W Xo X Y wr bs vs Γ s' := by
  obtain ⟨F, src, wx, wy⟩ := S
  have hk := k.2
  have nY : ∀ b, Y b → b ∉ wr := fun b y q => wy b q y
  have nX : ∀ b, ¬ X b → b ∉ wr := fun b x q => x (wx b q)
  have hE : ∀ {en v}, EntAt X Y c.C s en v → EntAt X Y c.C s' en v :=
    fun H => H.imp (fun _ _ _ x => x) (fun _ x => x) (fun a o ha e => hk a o (nX a ha) e) (fun a o _ _ ha e _ => hk a o (nY a ha) e) k.tk
  have cell : ∀ {a ov}, s.heap.IsCell a ov → a ∉ wr → s'.heap.IsCell a ov := fun h n => let ⟨o, e, r⟩ := h; ⟨o, hk _ _ n e, r⟩
  refine ⟨⟨kb_kp F.kp k hw0, fun a ha => ?_, F.out, F.yx, F.yfr, F.yL, ?_, ?_, ?_⟩, src.kb wx k, wx, wy⟩
  · by_cases q : a ∈ wr
    · exact hl a q
    · obtain ⟨o, e⟩ := Option.isSome_iff_exists.mp (F.live a ha)
      rw [hk a o q e]; rfl
  · obtain ⟨m, hn, hm⟩ := F.loc
    exact ⟨m, hn.at' fun o e => hk _ o (nY _ F.yL) e, fun y e l k => let ⟨v, a, b⟩ := hm y e l k; ⟨v, a, hE b⟩⟩
  · intro y e l k'
    obtain ⟨k', a, v, h1, h2, h3, h4⟩ := F.cel y e l k'
    have q : a ∉ wr := fun q => h4.elim (fun y => nY a y q) fun o => by rw [hw0 a q] at o; cases o
    exact ⟨k', a, v, h1, cell h2 q, hE h3, h4⟩
  · intro y hy
    obtain ⟨k', a, ov, h1, h2, h3⟩ := F.own y hy
    exact ⟨k', a, ov, h1, h2, cell h3 (nY a h2)⟩
end
end Mine

namespace Mine

section
variable {c : Cx} {A : Around} {env : Env} {W : List Str} {Γ Γ1 Γ2 Γ' : Gam} {st : Stmt} {ss body orelse : List Stmt} {e e1 e2 : Expr} {es : List Expr} {d d1 d2 : D} {ds : List D} {pos : Pos} {x : Str} {np : Pos} {b : Bool} {tgt iter : Expr}

/-- what a loop has done to the rest of the heap -/
structure ChgW (wr : List Addr) (X Y X' Y' : Addr → Prop) (s s' : Shared) : Prop where
  but : ∀ a o, ¬ Y a → a ∉ wr → s.heap.get? a = some o → s'.heap.get? a = some o
  xx : ∀ a, X a → X' a
  yy : ∀ a, Y' a → Y a ∨ s.heap.get? a = none
  xn : ∀ a, X' a → X a ∨ s.heap.get? a = none
  tk : s.toks ≤ s'.toks
theorem ChgW.out {wr : List Addr} {X0 Y X Y' X' : Addr → Prop} {s s₂ s' : Shared} (C : ChgW wr X Y X' Y' s₂ s') (k : Keeps s s₂) (hw : ∀ b ∈ wr, s.heap.get? b = none) (hX : ∀ a, X a ↔ X0 a ∨ a ∈ wr) : Chg X0 Y X' Y' s s' := by
  have new : ∀ a, s₂.heap.get? a = none → s.heap.get? a = none := fun a y => by
    cases e : s.heap.get? a with
    | none => rfl
    | some o => rw [(kp_ext k).1 a o e] at y; cases y
  refine ⟨fun a o ha e => C.but a o ha (fun q => by rw [hw a q] at e; cases e) ((kp_ext k).1 a o e), fun a x => C.xx a ((hX a).mpr (.inl x)), fun a y => (C.yy a y).imp id (new a), fun a x => ?_, Nat.le_trans (kp_ext k).2 C.tk⟩
  rcases C.xn a x with x | x
  · rcases (hX a).mp x with x | x
    · exact .inl x
    · exact .inr (hw a x)
  · exact .inr (new a x)
theorem ChgW.step {wr : List Addr} {X Y X1 Y1 X2 Y2 : Addr → Prop} {s s1 s2 s3 : Shared} (C : ChgW wr X Y X1 Y1 s s1) (k : Kb wr s1 s2) (q : Chg X1 Y1 X2 Y2 s2 s3) (hy : ∀ a, Y a → X a) (hwx : ∀ a ∈ wr, X a) (hal : ∀ a ∈ wr, (s2.heap.get? a).isSome = true) : ChgW wr X Y X2 Y2 s s3 := by
  have kept : ∀ a o, ¬ Y a → a ∉ wr → s.heap.get? a = some o → s2.heap.get? a = some o := fun a o h n e => k.2 a o n (C.but a o h n e)
  have back : ∀ a, ¬ Y a → ∀ o, s.heap.get? a = some o → ¬ Y1 a := fun a h o e y => by
    rcases C.yy a y with y | y
    · exact h y
    · rw [e] at y; cases y
  have new : ∀ a, s2.heap.get? a = none → (Y a ∨ a ∈ wr) ∨ s.heap.get? a = none := fun a y => by
    by_cases h : Y a
    · exact .inl (.inl h)
    · by_cases n : a ∈ wr
      · exact .inl (.inr n)
      · right
        cases e : s.heap.get? a with
        | none => rfl
        | some o => rw [kept a o h n e] at y; cases y
  refine ⟨fun a o h n e => q.but a o (back a h o e) (kept a o h n e), fun a x => q.xx a (C.xx a x), fun a y => ?_, fun a x => ?_, Nat.le_trans C.tk (Nat.le_trans k.tk q.tk)⟩
  · rcases q.yy a y with y | y
    · exact C.yy a y
    · rcases new a y with (y' | n) | y'
      · exact .inl y'
      · have := hal a n; rw [y] at this; cases this
      · exact .inr y'
  · rcases q.xn a x with y | y
    · exact C.xn a y
    · rcases new a y with (y' | n) | y'
      · exact .inl (hy a y')
      · exact .inl (hwx a n)
      · exact .inr y'

theorem for_core {R : Result → Shared → Prop} {s0 s₂ : Shared} {Xo X Y : Addr → Prop} {it : Value} {fp wr : List Addr} {bs : List D} {vs : List Value} {St : Nat → Heap → Prop} (Γs : Nat → Gam) (k : Nat)
    (G : Gd c s0) (eo : EnvOk env) (It : Itr c A tgt it fp wr bs vs ds St) (hfp : ∀ b ∈ fp, b ∈ wr ∨ ¬ X b) (hal : ∀ b ∈ fp, (s₂.heap.get? b).isSome = true)
    (S0 : LoopSt c s0 env W Xo X Y wr bs vs (Γs 0) s₂) (hst : St 0 s₂.heap) (hw0 : ∀ b ∈ wr, s0.heap.get? b = none) (hk : k ≤ ds.length)
    (hb : ∀ i d, i < k → ds[i]? = some d → ∃ Γ1, Asg c A env W tgt d (Γs i) Γ1 ∧ ExN c A env W Γ1 body (Γs (i + 1)))
    (hend : ∀ X' Y' s', LoopSt c s0 env W Xo X' Y' wr bs vs (Γs k) s' → St k s'.heap → ChgW wr X Y X' Y' s₂ s' →
      wpAny c.M A (forTurn tgt it body orelse env) (fun fin s'' => match fin with | .done f => R (.ok f) s'' | .again c' => c'.quiet = true ∧ codeAny c.M A c' R s'') NoE s') :
    codeAny c.M A (.forLoop tgt it body orelse env) R s₂ := by
  refine codeAny_loop' rfl (fun n s' => ∃ i X' Y', i ≤ k ∧ n = k - i ∧ LoopSt c s0 env W Xo X' Y' wr bs vs (Γs i) s' ∧ St i s'.heap ∧ ChgW wr X Y X' Y' s₂ s') ?_ k
    ⟨0, X, Y, Nat.zero_le _, rfl, S0, hst, ⟨fun _ _ _ _ e => e, fun _ x => x, fun _ y => .inl y, fun _ x => .inl x, Nat.le_refl _⟩⟩
  rintro n s' ⟨i, X', Y', hi, rfl, S, hs, C⟩
  show wpAny _ A ((forTurn tgt it body orelse env).onRaise (fun x => do noteFrame x env; theTreesLotGoes x)) _ _ s'
  refine wpAny_noted ?_
  by_cases hik : i = k
  · subst hik
    refine wpAny_mono (hend X' Y' s' S hs C) (fun fin s'' h => ?_) fun _ _ x => x.elim
    cases fin with
    | done f => exact h
    | again c' => exact .inr h
  · have hlt : i < k := Nat.lt_of_le_of_ne hi hik
    have hlt' : i < ds.length := Nat.lt_of_lt_of_le hlt hk
    obtain ⟨Γ1, ha, hbody⟩ := hb i _ hlt (List.getElem?_eq_getElem hlt')
    simp only [forTurn]
    refine wpAny_bind (wpAny_standAt (wpAny_bind (wpAny_onRaise (wpAny_mono (It.item X' i s' _ (List.getElem?_eq_getElem hlt') hs S.fs.live S.wx S.src) (fun r s₁ h₁ => ?_) fun _ _ x => x.elim))))
    obtain ⟨v, rfl, h₁⟩ := h₁
    refine wpAny_bind (wpAny_mono h₁ (fun _ s₃ h₃ => ?_) fun _ _ x => x.elim)
    obtain ⟨kb, hs3, hv⟩ := h₃
    have al3 := It.alive _ _ hs3
    have S3 := S.step kb hw0 al3
    refine wpAny_bind (wpAny_mono (ha s0 Xo X' Y' s₃ v G eo S3.fs hv) (fun _ s₄ h₄ => ?_) fun _ _ x => x.elim)
    obtain ⟨F4, C4⟩ := h₄
    refine wpAny_bind (wpAny_mono (hbody s0 Xo X' Y' s₄ G eo F4) (fun fl s₅ h₅ => ?_) fun _ _ x => x.elim)
    obtain ⟨rfl, X5, Y5, F5, C5⟩ := h₅
    have CC := C4.trans C5 S3.fs.yx
    have wfix : ∀ b ∈ wr, ¬ Y5 b := fun b hb y => by
      rcases CC.yy b y with y | y
      · exact S3.wy b hb y
      · have := al3 b hb; rw [y] at this; cases this
    refine wpAny_pure (.inl ⟨rfl, k - (i + 1), by omega, i + 1, X5, Y5, hlt, rfl, ⟨F5, ?_, fun b hb => CC.xx b (S3.wx b hb), wfix⟩, ?_, C.step kb CC S0.fs.yx S0.wx al3⟩)
    · have e1 : AtAll X5 c.C s₃ bs vs := S3.src.ext fun a o e hx h5 => (CC.xn a h5).elim hx fun n => by rw [n] at e; cases e
      exact AtAll.imp (fun _ _ _ x => x) (fun a o hx e => CC.but a o (fun y => hx (CC.xx a (S3.fs.yx a y))) e) CC.tk _ _ e1
    · refine It.frame _ _ _ hs3 fun b hb o e => CC.but b o (fun y => ?_) e
      rcases hfp b hb with h | h
      · exact S3.wy b h y
      · rcases C.yy b y with y | y
        · exact h (S0.fs.yx b y)
        · have := hal b hb; rw [y] at this; cases this

theorem pastNext {it : Value} {s : Shared} {wr : List Addr} {R : Result → Shared → Prop} (hd : wpAny c.M A (pyNext it) (fun r s₁ => r = none ∧ Kb wr s s₁) NoE s)
    (h : ∀ s₁, Kb wr s s₁ → wpAny c.M A (execs orelse env) (fun f s' => R (.ok f) s') NoE s₁) :
    wpAny c.M A (forTurn tgt it body orelse env) (fun fin s'' => match fin with | .done f => R (.ok f) s'' | .again c' => c'.quiet = true ∧ codeAny c.M A c' R s'') NoE s := by
  simp only [forTurn]
  refine wpAny_bind (wpAny_standAt (wpAny_bind (wpAny_onRaise (wpAny_mono hd (fun r s₁ h₁ => ?_) fun _ _ x => x.elim))))
  obtain ⟨rfl, k⟩ := h₁
  exact wpAny_pure ⟨rfl, codeAny_block (wpAny_mono (h s₁ k) (fun _ _ x => x) fun _ _ x => x.elim)⟩

theorem st_alive {X : Addr → Prop} {h : Heap} {fp wr : List Addr} (hs : ∀ b ∈ wr, (h.get? b).isSome = true) (hf : ∀ b ∈ fp, b ∈ wr ∨ (h.get? b).isSome = true) : ∀ b ∈ fp, (h.get? b).isSome = true :=
  fun b hb => (hf b hb).elim (hs b) id

/-- the end of a loop: the iterator's marks are let go -/
theorem LoopSt.finish {s0 s s' : Shared} {Xo X Y : Addr → Prop} {wr : List Addr} {bs : List D} {vs : List Value} (S : LoopSt c s0 env W Xo X Y wr bs vs Γ s) (k : Kb wr s s') (hw0 : ∀ b ∈ wr, s0.heap.get? b = none) (hXo : ∀ b ∈ wr, ¬ Xo b) :
    FS c s0 env W Xo (fun a => X a ∧ a ∉ wr) Y Γ s' := by
  obtain ⟨F, src, wx, wy⟩ := S
  have hk := k.2
  have nY : ∀ b, Y b → b ∉ wr := fun b y q => wy b q y
  have nX : ∀ b, ¬ X b → b ∉ wr := fun b x q => x (wx b q)
  have hE : ∀ {en v}, EntAt X Y c.C s en v → EntAt (fun a => X a ∧ a ∉ wr) Y c.C s' en v :=
    fun H => H.imp (fun _ _ _ x q => x q.1) (fun _ x => x) (fun a o ha e => hk a o (nX a ha) e) (fun a o _ _ ha e _ => hk a o (nY a ha) e) k.tk
  have cell : ∀ {a ov}, s.heap.IsCell a ov → a ∉ wr → s'.heap.IsCell a ov := fun h n => let ⟨o, e, r⟩ := h; ⟨o, hk _ _ n e, r⟩
  refine ⟨kb_kp F.kp k hw0, fun a ha => ?_, fun a ha => ⟨F.out a ha, fun q => hXo a q ha⟩, fun a y => ⟨F.yx a y, nY a y⟩, F.yfr, F.yL, ?_, ?_, ?_⟩
  · obtain ⟨o, e⟩ := Option.isSome_iff_exists.mp (F.live a ha.1)
    rw [hk a o ha.2 e]; rfl
  · obtain ⟨m, hn, hm⟩ := F.loc
    exact ⟨m, hn.at' fun o e => hk _ o (nY _ F.yL) e, fun y e l k => let ⟨v, a, b⟩ := hm y e l k; ⟨v, a, hE b⟩⟩
  · intro y e l k'
    obtain ⟨k', a, v, h1, h2, h3, h4⟩ := F.cel y e l k'
    have q : a ∉ wr := fun q => h4.elim (fun y => nY a y q) fun o => by rw [hw0 a q] at o; cases o
    exact ⟨k', a, v, h1, cell h2 q, hE h3, h4⟩
  · intro y hy
    obtain ⟨k', a, ov, h1, h2, h3⟩ := F.own y hy
    exact ⟨k', a, ov, h1, h2, cell h3 (nY a h2)⟩

theorem ChgW.fin {wr : List Addr} {X Y X' Y' : Addr → Prop} {s s₂ s' s₁ : Shared} (C : ChgW wr (fun a => X a ∨ a ∈ wr) Y X' Y' s₂ s') (k : Keeps s s₂) (kb : Kb wr s' s₁) (hw : ∀ b ∈ wr, s.heap.get? b = none) (hX : Live X s.heap) : Chg X Y (fun a => X' a ∧ a ∉ wr) Y' s s₁ := by
  have P := C.out (X0 := X) k hw fun _ => Iff.rfl
  have nw : ∀ a, (s.heap.get? a).isSome = true → a ∉ wr := fun a h q => by rw [hw a q] at h; cases h
  refine ⟨fun a o ha e => kb.2 a o (nw a (by rw [e]; rfl)) (P.but a o ha e), fun a x => ⟨P.xx a x, nw a (hX a x)⟩, P.yy, fun a x => P.xn a x.1, Nat.le_trans P.tk kb.tk⟩

/-- for .. in ..: all turns fall through -/
theorem StN.for_ (Γs : Nat → Gam) (hI : EvI c A env Γ iter tgt ds) (h0 : Sub (Γs 0) Γ)
    (hb : ∀ i d, ds[i]? = some d → ∃ Γ1, Asg c A env W tgt d (Γs i) Γ1 ∧ ExN c A env W Γ1 body (Γs (i + 1)))
    (hs : ∀ x, foldedSetIterable iter env x = pure x := by intro _; rfl) (ho : orelse = [] := by rfl) : StN c A env W Γ (.For tgt iter body orelse pos) (Γs ds.length) := by
  intro s0 Xo X Y s G eo F
  subst ho
  refine wpAny_For (wpAny_mono (hI X Y s (F.ok G eo)) (fun xv s₁ h₁ => wpAny_mono h₁ (fun it s₂ h₂ => ?_) fun _ _ x => x) fun _ _ x => x) hs
  obtain ⟨k, fp, wr, bs, vs, St, It, hst, hw, hfp, hsrc, hfa⟩ := h₂
  have al := It.alive _ _ hst
  obtain ⟨S0, C0⟩ := LoopSt.start (F.sub h0) k hw al hsrc
  have hw0 : ∀ b ∈ wr, s0.heap.get? b = none := fun b hb => by
    cases e : s0.heap.get? b with
    | none => rfl
    | some o => have := hw b hb; rw [(kp_ext F.kp).1 b o e] at this; cases this
  refine for_core Γs ds.length G eo It (fun b hb => ?_) hfa S0 hst hw0 (Nat.le_refl _) (fun i d _ h => hb i d h) fun X' Y' s' S hs C => ?_
  · by_cases q : b ∈ wr
    · exact .inl q
    · exact .inr fun h => h.elim ((hfp b hb).resolve_left q) q
  · refine pastNext (R := fun r s' => match r with | .ok f => (f = Flow.next ∧ ∃ X' Y', FS c s0 env W Xo X' Y' (Γs ds.length) s' ∧ Chg X Y X' Y' s s') | .error e => cameBackBy c.M A env NoE e s') (It.done s' hs) fun s₁ kb => wpAny_execs_nil ⟨rfl, _, Y', S.finish kb hw0 fun b hb h => ?_, C.fin k kb hw F.live⟩
    have := F.live b (F.out b h)
    rw [hw b hb] at this; cases this

/-- for .. in ..: the k-th turn hands back -/
theorem ExR.forRet (Γs : Nat → Gam) (k : Nat) {dk : D} (hI : EvI c A env Γ iter tgt ds) (h0 : Sub (Γs 0) Γ) (hk : ds[k]? = some dk)
    (hb : ∀ i d, i < k → ds[i]? = some d → ∃ Γ1, Asg c A env W tgt d (Γs i) Γ1 ∧ ExN c A env W Γ1 body (Γs (i + 1)))
    (ha : Asg c A env W tgt dk (Γs k) Γ1) (hr : ExR c A env W Γ1 body d)
    (hs : ∀ x, foldedSetIterable iter env x = pure x := by intro _; rfl) : ExR c A env W Γ (.For tgt iter body orelse pos :: ss) d := by
  intro s0 Xo X Y s G eo L F
  refine wpAny_execs_cons (wpAny_For (wpAny_mono (hI X Y s (F.ok G eo)) (fun xv s₁ h₁ => wpAny_mono h₁ (fun it s₂ h₂ => ?_) fun _ _ x => x) fun _ _ x => x) hs)
  obtain ⟨kp, fp, wr, bs, vs, St, It, hst, hw, hfp, hsrc, hfa⟩ := h₂
  have al := It.alive _ _ hst
  obtain ⟨S0, C0⟩ := LoopSt.start (F.sub h0) kp hw al hsrc
  have hw0 : ∀ b ∈ wr, s0.heap.get? b = none := fun b hb => by
    cases e : s0.heap.get? b with
    | none => rfl
    | some o => have := hw b hb; rw [(kp_ext F.kp).1 b o e] at this; cases this
  have hlt : k < ds.length := (List.getElem?_eq_some_iff.mp hk).1
  refine for_core Γs k G eo It (fun b hb => ?_) hfa S0 hst hw0 (Nat.le_of_lt hlt) hb fun X' Y' s' S hs C => ?_
  · by_cases q : b ∈ wr
    · exact .inl q
    · exact .inr fun h => h.elim ((hfp b hb).resolve_left q) q
  · simp only [forTurn]
    refine wpAny_bind (wpAny_standAt (wpAny_bind (wpAny_onRaise (wpAny_mono (It.item X' k s' _ hk hs S.fs.live S.wx S.src) (fun r s₁ h₁ => ?_) fun _ _ x => x.elim))))
    obtain ⟨v, rfl, h₁⟩ := h₁
    refine wpAny_bind (wpAny_mono h₁ (fun _ s₃ h₃ => ?_) fun _ _ x => x.elim)
    obtain ⟨kb, hs3, hv⟩ := h₃
    have S3 := S.step kb hw0 (It.alive _ _ hs3)
    refine wpAny_bind (wpAny_mono (ha s0 Xo X' Y' s₃ v G eo S3.fs hv) (fun _ s₄ h₄ => ?_) fun _ _ x => x.elim)
    refine wpAny_bind (wpAny_mono (hr s0 Xo X' Y' s₄ G eo L h₄.1) (fun fl s₅ h₅ => ?_) fun _ _ x => x.elim)
    obtain ⟨v, rfl, r⟩ := h₅
    exact wpAny_pure ⟨v, rfl, r⟩
end
end Mine

namespace Mine

abbrev envK (qual : Str) (scope : Scope) (L a : Addr) (cd : Value) : Env := envX qual scope L a cd (cellsFrom (L + 1) scope.names [])

/-- the arguments' binds, told by entries -/
inductive Binds (c : Cx) (X : Addr → Prop) (s : Shared) : List (Str × Value) → Gam → Prop
  | nil : Binds c X s [] []
  | cons {n : Str} {v : Value} {e : Ent} {bs : List (Str × Value)} {g : Gam} : EntAt X (fun _ => False) c.C s e v → Binds c X s bs g → Binds c X s ((n, v) :: bs) ((n, e) :: g)

theorem lookup_isSome_of_mem {α : Type} : ∀ {l : List (Str × α)} {n : Str} {a : α}, (n, a) ∈ l → (l.lookup n).isSome = true
  | (k, v) :: r, n, a, h => by
    rw [List.lookup_cons]
    cases hb : n == k with
    | true => rfl
    | false =>
      rcases List.mem_cons.mp h with e | h
      · cases e; simp at hb
      · exact lookup_isSome_of_mem h

section
variable {c : Cx} {A : Around} {env : Env} {W : List Str} {Γ Γ1 Γ2 Γ' : Gam} {st : Stmt} {ss body orelse : List Stmt} {e e1 e2 : Expr} {es : List Expr} {d d1 d2 : D} {ds : List D} {pos : Pos} {x : Str} {np : Pos} {b : Bool} {tgt iter : Expr}

theorem bindAll {s0 : Shared} {Xo X Y : Addr → Prop} (eo : EnvOk env) (f : Str × Value → PUnit → Sem (ForInStep PUnit)) (hf : ∀ n v u, f (n, v) u = (do storeName env n v; pure (.yield ⟨⟩))) :
    ∀ {bs : List (Str × Value)} {g : Gam} {Γ : Gam} {s : Shared}, Binds c X s bs g → (∀ p ∈ bs, env.kindOf p.1 = some .local ∨ p.1 ∈ W) → FS c s0 env W Xo X Y Γ s →
      wpAny c.M A (forIn bs ⟨⟩ f) (fun _ s' => FS c s0 env W Xo X Y (g.reverse ++ Γ) s') NoE s
  | [], _, Γ, s, .nil, _, F => by rw [List.forIn_nil]; exact wpAny_pure F
  | (n, v) :: bs, _, Γ, s, .cons (e := e) (g := g) h hb, hk, F => by
    rw [List.forIn_cons, hf]
    have he : EntAt X Y c.C s e v := h.imp (fun _ _ _ x => x) (fun _ x => x.elim) (fun _ _ _ e => e) (fun _ _ _ _ x _ _ => x.elim) (Nat.le_refl _)
    refine wpAny_bind (wpAny_bind (wpAny_mono (F.store eo he (hk _ List.mem_cons_self)) (fun _ s₁ q => wpAny_pure ?_) fun _ _ x => x))
    have hb' : Binds c X s₁ bs g := by
      have kk : ∀ {bs g}, Binds c X s bs g → Binds c X s₁ bs g := by
        intro bs g H
        induction H with
        | nil => exact .nil
        | cons h _ ih => exact .cons (h.imp (fun _ _ _ x => x) (fun _ x => x) (fun a o ha e => q.2.but a o (fun y => ha (F.yx a y)) e) (fun _ _ _ _ x _ _ => x.elim) q.2.tk) ih
      exact kk hb
    have := bindAll eo f hf hb' (fun p hp => hk p (List.mem_cons_of_mem _ hp)) q.1
    rw [List.reverse_cons, List.append_assoc]
    exact this

theorem lk_kind {scope : Scope} {n : Str} {k : NameKind} (h : scope.names.lookup n = some k) {qual : Str} {L a : Addr} {cd : Value} : (envK qual scope L a cd).kindOf n = some k := h

/-- into a def -/
theorem fnEnter {X : Addr → Prop} {s : Shared} {a : Addr} {args : Args} {binds : List (Str × Value)} {g : Gam} {R : Result → Shared → Prop} {o : Obj} {name qual : Str} {params : Arguments} {body : List Stmt} {scope : Scope} {dV kV doc pm cdv ct : Value} {an : Option Addr}
    (ho : s.heap.get? a = some o) (hd : o.data = .func (fnX name qual params body scope [] dV kV doc pm an cdv ct)) (hcd : s.heap.CodeRec cdv qual) (hlim : s.heap.NoLimit) (hroom : A.depth < recursionLimit)
    (L : Live X s.heap) (hbind : wpAny c.M A.in1 (bindArgs (fnX name qual params body scope [] dV kV doc pm an cdv ct) args) (fun bs s₁ => bs = binds ∧ Keeps s s₁ ∧ Binds c X s₁ binds g) NoE s)
    (hk : ∀ n ∈ binds.map (·.1), scope.names.lookup n = some .local ∨ n ∈ W)
    (hW : ∀ n ∈ W, scope.names.lookup n = some .cell)
    (h : ∀ L' s₁ X' Y', EnvOk (envK qual scope L' a cdv) → FS c s (envK qual scope L' a cdv) W X X' Y' g.reverse s₁ →
      wpAny c.M (A.deeper (envK qual scope L' a cdv)) (execs body (envK qual scope L' a cdv)) (fun fl s' => R (.ok (.ret (match fl with | .ret v => v | _ => .none))) s') NoE s₁)
    (hco : scope.isCoroutine = false := by rfl) (hgen : scope.isGenerator = false := by rfl) (hkf : scope.kind = .function := by rfl) :
    codeAny c.M A (.call (.ref a) args) R s := by
  refine codeAny_call_function hroom ho hd hco hgen rfl hcd (wpAny_mono hbind (fun bs s₁ q => ?_) fun _ _ x => x.elim)
  obtain ⟨rfl, k, hb⟩ := q
  have L1 := L.keeps (kp_ext k).1
  show wpAny c.M A.in1 (newFunctionEnv scope mainGlobals [] bs (qual ++ ".<locals>.") (some a) cdv none builtinsNs) _ _ s₁
  simp only [newFunctionEnv, Option.isSome_none, Bool.false_eq_true, if_false]
  refine wpAny_bind (wpAny_alloc ?_)
  refine wpAny_bind (wpAny_layCells _ (fun name kind cells => by cases hkc : kind == NameKind.cell <;> simp [hkc]) _ _ _ _ ?_)
  have ok := cellsFrom_ok scope.names (s₁.heap.push { cls := .type "frame", data := .dict #[] }) (s₁.heap.objs.size + 1) [] ⟨fun _ _ hm => (nomatch hm), List.Pairwise.nil⟩ (by rw [Heap.size_push]; exact Nat.le_refl _)
  rw [Heap.size_push] at ok
  rw [show ({ s₁ with heap := s₁.heap.push { cls := .type "frame", data := .dict #[] } } : Shared).heap.objs.size = s₁.heap.objs.size + 1 from Heap.size_push ..]
  generalize hcl : cellsFrom (s₁.heap.objs.size + 1) scope.names [] = cl at ok ⊢
  have eo : EnvOk (envX qual scope s₁.heap.objs.size a cdv cl) := ⟨hkf, rfl, rfl, fun x y b h1 h2 => name_of_addr ok.apart (mem_of_lookup h1) (mem_of_lookup h2)⟩
  have kp : ∀ b o, s₁.heap.get? b = some o → (pushCells (s₁.heap.push { cls := .type "frame", data := .dict #[] }) scope.names).get? b = some o := fun b o e => pushCells_keeps _ _ b o (Heap.get?_push_of_some _ e)
  have fresh : ∀ b, s₁.heap.objs.size ≤ b → s.heap.get? b = none := fun b hb => by
    cases e : s.heap.get? b with
    | none => rfl
    | some o => exact absurd (Heap.lt_size ((kp_ext k).1 b o e)) (Nat.not_lt.mpr hb)
  have fresh1 : ∀ b, s₁.heap.objs.size ≤ b → s₁.heap.get? b = none := fun b hb => by
    cases e : s₁.heap.get? b with
    | none => rfl
    | some o => exact absurd (Heap.lt_size e) (Nat.not_lt.mpr hb)
  have hns : (pushCells (s₁.heap.push { cls := .type "frame", data := .dict #[] }) scope.names).Ns s₁.heap.objs.size (fun _ => none) := (Heap.Ns.new s₁.heap (.type "frame")).keeps (pushCells_keeps _ _)
  have F : FS c s (envX qual scope s₁.heap.objs.size a cdv cl) W X (fun b => X b ∨ b = s₁.heap.objs.size ∨ ∃ n, (n, b) ∈ cl) (fun b => b = s₁.heap.objs.size ∨ ∃ n, (n, b) ∈ cl) []
      { s₁ with heap := pushCells (s₁.heap.push { cls := .type "frame", data := .dict #[] }) scope.names } := by
    refine ⟨kp_trans k ⟨_, s₁.toks, rfl, kp, Nat.le_refl _⟩, fun b hb => ?_, fun b hb => .inl hb, fun b hb => .inr hb, fun b hb => ?_, .inl rfl, ⟨_, hns, fun _ _ l => (nomatch l)⟩, fun _ _ l => (nomatch l), fun n hn => ?_⟩
    · rcases hb with hb | rfl | ⟨n, hb⟩
      · exact (L1.keeps kp) b hb
      · exact ns_some hns
      · exact cell_some (ok.empty n b hb).1
    · rcases hb with rfl | ⟨n, hb⟩
      · exact fresh _ (Nat.le_refl _)
      · exact fresh _ (Nat.le_of_succ_le (ok.empty n b hb).2)
    · have hmem : (n, NameKind.cell) ∈ scope.names := mem_of_lookup (hW n hn)
      have hs : ((cellsFrom (s₁.heap.objs.size + 1) scope.names []).lookup n).isSome = true := cellsFrom_some _ _ _ (.inl (hW n hn))
      rw [hcl] at hs
      obtain ⟨b, hb⟩ := Option.isSome_iff_exists.mp hs
      have hm := mem_of_lookup hb
      exact ⟨hW n hn, b, none, hb, .inr ⟨n, hm⟩, (ok.empty n b hm).1⟩
  have hb' : Binds c (fun b => X b ∨ b = s₁.heap.objs.size ∨ ∃ n, (n, b) ∈ cl) { s₁ with heap := pushCells (s₁.heap.push { cls := .type "frame", data := .dict #[] }) scope.names } bs g := by
    have kk : ∀ {bs g}, Binds c X s₁ bs g → Binds c (fun b => X b ∨ b = s₁.heap.objs.size ∨ ∃ n, (n, b) ∈ cl) { s₁ with heap := pushCells (s₁.heap.push { cls := .type "frame", data := .dict #[] }) scope.names } bs g := by
      intro bs g H
      induction H with
      | nil => exact .nil
      | cons h _ ih =>
        refine .cons ?_ ih
        refine (h.imp (s' := s₁) (X' := fun b => X b ∨ b = s₁.heap.objs.size ∨ ∃ n, (n, b) ∈ cl) (Y' := fun _ => False) (fun b o e hx hh => ?_) (fun _ x => x) (fun _ _ _ e => e) (fun _ _ _ _ x _ _ => x.elim) (Nat.le_refl _)).keeps ⟨kp, Nat.le_refl _⟩
        rcases hh with hh | rfl | ⟨n, hh⟩
        · exact hx hh
        · exact absurd (Heap.lt_size e) (Nat.lt_irrefl _)
        · exact absurd (Heap.lt_size e) (Nat.not_lt.mpr (Nat.le_of_succ_le (ok.empty n b hh).2))
    exact kk hb
  refine wpAny_bind (wpAny_mono (bindAll (A := A.in1) eo _ (fun _ _ _ => rfl) hb' (fun p hp => hk _ (List.mem_map_of_mem hp)) F) (fun _ s₂ F2 => ?_) fun _ _ x => x.elim)
  rw [List.append_nil] at F2
  subst hcl
  refine wpAny_pure ⟨hlim.keeps (kp_ext F2.kp).1, codeAny_func (wpAny_mono (h _ s₂ _ _ eo F2) (fun _ _ x => x) fun _ _ x => x.elim)⟩
end
end Mine

namespace Mine

def Ent.frz : Ent → Bool
  | .d _ => true
  | .s _ => true
  | _ => false

section
variable {c : Cx} {A : Around} {env : Env} {W : List Str} {Γ Γ1 Γ2 Γ' : Gam} {st : Stmt} {ss body orelse : List Stmt} {e e1 e2 : Expr} {es : List Expr} {d d1 d2 : D} {ds : List D} {pos : Pos} {x : Str} {np : Pos} {b : Bool} {tgt iter : Expr}

/-- a def's call -/
theorem Fn {a : Addr} {oc : Value} {od : Option Addr} {osl : Array (Option Value)} {name qual : Str} {params : Arguments} {body : List Stmt} {scope : Scope} {dV kV doc pm cdv ct : Value} {an : Option Addr}
    (ho : c.K.lookup a = some ⟨oc, od, .func (fnX name qual params body scope [] dV kV doc pm an cdv ct), osl⟩) (hcd : codeIn c.K cdv qual = true) (hroom : A.depth < recursionLimit)
    (W : List Str) (names : List Str) (hbind : ∀ vs : List Value, vs.length = names.length → bindArgs (fnX name qual params body scope [] dV kV doc pm an cdv ct) ⟨vs, []⟩ = pure (names.zip vs)) (hlen : names.length = ds.length)
    (hk : ∀ n ∈ names, scope.names.lookup n = some .local ∨ n ∈ W) (hW : ∀ n ∈ W, scope.names.lookup n = some .cell)
    (hb : ∀ L', ExR c (A.deeper (envK qual scope L' a cdv)) (envK qual scope L' a cdv) W (names.zip (ds.map Ent.d)).reverse body d)
    (hco : scope.isCoroutine = false := by rfl) (hgen : scope.isGenerator = false := by rfl) (hkf : scope.kind = .function := by rfl) : Tr c A ds (K1 (.ref a)) d := by
  intro X s vs L G H
  have hl : vs.length = names.length := by rw [H.length, hlen]
  have hz : ∀ {names : List Str} {vs : List Value} {ds : List D}, vs.length = names.length → AtAll X c.C s ds vs → Binds c X s (names.zip vs) (names.zip (ds.map Ent.d)) := by
    intro names
    induction names with
    | nil => intro vs ds _ _; exact .nil
    | cons n ns ih =>
      intro vs ds h H
      cases vs with
      | nil => cases h
      | cons v vs =>
        cases ds with
        | nil => simp only [AtAll] at H; cases H
        | cons d ds =>
          simp only [AtAll] at H
          obtain ⟨_, _, e, h1, h2⟩ := H
          cases e
          exact .cons h1 (ih (Nat.succ.inj h) h2)
  have ho' := G.inK _ _ ho
  refine wpAny_call (fnEnter ho' rfl (codeRec_of G.inK hcd) G.top.nolimit hroom L (binds := names.zip vs) (g := names.zip (ds.map Ent.d)) ?_ ?_ hW (fun L' s₁ X' Y' eo F => ?_) hco hgen hkf)
  · rw [hbind vs hl]
    exact wpAny_pure ⟨rfl, kp_refl s, hz hl H⟩
  · intro n hn
    obtain ⟨p, hp, rfl⟩ := List.mem_map.mp hn
    exact hk _ (List.of_mem_zip hp).1
  · refine wpAny_mono (hb L' s X X' Y' s₁ G eo L F) (fun fl s₂ q => ?_) fun _ _ x => x
    obtain ⟨v, rfl, k, h⟩ := q
    exact ⟨k, h⟩

theorem data_of_IsList {h : Heap} {a : Addr} {vs : Array Value} (hl : h.IsList a vs) : ∃ o n, h.get? a = some o ∧ o.data = .seq vs n := let ⟨o, ho, _, n, hd⟩ := hl; ⟨o, n, ho, hd⟩

/-- a list of the frame's own is changed -/
theorem FS.setList {s0 s s' : Shared} {Xo X Y : Addr → Prop} {D : Addr} {m : Str → Option Value} {e' : Ent} (F : FS c s0 env W Xo X Y Γ s) (hse : ∃ h tk, s' = { s with heap := h, toks := tk }) (hn : s.heap.Ns env.locals m)
    (hall : ∀ y e, Γ.lookup y = some e → env.kindOf y = some .local → ∃ v, m y = some v ∧ EntAt X Y c.C s e v)
    (hx : (env.kindOf x = some .local ∧ ∃ v, m x = some v ∧ EntAt X Y c.C s' e' v) ∨ (env.kindOf x ≠ some .local ∧ (env.kindOf x = some .cell ∨ env.kindOf x = some .free) ∧ ∃ a v, env.cells.lookup x = some a ∧ s.heap.IsCell a (some v) ∧ EntAt X Y c.C s' e' v ∧ (Y a ∨ (s0.heap.get? a).isSome = true)))
    (hfr : ∀ y e, y ≠ x → Γ.lookup y = some e → e.frz = true) (hD : Y D) (hl : ∃ o xs n, s.heap.get? D = some o ∧ o.data = .seq xs n) (hs : ∀ b o, b ≠ D → s.heap.get? b = some o → s'.heap.get? b = some o) (hal : (s'.heap.get? D).isSome = true) (ht : s.toks ≤ s'.toks) :
    FS c s0 env W Xo X Y ((x, e') :: Γ) s' ∧ Chg X Y X Y s s' := by
  obtain ⟨o, xs, n, hg, hd⟩ := hl
  have nL : env.locals ≠ D := fun q => (ns_not_seq hn hg hd) q.symm
  have nC : ∀ {a ov}, s.heap.IsCell a ov → a ≠ D := fun hc q => (cell_not_seq hc hg hd) q.symm
  have hX := F.yx _ hD
  have frz : ∀ {en v}, en.frz = true → EntAt X Y c.C s en v → EntAt X Y c.C s' en v := by
    intro en v hf H
    cases en with
    | d d => exact At.but H (fun a o ha e => hs a o (fun q => ha (q ▸ hX)) e) ht
    | s ns =>
      obtain ⟨a, vs, rfl, hx, ht, hr⟩ := H
      exact ⟨a, vs, rfl, hx, ht.at fun o e => hs a o (fun q => hx (q ▸ hX)) e, hr⟩
    | _ => cases hf
  have lk : ∀ {y : Str} {e2 : Ent}, List.lookup y ((x, e') :: Γ) = some e2 → (y = x ∧ e2 = e') ∨ (y ≠ x ∧ Γ.lookup y = some e2) := by
    intro y e2 h
    rw [List.lookup_cons] at h
    cases hb : y == x with
    | true => rw [hb] at h; cases h; exact .inl ⟨beq_iff_eq.mp hb, rfl⟩
    | false => rw [hb] at h; exact .inr ⟨fun q => by rw [q] at hb; simp at hb, h⟩
  have cell : ∀ {a ov}, s.heap.IsCell a ov → s'.heap.IsCell a ov := fun hc => let ⟨o, e, r⟩ := id hc; ⟨o, hs _ _ (nC hc) e, r⟩
  have hkp : Keeps s0 s' := by
    obtain ⟨hz, tz, ez, kz⟩ := F.kp
    obtain ⟨h', tk, e'⟩ := hse
    refine ⟨h', tk, by rw [e', ez], fun b o q => hs b o (fun q' => ?_) (kz.1 b o q), Nat.le_trans kz.2 ht⟩
    rw [q', F.yfr _ hD] at q; cases q
  refine ⟨⟨hkp, fun a ha => ?_, F.out, F.yx, F.yfr, F.yL, ⟨m, hn.at' fun o e => hs _ o nL e, fun y e2 l k => ?_⟩, fun y e2 l k => ?_, fun y hy => ?_⟩,
    fun a o ha q => hs a o (fun q' => ha (q' ▸ hD)) q, fun _ x => x, fun _ y => .inl y, fun _ x => .inl x, ht⟩
  · by_cases q : a = D
    · rw [q]; exact hal
    · obtain ⟨o, e⟩ := Option.isSome_iff_exists.mp (F.live a ha)
      rw [hs a o q e]; rfl
  · rcases lk l with ⟨rfl, rfl⟩ | ⟨hne, l⟩
    · rcases hx with ⟨_, h⟩ | ⟨h, _⟩
      · exact h
      · exact absurd k h
    · obtain ⟨v, hv, hE⟩ := hall y e2 l k
      exact ⟨v, hv, frz (hfr y e2 hne l) hE⟩
  · rcases lk l with ⟨rfl, rfl⟩ | ⟨hne, l⟩
    · rcases hx with ⟨h, _⟩ | ⟨_, k', a, v, h1, h2, h3, h4⟩
      · exact absurd h k
      · exact ⟨k', a, v, h1, cell h2, h3, h4⟩
    · obtain ⟨k', a, v, h1, h2, h3, h4⟩ := F.cel y e2 l k
      exact ⟨k', a, v, h1, cell h2, frz (hfr y e2 hne l) h3, h4⟩
  · obtain ⟨k', a, ov, h1, h2, h3⟩ := F.own y hy
    exact ⟨k', a, ov, h1, h2, cell h3⟩

def onlyM (x : Str) (Γ : Gam) : Bool := Γ.all fun p => p.1 == x || p.2.frz
theorem onlyM_frz {x : Str} {Γ : Gam} (h : onlyM x Γ = true) : ∀ y e, y ≠ x → Γ.lookup y = some e → e.frz = true := fun y e hne l => by
  have := List.all_eq_true.mp h _ (mem_of_lookup l)
  rcases Bool.or_eq_true_iff.mp this with q | q
  · exact absurd (beq_iff_eq.mp q) hne
  · exact q

/-- x.append(e) -/
theorem StN.append {ap cp : Pos} (hl : Γ.lookup x = some (.m ds)) (h : Ev c A env Γ e d) (hk : env.kindOf x = some .local) (hfr : onlyM x Γ = true) (hz : ds.length ≤ 1000000)
    (hi : interactive env = false := by rfl) (hsw : swapsWith (.Call (.Attribute (.Name x np) "append" ap) [e] [] cp) none pos.line env = pure false := by rfl)
    (hbase : attributeBase (.Name x np) "append" env (eval (.Name x np) env) = eval (.Name x np) env := by rfl) (hline : (ap.endLine == cp.line) = true := by rfl) (htrees : backTo cp (starEach [e] env) = [(false, eval e env)] := by rfl)
    (hd : (x == ("__debug__" : Str)) = false := by decide) :
    StN c A env W Γ (.Expr (.Call (.Attribute (.Name x np) "append" ap) [e] [] cp) pos) ((x, .m (ds ++ [d])) :: Γ) := by
  intro s0 Xo X Y s G eo F
  have O := F.ok G eo
  obtain ⟨m, hn, hall⟩ := F.loc
  obtain ⟨v, hv, hE⟩ := hall x _ hl hk
  obtain ⟨D, vs, rfl, hY, ⟨n, ho⟩, hr⟩ := id hE
  refine wpAny_Expr (wpAny_Call_append hbase ?_ hline htrees ?_) hi hsw
  · rw [htrees]; rfl
  refine wpAny_Name (wpAny_loadName_local eo.fn hk hn hv ⟨D, vs, rfl, ⟨_, n, ho, rfl, rfl, rfl⟩, wpAny_mono (h X Y s O) (fun u s₁ q => ?_) fun _ _ x => x⟩) hd
  have k := kp_ext q.1
  have F1 := F.keeps q.1
  have hlen := hr.length
  simp only [Array.length_toList] at hlen
  refine append_at (k.1 _ _ ho) (fun h' hs hg => ?_) (by rw [hlen]; exact Nat.le_trans hz (by decide))
  have hX := F.yx _ hY
  have z := FS.setList (x := x) (e' := .m (ds ++ [d])) (s' := { s₁ with heap := h' }) F1 ⟨h', s₁.toks, rfl⟩ (hn.keeps k.1) (fun y e l k' => let ⟨v, a, b⟩ := hall y e l k'; ⟨v, a, b.keeps k⟩)
    (.inl ⟨hk, _, hv, ⟨D, vs.push u, rfl, hY, ⟨_, hg⟩, by
      rw [Array.toList_push]
      exact ((hr.keeps k).append (.cons q.2 .nil)).but (fun a o ha e => same_get hs (fun q => ha (q ▸ hX)) e) (Nat.le_refl _)⟩⟩) (onlyM_frz hfr) hY ⟨_, _, _, k.1 _ _ ho, rfl⟩ (fun b o n e => same_get hs n e) (by show (h'.get? D).isSome = true; rw [hg]; rfl) (Nat.le_refl _)
  exact ⟨rfl, X, Y, z.1, (Chg.keeps q.1).trans z.2 F.yx⟩

theorem AtAll.set {X : Addr → Prop} {C : Addr} {s : Shared} {v : Value} : ∀ {ds : List D} {vs : List Value} {k : Nat}, AtAll X C s ds vs → At X C s d v → AtAll X C s (ds.set k d) (vs.set k v)
  | [], vs, k, H, _ => by simp only [AtAll] at H; rw [H]; exact .nil
  | d' :: ds, vs, k, H, hv => by
    simp only [AtAll] at H
    obtain ⟨u, r, rfl, h1, h2⟩ := H
    cases k with
    | zero => exact .cons hv h2
    | succ k => exact .cons h1 (AtAll.set h2 hv)

/-- what a list that is being filled holds -/
theorem ent_list {X Y : Addr → Prop} {C : Addr} {s : Shared} {en : Ent} {v : Value} (he : en = .m ds ∨ en = .mw ds) (H : EntAt X Y C s en v) : ∃ a vs, v = .ref a ∧ Y a ∧ s.heap.IsList a vs ∧ AtAll X C s ds vs.toList := by
  rcases he with rfl | rfl
  · obtain ⟨a, vs, rfl, hy, hp, hr⟩ := H; exact ⟨a, vs, rfl, hy, hp.isList, hr⟩
  · exact H

/-- x[i] = e -/
theorem StN.setItem {ip : Pos} {i : Expr} {k : Int} {en : Ent} (hl : Γ.lookup x = some en) (hen : en = .m ds ∨ en = .mw ds) (h : Ev c A env Γ e d) (hi : Ev c A env Γ i (.int k)) (hk : env.kindOf x = some .local) (hfr : onlyM x Γ = true) (h0 : 0 ≤ k) (h1 : k < ds.length) (hz : ds.length ≤ 1000000)
    (hsw : swapsWith e (some (.Subscript (.Name x np) i ip)) pos.line env = pure false := by rfl) (hd : (x == ("__debug__" : Str)) = false := by decide) :
    StN c A env W Γ (.Assign [.Subscript (.Name x np) i ip] e pos) ((x, .mw (ds.set k.toNat d)) :: Γ) := by
  intro s0 Xo X Y s G eo F
  have O := F.ok G eo
  obtain ⟨m, hn, hall⟩ := F.loc
  obtain ⟨v, hv, hE⟩ := hall x _ hl hk
  obtain ⟨D, vs, rfl, hY, hlst, hr⟩ := ent_list hen hE
  refine wpAny_Assign_Subscript (wpAny_mono (h X Y s O) (fun u s₁ q => ?_) fun _ _ x => x) hsw
  have k1 := kp_ext q.1
  refine wpAny_Name (wpAny_loadName_local eo.fn hk (hn.keeps k1.1) hv (wpAny_mono (hi X Y s₁ (O.keeps k1)) (fun iv s₂ q2 => ?_) fun _ _ x => x)) hd
  have hiv := q2.2
  simp only [At] at hiv
  obtain ⟨t, rfl⟩ := hiv
  have k2 := kp_ext q2.1
  have kk := kp_trans q.1 q2.1
  have k12 := kp_ext kk
  have hlen := hr.length
  simp only [Array.length_toList] at hlen
  have hl2 : s₂.heap.IsList D vs := hlst.at fun o e => k12.1 D o e
  refine wpAny_setItem_list hl2 h0 (by omega) (by omega) fun h' hg hs => ?_
  have hX := F.yx _ hY
  obtain ⟨o', ho', _⟩ := id hg
  obtain ⟨o2, n2, ho2, hd2⟩ := data_of_IsList hl2
  have z := FS.setList (x := x) (e' := .mw (ds.set k.toNat d)) (s' := { s₂ with heap := h' }) (F.keeps kk) ⟨h', s₂.toks, rfl⟩ (hn.keeps k12.1) (fun y e l k' => let ⟨v, a, b⟩ := hall y e l k'; ⟨v, a, b.keeps k12⟩)
    (.inl ⟨hk, _, hv, ⟨D, vs.setIfInBounds k.toNat u, rfl, hY, hg, by
      rw [Array.toList_setIfInBounds]
      exact ((hr.keeps k12).set (q.2.keeps k2)).but (fun a o ha e => same_get hs (fun q => ha (q ▸ hX)) e) (Nat.le_refl _)⟩⟩) (onlyM_frz hfr) hY ⟨_, _, _, ho2, hd2⟩ (fun b o n e => same_get hs n e) (by show (h'.get? D).isSome = true; rw [ho']; rfl) (Nat.le_refl _)
  exact ⟨rfl, X, Y, z.1, (Chg.keeps kk).trans z.2 F.yx⟩

/-- x[i], x a list that is being filled -/
theorem Ev.subM {i : Expr} {k : Int} {en : Ent} (hl : Γ.lookup x = some en) (hen : en = .m ds ∨ en = .mw ds) (hi : Ev c A env Γ i (.int k)) (h0 : 0 ≤ k) (h1 : k < 2 ^ 63) (hx : ds[k.toNat]? = some d)
    (hd : (x == ("__debug__" : Str)) = false := by decide) (hn : (x == ("__classdict__" : Str)) = false := by decide) : Ev c A env Γ (.Subscript (.Name x np) i pos) d := by
  intro X Y s O
  refine Subscript_ (wpAny_mono (nameE hl hd hn X Y s O) (fun v s₁ q => ?_) fun _ _ x => x)
  obtain ⟨rfl, hE⟩ := q
  obtain ⟨D, vs, rfl, hY, hlst, hr⟩ := ent_list hen hE
  refine wpAny_mono (hi X Y s₁ O) (fun iv s₂ q2 => ?_) fun _ _ x => x
  have hiv := q2.2
  simp only [At] at hiv
  obtain ⟨t, rfl⟩ := hiv
  have k2 := kp_ext q2.1
  have hl2 : s₂.heap.IsList D vs := hlst.at fun o e => k2.1 D o e
  obtain ⟨u, hu, ha⟩ := hr.get hx
  exact tailAny hl2.typeIs slot_list_getitem.lookup (wpAny_getItem_list hl2 h0 h1 (by simpa using hu) ⟨q2.1, ha.keeps k2⟩)
end
end Mine

namespace Mine

theorem cellsFrom_acc : ∀ (names : List (Str × NameKind)) (n : Nat) (acc : List (Str × Addr)), cellsFrom n names acc = cellsFrom n names [] ++ acc
  | [], _, _ => rfl
  | (x, k) :: r, n, acc => by
    unfold cellsFrom
    split
    · rw [cellsFrom_acc r (n + 1) ((x, n) :: acc), cellsFrom_acc r (n + 1) [(x, n)], List.append_assoc]; rfl
    · exact cellsFrom_acc r n acc

def cenvK (scope : Scope) (cl : List (Str × Addr)) (C : Addr) (env : Env) : Env :=
  { scope := relabel scope env, locals := C, globals := env.globals, cells := cellsFrom (C + 1) scope.names cl, qual := env.qual, func := none, code := env.code, frame := env.frame, builtins := env.builtins }

section
variable {c : Cx} {A : Around} {env cenv : Env} {W Wc : List Str} {Γ Γ1 Γ2 Γ' : Gam} {e e1 e2 elt : Expr} {es ifs : List Expr} {d d1 d2 : D} {ds src : List D} {pos : Pos} {x : Str} {np : Pos} {b : Bool} {tgt iter : Expr}

def Tst (c : Cx) (A : Around) (env : Env) (Γ : Gam) (ifs : List Expr) (b : Bool) : Prop :=
  ∀ X Y s, Ok c env X Y Γ s → wpAny c.M A (forIn ifs true fun c r => if r = true then do let ok ← isTrue c env (eval c env); pure (ForInStep.yield ok) else pure (ForInStep.yield r)) (fun ok s' => Keeps s s' ∧ ok = b) NoE s
theorem Tst.nil : Tst c A env Γ [] true := fun _ _ s _ => wpAny_tests_nil ⟨kp_refl s, rfl⟩
theorem Tst.one (h : EvB c A env Γ e b) : Tst c A env Γ [e] b := fun X Y s O => wpAny_tests_one (h X Y s O)

def ElN (c : Cx) (A : Around) (env : Env) (W : List Str) (Γ : Gam) (e : Expr) (d : D) (Γ' : Gam) : Prop :=
  ∀ s0 Xo X Y s, Gd c s0 → EnvOk env → FS c s0 env W Xo X Y Γ s → wpAny c.M A (eval e env) (fun v s' => FS c s0 env W Xo X Y Γ' s' ∧ Chg X Y X Y s s' ∧ At X c.C s' d v) NoE s
theorem ElN.of (h : Ev c A env Γ e d) : ElN c A env W Γ e d Γ := fun _ _ X Y s G eo F => wpAny_mono (h X Y s (F.ok G eo)) (fun _ _ q => ⟨F.keeps q.1, Chg.keeps q.1, q.2⟩) fun _ _ x => x

theorem LoopSt.fsub {s0 s : Shared} {Xo X Y : Addr → Prop} {wr : List Addr} {bs : List D} {vs : List Value} (S : LoopSt c s0 env W Xo X Y wr bs vs Γ s) (h : Sub Γ' Γ) : LoopSt c s0 env W Xo X Y wr bs vs Γ' s := ⟨S.fs.sub h, S.src, S.wx, S.wy⟩
theorem LoopSt.move {s0 s s' : Shared} {Xo X Y : Addr → Prop} {wr : List Addr} {bs : List D} {vs : List Value} (S : LoopSt c s0 env W Xo X Y wr bs vs Γ s) (F : FS c s0 env W Xo X Y Γ' s') (C : Chg X Y X Y s s') : LoopSt c s0 env W Xo X Y wr bs vs Γ' s' :=
  ⟨F, S.src.but (fun a o ha e => C.but a o (fun y => ha (S.fs.yx a y)) e) C.tk, S.wx, S.wy⟩

/-- what a comprehension's turn does to the rest -/
structure ChgC (wr : List Addr) (X Y : Addr → Prop) (s s' : Shared) : Prop where
  but : ∀ a o, ¬ Y a → a ∉ wr → s.heap.get? a = some o → s'.heap.get? a = some o
  tk : s.toks ≤ s'.toks
theorem ChgC.trans {wr : List Addr} {X Y : Addr → Prop} {s s' s'' : Shared} (p : ChgC wr X Y s s') (q : ChgC wr X Y s' s'') : ChgC wr X Y s s'' := ⟨fun a o h n e => q.but a o h n (p.but a o h n e), Nat.le_trans p.tk q.tk⟩
theorem ChgC.ofKb {wr wr' : List Addr} {X Y : Addr → Prop} {s s' : Shared} (k : Kb wr s s') (h : ∀ a ∈ wr, a ∈ wr') : ChgC wr' X Y s s' := ⟨fun a o _ n e => k.2 a o (fun q => n (h a q)) e, k.tk⟩
theorem ChgC.ofChg {wr : List Addr} {X Y : Addr → Prop} {s s' : Shared} (k : Chg X Y X Y s s') : ChgC wr X Y s s' := ⟨fun a o h _ e => k.but a o h e, k.tk⟩

theorem comp_loop {R : Result → Shared → Prop} {s0 s₂ : Shared} {Xo X Y : Addr → Prop} {it : Value} {fp wr : List Addr} {bs : List D} {vs : List Value} {St : Nat → Heap → Prop} {scope : Scope} {D : Addr} (Γs : Nat → Gam) (f : Nat → Option Mine.D)
    (G : Gd c s0) (eo : EnvOk cenv) (It : Itr c A tgt it fp wr bs vs src St) (hfp : ∀ b ∈ fp, b ∈ wr ∨ ¬ X b) (hDf : D ∉ fp)
    (S0 : LoopSt c s0 cenv Wc Xo X Y (D :: wr) bs vs (Γs 0) s₂) (hst : St 0 s₂.heap) (hD : s₂.heap.PlainList D #[]) (hw0 : ∀ b ∈ D :: wr, s0.heap.get? b = none) (hz : src.length ≤ 1000000)
    (hitem : ∀ i d, src[i]? = some d → ∃ Γ1, Asg c A cenv Wc tgt d (Γs i) Γ1 ∧ ∃ b, Tst c A cenv Γ1 ifs b ∧ (b = false → f i = none ∧ Sub (Γs (i + 1)) Γ1) ∧
      (b = true → ∃ d', f i = some d' ∧ ∃ Γ2, ElN c A cenv Wc Γ1 elt d' Γ2 ∧ Sub (Γs (i + 1)) Γ2))
    (hend : ∀ s' ys, LoopSt c s0 cenv Wc Xo X Y (D :: wr) bs vs (Γs src.length) s' → s'.heap.PlainList D ys → AtAll X c.C s' ((List.range src.length).filterMap f) ys.toList → ChgC (D :: wr) X Y s₂ s' → ∀ s'', Kb wr s' s'' → R (.ok .next) s'') :
    codeAny c.M A (.compLoop (.ListComp elt [⟨tgt, iter, ifs, 0⟩] scope pos) 0 it (.ref D) cenv) R s₂ := by
  refine codeAny_loop rfl (fun n s' => ∃ i ys, i ≤ src.length ∧ n = src.length - i ∧ LoopSt c s0 cenv Wc Xo X Y (D :: wr) bs vs (Γs i) s' ∧ St i s'.heap ∧ s'.heap.PlainList D ys ∧ ys.size ≤ i ∧ AtAll X c.C s' ((List.range i).filterMap f) ys.toList ∧ ChgC (D :: wr) X Y s₂ s') ?_ src.length
    ⟨0, #[], Nat.zero_le _, rfl, S0, hst, hD, Nat.le_refl _, .nil, ⟨fun _ _ _ _ e => e, Nat.le_refl _⟩⟩
  rintro n s' ⟨i, ys, hi, rfl, S, hs, hp, hys, hr, C⟩
  show wpAny _ A ((compTurn (.ListComp elt [⟨tgt, iter, ifs, 0⟩] scope pos) 0 it (.ref D) cenv).onRaise (fun x => do noteFrame x cenv; theTreesLotGoes x)) _ _ s'
  refine wpAny_noted ?_
  rw [compTurn_list]
  have hDX : X D := S0.wx D List.mem_cons_self
  have hDY : ¬ Y D := S0.wy D List.mem_cons_self
  have hDw : D ∉ wr := fun h => hDf (It.sub D h)
  by_cases hin : i = src.length
  · subst hin
    refine wpAny_bind (wpAny_standAt (wpAny_bind (wpAny_mono (It.done s' hs) (fun r s₁ h₁ => ?_) fun _ _ x => x.elim)))
    obtain ⟨rfl, kb⟩ := h₁
    exact wpAny_pure (hend s' ys S hp hr C s₁ kb)
  · have hlt : i < src.length := Nat.lt_of_le_of_ne hi hin
    obtain ⟨Γ1, ha, b, ht, hf, htr⟩ := hitem i _ (List.getElem?_eq_getElem hlt)
    refine wpAny_bind (wpAny_standAt (wpAny_bind (wpAny_mono (It.item X i s' _ (List.getElem?_eq_getElem hlt) hs S.fs.live (fun b hb => S.wx b (List.mem_cons_of_mem _ hb)) S.src) (fun r s₁ h₁ => ?_) fun _ _ x => x.elim)))
    obtain ⟨v, rfl, h₁⟩ := h₁
    refine wpAny_bind (wpAny_mono h₁ (fun _ s₃ h₃ => ?_) fun _ _ x => x.elim)
    obtain ⟨kb, hs3, hv⟩ := h₃
    have kb' : Kb (D :: wr) s' s₃ := ⟨kb.1, fun b o n e => kb.2 b o (fun q => n (List.mem_cons_of_mem _ q)) e⟩
    have hp3 : s₃.heap.PlainList D ys := hp.at fun o e => kb.2 D o hDw e
    have S3 := S.step kb' hw0 (fun b hb => by
      rcases List.mem_cons.mp hb with rfl | hb
      · obtain ⟨n, e⟩ := hp3; rw [e]; rfl
      · exact It.alive _ _ hs3 b hb)
    have hr3 : AtAll X c.C s₃ ((List.range i).filterMap f) ys.toList := hr.kb S.wx kb'
    refine wpAny_bind (wpAny_mono (ha s0 Xo X Y s₃ v G eo S3.fs hv) (fun _ s₄ h₄ => ?_) fun _ _ x => x.elim)
    obtain ⟨F4, C4⟩ := h₄
    have S4 := S3.move F4 C4
    refine wpAny_bind (wpAny_mono (ht X Y s₄ (F4.ok G eo)) (fun ok s₅ h₅ => ?_) fun _ _ x => x.elim)
    obtain ⟨k5, rfl⟩ := h₅
    have S5 := S4.move (F4.keeps k5) (Chg.keeps k5)
    have C45 : Chg X Y X Y s₃ s₅ := C4.trans (Chg.keeps k5) S.fs.yx
    have stf : ∀ {sa sb : Shared}, Chg X Y X Y sa sb → St (i + 1) sa.heap → St (i + 1) sb.heap := fun q h => It.frame _ _ _ h fun b hb o e => q.but b o (fun y => by
      rcases hfp b hb with h | h
      · exact S.wy b (List.mem_cons_of_mem _ h) y
      · exact h (S.fs.yx b y)) e
    have hrange : (List.range (i + 1)).filterMap f = (List.range i).filterMap f ++ (f i).toList := by
      rw [List.range_succ, List.filterMap_append]
      simp only [List.filterMap_cons, List.filterMap_nil]
      cases f i <;> rfl
    cases ok with
    | false =>
      obtain ⟨h1, h2⟩ := hf rfl
      refine wpAny_pure ⟨rfl, src.length - (i + 1), by omega, i + 1, ys, hlt, rfl, S5.fsub h2, stf C45 hs3, hp3.at fun o e => C45.but D o hDY e, Nat.le_succ_of_le hys, ?_, (C.trans (ChgC.ofKb kb' fun _ h => h)).trans (ChgC.ofChg C45)⟩
      rw [hrange, h1, Option.toList_none, List.append_nil]
      exact hr3.but (fun a o ha e => C45.but a o (fun y => ha (S.fs.yx a y)) e) C45.tk
    | true =>
      obtain ⟨d', h1, Γ2, h2, h3⟩ := htr rfl
      refine wpAny_bind (wpAny_bind (wpAny_mono (h2 s0 Xo X Y s₅ G eo S5.fs) (fun y s₆ h₆ => ?_) fun _ _ x => x.elim))
      obtain ⟨F6, C6, hy⟩ := h₆
      have C36 : Chg X Y X Y s₃ s₆ := C45.trans C6 S.fs.yx
      have S6 := S5.move F6 C6
      obtain ⟨n6, hp6⟩ : s₆.heap.PlainList D ys := hp3.at fun o e => C36.but D o hDY e
      refine wpAny_bind (append_at hp6 (fun h' hsb hg => ?_) (Nat.le_trans hys (Nat.le_trans hi (Nat.le_trans hz (by decide)))))
      have kD : Kb (D :: wr) s₆ { s₆ with heap := h' } := ⟨⟨h', s₆.toks, rfl, Nat.le_refl _⟩, fun b o n e => same_get hsb (fun q => n (q ▸ List.mem_cons_self)) e⟩
      have hst6 := stf C36 hs3
      have hst7 : St (i + 1) h' := It.frame _ _ _ hst6 fun b hb o e => same_get hsb (fun q => hDf (q ▸ hb)) e
      have S7 := S6.step kD hw0 (fun b hb => by
        rcases List.mem_cons.mp hb with rfl | hb
        · show (h'.get? _).isSome = true; rw [hg]; rfl
        · exact It.alive _ _ hst7 b hb)
      refine wpAny_pure (wpAny_pure ⟨rfl, src.length - (i + 1), by omega, i + 1, ys.push y, hlt, rfl, S7.fsub h3, hst7, ⟨_, hg⟩, by rw [Array.size_push]; omega, ?_, ((C.trans (ChgC.ofKb kb' fun _ h => h)).trans (ChgC.ofChg C36)).trans (ChgC.ofKb kD fun _ h => h)⟩)
      rw [hrange, h1, Option.toList_some, Array.toList_push]
      have e6 : AtAll X c.C s₆ ((List.range i).filterMap f) ys.toList := hr3.but (fun a o ha e => C36.but a o (fun y => ha (S.fs.yx a y)) e) C36.tk
      exact (e6.append (.cons hy .nil)).kb S.wx kD
end
end Mine

namespace Mine

theorem ltN {h : Heap} {a : Addr} {o : Obj} (e : h.get? a = some o) : @LT.lt Nat _ a h.objs.size := Heap.lt_size e

/-- a captured name -/
structure Cap (env : Env) (scope : Scope) (cl : List (Str × Addr)) (x : Str) : Prop where
  k0 : env.kindOf x = some .cell ∨ env.kindOf x = some .free
  k1 : (relabel scope env).names.lookup x = some .cell ∨ (relabel scope env).names.lookup x = some .free
  ex : ∃ a, env.cells.lookup x = some a ∧ ∀ C, (cellsFrom (C + 1) scope.names cl).lookup x = some a
def ClOk (env : Env) (Γc : Gam) : List (Str × Addr) → Prop
  | [] => True
  | p :: r => (env.cells.lookup p.1 = some p.2 ∧ (Γc.lookup p.1).isSome = true) ∧ ClOk env Γc r
theorem ClOk.mem {env : Env} {Γc : Gam} : ∀ {cl : List (Str × Addr)}, ClOk env Γc cl → ∀ p ∈ cl, env.cells.lookup p.1 = some p.2 ∧ (Γc.lookup p.1).isSome = true
  | [], _, _, h => nomatch h
  | _ :: _, H, p, h => by
    rcases List.mem_cons.mp h with rfl | h
    · exact H.1
    · exact ClOk.mem H.2 p h
def CapAll (env : Env) (scope : Scope) (cl : List (Str × Addr)) : Gam → Prop
  | [] => True
  | p :: r => Cap env scope cl p.1 ∧ CapAll env scope cl r
theorem CapAll.get {env : Env} {scope : Scope} {cl : List (Str × Addr)} : ∀ {Γ : Gam}, CapAll env scope cl Γ → ∀ x e, Γ.lookup x = some e → Cap env scope cl x
  | [], _, _, _, h => nomatch h
  | p :: r, H, x, e, h => by
    rw [List.lookup_cons] at h
    cases hb : x == p.1 with
    | true => rw [beq_iff_eq.mp hb]; exact H.1
    | false => rw [hb] at h; exact CapAll.get H.2 x e h

/-- what a block of a comprehension is -/
structure Blk (env : Env) (scope : Scope) (cl : List (Str × Addr)) (Γc : Gam) (Wc : List Str) : Prop where
  clos : closureFor scope env = pure cl
  fn : scope.kind = .function
  names : ∀ y ∈ scope.names, y.2 = .local → scope.names.lookup y.1 = some .local
  clok : ClOk env Γc cl
  cap : CapAll env scope cl Γc
  own : ∀ n ∈ Wc, scope.names.lookup n = some .cell ∧ (relabel scope env).names.lookup n = some .cell

section
variable {c : Cx} {A : Around} {env : Env} {W Wc : List Str} {Γ Γc Γ1 Γ2 Γ' : Gam} {e e1 e2 elt : Expr} {es ifs : List Expr} {d d1 d2 : D} {ds src : List D} {pos : Pos} {x : Str} {np : Pos} {b : Bool} {tgt iter : Expr} {scope : Scope} {cl : List (Str × Addr)}

theorem ent_frz {X X' Y Y' : Addr → Prop} {C : Addr} {s : Shared} {en : Ent} {v : Value} (hf : en.frz = true) (hX : ∀ a o, s.heap.get? a = some o → ¬ X a → ¬ X' a) (H : EntAt X Y C s en v) : EntAt X' Y' C s en v := by
  cases en with
  | d d => exact At.ext H hX
  | s ns =>
    obtain ⟨a, vs, rfl, hx, ht, hr⟩ := H
    obtain ⟨o, e, _⟩ := id ht
    exact ⟨a, vs, rfl, hX a o e hx, ht, hr⟩
  | _ => cases hf
theorem ent_low {X X' Y Y' : Addr → Prop} {C : Addr} {s : Shared} {en : Ent} {v : Value} (hX : ∀ a o, s.heap.get? a = some o → ¬ X a → ¬ X' a) (hY : ∀ a o xs n, s.heap.get? a = some o → o.data = .seq xs n → Y a → Y' a) (H : EntAt X Y C s en v) : EntAt X' Y' C s en v := by
  cases en with
  | d d => exact At.ext H hX
  | s ns =>
    obtain ⟨a, vs, rfl, hx, ht, hr⟩ := H
    obtain ⟨o, e, _⟩ := id ht
    exact ⟨a, vs, rfl, hX a o e hx, ht, hr⟩
  | m ds =>
    obtain ⟨a, vs, rfl, hy, ⟨n, hp⟩, hr⟩ := H
    exact ⟨a, vs, rfl, hY _ _ _ _ hp rfl hy, ⟨n, hp⟩, hr.ext hX⟩
  | mw ds =>
    obtain ⟨a, vs, rfl, hy, ht, hr⟩ := H
    obtain ⟨o, n, e, hd⟩ := data_of_IsList ht
    exact ⟨a, vs, rfl, hY _ _ _ _ e hd hy, ht, hr.ext hX⟩
  | t ds =>
    obtain ⟨x, dx, hl, hh, t, n, vs, rfl, ⟨h1, h2, h3⟩, e1, e2, ⟨m, hp⟩, hr⟩ := H
    exact ⟨x, dx, hl, hh, t, n, vs, rfl, ⟨hX _ _ e1 h1, hX _ _ e2 h2, hY _ _ _ _ hp rfl h3⟩, e1, e2, ⟨m, hp⟩, hr.ext hX⟩
theorem no_cells : ∀ {names : List (Str × NameKind)} {n : Nat}, (∀ p ∈ names, (p.2 != .cell) = true) → cellsFrom n names [] = []
  | [], _, _ => rfl
  | (x, k) :: r, n, h => by
    unfold cellsFrom
    have hk := h _ List.mem_cons_self
    rw [if_neg (by intro q; have hk' : (!(k == NameKind.cell)) = true := hk; rw [q] at hk'; cases hk')]
    exact no_cells fun p hp => h p (List.mem_cons_of_mem _ hp)

theorem comp_block {s0 s₂ : Shared} {Xo X Y0 : Addr → Prop} {it : Value} {fp wr : List Addr} {bs : List D} {vs : List Value} {St : Nat → Heap → Prop} {RR : Value → Addr → Result → Shared → Prop} (Γs : Nat → Gam) (f : Nat → Option Mine.D)
    (B : Blk env scope cl (Γs 0) Wc) (G : Gd c s0) (eo : EnvOk env) (kp0 : Keeps s0 s₂) (L : Live X s₂.heap) (hXo : ∀ a, Xo a → X a) (hYX : ∀ a, Y0 a → X a) (hYf : ∀ a, Y0 a → s0.heap.get? a = none)
    (hcel : ∀ x e, (Γs 0).lookup x = some e → ∃ a v, env.cells.lookup x = some a ∧ s₂.heap.IsCell a (some v) ∧ EntAt X Y0 c.C s₂ e v ∧ (Y0 a ∨ (s0.heap.get? a).isSome = true))
    (It : Itr c A tgt it fp wr bs vs src St) (hst : St 0 s₂.heap) (hw0 : ∀ b ∈ wr, s0.heap.get? b = none) (hwX : ∀ b ∈ wr, X b) (hwY : ∀ b ∈ wr, ¬ Y0 b) (hfp : ∀ b ∈ fp, b ∈ wr ∨ ¬ X b) (hfa : ∀ b ∈ fp, (s₂.heap.get? b).isSome = true)
    (hsrc : AtAll X c.C s₂ bs vs) (hz : src.length ≤ 1000000)
    (hitem : ∀ C i d, src[i]? = some d → ∃ Γ1, Asg c A (cenvK scope cl C env) Wc tgt d (Γs i) Γ1 ∧ ∃ b, Tst c A (cenvK scope cl C env) Γ1 ifs b ∧ (b = false → f i = none ∧ Sub (Γs (i + 1)) Γ1) ∧
      (b = true → ∃ d', f i = some d' ∧ ∃ Γ2, ElN c A (cenvK scope cl C env) Wc Γ1 elt d' Γ2 ∧ Sub (Γs (i + 1)) Γ2))
    (hcap2 : CapAll env scope cl (Γs src.length)) (hfz : ((Γs src.length).all fun p => p.2.frz) = true ∨ (scope.names.all fun p => p.2 != .cell) = true)
    (hend : ∀ D C m s' ys, s₂.heap.get? D = none → s₂.heap.get? C = none → C ≠ D → s'.heap.Ns C m → s'.heap.PlainList D ys → Keeps s0 s' → (∀ a o, ¬ Y0 a → a ∉ wr → s₂.heap.get? a = some o → s'.heap.get? a = some o) → Live (fun a => X a ∧ a ∉ wr) s'.heap →
      AtAll (fun a => X a ∨ a = C) c.C s' ((List.range src.length).filterMap f) ys.toList → (∀ x e, (Γs src.length).lookup x = some e → ∃ a v, env.cells.lookup x = some a ∧ s'.heap.IsCell a (some v) ∧ EntAt (fun a => X a ∨ a = C) Y0 c.C s' e v) → ys.size ≤ 1000000 → RR (.ref D) C (.ok .next) s') :
    wpAny c.M A (newList []) (fun acc s₃ => wpAny c.M A (newFunctionEnv scope env.globals cl [] env.qual none .none (some env)) (fun cenv s₄ =>
      codeAny c.M A (.compStart (.ListComp elt [⟨tgt, iter, ifs, 0⟩] scope pos) 0 it acc { cenv with scope := relabel scope env }) (RR acc cenv.locals) s₄) NoE s₃) NoE s₂ := by
  refine wpAny_newObj_type ?_
  simp only [newFunctionEnv, Option.isSome_some, if_true]
  refine wpAny_bind (wpAny_alloc ?_)
  generalize hH : s₂.heap.push { cls := .type "list", dict := none, data := .seq ([] : List Value).toArray } = H
  have hHs : H.objs.size = s₂.heap.objs.size + 1 := by rw [← hH, Heap.size_push]
  refine wpAny_bind (wpAny_layCells _ (fun name kind cells => by cases hkc : kind == NameKind.cell <;> rfl) _ _ _ _ ?_)
  rw [show ({ s₂ with heap := H.push { cls := .type "dict", data := .dict #[] } } : Shared).heap.objs.size = H.objs.size + 1 from Heap.size_push ..]
  have ok := cellsFrom_ok scope.names (H.push { cls := .type "dict", data := .dict #[] }) (H.objs.size + 1) [] ⟨fun _ _ hm => (nomatch hm), List.Pairwise.nil⟩ (by rw [Heap.size_push]; exact Nat.le_refl _)
  rw [Heap.size_push] at ok
  rw [List.forIn_nil]
  refine wpAny_bind (wpAny_pure (wpAny_pure ?_))
  dsimp only
  show codeAny c.M A (.compStart _ 0 it (.ref s₂.heap.objs.size) (cenvK scope cl H.objs.size env)) _ { s₂ with heap := pushCells (H.push { cls := .type "dict", data := .dict #[] }) scope.names }
  have kp2 : ExtH s₂.heap (pushCells (H.push { cls := .type "dict", data := .dict #[] }) scope.names) := fun b o e => pushCells_keeps _ _ b o (Heap.get?_push_of_some _ (hH ▸ Heap.get?_push_of_some _ e))
  have fresh : ∀ b, s₂.heap.objs.size ≤ b → s₂.heap.get? b = none := fun b hb => by
    cases e : s₂.heap.get? b with
    | none => rfl
    | some o => exact absurd (Heap.lt_size e) (Nat.not_lt.mpr hb)
  have fresh0 : ∀ b, s₂.heap.objs.size ≤ b → s0.heap.get? b = none := fun b hb => by
    cases e : s0.heap.get? b with
    | none => rfl
    | some o => have := fresh b hb; rw [(kp_ext kp0).1 b o e] at this; cases this
  have hns : (pushCells (H.push { cls := .type "dict", data := .dict #[] }) scope.names).Ns H.objs.size (fun _ => none) := (Heap.Ns.new H (.type "dict")).keeps (pushCells_keeps _ _)
  have hDl : (pushCells (H.push { cls := .type "dict", data := .dict #[] }) scope.names).get? s₂.heap.objs.size = some { cls := .type "list", data := .seq #[] 0 } := pushCells_keeps _ _ _ _ (Heap.get?_push_of_some _ (hH ▸ Heap.get?_push_size _ rfl))
  have hCge : s₂.heap.objs.size ≤ H.objs.size := by rw [hHs]; exact Nat.le_succ _
  have hCD : H.objs.size ≠ s₂.heap.objs.size := by rw [hHs]; exact Nat.succ_ne_self _
  have hown : ∀ n b, (n, b) ∈ cellsFrom (H.objs.size + 1) scope.names [] → @LE.le Nat _ (s₂.heap.objs.size + 2) b := fun n b hm => by have := (ok.empty n b hm).2; rw [hHs] at this; exact this
  have split : ∀ {y : Str} {b : Addr}, (cellsFrom (H.objs.size + 1) scope.names cl).lookup y = some b → (y, b) ∈ cellsFrom (H.objs.size + 1) scope.names [] ∨ (y, b) ∈ cl := by
    intro y b h
    rw [cellsFrom_acc] at h
    exact List.mem_append.mp (mem_of_lookup h)
  have clAlive : ∀ y b, (y, b) ∈ cl → (s₂.heap.get? b).isSome = true ∧ env.cells.lookup y = some b := by
    intro y b hm
    obtain ⟨h1, h2⟩ := B.clok.mem _ hm
    obtain ⟨en, he⟩ := Option.isSome_iff_exists.mp h2
    obtain ⟨a, v, g1, g2, _⟩ := hcel y en he
    have : a = b := by rw [h1] at g1; cases g1; rfl
    exact ⟨this ▸ cell_some g2, h1⟩
  have eoc : EnvOk (cenvK scope cl H.objs.size env) := by
    refine ⟨B.fn, eo.gl, eo.bl, fun y z b h1 h2 => ?_⟩
    have lt : ∀ y b, (y, b) ∈ cl → @LT.lt Nat _ b s₂.heap.objs.size := fun y b hm => by
      obtain ⟨o, e⟩ := Option.isSome_iff_exists.mp (clAlive y b hm).1
      exact ltN e
    rcases split h1 with h1 | h1 <;> rcases split h2 with h2 | h2
    · exact name_of_addr ok.apart h1 h2
    · have := hown _ _ h1; have := lt _ _ h2; omega
    · have := hown _ _ h2; have := lt _ _ h1; omega
    · exact eo.inj _ _ _ (clAlive _ _ h1).2 (clAlive _ _ h2).2
  let Xc : Addr → Prop := fun b => X b ∨ b = s₂.heap.objs.size ∨ b = H.objs.size ∨ ∃ n, (n, b) ∈ cellsFrom (H.objs.size + 1) scope.names []
  let Yc : Addr → Prop := fun b => Y0 b ∨ b = H.objs.size ∨ ∃ n, (n, b) ∈ cellsFrom (H.objs.size + 1) scope.names []
  have newX : ∀ a o, s₂.heap.get? a = some o → ¬ X a → ¬ Xc a := by
    rintro a o e hx (h | rfl | rfl | ⟨n, h⟩)
    · exact hx h
    · exact absurd (Heap.lt_size e) (Nat.lt_irrefl _)
    · exact absurd (Heap.lt_size e) (Nat.not_lt.mpr hCge)
    · have := hown _ _ h; have := ltN e; omega
  have hE : ∀ {en v}, EntAt X Y0 c.C s₂ en v → EntAt Xc Yc c.C { s₂ with heap := pushCells (H.push { cls := .type "dict", data := .dict #[] }) scope.names } en v :=
    fun H => (H.imp (s' := s₂) (X' := Xc) (Y' := Yc) newX (fun a y => .inl y) (fun _ _ _ e => e) (fun _ _ _ _ _ e _ => e) (Nat.le_refl _)).keeps ⟨kp2, Nat.le_refl _⟩
  have F : FS c s0 (cenvK scope cl H.objs.size env) Wc Xo Xc Yc (Γs 0) { s₂ with heap := pushCells (H.push { cls := .type "dict", data := .dict #[] }) scope.names } := by
    refine ⟨kp_trans kp0 ⟨_, s₂.toks, rfl, kp2, Nat.le_refl _⟩, fun b hb => ?_, fun b hb => .inl (hXo b hb), fun b hb => ?_, fun b hb => ?_, .inr (.inl rfl), ⟨_, hns, fun y en l k => ?_⟩, fun y en l k => ?_, fun n hn => ?_⟩
    · rcases hb with hb | rfl | rfl | ⟨n, hb⟩
      · exact (L.keeps kp2) b hb
      · show ((pushCells (H.push _) scope.names).get? _).isSome = true
        rw [hDl]; rfl
      · exact ns_some hns
      · exact cell_some (ok.empty n b hb).1
    · rcases hb with hb | hb | hb
      · exact .inl (hYX b hb)
      · exact .inr (.inr (.inl hb))
      · exact .inr (.inr (.inr hb))
    · rcases hb with hb | rfl | ⟨n, hb⟩
      · exact hYf b hb
      · exact fresh0 _ hCge
      · exact fresh0 _ (by have := hown _ _ hb; omega)
    · exfalso
      have cp := (B.cap.get y en l).k1
      have k' : (relabel scope env).names.lookup y = some .local := k
      rw [k'] at cp
      rcases cp with q | q <;> cases q
    · have cp := B.cap.get y en l
      obtain ⟨a, v, h1, h2, h3, h4⟩ := hcel y en l
      obtain ⟨a', g1, g2⟩ := cp.ex
      have : a' = a := by rw [h1] at g1; cases g1; rfl
      subst this
      exact ⟨cp.k1, a', v, g2 _, h2.keeps kp2, hE h3, h4.imp .inl id⟩
    · obtain ⟨o1, o2⟩ := B.own n hn
      have hs : ((cellsFrom (H.objs.size + 1) scope.names []).lookup n).isSome = true := cellsFrom_some _ _ _ (.inl o1)
      obtain ⟨b, hb⟩ := Option.isSome_iff_exists.mp hs
      have hm := mem_of_lookup hb
      refine ⟨o2, b, none, ?_, .inr (.inr ⟨n, hm⟩), (ok.empty n b hm).1⟩
      show (cellsFrom (H.objs.size + 1) scope.names cl).lookup n = some b
      rw [cellsFrom_acc, List.lookup_append, hb]; rfl
  have hst4 : St 0 (pushCells (H.push { cls := .type "dict", data := .dict #[] }) scope.names) := It.frame _ _ _ hst fun b _ o e => kp2 b o e
  have wYc : ∀ b ∈ wr, ¬ Yc b := by
    intro b hb hy
    have al := It.alive _ _ hst b hb
    obtain ⟨o, e⟩ := Option.isSome_iff_exists.mp al
    rcases hy with hy | rfl | ⟨n, h⟩
    · exact hwY b hb hy
    · exact absurd (Heap.lt_size e) (Nat.not_lt.mpr hCge)
    · have := hown _ _ h; have := ltN e; omega
  have S : LoopSt c s0 (cenvK scope cl H.objs.size env) Wc Xo Xc Yc (s₂.heap.objs.size :: wr) bs vs (Γs 0) { s₂ with heap := pushCells (H.push { cls := .type "dict", data := .dict #[] }) scope.names } := by
    refine ⟨F, (hsrc.ext newX).keeps ⟨kp2, Nat.le_refl _⟩, fun b hb => ?_, fun b hb => ?_⟩
    · rcases List.mem_cons.mp hb with rfl | hb
      · exact .inr (.inl rfl)
      · exact .inl (hwX b hb)
    · rcases List.mem_cons.mp hb with rfl | hb
      · rintro (h | h | ⟨n, h⟩)
        · obtain ⟨o, e⟩ := Option.isSome_iff_exists.mp (L _ (hYX _ h))
          exact absurd (Heap.lt_size e) (Nat.lt_irrefl _)
        · exact hCD h.symm
        · have := hown _ _ h; omega
      · exact wYc b hb
  have loop : codeAny c.M A (.compLoop (.ListComp elt [⟨tgt, iter, ifs, 0⟩] scope pos) 0 it (.ref s₂.heap.objs.size) (cenvK scope cl H.objs.size env)) (RR (.ref s₂.heap.objs.size) H.objs.size) { s₂ with heap := pushCells (H.push { cls := .type "dict", data := .dict #[] }) scope.names } := by
    refine comp_loop Γs f G eoc It (fun b hb => ?_) (fun hm => ?_) S hst4 ⟨0, hDl⟩ (fun b hb => ?_) hz (fun i d hi => hitem _ i d hi) (fun s' ys S' hp hr CC s'' kb => ?_)
    · by_cases q : b ∈ wr
      · exact .inl q
      · obtain ⟨o, e⟩ := Option.isSome_iff_exists.mp (hfa b hb)
        exact .inr (newX b o e ((hfp b hb).resolve_left q))
    · obtain ⟨o, e⟩ := Option.isSome_iff_exists.mp (hfa _ hm)
      exact absurd (Heap.lt_size e) (Nat.lt_irrefl _)
    · rcases List.mem_cons.mp hb with rfl | hb
      · exact fresh0 _ (Nat.le_refl _)
      · exact hw0 b hb
    · have F' := S'.fs
      have hDw : s₂.heap.objs.size ∉ wr := fun q => by
        obtain ⟨o, e⟩ := Option.isSome_iff_exists.mp (It.alive _ _ hst _ q)
        exact absurd (Heap.lt_size e) (Nat.lt_irrefl _)
      have nY : ∀ b, Yc b → b ∉ wr := fun b y q => wYc b q y
      obtain ⟨m, hn, _⟩ := F'.loc
      have hn' : s''.heap.Ns H.objs.size m := hn.at' fun o e => kb.2 _ o (nY _ (.inr (.inl rfl))) e
      have hp' : s''.heap.PlainList s₂.heap.objs.size ys := hp.at fun o e => kb.2 _ o hDw e
      have hk0 : Keeps s0 s'' := kb_kp F'.kp kb hw0
      have hkept : ∀ a o, ¬ Y0 a → a ∉ wr → s₂.heap.get? a = some o → s''.heap.get? a = some o := fun a o hy hw e => by
        refine kb.2 a o hw (CC.but a o (fun y => ?_) (fun q => ?_) (kp2 a o e))
        · rcases y with y | rfl | ⟨n, h⟩
          · exact hy y
          · exact absurd (Heap.lt_size e) (Nat.not_lt.mpr hCge)
          · have := hown _ _ h; have := ltN e; omega
        · rcases List.mem_cons.mp q with rfl | q
          · exact absurd (Heap.lt_size e) (Nat.lt_irrefl _)
          · exact hw q
      have xx : ∀ b, X b → Xc b := fun b h => .inl h
      have hX'w : ∀ b ∈ wr, Xc b := fun b hb => .inl (hwX b hb)
      have hlive : Live (fun a => X a ∧ a ∉ wr) s''.heap := fun b hb => by
        obtain ⟨o, e⟩ := Option.isSome_iff_exists.mp (F'.live b (.inl hb.1))
        rw [kb.2 b o hb.2 e]; rfl
      have hr' : AtAll (fun a => X a ∨ a = H.objs.size) c.C s'' ((List.range src.length).filterMap f) ys.toList := (hr.kb hX'w kb).ext fun a o _ hx h => hx (h.imp id fun q => .inr (.inl q))
      refine hend s₂.heap.objs.size H.objs.size m s'' ys (fresh _ (Nat.le_refl _)) (fresh _ hCge) hCD hn' hp' hk0 hkept hlive hr' (fun y en l => ?_) ?_
      · have cp := hcap2.get y en l
        have hne : (cenvK scope cl H.objs.size env).kindOf y ≠ some .local := fun q => by
          have k' : (relabel scope env).names.lookup y = some .local := q
          have := cp.k1
          rw [k'] at this
          rcases this with q | q <;> cases q
        obtain ⟨_, a, v, h1, h2, h3, h4⟩ := F'.cel y en l hne
        obtain ⟨a', g1, g2⟩ := cp.ex
        have : a' = a := by have := g2 H.objs.size; rw [show (cellsFrom (H.objs.size + 1) scope.names cl).lookup y = some a from h1] at this; cases this; rfl
        subst this
        have q : a' ∉ wr := fun q => h4.elim (fun y => nY a' y q) fun o => by rw [hw0 a' q] at o; cases o
        refine ⟨a', v, g1, (let ⟨o, e, r⟩ := h2; ⟨o, kb.2 _ o q e, r⟩), ?_⟩
        have h3' : EntAt Xc Yc c.C s'' en v := h3.imp (fun _ _ _ x => x) (fun _ x => x) (fun a o ha e => kb.2 a o (fun q => ha (hX'w a q)) e) (fun a o _ _ ha e _ => kb.2 a o (nY a ha) e) kb.tk
        rcases hfz with hfz | hfz
        · exact ent_frz (List.all_eq_true.mp hfz _ (mem_of_lookup l)) (fun a o _ hx h => hx (h.imp id fun q => .inr (.inl q))) h3'
        · refine ent_low (fun a o _ hx h => hx (h.imp id fun q => .inr (.inl q))) (fun a o xs n e hd hy => ?_) h3'
          rcases hy with hy | rfl | ⟨n', h⟩
          · exact hy
          · exact absurd rfl (ns_not_seq hn' e hd)
          · rw [no_cells (List.all_eq_true.mp hfz)] at h; cases h
      · have h1 := hr.length
        have h2 : ((List.range src.length).filterMap f).length ≤ src.length := Nat.le_trans (List.length_filterMap_le ..) (by rw [List.length_range]; exact Nat.le_refl _)
        simp only [Array.length_toList] at h1
        rw [h1]; exact Nat.le_trans h2 hz
  exact codeAny_compStart_list loop (wpAny_mono (It.self 0 _ hst4) (fun r s' q => by obtain ⟨rfl, rfl⟩ := q; exact loop) fun _ _ x => x.elim)
end
end Mine

namespace Mine

section
variable {c : Cx} {A : Around} {env : Env} {W Wc : List Str} {Γ Γc Γ1 Γ2 Γ' : Gam} {e e1 e2 elt : Expr} {es ifs : List Expr} {d d1 d2 : D} {ds src : List D} {pos : Pos} {x : Str} {np : Pos} {b : Bool} {tgt iter : Expr} {scope : Scope} {cl : List (Str × Addr)}

/-- what a turn of a comprehension asks -/
def Turn (c : Cx) (A : Around) (env : Env) (Wc : List Str) (scope : Scope) (cl : List (Str × Addr)) (tgt elt : Expr) (ifs : List Expr) (Γc : Gam) (d : D) (r : Option D) : Prop :=
  ∀ C, ∃ Γ1, Asg c A (cenvK scope cl C env) Wc tgt d Γc Γ1 ∧ Sub Γc Γ1 ∧ ∃ b, Tst c A (cenvK scope cl C env) Γ1 ifs b ∧ (b = false → r = none) ∧
    (b = true → ∃ d', r = some d' ∧ Ev c A (cenvK scope cl C env) Γ1 elt d')

theorem cap_cel {X Y : Addr → Prop} {s : Shared} (O : Ok c env X Y Γ s) (B : Blk env scope cl Γc Wc) (h0 : Sub Γc Γ) : ∀ x e, Γc.lookup x = some e → ∃ a v, env.cells.lookup x = some a ∧ s.heap.IsCell a (some v) ∧ EntAt X Y c.C s e v := by
  intro x e l
  obtain ⟨v, r, he⟩ := O.nm x e (h0 x e l)
  have cp := B.cap.get x e l
  rcases r with ⟨k, _⟩ | ⟨_, a, h1, h2⟩
  · have := cp.k0
    rw [k] at this
    rcases this with q | q <;> cases q
  · exact ⟨a, v, h1, h2, he⟩

/-- the loop of a comprehension over data alone -/
theorem comp_data {X Y : Addr → Prop} {s : Shared} {RR : Value → Addr → Result → Shared → Prop} (f : Nat → Option D) (B : Blk env scope cl Γc Wc) (O : Ok c env X Y Γ s) (h0 : Sub Γc Γ) (hz : src.length ≤ 1000000)
    (hitem : ∀ i d, src[i]? = some d → Turn c A env Wc scope cl tgt elt ifs Γc d (f i)) (hfz : (Γc.all fun p => p.2.frz) = true) {it : Value} {s₂ : Shared} (hit : IterOf c A tgt X s src it s₂)
    (hend : ∀ D C m s' ys, s.heap.get? D = none → s.heap.get? C = none → C ≠ D → s'.heap.Ns C m → s'.heap.PlainList D ys → Keeps s s' → AtAll (fun a => X a ∨ a = C) c.C s' ((List.range src.length).filterMap f) ys.toList → RR (.ref D) C (.ok .next) s') :
    wpAny c.M A (newList []) (fun acc s₃ => wpAny c.M A (newFunctionEnv scope env.globals cl [] env.qual none .none (some env)) (fun cenv s₄ =>
      codeAny c.M A (.compStart (.ListComp elt [⟨tgt, iter, ifs, 0⟩] scope pos) 0 it acc { cenv with scope := relabel scope env }) (RR acc cenv.locals) s₄) NoE s₃) NoE s₂ := by
  obtain ⟨k, fp, wr, bs, vs, St, It, hst, hw, hfp, hsrc, hfa⟩ := hit
  have al := It.alive _ _ hst
  have old : ∀ a, s₂.heap.get? a = none → s.heap.get? a = none := fun a y => by
    cases e : s.heap.get? a with
    | none => rfl
    | some o => rw [(kp_ext k).1 a o e] at y; cases y
  have wX : ∀ b ∈ wr, ¬ X b := fun b hb hx => by
    obtain ⟨o, e⟩ := Option.isSome_iff_exists.mp (O.live b hx)
    rw [hw b hb] at e; cases e
  refine comp_block (Xo := X) (X := fun a => X a ∨ a ∈ wr) (Y0 := fun _ => False) (fun _ => Γc) f B O.gd O.eo k (fun a ha => ha.elim (O.live.keeps (kp_ext k).1 a) (al a)) (fun _ h => .inl h) (fun _ h => h.elim) (fun _ h => h.elim) ?_ It hst hw (fun b hb => .inr hb) (fun _ _ h => h.elim) ?_ hfa hsrc hz
    (fun C i d hi => ?_) B.cap (.inl hfz) ?_
  · intro x e l
    obtain ⟨a, v, h1, h2, h3⟩ := cap_cel O B h0 x e l
    refine ⟨a, v, h1, h2.keeps (kp_ext k).1, ?_, .inr (cell_some h2)⟩
    exact (ent_frz (List.all_eq_true.mp hfz _ (mem_of_lookup l)) (fun a o e hx h => h.elim hx fun q => by rw [hw a q] at e; cases e) h3).keeps (kp_ext k)
  · intro b hb
    by_cases q : b ∈ wr
    · exact .inl q
    · exact .inr fun h => h.elim ((hfp b hb).resolve_left q) q
  · obtain ⟨Γ1, h1, h2, b, h3, h4, h5⟩ := hitem i d hi C
    exact ⟨Γ1, h1, b, h3, fun q => ⟨h4 q, h2⟩, fun q => let ⟨d', g1, g2⟩ := h5 q; ⟨d', g1, Γ1, .of g2, h2⟩⟩
  · intro D C m s' ys hD hC hCD hn hp hk _ _ hr _ _
    exact hend D C m s' ys (old D hD) (old C hC) hCD hn hp hk (hr.ext fun a o _ hx h => hx (h.imp .inl id))

theorem Ev.comp (f : Nat → Option D) (B : Blk env scope cl Γc Wc) (hI : EvI c A env Γ iter tgt src) (h0 : Sub Γc Γ)
    (hitem : ∀ i d, src[i]? = some d → Turn c A env Wc scope cl tgt elt ifs Γc d (f i)) (hz : src.length ≤ 1000000 := by decide) (hfz : (Γc.all fun p => p.2.frz) = true := by rfl) (hs : ∀ x, foldedSetIterable iter env x = pure x := by intro _; rfl) :
    Ev c A env Γ (.ListComp elt [⟨tgt, iter, ifs, 0⟩] scope pos) (.list ((List.range src.length).filterMap f)) := by
  intro X Y s O
  rw [eval_ListComp]
  refine wpAny_comprehension_free (use := none) rfl hs B.clos B.fn (fun x hx hl => B.names x hx hl) (wpAny_mono (hI X Y s O) (fun xv s₁ h₁ => wpAny_mono h₁ (fun it s₂ h₂ => ?_) fun _ _ x => x) fun _ _ x => x)
  refine comp_data f B O h0 hz hitem hfz h₂ fun D C m s' ys hD hC hCD hn hp hkp hr => ?_
  refine ⟨m, hn, fun h' hs' => ⟨?_, ?_⟩⟩
  · obtain ⟨h3, t3, rfl, k3⟩ := hkp
    exact ⟨h', t3, rfl, fun b o e => same_get hs' (fun q => by rw [q, hC] at e; cases e) (k3.1 b o e), k3.2⟩
  · simp only [At]
    exact ⟨D, ys, rfl, dead_of_none O.live hD, hp.at fun o e => same_get hs' (Ne.symm hCD) e, (hr.but (s' := { s' with heap := h' }) (fun a o ha e => same_get hs' (fun q => ha (.inr q)) e) (Nat.le_refl _)).ext fun a o _ hx h => hx (.inl h)⟩

/-- name = [.. for ..], where the names are exchanged -/
theorem StN.assignComp {y : Str} {yp : Pos} (f : Nat → Option D) (B : Blk env scope cl Γc Wc) (hI : EvI c A env Γ iter tgt src) (h0 : Sub Γc Γ)
    (hitem : ∀ i d, src[i]? = some d → Turn c A env Wc scope cl tgt elt ifs Γc d (f i)) (hk : env.kindOf y = some .local)
    (hsw : swapsWith (.ListComp elt [⟨tgt, iter, ifs, 0⟩] scope pos) (some (.Name y yp)) np.line env = pure true) (hz : src.length ≤ 1000000 := by decide) (hfz : (Γc.all fun p => p.2.frz) = true := by rfl) (hs : ∀ x, foldedSetIterable iter env x = pure x := by intro _; rfl) :
    StN c A env W Γ (.Assign [.Name y yp] (.ListComp elt [⟨tgt, iter, ifs, 0⟩] scope pos) np) ((y, .d (.list ((List.range src.length).filterMap f))) :: Γ) := by
  intro s0 Xo X Y s G eo F
  have O := F.ok G eo
  rw [exec_Assign_Name_used _ _ _ _ hsw]
  refine wpAny_bind (wpAny_standAt (wpAny_bind ?_))
  show wpAny _ A (do let _ ← comprehension (.ListComp elt [⟨tgt, iter, ifs, 0⟩] scope pos) scope env _ (newList []) false (eval iter env) (some (PySem.assign (.Name y yp) env))) _ _ s
  refine wpAny_bind (wpAny_mono (wpAny_comprehension_free (use := some (PySem.assign (Expr.Name y yp) env)) (Q := fun _ s' => ∃ X' Y', FS c s0 env W Xo X' Y' ((y, .d (.list ((List.range src.length).filterMap f))) :: Γ) s' ∧ Chg X Y X' Y' s s') rfl hs B.clos B.fn (fun x hx hl => B.names x hx hl)
    (wpAny_mono (hI X Y s O) (fun xv s₁ h₁ => wpAny_mono h₁ (fun it s₂ h₂ => ?_) fun _ _ x => x) fun _ _ x => x)) (fun _ s' hq => wpAny_pure (wpAny_pure ⟨rfl, hq⟩)) fun _ _ x => x)
  refine comp_data f B O h0 hz hitem hfz h₂ fun D C m s' ys hD hC hCD hn hp hkp hr => ?_
  show wpAny _ A (PySem.assign (.Name y yp) env (.ref D)) _ _ _
  obtain ⟨S, C1⟩ := LoopSt.start (wr := [C]) (bs := []) (vs := []) F hkp (fun b hb => by rw [List.mem_singleton.mp hb]; exact hC) (fun b hb => by rw [List.mem_singleton.mp hb]; exact ns_some hn) .nil
  have hC0 : s0.heap.get? C = none := by
    cases e : s0.heap.get? C with
    | none => rfl
    | some o => rw [(kp_ext F.kp).1 _ _ e] at hC; cases hC
  have hDt : At (fun a => X a ∨ a ∈ [C]) c.C s' (.list ((List.range src.length).filterMap f)) (.ref D) := by
    simp only [At]
    refine ⟨D, ys, rfl, fun h => h.elim (dead_of_none F.live hD) fun q => hCD (List.mem_singleton.mp q).symm, hp, hr.ext fun a o _ hx h => hx (h.imp id List.mem_singleton.mp)⟩
  refine wpAny_assign_Name (wpAny_mono (S.fs.store eo (e := .d (.list ((List.range src.length).filterMap f))) hDt (.inl hk)) (fun _ s'' q => ?_) fun _ _ x => x)
  have hCY : ¬ Y C := fun y => by
    obtain ⟨o, e⟩ := Option.isSome_iff_exists.mp (F.live C (F.yx C y))
    rw [hC] at e; cases e
  obtain ⟨o, es, ep, ho, hrest⟩ := hn
  have hn2 : s''.heap.Ns C m := ⟨o, es, ep, q.2.but C o hCY ho, hrest⟩
  refine ⟨m, hn2, fun h' hs' => ⟨fun a => (X a ∨ a ∈ [C]) ∧ a ∉ [C], Y, ?_, ?_⟩⟩
  · have S2 : LoopSt c s0 env W Xo (fun a => X a ∨ a ∈ [C]) Y [C] [] [] _ s'' := ⟨q.1, .nil, S.wx, S.wy⟩
    refine S2.finish ⟨⟨h', s''.toks, rfl, Nat.le_refl _⟩, fun b o n e => same_get hs' (fun q => n (List.mem_singleton.mpr q)) e⟩ (fun b hb => by rw [List.mem_singleton.mp hb]; exact hC0) (fun b hb h => ?_)
    rw [List.mem_singleton.mp hb] at h
    have := F.live C (F.out C h)
    rw [hC] at this; cases this
  · have z := C1.trans q.2 F.yx
    refine ⟨fun a o ha e => same_get hs' (fun q => by rw [q, hC] at e; cases e) (z.but a o ha e), fun a x => ⟨.inl x, fun q => ?_⟩, z.yy, fun a x => z.xn a x.1, z.tk⟩
    rw [List.mem_singleton.mp q] at x
    have := F.live C x
    rw [hC] at this; cases this
end
end Mine

namespace Mine

section
variable {c : Cx} {A : Around} {env : Env} {W Wc : List Str} {Γ Γc Γ1 Γ2 Γ' : Gam} {e e1 e2 elt : Expr} {es ifs : List Expr} {d d1 d2 : D} {ds src out : List D} {pos : Pos} {x : Str} {np : Pos} {b : Bool} {tgt iter : Expr}

theorem none_size (h : Heap) : h.get? h.objs.size = none := by
  cases e : h.get? h.objs.size with
  | none => rfl
  | some o => exact absurd (Heap.lt_size e) (Nat.lt_irrefl _)
theorem none_ge {h : Heap} {b : Addr} (hb : @LE.le Nat _ h.objs.size b) : h.get? b = none := by
  cases e : h.get? b with
  | none => rfl
  | some o => exact absurd (ltN e) (Nat.not_lt.mpr hb)

/-- an iterator of one object of its own -/
theorem IterOf.fresh {X : Addr → Prop} {s : Shared} {o : Obj} {n : Nat} {P : Nat → Value → Prop} {St : Nat → Heap → Prop} (Wk : Walks c.prog c.w A s.heap.objs.size [s.heap.objs.size] [s.heap.objs.size] n P St) (hn : ds.length = n) (ht : PlainTgt tgt)
    (hal : ∀ i h, St i h → (h.get? s.heap.objs.size).isSome = true) (hP : ∀ (X : Addr → Prop) i v (s s' : Shared) d, P i v → ds[i]? = some d → s.toks ≤ s'.toks → At X c.C s' d v) (hst : St 0 (s.heap.push o)) :
    IterOf c A tgt X s ds (.ref s.heap.objs.size) { s with heap := s.heap.push o } := by
  refine ⟨kp_push _ _, [s.heap.objs.size], [s.heap.objs.size], [], [], St, Itr.ofWalks Wk hn ht (fun i h st b hb => by rw [List.mem_singleton.mp hb]; exact hal i h st) (fun X i v s s' d hp hi hm _ => hP X i v s s' d hp hi hm) (fun X s s' hw hk H => H.kb hw hk), hst,
    fun b hb => by rw [List.mem_singleton.mp hb]; exact none_size _, fun b hb => .inl hb, .nil, fun b hb => by rw [List.mem_singleton.mp hb]; exact hal _ _ hst⟩

/-- calls that give iterators -/
def TrC (c : Cx) (A : Around) (ds : List D) (t : List Value → Sem Value) (tgt : Expr) (out : List D) : Prop :=
  ∀ X s vs, Live X s.heap → Gd c s → AtAll X c.C s ds vs → wpAny c.M A (t vs) (fun xv s₁ => wpAny c.M A (pyIter xv) (IterOf c A tgt X s out) NoE s₁) NoE s
theorem EvI.call {x : Str} {np : Pos} {f : Value} (g : Gl c x f) (hc : Callee c f) (ha : EvL c A env Γ (e :: es) ds) (hf : TrC c A ds (K1 f) tgt out)
    (hk : env.kindOf x = some .globalImplicit := by rfl) (hd : (x == ("__debug__" : Str)) = false := by decide)
    (he : starEach (e :: es) env = (false, eval e env) :: starEach es env := by rfl) (hplain : (backTo pos (starEach es env)).any (·.1) = false := by rfl) :
    EvI c A env Γ (.Call (.Name x np) (e :: es) [] pos) tgt out := by
  intro X Y s O
  refine wpAny_Call_NameR (glob g hk hd O (callWith_callee hc he hplain (wpAny_mono (ha X Y s pos O) (fun vs s₁ h₁ => ?_) fun _ _ x => x)))
  have O₁ := O.keeps (kp_ext h₁.1)
  exact ⟨O₁.gd.inK, wpAny_mono (hf X s₁ vs O₁.live O₁.gd h₁.2) (fun v s₂ h₂ => wpAny_mono h₂ (fun _ _ q => q.kp h₁.1) fun _ _ x => x) fun _ _ x => x⟩

/-! range -/
def rangeD (a b : Int) : List D := (List.range (b - a).toNat).map fun (i : Nat) => D.int (a + i)
theorem rangeIter {X : Addr → Prop} {s0 s : Shared} {r : Addr} {a b : Int} {t u v : Tok} (hh : A.handled = none) (ht : PlainTgt tgt) (k : Keeps s0 s) (hr : IsRange s.heap r a b 1 t u v) (h1 : -(2 ^ 62) ≤ a) (h2 : a < 2 ^ 62) (h3 : -(2 ^ 62) ≤ b) (h4 : b < 2 ^ 62) :
    wpAny c.M A (pyIter (.ref r)) (IterOf c A tgt X s0 (rangeD a b)) NoE s := by
  refine wpAny_pyIter_range hr (small_one h1 h2 h3 h4) (IterOf.kp k ?_)
  have hsz : Builtin.Range.rangeSize a b 1 = (((b - a).toNat : Nat) : Int) := by
    rw [rangeSize_one]
    split <;> omega
  refine IterOf.fresh (LCg.range_walks hh a (b - a).toNat) (by simp [rangeD]) ht (fun i h st => by
    have st' : h.get? s.heap.objs.size = some _ := st
    rw [st']; rfl) (fun X i v s s' d hp hi _ => ?_) ?_
  · obtain ⟨t, rfl⟩ := hp
    simp only [rangeD, List.getElem?_map] at hi
    have hlt : i < (b - a).toNat := by
      cases e : (List.range (b - a).toNat)[i]? with
      | none => rw [e] at hi; cases hi
      | some j => exact (List.length_range (n := (b - a).toNat)) ▸ (List.getElem?_eq_some_iff.mp e).1
    rw [List.getElem?_range hlt] at hi
    cases hi
    exact at_int
  · rw [hsz]
    show IsRangeIter _ _ _ _ _
    simpa using Heap.get?_push_size _ rfl
theorem tcRange1 {n : Int} (hh : A.handled = none) (ht : PlainTgt tgt) (h3 : -(2 ^ 62) ≤ n) (h4 : n < 2 ^ 62) : TrC c A [.int n] (K1 (.type "range")) tgt (rangeD 0 n) := by
  intro X s vs L _ H
  obtain ⟨v, rfl, h1⟩ := H.inv1
  simp only [At] at h1
  obtain ⟨t, rfl⟩ := h1
  exact mono (call_range_1 fun hm => rangeIter hh ht ⟨_, _, rfl, ext_push _ _, hm⟩ (IsRange.new ..) (by decide) (by decide) h3 h4)
theorem tcRange2 {a b : Int} (hh : A.handled = none) (ht : PlainTgt tgt) (h1 : -(2 ^ 62) ≤ a) (h2 : a < 2 ^ 62) (h3 : -(2 ^ 62) ≤ b) (h4 : b < 2 ^ 62) : TrC c A [.int a, .int b] (K1 (.type "range")) tgt (rangeD a b) := by
  intro X s vs L _ H
  obtain ⟨v, v', rfl, g1, g2⟩ := H.inv2
  simp only [At] at g1 g2
  obtain ⟨t, rfl⟩ := g1
  obtain ⟨u, rfl⟩ := g2
  exact mono (call_range_2 fun hm => rangeIter hh ht ⟨_, _, rfl, ext_push _ _, hm⟩ (IsRange.new ..) h1 h2 h3 h4)

/-! letters and octets -/
def lettersD (x : Str) : List D := x.cps.toList.map fun k => D.str ⟨#[k]⟩
def octD (b : Array UInt8) : List D := b.toList.map fun k => D.int k.toNat
theorem lettersD_len (x : Str) : (lettersD x).length = x.cps.size := by simp [lettersD]
theorem lettersD_get {x : Str} {i : Nat} {d : D} (h : (lettersD x)[i]? = some d) : ∃ k, x.cps[i]? = some k ∧ d = .str ⟨#[k]⟩ := by
  simp only [lettersD, List.getElem?_map, Array.getElem?_toList] at h
  cases e : x.cps[i]? with
  | none => rw [e] at h; cases h
  | some k => rw [e] at h; cases h; exact ⟨k, rfl, rfl⟩
theorem strItr {x : Str} {ty : String} {t : Tok} {I : Addr} {vs : List Value} (hh : A.handled = none) (ht : PlainTgt tgt)
    (hnext : ∀ (s : Shared) i k (Q : Option Value → Shared → Prop), s.heap.IsStrIter I ty x t i → x.cps[i]? = some k → (∀ h', h'.IsStrIter I ty x t (i + 1) → Heap.SameBut I s.heap h' → Q (some (.str ⟨#[k]⟩ s.toks)) { s with heap := h', toks := s.toks + 1 }) → wpAny c.M A (pyNext (.ref I)) Q NoE s)
    (Wk : Walks c.prog c.w A I [I] [I] x.cps.size (SignAt x) (fun i h => h.IsStrIter I ty x t i)) :
    Itr c A tgt (.ref I) [I] [I] [.str x] vs (lettersD x) (fun i h => h.IsStrIter I ty x t i) where
  sub := Wk.sub
  alive := fun i h st b hb => by rw [List.mem_singleton.mp hb]; obtain ⟨o, e, _⟩ := st; rw [e]; rfl
  frame := Wk.frame
  item := fun X i s d hi st L hw H => by
    obtain ⟨k, hk, rfl⟩ := lettersD_get hi
    refine hnext s i k _ st hk fun h' st' hs' => ⟨_, rfl, ?_⟩
    rw [ht]
    obtain ⟨v, rfl, hv⟩ := H.inv1
    simp only [At] at hv
    obtain ⟨t', _, h0, h1⟩ := hv
    exact wpAny_pure ⟨⟨⟨h', s.toks + 1, rfl, Nat.le_succ _⟩, fun b o n e => same_get hs' (fun q => n (List.mem_singleton.mpr q)) e⟩, st', at_str (Nat.lt_trans h0 h1) (Nat.lt_succ_self _)⟩
  done := fun s st => mono (Wk.done s _ _ (lettersD_len x ▸ st) fun h' tk hk => fun hm => ⟨rfl, ⟨⟨h', tk, rfl, hm⟩, hk⟩⟩)
  self := fun i s st => Wk.self i s _ _ st ⟨rfl, rfl⟩
theorem tiS {x : Str} (hh : A.handled = none) (ht : PlainTgt tgt) : TrI c A (.str x) tgt (lettersD x) := by
  intro X s v L _ H
  have H' := H
  simp only [At] at H
  obtain ⟨t, rfl, _⟩ := H
  have fin : ∀ {ty : String} {o : Obj}, Itr c A tgt (.ref s.heap.objs.size) [s.heap.objs.size] [s.heap.objs.size] [.str x] [.str x t] (lettersD x) (fun i h => h.IsStrIter s.heap.objs.size ty x t i) → (s.heap.push o).IsStrIter s.heap.objs.size ty x t 0 →
      IterOf c A tgt X s (lettersD x) (.ref s.heap.objs.size) { s with heap := s.heap.push o } := by
    intro ty o It st
    refine ⟨kp_push _ _, _, _, _, _, _, It, st, fun b hb => by rw [List.mem_singleton.mp hb]; exact none_size _, fun b hb => .inl hb, ?_, fun b hb => by rw [List.mem_singleton.mp hb]; obtain ⟨o, e, _⟩ := st; show ((s.heap.push _).get? _).isSome = true; rw [e]; rfl⟩
    exact .cons ((H'.ext fun a o e h1 h2 => h2.elim h1 fun q => by rw [List.mem_singleton.mp q, none_size] at e; cases e).keeps (kp_ext (kp_push _ _))) .nil
  cases ha : x.cps.all (· < 128)
  · exact wpAny_pyIter_wide ha (fin (strItr hh ht (fun s i k Q st hk hq => wpAny_pyNext_wide_item st hk hq) (Walks.strWide hh _ x t)) ⟨_, Heap.get?_push_size _ rfl, rfl, rfl⟩)
  · exact wpAny_pyIter_ascii ha (fin (strItr hh ht (fun s i k Q st hk hq => wpAny_pyNext_ascii_item st hk hq) (Walks.strAscii hh _ x t)) ⟨_, Heap.get?_push_size _ rfl, rfl, rfl⟩)
theorem tiY {b : Array UInt8} (hh : A.handled = none) (ht : PlainTgt tgt) : TrI c A (.bytes b) tgt (octD b) := by
  intro X s v L _ H
  simp only [At] at H
  obtain ⟨t, rfl⟩ := H
  refine KBw.pyIter_bytes (.fresh (KBw.walks hh _ b t) (by simp [octD]) ht (fun i h st => by obtain ⟨o, e, _⟩ := st; rw [e]; rfl) ?_ ⟨_, Heap.get?_push_size _ rfl, rfl, rfl⟩)
  rintro X i v s s' d ⟨k, u, e, rfl⟩ hi _
  simp only [octD, List.getElem?_map, Array.getElem?_toList, e] at hi
  cases hi
  exact at_int

/-! pairs -/
variable {ka kt : Nat} {pa pb pt : Pos} {xa xb : Str}
/-- a pair is unpacked -/
theorem Asg.pair (hh : A.handled = none) (ha : env.kindOf xa = some .local ∨ xa ∈ W) (hb : env.kindOf xb = some .local ∨ xb ∈ W) :
    Asg c A env W (.Tuple [.Name xa pa, .Name xb pb] kt pt) (.tuple [d1, d2]) Γ ((xb, .d d2) :: (xa, .d d1) :: Γ) := by
  intro s0 Xo X Y s v G eo F H
  simp only [At] at H
  obtain ⟨T, vs, rfl, hx, hT, hr⟩ := H
  obtain ⟨v1, v2, e, h1, h2⟩ := hr.inv2
  have hsz : vs.size = 2 := by rw [← Array.length_toList, e]; rfl
  refine assign_Tuple_tuple hh hT (by rw [hsz]; rfl) rfl fun h' he => ?_
  have k : Keeps s { s with heap := h' } := ⟨h', s.toks, rfl, fun b o g => he b o (Nat.ne_of_lt (Heap.lt_size g)) g, Nat.le_refl _⟩
  rw [e]
  have F1 := F.keeps k
  refine assignInOrder_cons (wpAny_assign_Name (wpAny_mono (F1.store eo (e := .d d1) (h1.keeps (kp_ext k)) ha) (fun _ s₂ q => ?_) fun _ _ x => x))
  have h2' : At X c.C s₂ d2 v2 := (h2.keeps (kp_ext k)).but (fun a o hx e => q.2.but a o (fun y => hx (F.yx a y)) e) q.2.tk
  refine assignInOrder_cons (wpAny_assign_Name (wpAny_mono (q.1.store eo (e := .d d2) h2' hb) (fun _ s₃ q2 => ?_) fun _ _ x => x))
  exact assignInOrder_nil ⟨q2.1, ((Chg.keeps k).trans q.2 F.yx).trans q2.2 F.yx⟩

/-- for a, b in a list -/
theorem tiLP {elts : List Expr} (hh : A.handled = none) : TrI c A (.wlist ds) (.Tuple elts kt pt) ds := by
  intro X s v L _ H
  simp only [At] at H
  obtain ⟨l, vs, rfl, hx, hl, hr⟩ := H
  obtain ⟨o, ho, _⟩ := id hl
  have hlt : l < s.heap.objs.size := Heap.lt_size ho
  have Wk := Walks.list (prog := c.prog) (w := c.w) hh s.heap.objs.size l (Nat.ne_of_lt hlt) vs
  have hlen : ds.length = vs.size := by rw [← hr.length, Array.length_toList]
  refine wpAny_pyIter_list hl ⟨kp_push _ _, [s.heap.objs.size, l], [s.heap.objs.size], ds, vs.toList, (fun i h => h.IsListIter s.heap.objs.size l i ∧ h.IsList l vs), ?_, ⟨⟨_, Heap.get?_push_size _ rfl, rfl, rfl⟩, hl.push _⟩, ?_, ?_, ?_, ?_⟩
  · refine { sub := Wk.sub, alive := ?_, frame := Wk.frame, item := ?_, done := fun s st => mono (Wk.done s _ _ (hlen ▸ st) fun h' tk hk => fun hm => ⟨rfl, ⟨⟨h', tk, rfl, hm⟩, hk⟩⟩), self := fun i s st => Wk.self i s _ _ st ⟨rfl, rfl⟩ }
    · rintro i h st b hb
      rw [List.mem_singleton.mp hb]
      obtain ⟨⟨o, e, _⟩, _⟩ := st
      rw [e]; rfl
    · intro X i s d hi st L hw H
      have hlt : i < vs.size := hlen ▸ (List.getElem?_eq_some_iff.mp hi).1
      refine mono (Wk.item i s _ _ hlt st fun v h' tk hp st' hk => fun hm => ⟨v, rfl, ?_⟩)
      have kb : Kb _ s { s with heap := h', toks := tk } := ⟨⟨h', tk, rfl, hm⟩, hk⟩
      have ha : At X c.C { s with heap := h', toks := tk } d v := by
        obtain ⟨u, hu, ha⟩ := (H.kb hw kb).get hi
        have e : some u = some v := by rw [← hu, ← hp]; simp
        cases e; exact ha
      have fin : Kb _ s { s with heap := h', toks := tk } ∧ _ ∧ _ := ⟨kb, st', ha⟩
      cases v with
      | ref T => exact wpAny_letOwnedTupleGo_listiter st'.1 fin
      | _ => exact wpAny_pure fin
  · intro b hb
    rw [List.mem_singleton.mp hb]
    exact none_size _
  · intro b hb
    rcases List.mem_cons.mp hb with rfl | hb
    · exact .inl (List.mem_singleton.mpr rfl)
    · rw [List.mem_singleton.mp hb]; exact .inr hx
  · refine (hr.ext fun a o e h1 h2 => h2.elim h1 fun q => ?_).keeps (kp_ext (kp_push _ _))
    exact absurd (Heap.lt_size e) (by rw [List.mem_singleton.mp q]; exact Nat.lt_irrefl _)
  · intro b hb
    show ((s.heap.push _).get? b).isSome = true
    rcases List.mem_cons.mp hb with rfl | hb
    · rw [Heap.get?_push_size _ rfl]; rfl
    · rw [List.mem_singleton.mp hb, Heap.get?_push_of_some _ ho]; rfl

theorem Itr.ofWalksT {elts : List Expr} {I : Addr} {fp wr : List Addr} {n : Nat} {Pt : Nat → Array Value → Prop} {St : Nat → Heap → Prop} {Mid : Nat → Addr → Heap → Prop} {bs : List D} {vs : List Value} (Wk : WalksT c.prog c.w A I fp wr n Pt St Mid) (hn : ds.length = n)
    (hal : ∀ i h, St i h → ∀ b ∈ wr, (h.get? b).isSome = true)
    (hP : ∀ (X : Addr → Prop) i vals (s : Shared) d, Pt i vals → ds[i]? = some d → AtAll X c.C s bs vs → ∃ es, d = .tuple es ∧ AtAll X c.C s es vals.toList) :
    Itr c A (.Tuple elts kt pt) (.ref I) fp wr bs vs ds St where
  sub := Wk.sub
  alive := hal
  frame := Wk.frame
  item := fun X i s d hi st L hw H => by
    have hlt : i < n := hn ▸ (List.getElem?_eq_some_iff.mp hi).1
    refine mono (Wk.item i s _ _ hlt st fun T vals h' tk hp hT hTup hm hk => fun hmo => ⟨.ref T, rfl, ?_⟩)
    refine Wk.go _ _ _ i T _ _ _ hm fun h'' st' hk' => ?_
    have hk2 : ∀ b o, b ∉ wr → s.heap.get? b = some o → h''.get? b = some o := fun b o n e => hk' b o n (hk b o n e)
    have kb : Kb wr s { s with heap := h'', toks := tk } := ⟨⟨h'', tk, rfl, hmo⟩, hk2⟩
    refine ⟨kb, st', ?_⟩
    obtain ⟨es, rfl, ha⟩ := hP X i vals _ d hp hi (H.kb hw kb)
    simp only [At]
    exact ⟨T, vals, rfl, fun hx => by
      obtain ⟨o, e⟩ := Option.isSome_iff_exists.mp (L T hx)
      exact absurd (ltN e) (Nat.not_lt.mpr hT), hTup.at fun o e => hk' T o (Wk.apart _ _ _ hm) e, ha⟩
  done := fun s st => mono (Wk.done s _ _ (hn ▸ st) fun h' tk hk => fun hm => ⟨rfl, ⟨⟨h', tk, rfl, hm⟩, hk⟩⟩)
  self := fun i s st => Wk.self i s _ _ st ⟨rfl, rfl⟩

/-! enumerate -/
def enumD (ds : List D) : List D := (List.range ds.length).map fun (i : Nat) => D.tuple [.int i, ds.getD i .none]
theorem enumD_get {i : Nat} {d : D} (h : (enumD ds)[i]? = some d) : ∃ e, ds[i]? = some e ∧ d = .tuple [.int i, e] := by
  simp only [enumD, List.getElem?_map] at h
  have hlt : i < ds.length := by
    cases e : (List.range ds.length)[i]? with
    | none => rw [e] at h; cases h
    | some j => exact (List.length_range (n := ds.length)) ▸ (List.getElem?_eq_some_iff.mp e).1
  rw [List.getElem?_range hlt] at h
  cases h
  exact ⟨ds[i], List.getElem?_eq_getElem hlt, by show D.tuple [.int i, ds.getD i .none] = _; rw [List.getD_eq_getElem?_getD, List.getElem?_eq_getElem hlt]; rfl⟩
/-! zip -/
def zipD : List D → List D → List D
  | a :: as, b :: bs => .tuple [a, b] :: zipD as bs
  | _, _ => []
theorem zipD_len : ∀ (as bs : List D), (zipD as bs).length = min as.length bs.length
  | [], _ => by simp [zipD]
  | _ :: _, [] => by simp [zipD]
  | a :: as, b :: bs => by simp [zipD, zipD_len as bs, Nat.succ_min_succ]
theorem zipD_get : ∀ {as bs : List D} {i : Nat} {d : D}, (zipD as bs)[i]? = some d → ∃ a b, as[i]? = some a ∧ bs[i]? = some b ∧ d = .tuple [a, b]
  | [], _, _, _, h => by simp [zipD] at h
  | _ :: _, [], _, _, h => by simp [zipD] at h
  | a :: as, b :: bs, 0, d, h => by simp only [zipD, List.getElem?_cons_zero] at h; cases h; exact ⟨a, b, rfl, rfl, rfl⟩
  | a :: as, b :: bs, i + 1, d, h => by
    simp only [zipD, List.getElem?_cons_succ] at h
    exact zipD_get (as := as) (bs := bs) (i := i) h
theorem tcZip {elts : List Expr} {es' : List D} (hh : A.handled = none) : TrC c A [.wlist ds, .wlist es'] (K1 (.type "zip")) (.Tuple elts kt pt) (zipD ds es') := by
  intro X s vs L _ H
  obtain ⟨v, v', rfl, h1, h2⟩ := H.inv2
  simp only [At] at h1 h2
  obtain ⟨l1, xs, rfl, hx1, hl1, hr1⟩ := h1
  obtain ⟨l2, ys, rfl, hx2, hl2, hr2⟩ := h2
  obtain ⟨o1, ho1, _⟩ := id hl1
  obtain ⟨o2, ho2, _⟩ := id hl2
  have D := zipApart_new (Heap.lt_size ho1) (Heap.lt_size ho2)
  have n1 := hr1.length
  have n2 := hr2.length
  simp only [Array.length_toList] at n1 n2
  refine call_zip_2 hl1 hl2 fun h' hz hTI hTO hi1 hi2 hsz hk => wpAny_pyIter_zip hz ?_
  have ge : ∀ b ∈ [s.heap.objs.size + 4, s.heap.objs.size + 3, s.heap.objs.size, s.heap.objs.size + 1], s.heap.get? b = none := by
    intro b hb
    refine none_ge ?_
    simp only [List.mem_cons, List.not_mem_nil, or_false] at hb
    rcases hb with rfl | rfl | rfl | rfl
    · exact Nat.le_add_right _ 4
    · exact Nat.le_add_right _ 3
    · exact Nat.le_refl _
    · exact Nat.le_add_right _ 1
  have al : ∀ {k : Nat} {h : Heap}, (IsZip h (s.heap.objs.size + 4) (s.heap.objs.size + 2) (s.heap.objs.size + 3) .none ∧ IsPair h (s.heap.objs.size + 2) (.ref s.heap.objs.size) (.ref (s.heap.objs.size + 1)) ∧ (∃ a b, IsPair h (s.heap.objs.size + 3) a b) ∧ h.IsListIter s.heap.objs.size l1 k ∧ h.IsListIter (s.heap.objs.size + 1) l2 k ∧ h.IsList l1 xs ∧ h.IsList l2 ys) →
      ∀ b ∈ [s.heap.objs.size + 4, s.heap.objs.size + 2, s.heap.objs.size + 3, s.heap.objs.size, s.heap.objs.size + 1, l1, l2], (h.get? b).isSome = true := by
    rintro k h ⟨e1, e2, ⟨a, b', e3⟩, ⟨o4, e4, _⟩, ⟨o5, e5, _⟩, ⟨o6, e6, _⟩, ⟨o7, e7, _⟩⟩ b hb
    have e1' : h.get? (s.heap.objs.size + 4) = some _ := e1
    have e2' : h.get? (s.heap.objs.size + 2) = some _ := e2
    have e3' : h.get? (s.heap.objs.size + 3) = some _ := e3
    simp only [List.mem_cons, List.not_mem_nil, or_false] at hb
    rcases hb with rfl | rfl | rfl | rfl | rfl | rfl | rfl
    · rw [e1']; rfl
    · rw [e2']; rfl
    · rw [e3']; rfl
    · rw [e4]; rfl
    · rw [e5]; rfl
    · rw [e6]; rfl
    · rw [e7]; rfl
  have St0 := And.intro hz (And.intro hTI (And.intro (⟨_, _, hTO⟩ : ∃ a b, IsPair h' (s.heap.objs.size + 3) a b) (And.intro hi1 (And.intro hi2 (And.intro (Heap.IsList.at hl1 fun o e => hk _ o e) (Heap.IsList.at hl2 fun o e => hk _ o e))))))
  have fr : ∀ {a o}, s.heap.get? a = some o → a ∉ [s.heap.objs.size + 4, s.heap.objs.size + 3, s.heap.objs.size, s.heap.objs.size + 1] := fun e q => by rw [ge _ q] at e; cases e
  refine ⟨⟨h', s.toks, rfl, hk, Nat.le_refl _⟩, _, _, ds ++ es', xs.toList ++ ys.toList, _, Itr.ofWalksT (WalksT.zip2 hh _ _ _ _ _ _ _ D xs ys) (by rw [zipD_len, n1, n2]) ?_ ?_, St0, ge, ?_, ?_, al St0⟩
  · intro i h st b hb
    refine al st b ?_
    simp only [List.mem_cons, List.not_mem_nil, or_false] at hb ⊢
    rcases hb with q | q | q | q <;> simp [q]
  · rintro X i vals h d ⟨x, y, hx, hy, rfl⟩ hd H
    obtain ⟨a, b, ha, hb, rfl⟩ := zipD_get hd
    refine ⟨_, rfl, ?_⟩
    have ha' : (ds ++ es')[i]? = some a := by rw [List.getElem?_append_left (List.getElem?_eq_some_iff.mp ha).1]; exact ha
    have hb' : (ds ++ es')[ds.length + i]? = some b := by rw [List.getElem?_append_right (Nat.le_add_right _ _), Nat.add_sub_cancel_left]; exact hb
    obtain ⟨u, hu, hA⟩ := H.get ha'
    obtain ⟨u', hu', hB⟩ := H.get hb'
    have hix : i < xs.size := by rw [n1]; exact (List.getElem?_eq_some_iff.mp ha).1
    rw [List.getElem?_append_left (by simpa using hix)] at hu
    rw [List.getElem?_append_right (by rw [Array.length_toList, n1]; exact Nat.le_add_right _ _), show ds.length + i - xs.toList.length = i by rw [← n1, Array.length_toList, Nat.add_sub_cancel_left]] at hu'
    rw [Array.getElem?_toList, hx] at hu
    rw [Array.getElem?_toList, hy] at hu'
    cases hu; cases hu'
    exact .cons hA (.cons hB .nil)
  · intro b hb
    simp only [List.mem_cons, List.not_mem_nil, or_false] at hb ⊢
    rcases hb with q | rfl | q | q | q | rfl | rfl
    · exact .inl (.inl q)
    · exact .inr fun hx => by
        obtain ⟨o, e⟩ := Option.isSome_iff_exists.mp (L _ hx)
        exact absurd (ltN e) (Nat.not_lt.mpr (Nat.le_add_right _ 2))
    · exact .inl (.inr (.inl q))
    · exact .inl (.inr (.inr (.inl q)))
    · exact .inl (.inr (.inr (.inr q)))
    · exact .inr hx1
    · exact .inr hx2
  · exact ((hr1.append hr2).ext fun a o e h1 h2 => h2.elim h1 (fr e)).keeps ⟨hk, Nat.le_refl _⟩
end
end Mine

namespace Mine

theorem slot_bytes_lt : Slot "bytes" (cmpInfo .Lt).2.1 "bytes.__lt__" :=
  .of (owner := "bytes") (n := "__lt__") (by rw [typeLookup_type, builtinLookup_eq_fast]; kernel_rfl) (by decide +kernel) (by decide +kernel) (by decide +kernel)
    (by first | exact .inl (by decide +kernel) | exact .inr (by decide +kernel)) (by rw [isSubtype_type]; kernel_rfl)
theorem entry_bytes_lt : entryFor table "bytes.__lt__" = some Builtin.«bytes.__lt__» := entryFor_of_tree (by kernel_rfl)
theorem args_bytes_lt (a b : Value) : argsOk "bytes.__lt__" ⟨[a, b], []⟩ := by unfold argsOk; kernel_rfl

def keyB (b : Array UInt8) : List Nat := b.toList.map (·.toNat)
theorem order_lt : ∀ a b : List UInt8, (Builtin.Bytes.order a b == .lt) = decide (a.map (·.toNat) < b.map (·.toNat))
  | [], [] => rfl
  | [], _ :: _ => by simp [Builtin.Bytes.order]
  | _ :: _, [] => by simp [Builtin.Bytes.order]
  | x :: a, y :: b => by
    simp only [Builtin.Bytes.order, List.map_cons, List.cons_lt_cons_iff]
    by_cases h1 : x < y
    · have : x.toNat < y.toNat := h1
      simp [h1, this]
    · by_cases h2 : x > y
      · have h3 : y.toNat < x.toNat := h2
        have : ¬ x.toNat < y.toNat := by omega
        have h4 : x.toNat ≠ y.toNat := by omega
        simp [h1, h2, this, h4]
      · have : x = y := UInt8.le_antisymm (UInt8.not_lt.mp h2) (UInt8.not_lt.mp h1)
        subst this
        have := order_lt a b
        simp [h1, this]

abbrev bKind : PyProof.Rows.KeyKind := { PyProof.Rows.strKind with keyOf := fun v => match v with | .bytes b _ => some (keyB b) | _ => none }

section
variable {prog : Program} {w : World} {A : Around} {E : Value → Shared → Prop} {s : Shared}
theorem call_bytes_lt {a b : Array UInt8} {t u : Tok} {Q : Value → Shared → Prop} (h : Q (.bool (decide (keyB a < keyB b))) s) :
    wpAny (model prog w) A (call (.builtin "bytes.__lt__") [.bytes a t, .bytes b u]) Q E s := by
  refine wpAny_call_entry slot_bytes_lt (typeIs_bytes s a t) entry_bytes_lt ?_ (args_bytes_lt _ _)
  show wpAny _ _ (isInstance (.bytes b u) (.type "bytes") >>= fun r => _) _ _ s
  refine wpAny_bind (wpAny_isInstance (typeIs_bytes s b u) F.sub_bytes_bytes ?_)
  exact wpAny_pure ⟨_, rfl, by
    have : Builtin.Bytes.holds "__lt__" (Builtin.Bytes.order a.toList b.toList) = decide (keyB a < keyB b) := order_lt _ _
    rw [this]; exact h⟩
theorem oneLt_bytes {a b : Array UInt8} {t u : Tok} {Q : Bool → Shared → Prop} (h : Q (decide (keyB a < keyB b)) s) : wpAny (model prog w) A (oneLt' true (.bytes a t) (.bytes b u)) Q E s := by
  rw [oneLt'_eq]
  simp only [if_true]
  refine wpAny_bind (wpAny_cRoomFor_byValue rfl ?_)
  refine wpAny_bind (wpAny_callSpecialIfBound?_slot (typeIs_bytes s a t) slot_bytes_lt (call_bytes_lt ?_))
  exact wpAny_truthy_bool h
theorem gives_bytes_contains (b : Array UInt8) (t : Tok) (i : Int) (u : Tok) (h0 : 0 ≤ i) (h1 : i < 256) : Gives (Builtin.«bytes.__contains__» ⟨[.bytes b t, .int i u], []⟩) (.val (.bool (b.contains i.toNat.toUInt8))) := by
  refine .of_wp fun M A E s Q hq => ?_
  show wpAny M A (Builtin.Bytes.containsIn _ (.bytes b t) (.int i u) >>= fun r => _) _ E s
  have ai : asIndex (.int i u) = pure i := by unfold asIndex; rfl
  unfold Builtin.Bytes.containsIn
  refine wpAny_bind (wpAny_bind (wpAny_attempt (wpAny_of_eq ai ?_)))
  refine wpAny_bind (wpAny_of_eq KBy.buffer_eq ?_)
  dsimp only
  rw [if_neg (by simp only [Bool.or_eq_true, decide_eq_true_eq]; omega)]
  exact wpAny_pure (wpAny_pure ⟨_, rfl, hq⟩)
end
theorem bKind_oneLt : bKind.OneLt := by
  intro prog w A E s x y a b Q ha hb h
  cases x <;> simp only [bKind, reduceCtorEq, Option.some.injEq] at ha
  cases y <;> simp only [bKind, reduceCtorEq, Option.some.injEq] at hb
  cases ha; cases hb
  exact oneLt_bytes h

/-! sorting octet strings -/
def leB (a b : Array UInt8) : Bool := !decide (keyB b < keyB a)
def insB (x : Array UInt8) : List (Array UInt8) → List (Array UInt8)
  | [] => [x]
  | y :: r => if leB x y then x :: y :: r else y :: insB x r
def sortB : List (Array UInt8) → List (Array UInt8)
  | [] => []
  | x :: r => insB x (sortB r)
theorem insB_perm (x : Array UInt8) : ∀ l, (insB x l).Perm (x :: l)
  | [] => .refl _
  | y :: r => by
    unfold insB
    split
    · exact .refl _
    · exact ((insB_perm x r).cons y).trans (.swap x y r)
theorem sortB_perm : ∀ l, (sortB l).Perm l
  | [] => .refl _
  | x :: r => (insB_perm x _).trans ((sortB_perm r).cons x)
theorem leB_total {a b : Array UInt8} (h : ¬ leB a b = true) : leB b a = true := by
  unfold leB at h ⊢
  cases hd : decide (keyB b < keyB a) with
  | false => rw [hd] at h; exact absurd rfl h
  | true =>
    have h1 := of_decide_eq_true hd
    have h2 : ¬ keyB a < keyB b := List.not_lt.mpr (List.le_of_lt h1)
    rw [decide_eq_false h2]; rfl
theorem leB_trans {a b c : Array UInt8} (h1 : leB a b = true) (h2 : leB b c = true) : leB a c = true := by
  simp only [leB, Bool.not_eq_true', decide_eq_false_iff_not] at h1 h2 ⊢
  exact List.not_lt.mpr (List.le_trans (List.not_lt.mp h1) (List.not_lt.mp h2))
theorem keyB_inj {a b : Array UInt8} (h : keyB a = keyB b) : a = b := by
  have : a.toList = b.toList := List.map_inj_right (fun x y e => UInt8.toNat_inj.mp e) |>.mp h
  exact Array.toList_inj.mp this
theorem leB_anti {a b : Array UInt8} (h1 : leB a b = true) (h2 : leB b a = true) : a = b := by
  simp only [leB, Bool.not_eq_true', decide_eq_false_iff_not] at h1 h2
  exact keyB_inj (List.le_antisymm (List.not_lt.mp h1) (List.not_lt.mp h2))
theorem insB_sorted (x : Array UInt8) : ∀ {l : List (Array UInt8)}, l.Pairwise (fun a b => leB a b = true) → (insB x l).Pairwise (fun a b => leB a b = true)
  | [], _ => by simp [insB]
  | y :: r, h => by
    unfold insB
    split
    · rename_i hx
      refine List.pairwise_cons.mpr ⟨fun z hz => ?_, h⟩
      rcases List.mem_cons.mp hz with rfl | hz
      · exact hx
      · exact leB_trans hx (List.rel_of_pairwise_cons h hz)
    · rename_i hx
      refine List.pairwise_cons.mpr ⟨fun z hz => ?_, insB_sorted x (List.pairwise_cons.mp h).2⟩
      rcases List.mem_cons.mp ((insB_perm x r).mem_iff.mp hz) with rfl | hz
      · exact leB_total hx
      · exact List.rel_of_pairwise_cons h hz
theorem sortB_sorted : ∀ l : List (Array UInt8), (sortB l).Pairwise (fun a b => leB a b = true)
  | [] => .nil
  | x :: r => insB_sorted x (sortB_sorted r)
theorem sortB_unique {l l' : List (Array UInt8)} (hp : l'.Perm l) (hs : l'.Pairwise (fun a b => leB a b = true)) : l' = sortB l :=
  (hp.trans (sortB_perm l).symm).eq_of_pairwise (fun _ _ _ _ h1 h2 => leB_anti h1 h2) hs (sortB_sorted l)

def octs : Value → Array UInt8
  | .bytes b _ => b
  | _ => #[]
theorem ats_bytes {X : Addr → Prop} {C : Addr} {s : Shared} : ∀ {ws : List (Array UInt8)} {vs : List Value}, AtAll X C s (ws.map .bytes) vs → ∀ v ∈ vs, ∃ b t, v = .bytes b t
  | [], vs, H, v, hv => by simp only [List.map_nil, AtAll] at H; rw [H] at hv; cases hv
  | w :: ws, vs, H, v, hv => by
    simp only [List.map_cons, AtAll, At] at H
    obtain ⟨_, r, rfl, ⟨t, rfl⟩, h2⟩ := H
    rcases List.mem_cons.mp hv with rfl | hv
    · exact ⟨w, t, rfl⟩
    · exact ats_bytes h2 v hv
theorem ats_octs {X : Addr → Prop} {C : Addr} {s : Shared} : ∀ {ws : List (Array UInt8)} {vs : List Value}, AtAll X C s (ws.map .bytes) vs → vs.map octs = ws
  | [], vs, H => by simp only [List.map_nil, AtAll] at H; rw [H]; rfl
  | w :: ws, vs, H => by
    simp only [List.map_cons, AtAll, At] at H
    obtain ⟨_, r, rfl, ⟨t, rfl⟩, h2⟩ := H
    rw [List.map_cons, ats_octs h2]; rfl
theorem ats_of {X : Addr → Prop} {C : Addr} {s : Shared} : ∀ {vs : List Value}, (∀ v ∈ vs, ∃ b t, v = .bytes b t) → AtAll X C s ((vs.map octs).map .bytes) vs
  | [], _ => .nil
  | v :: vs, H => by
    obtain ⟨b, t, rfl⟩ := H _ List.mem_cons_self
    exact .cons at_bytes (ats_of fun v hv => H v (List.mem_cons_of_mem _ hv))
theorem sorted_out_bytes {vs : List Value} (hall : ∀ v ∈ vs, ∃ b t, v = .bytes b t) {xs : Array Keyed} (hp : xs.Perm (pairsOf vs)) (hs : SortedToK bKind xs (pairsOf vs).size) :
    (∀ v ∈ (xs.map (·.2)).toList, ∃ b t, v = .bytes b t) ∧ (xs.map (·.2)).toList.map octs = sortB (vs.map octs) := by
  have hl : xs.toList.Perm (vs.zip vs) := by rw [← pairsOf_toList]; exact Array.perm_iff_toList_perm.mp hp
  have hmem : ∀ p, p ∈ xs.toList → p.1 = p.2 ∧ p.1 ∈ vs := fun p hp' => mem_zip_self (hl.mem_iff.mp hp')
  have e : (xs.map (·.2)).toList = xs.toList.map (·.1) := by
    rw [Array.toList_map]; exact List.map_congr_left fun p hp' => (hmem p hp').1.symm
  rw [e]
  refine ⟨fun v hv => ?_, sortB_unique ?_ ?_⟩
  · obtain ⟨p, hp', rfl⟩ := List.mem_map.mp hv
    exact hall _ (hmem p hp').2
  · have h1 := hl.map (fun p => octs p.1)
    have e2 : (vs.zip vs).map (fun p => octs p.1) = vs.map octs := by
      have : (vs.zip vs).map (fun p => octs p.1) = ((vs.zip vs).map Prod.fst).map octs := by rw [List.map_map]; rfl
      rw [this, List.map_fst_zip (Nat.le_refl _)]
    rw [e2] at h1
    rwa [List.map_map]
  · rw [List.map_map, List.pairwise_iff_getElem]
    intro i j hi hj hij
    have hi' : i < xs.size := by simpa using hi
    have hj' : j < xs.size := by simpa using hj
    have h1 := hs i j (Nat.le_of_lt hij) (by rw [← hp.size_eq]; exact hj')
    obtain ⟨x, t, ex⟩ := hall _ (hmem xs[i] (by simp)).2
    obtain ⟨y, u, ey⟩ := hall _ (hmem xs[j] (by simp)).2
    have kk : ∀ {i : Nat} (hi : i < xs.size) {x : Array UInt8} {t : Tok}, xs[i].1 = .bytes x t → KK bKind xs i = keyB x := by
      intro i hi x t hx
      unfold KK
      rw [getElem?_pos xs i hi]
      show (bKind.keyOf xs[i].1).getD _ = _
      rw [hx]; rfl
    rw [kk hi' ex, kk hj' ey] at h1
    change decide (keyB y < keyB x) = false at h1
    simp only [List.getElem_map, Array.getElem_toList, Function.comp, ex, ey, octs, leB, h1, Bool.not_false]

section
variable {c : Cx} {A : Around} {env : Env} {Γ : Gam} {e e1 e2 e3 : Expr} {es : List Expr} {d d1 d2 d3 : D} {ds es' : List D} {pos : Pos}
theorem firstOfTuple'_bytes (x : Array UInt8) (t : Tok) : firstOfTuple' (.bytes x t) = pure none := rfl
theorem mapM_first_bytes : ∀ {vs : List Value}, (∀ v ∈ vs, ∃ b t, v = .bytes b t) → vs.mapM firstOfTuple' = pure (vs.map fun _ => none)
  | [], _ => by simp
  | v :: vs, h => by
    obtain ⟨b, t, rfl⟩ := h _ List.mem_cons_self
    rw [List.mapM_cons, firstOfTuple'_bytes, mapM_first_bytes fun v hv => h v (List.mem_cons_of_mem _ hv)]; simp
theorem mapM_typeOf_bytes : ∀ {vs : List Value}, (∀ v ∈ vs, ∃ b t, v = .bytes b t) → vs.mapM typeOf = pure (vs.map fun _ => Value.type "bytes")
  | [], _ => by simp
  | v :: vs, h => by
    obtain ⟨b, t, rfl⟩ := h _ List.mem_cons_self
    rw [List.mapM_cons, mapM_typeOf_bytes fun v hv => h v (List.mem_cons_of_mem _ hv)]
    show (pure (Value.type "bytes") >>= fun b => pure _ >>= fun bs => pure (b :: bs)) = _
    simp
theorem keyKind_bytes {v₁ v₂ : Value} {vs : List Value} (hS : ∀ v ∈ v₁ :: v₂ :: vs, ∃ b t, v = .bytes b t) : keyKind' (v₁ :: v₂ :: vs).toArray = pure oneType' := by
  rw [keyKind'_eq, List.mapM_toArray, mapM_first_bytes hS]
  simp only [map_pure, pure_bind]
  rw [if_neg (by simp), if_neg (by simp)]
  rw [oneTypeOnly'_eq, List.mapM_toArray, mapM_typeOf_bytes hS]
  simp only [map_pure, pure_bind]
  have hall : ((List.map (fun _ => Value.type "bytes") (v₁ :: v₂ :: vs)).toArray.all fun x => x == Value.type "bytes") = true := by
    simp only [List.all_toArray, List.all_map, List.all_eq_true]
    intro _ _
    rfl
  have h0 : (List.map (fun _ => Value.type "bytes") (v₁ :: v₂ :: vs)).toArray[0]? = some (Value.type "bytes") := by simp
  rw [h0]
  simp only [hall, if_true, pure_bind, Option.isSome_some]
theorem tSorted {ws : List (Array UInt8)} (hz : ws.length < 64) : Tr c A [.wlist (ws.map .bytes)] (K1 (.builtin "sorted")) (.list ((sortB ws).map .bytes)) := by
  intro X s vs L _ H
  obtain ⟨v, rfl, h1⟩ := H.inv1
  simp only [At] at h1
  obtain ⟨l, xs, rfl, hx, hl, hr⟩ := h1
  have hall := ats_bytes hr
  have hl' : s.heap.IsList l xs.toList.toArray := by simpa using hl
  refine sortedK bKind_oneLt hl' ?_ (fun v₁ v₂ rest e => keyKind_bytes (by rw [← e]; exact hall)) (by rw [hr.length, List.length_map]; exact hz) fun st' hp hs => ?_
  · intro p hp
    rw [pairsOf_toList] at hp
    obtain ⟨b, t, e⟩ := hall _ (mem_zip_self hp).2
    exact ⟨keyB b, by rw [e]⟩
  obtain ⟨o1, o2⟩ := sorted_out_bytes hall hp hs
  obtain ⟨en, he⟩ := sortedAll_at s.heap xs.toList ((arrOf st').map (·.2))
  refine ⟨⟨_, s.toks, rfl, fun _ _ => sortedAll_old, Nat.le_refl _⟩, ?_⟩
  simp only [At]
  refine ⟨_, _, rfl, fun hX => ?_, ⟨en, he⟩, ?_⟩
  · obtain ⟨o, e⟩ := Option.isSome_iff_exists.mp (L _ hX)
    exact absurd (ltN e) (Nat.not_lt.mpr (Nat.le_succ _))
  · have := ats_of (X := X) (C := c.C) (s := { s with heap := sortedAll s.heap xs.toList ((arrOf st').map (·.2)) }) o1
    rw [o2, ats_octs hr] at this
    exact this
end
end Mine

namespace Mine

theorem ats_ints {X : Addr → Prop} {C : Addr} {s : Shared} : ∀ {ns : List Int} {vs : List Value}, AtAll X C s (ns.map .int) vs → IntsAre vs ns
  | [], vs, H => by simp only [List.map_nil, AtAll] at H; rw [H]; exact .nil
  | n :: ns, vs, H => by
    simp only [List.map_cons, AtAll, At] at H
    obtain ⟨_, r, rfl, ⟨t, rfl⟩, h2⟩ := H
    exact .cons n t (ats_ints h2)
theorem ints_ats {X : Addr → Prop} {C : Addr} {s : Shared} {ns : List Int} {vs : List Value} (H : IntsAre vs ns) : AtAll X C s (ns.map .int) vs := by
  induction H with
  | nil => exact .nil
  | cons n t _ ih => exact .cons at_int ih

section
variable {c : Cx} {A : Around} {env : Env} {Γ : Gam} {e e1 e2 e3 : Expr} {es : List Expr} {d d1 d2 d3 : D} {ds es' : List D} {pos : Pos} {x y : Int}

/-- a tree upon one value -/
theorem Tr.weak {t : List Value → Sem Value} (h : Tr c A [.wlist ds] t d) : Tr c A [.list ds] t d := fun X s vs L G H => by
  obtain ⟨v, rfl, h1⟩ := H.inv1
  exact h X s _ L G (.cons h1.weak .nil)
theorem Tr.weak2 {t : List Value → Sem Value} (h : Tr c A [.wlist ds, d2] t d) : Tr c A [.list ds, d2] t d := fun X s vs L G H => by
  obtain ⟨v, v', rfl, h1, h2⟩ := H.inv2
  exact h X s _ L G (.cons h1.weak (.cons h2 .nil))
theorem Tr.weak3 {t : List Value → Sem Value} (h : Tr c A [d1, .wlist ds] t d) : Tr c A [d1, .list ds] t d := fun X s vs L G H => by
  obtain ⟨v, v', rfl, h1, h2⟩ := H.inv2
  exact h X s _ L G (.cons h1 (.cons h2.weak .nil))

theorem tSum {ns : List Int} (hh : A.handled = none) : Tr c A [.wlist (ns.map .int)] (K1 (.builtin "sum")) (.int ns.sum) := by
  intro X s vs L _ H
  obtain ⟨v, rfl, h1⟩ := H.inv1
  simp only [At] at h1
  obtain ⟨l, ws, rfl, _, hl, hr⟩ := h1
  have hi := ats_ints hr
  obtain ⟨xs, hx⟩ := hi.allInts.items
  have hx' : ws = intItems xs := by simpa using hx
  have hl' : s.heap.IsList l (intItems xs) := hx' ▸ hl
  refine mono (sum_intListG hh hl' fun h' tk t' hk => ?_)
  have e1 : ns = xs.toList.map (·.1) := by
    rw [← nums_intItems, ← hx']
    exact (show numsOf ws.toList = ns from hi.numsOf).symm
  have e2 : preSum (numAt xs) xs.size = ns.sum := by
    rw [preSum_eq, List.take_of_length_le (by simp), e1]
  rw [e2]
  exact fun hm => ⟨⟨h', tk, rfl, hk, hm⟩, at_int⟩
theorem tLenW (hz : ds.length ≤ 1000000) : Tr c A [.wlist ds] (K1 (.builtin "len")) (.int ds.length) := by
  intro X s vs L _ H
  obtain ⟨v, rfl, h1⟩ := H.inv1
  simp only [At] at h1
  obtain ⟨l, ws, rfl, _, hl, hr⟩ := h1
  have hlen := hr.length
  simp only [Array.length_toList] at hlen
  refine call_len_list hl (by rw [hlen]; omega) ⟨kp_tok s _, ?_⟩
  rw [hlen]; exact at_int
theorem tLenY {b : Array UInt8} (hz : b.size ≤ 1000000) : Tr c A [.bytes b] (K1 (.builtin "len")) (.int b.size) := by
  intro X s vs L _ H
  obtain ⟨v, rfl, h1⟩ := H.inv1
  simp only [At] at h1
  obtain ⟨t, rfl⟩ := h1
  exact len_bytes (by omega) ⟨kp_tok s _, at_int⟩
theorem tMin (hh : A.handled = none) : Tr c A [.int x, .int y] (K1 (.builtin "min")) (.int (min x y)) := by
  intro X s vs L _ H
  obtain ⟨v, v', rfl, h1, h2⟩ := H.inv2
  simp only [At] at h1 h2
  obtain ⟨t, rfl⟩ := h1
  obtain ⟨u, rfl⟩ := h2
  refine mono (min_two_ints hh fun h' tk hk => fun hm => ⟨⟨h', tk, rfl, hk, hm⟩, ?_⟩)
  by_cases q : y < x
  · rw [if_pos q, Int.min_eq_right (Int.le_of_lt q)]; exact at_int
  · rw [if_neg q, Int.min_eq_left (Int.not_lt.mp q)]; exact at_int
theorem tMax (hh : A.handled = none) : Tr c A [.int x, .int y] (K1 (.builtin "max")) (.int (max x y)) := by
  intro X s vs L _ H
  obtain ⟨v, v', rfl, h1, h2⟩ := H.inv2
  simp only [At] at h1 h2
  obtain ⟨t, rfl⟩ := h1
  obtain ⟨u, rfl⟩ := h2
  refine mono (max_two_ints hh fun h' tk hk => fun hm => ⟨⟨h', tk, rfl, hk, hm⟩, ?_⟩)
  by_cases q : y > x
  · rw [if_pos q, Int.max_eq_right (Int.le_of_lt q)]; exact at_int
  · rw [if_neg q, Int.max_eq_left (Int.not_lt.mp q)]; exact at_int
theorem tAbs : Tr c A [.int x] (K1 (.builtin "abs")) (.int x.natAbs) := by
  intro X s vs L _ H
  obtain ⟨v, rfl, h1⟩ := H.inv1
  simp only [At] at h1
  obtain ⟨t, rfl⟩ := h1
  refine mono (call_abs_int fun u tk => fun hm => ⟨kp_tok s _ hm, ?_⟩)
  have : (if x < 0 then -x else x) = (x.natAbs : Int) := by split <;> omega
  rw [this]; exact at_int
theorem tInt : Tr c A [.int x] (K1 (.type "int")) (.int x) := by
  intro X s vs L _ H
  obtain ⟨v, rfl, h1⟩ := H.inv1
  simp only [At] at h1
  obtain ⟨t, rfl⟩ := h1
  exact call_int_int ⟨kp_refl s, at_int⟩
theorem tDivmod (hy : y ≠ 0) (hs : y.natAbs < 1073741824 := by decide) : Tr c A [.int x, .int y] (K1 (.builtin "divmod")) (.tuple [.int (x.fdiv y), .int (x.fmod y)]) := by
  intro X s vs L _ H
  obtain ⟨v, v', rfl, h1, h2⟩ := H.inv2
  simp only [At] at h1 h2
  obtain ⟨t, rfl⟩ := h1
  obtain ⟨u, rfl⟩ := h2
  refine divmod_int hy ⟨⟨_, _, rfl, ext_push _ _, by show s.toks ≤ s.toks + 1 + 1; omega⟩, ?_⟩ (.inl (PyProof.noPylong_small hs))
  exact At.newTuple (vs := [_, _]) L (.cons at_int (.cons at_int .nil)) _ rfl (by show s.toks ≤ s.toks + 1 + 1; omega)
theorem tBytes {ns : List Int} (hh : A.handled = none) (hn : ∀ n ∈ ns, 0 ≤ n ∧ n < 256) (hz : ns.length ≤ 1000000 := by decide) : Tr c A [.wlist (ns.map .int)] (K1 (.type "bytes")) (.bytes (byteArr ns)) := by
  intro X s vs L _ H
  obtain ⟨v, rfl, h1⟩ := H.inv1
  simp only [At] at h1
  obtain ⟨l, ws, rfl, _, hl, hr⟩ := h1
  have hlen := hr.length
  rw [List.length_map] at hlen
  exact mono (call_bytes_ints (vs := ws.toList) (by simpa using hl) (ats_ints hr) hn (by rw [hlen]; exact Nat.le_trans hz (by decide)) hh fun h' t k hk => fun hm => ⟨⟨h', k, rfl, hk, hm⟩, at_bytes⟩)

/-! types -/
theorem tTypeY {b : Array UInt8} : Tr c A [.bytes b] (K1 (.type "type")) (.ty "bytes") := by
  intro X s vs L _ H
  obtain ⟨v, rfl, h1⟩ := H.inv1
  simp only [At] at h1
  obtain ⟨t, rfl⟩ := h1
  exact call_type_of (typeIs_bytes _ _ _) (by decide) ⟨kp_refl s, by simp only [At]⟩
theorem tTypeS {x : Str} : Tr c A [.str x] (K1 (.type "type")) (.ty "str") := by
  intro X s vs L _ H
  obtain ⟨v, rfl, h1⟩ := H.inv1
  simp only [At] at h1
  obtain ⟨t, rfl, _⟩ := h1
  exact call_type_of (typeIs_str _ _ _) (by decide) ⟨kp_refl s, by simp only [At]⟩
theorem tTypeL : Tr c A [.list ds] (K1 (.type "type")) (.ty "list") := by
  intro X s vs L _ H
  obtain ⟨v, rfl, h1⟩ := H.inv1
  simp only [At] at h1
  obtain ⟨l, ws, rfl, _, hl, hr⟩ := h1
  exact call_type_of hl.isList.typeIs (by decide) ⟨kp_refl s, by simp only [At]⟩
/-- a type's name, read -/
theorem Ev.ty {x : Str} {np : Pos} {T : String} (g : Gl c x (.type T)) (hk : env.kindOf x = some .globalImplicit := by rfl) (hd : (x == ("__debug__" : Str)) = false := by decide) : Ev c A env Γ (.Name x np) (.ty T) :=
  fun X Y s O => glob g hk hd O ⟨kp_refl s, by simp only [At]⟩
theorem Ev.kref {x : Str} {np : Pos} {a : Addr} (g : Gl c x (.ref a)) (hk : env.kindOf x = some .globalImplicit := by rfl) (hd : (x == ("__debug__" : Str)) = false := by decide) : Ev c A env Γ (.Name x np) (.kref a) :=
  fun X Y s O => glob g hk hd O ⟨kp_refl s, by simp only [At]⟩
theorem tIsTy {S T : String} : Tr c A [.ty S, .ty T] (C2 .Is) (.bool (S == T)) := by
  intro X s vs L _ H
  obtain ⟨v, v', rfl, h1, h2⟩ := H.inv2
  simp only [At] at h1 h2
  subst h1 h2
  refine wpAny_pure (a := Value.bool (Value.type S == Value.type T)) ⟨kp_refl s, ?_⟩
  have : (Value.type S == Value.type T) = (S == T) := by
    rw [Bool.eq_iff_iff]; simp
  rw [this]; exact at_bool
theorem tIsNotTy {S T : String} : Tr c A [.ty S, .ty T] (C2 .IsNot) (.bool (S != T)) := by
  intro X s vs L _ H
  obtain ⟨v, v', rfl, h1, h2⟩ := H.inv2
  simp only [At] at h1 h2
  subst h1 h2
  refine wpAny_pure (a := Value.bool (!(Value.type S == Value.type T))) ⟨kp_refl s, ?_⟩
  have : (!(Value.type S == Value.type T)) = (S != T) := by
    rw [Bool.eq_iff_iff]; simp
  rw [this]; exact at_bool
theorem tIsB {a b : Bool} : Tr c A [.bool a, .bool b] (C2 .Is) (.bool (a == b)) := by
  intro X s vs L _ H
  obtain ⟨v, v', rfl, h1, h2⟩ := H.inv2
  simp only [At] at h1 h2
  subst h1 h2
  exact is_bool ⟨kp_refl s, at_bool⟩
theorem tNotNoneN : Tr c A [.none, .none] (C2 .IsNot) (.bool false) := by
  intro X s vs L _ H
  obtain ⟨v, v', rfl, h1, h2⟩ := H.inv2
  simp only [At] at h1 h2
  subst h1 h2
  exact isnot_none_none ⟨kp_refl s, at_bool⟩
theorem tNotNoneS {x : Str} : Tr c A [.str x, .none] (C2 .IsNot) (.bool true) := by
  intro X s vs L _ H
  obtain ⟨v, v', rfl, h1, h2⟩ := H.inv2
  simp only [At] at h1 h2
  obtain ⟨t, rfl, _⟩ := h1
  subst h2
  exact isnot_none_ne (by intro q; cases q) ⟨kp_refl s, at_bool⟩

/-! strs and octets -/
theorem tEqS {x y : Str} : Tr c A [.str x, .str y] (C2 .Eq) (.bool (x.cps.toList == y.cps.toList)) := by
  intro X s vs L _ H
  obtain ⟨v, v', rfl, h1, h2⟩ := H.inv2
  simp only [At] at h1 h2
  obtain ⟨t, rfl, _⟩ := h1
  obtain ⟨u, rfl, _⟩ := h2
  exact P.eq_str ⟨kp_refl s, at_bool⟩
theorem tInS {x y : Str} : Tr c A [.str y, .str x] (C2 .In) (.bool (Txt.contains x y)) := by
  intro X s vs L _ H
  obtain ⟨v, v', rfl, h1, h2⟩ := H.inv2
  simp only [At] at h1 h2
  obtain ⟨t, rfl, _⟩ := h1
  obtain ⟨u, rfl, _⟩ := h2
  exact P.in_str ⟨kp_refl s, at_bool⟩
theorem tNeY {x y : Array UInt8} : Tr c A [.bytes x, .bytes y] (C2 .NotEq) (.bool (x.toList != y.toList)) := by
  intro X s vs L _ H
  obtain ⟨v, v', rfl, h1, h2⟩ := H.inv2
  simp only [At] at h1 h2
  obtain ⟨t, rfl⟩ := h1
  obtain ⟨u, rfl⟩ := h2
  exact ne_bytes ⟨kp_refl s, at_bool⟩
theorem tInY {b : Array UInt8} (h0 : 0 ≤ x) (h1 : x < 256) : Tr c A [.int x, .bytes b] (C2 .In) (.bool (b.contains x.toNat.toUInt8)) := by
  intro X s vs L _ H
  obtain ⟨v, v', rfl, g1, g2⟩ := H.inv2
  simp only [At] at g1 g2
  obtain ⟨t, rfl⟩ := g1
  obtain ⟨u, rfl⟩ := g2
  exact in_gives (typeIs_bytes s b u) FB.slot_bytes_contains FB.entry_bytes_contains (FB.args_bytes_contains_2 _ _) (gives_bytes_contains b u x t h0 h1) ⟨kp_refl s, at_bool⟩
theorem tAddY {x y : Array UInt8} (hz : x.size + y.size ≤ 16777216) : Tr c A [.bytes x, .bytes y] (B2 .Add) (.bytes (x ++ y)) := by
  intro X s vs L _ H
  obtain ⟨v, v', rfl, h1, h2⟩ := H.inv2
  simp only [At] at h1 h2
  obtain ⟨t, rfl⟩ := h1
  obtain ⟨u, rfl⟩ := h2
  exact mono (KBy.add_bytes hz fun t' k => fun hm => ⟨kp_tok s _ hm, at_bytes⟩)
/-- [d] * n -/
theorem tRep {n : Int} (h0 : 0 ≤ n) (h1 : n ≤ 1000000) : Tr c A [.list [d1], .int n] (B2 .Mult) (.list (List.replicate n.toNat d1)) := by
  intro X s vs L _ H
  obtain ⟨v, v', rfl, g1, g2⟩ := H.inv2
  simp only [At] at g1 g2
  obtain ⟨l, ws, rfl, _, ⟨k, hl⟩, hr⟩ := g1
  obtain ⟨u, rfl⟩ := g2
  obtain ⟨v, hv, ha⟩ := hr.inv1
  have hw : ws = #[v] := by rw [← Array.toList_inj]; exact hv
  subst hw
  refine wpAny_binaryOp_repeat_ref (T := "list") (U := "int") (by decide) ⟨_, hl, rfl⟩ (fun s' => typeIs_int s' n u) noFill_list_mul F.fills_int_mul F.slot_int_rmul repeat_list F.slot_int_index.lookup
    (call_meets F.slot_int_rmul (typeIs_int s n u) F.entry_int_rmul (F.args_int_rmul_2 _ _) (int___rmul___int_list n u l #[v] k)
      ⟨hl, rfl, ⟨_, hl, rfl⟩, call_meets F.slot_list_mul ⟨_, hl, rfl⟩ F.entry_list_mul (F.args_list_mul_2 _ _)
        (AutoListH.list___mul___list_int_3 l #[v] k n u (by simp [Builtin.List.listFitsIndex]; omega) (by simp; omega) (by simp [Builtin.List.listTooLong, sizeLine]; omega))
        ⟨hl, kp_push _ _, ?_⟩⟩)
  have e : ∀ k : Nat, (List.foldl (fun x1 x2 => x1 ++ x2) (#[] : Array Value) (List.replicate k #[v])).toList = List.replicate k v := by
    intro k
    have g : ∀ (k : Nat) (a : Array Value), (List.foldl (fun x1 x2 => x1 ++ x2) a (List.replicate k #[v])).toList = a.toList ++ List.replicate k v := by
      intro k
      induction k with
      | zero => intro a; simp
      | succ k ih => intro a; rw [List.replicate_succ, List.foldl_cons, ih]; simp [List.replicate_succ]
    rw [g]; simp
  refine At.newList L ?_ _ rfl (Nat.le_refl _)
  rw [if_neg (by simp), e]
  have g : ∀ k : Nat, AtAll X c.C s (List.replicate k d1) (List.replicate k v) := by
    intro k
    induction k with
    | zero => exact .nil
    | succ k ih => exact .cons ha ih
  exact g _
/-- a list's copy by a cut, whatever its marks -/
theorem Ev.cutW {lo hi st : Option Int} {l u t : Option Expr} {p : Pos} (ha : Ev c A env Γ e (.wlist ds)) (hl : EvP c A env Γ l lo) (hu : EvP c A env Γ u hi) (ht : EvP c A env Γ t st) (h0 : st ≠ some 0) (hz : ds.length ≤ 1000000) :
    Ev c A env Γ (.Subscript e (.Slice l u t p) pos) (.list (pickD ds lo hi st)) := by
  intro X Y s O
  refine Subscript_ (wpAny_mono (ha X Y s O) (fun v s₁ h₁ => ?_) fun _ _ x => x)
  have O₁ := O.keeps (kp_ext h₁.1)
  refine wpAny_Slice (wpAny_mono (hl X Y s₁ O₁) (fun vl s₂ h₂ => ?_) fun _ _ x => x)
  have O₂ := O₁.keeps (kp_ext h₂.1)
  refine wpAny_mono (hu X Y s₂ O₂) (fun vu s₃ h₃ => ?_) fun _ _ x => x
  have O₃ := O₂.keeps (kp_ext h₃.1)
  refine wpAny_mono (ht X Y s₃ O₃) (fun vt s₄ h₄ => ?_) fun _ _ x => x
  have O₄ := O₃.keeps (kp_ext h₄.1)
  have H := ((h₁.2.keeps (kp_ext h₂.1)).keeps (kp_ext h₃.1)).keeps (kp_ext h₄.1)
  have k := kp_trans (kp_trans (kp_trans h₁.1 h₂.1) h₃.1) h₄.1
  simp only [At] at H
  obtain ⟨a, vs, rfl, hx, hp, hr⟩ := H
  have hp' : (s₄.heap.push { cls := .type "slice", data := .fields #[vl, vu, vt] }).IsList a vs := hp.at fun _ e => Heap.get?_push_of_some _ e
  refine tailAny hp'.typeIs slot_list_getitem.lookup ?_
  have hlen := hr.length
  simp only [Array.length_toList] at hlen
  refine wpAny_getItem_list_slice hp' (Heap.IsSliceOf.new ..) h₂.2 h₃.2 h₄.2 h0 ?_ (by rw [hlen]; exact Nat.le_trans hz (by decide))
  have kk : Keeps s₄ { s₄ with heap := s₄.heap.push { cls := .type "slice", data := .fields #[vl, vu, vt] } } := kp_push _ _
  refine ⟨kp_trans (kp_trans k kk) (kp_push _ _), ?_⟩
  refine At.newList (s := { s₄ with heap := s₄.heap.push { cls := .type "slice", data := .fields #[vl, vu, vt] } }) (Live.keeps O₄.live (ext_push _ _)) ?_ _ rfl (Nat.le_refl _)
  have := (hr.keeps (kp_ext kk)).pick (pickIdx ds.length lo hi st)
  simpa only [slicePick, pickD, pickIdx, hlen, Array.getElem?_toList] using this
end

/-! equality of data -/
mutual
def sm : D → D → Bool
  | .none, .none => true
  | .int a, .int b => a == b
  | .str a, .str b => a.cps.toList == b.cps.toList
  | .bytes a, .bytes b => a.toList == b.toList
  | .tuple ds, .tuple es => smAll ds es
  | .list ds, .list es => smAll ds es
  | _, _ => false
def smAll : List D → List D → Bool
  | [], [] => true
  | d :: ds, e :: es => sm d e && smAll ds es
  | _, _ => false
end
mutual
def cmpb : D → D → Bool
  | .none, .none => true
  | .int _, .int _ => true
  | .str _, .str _ => true
  | .bytes _, .bytes _ => true
  | .tuple ds, .tuple es => ds.length == es.length && cmpAll ds es
  | .list ds, .list es => ds.length != es.length || cmpAll ds es
  | _, _ => false
def cmpAll : List D → List D → Bool
  | [], [] => true
  | d :: ds, e :: es => cmpb d e && cmpAll ds es
  | _, _ => false
end
end Mine

namespace Mine

mutual
def dep : D → Nat
  | .tuple ds => depAll ds + 1
  | .list ds => depAll ds + 1
  | _ => 0
def depAll : List D → Nat
  | [] => 0
  | d :: ds => max (dep d) (depAll ds)
end
theorem dep_mem : ∀ {ds : List D} {d : D}, d ∈ ds → dep d ≤ depAll ds
  | [], _, h => nomatch h
  | e :: ds, d, h => by
    rw [depAll]
    rcases List.mem_cons.mp h with rfl | h
    · exact Nat.le_max_left _ _
    · exact Nat.le_trans (dep_mem h) (Nat.le_max_right _ _)
theorem cmpAll_len : ∀ {ds es : List D}, cmpAll ds es = true → ds.length = es.length
  | [], [], _ => rfl
  | [], _ :: _, h => by simp [cmpAll] at h
  | _ :: _, [], h => by simp [cmpAll] at h
  | d :: ds, e :: es, h => by
    simp only [cmpAll, Bool.and_eq_true] at h
    rw [List.length_cons, List.length_cons, cmpAll_len h.2]
theorem cmpAll_get : ∀ {ds es : List D} {i : Nat} {d e : D}, cmpAll ds es = true → ds[i]? = some d → es[i]? = some e → cmpb d e = true
  | [], _, _, _, _, _, h, _ => by simp at h
  | _ :: _, [], _, _, _, h, _, _ => by simp [cmpAll] at h
  | d' :: ds, e' :: es, 0, d, e, h, h1, h2 => by
    simp only [cmpAll, Bool.and_eq_true] at h
    simp only [List.getElem?_cons_zero] at h1 h2
    cases h1; cases h2; exact h.1
  | d' :: ds, e' :: es, i + 1, d, e, h, h1, h2 => by
    simp only [cmpAll, Bool.and_eq_true] at h
    simp only [List.getElem?_cons_succ] at h1 h2
    exact cmpAll_get (i := i) h.2 h1 h2
theorem smAll_len : ∀ {ds es : List D}, ds.length ≠ es.length → smAll ds es = false
  | [], [], h => absurd rfl h
  | [], _ :: _, _ => by simp [smAll]
  | _ :: _, [], _ => by simp [smAll]
  | d :: ds, e :: es, h => by
    simp only [smAll]
    rw [smAll_len (ds := ds) (es := es) fun q => h (by rw [List.length_cons, List.length_cons, q]), Bool.and_false]
theorem smAll_range : ∀ {ds es : List D}, ds.length = es.length → smAll ds es = (List.range ds.length).all fun j => sm (ds.getD j .none) (es.getD j .none)
  | [], [], _ => by simp [smAll]
  | [], _ :: _, h => by simp at h
  | _ :: _, [], h => by simp at h
  | d :: ds, e :: es, h => by
    have ih := smAll_range (ds := ds) (es := es) (Nat.succ.inj h)
    simp only [smAll, List.length_cons, List.range_succ_eq_map, List.all_cons, List.all_map, List.getD_cons_zero]
    rw [ih]; rfl

theorem list_fun {h : Heap} {a : Addr} {vs us : Array Value} (h1 : h.IsList a vs) (h2 : h.IsList a us) : vs = us := by
  obtain ⟨o, ho, _, n, hd⟩ := h1
  obtain ⟨o', ho', _, n', hd'⟩ := h2
  rw [ho] at ho'; cases ho'; rw [hd] at hd'; cases hd'; rfl
theorem tup_fun {h : Heap} {a : Addr} {vs us : Array Value} (h1 : h.IsTuple a vs) (h2 : h.IsTuple a us) : vs = us := by
  obtain ⟨o, ho, _, n, hd⟩ := h1
  obtain ⟨o', ho', _, n', hd'⟩ := h2
  rw [ho] at ho'; cases ho'; rw [hd] at hd'; cases hd'; rfl

section
variable {X : Addr → Prop} {C : Addr} {s : Shared}
mutual
theorem At.same : ∀ (d e : D) {v : Value}, cmpb d e = true → At X C s d v → At X C s e v → sm d e = true
  | .none, .none, _, _, _, _ => rfl
  | .int a, .int b, v, _, H, K => by
    simp only [At] at H K
    obtain ⟨t, rfl⟩ := H
    obtain ⟨u, e⟩ := K
    cases e; simp [sm]
  | .str a, .str b, v, _, H, K => by
    simp only [At] at H K
    obtain ⟨t, rfl, _⟩ := H
    obtain ⟨u, e, _⟩ := K
    cases e; simp [sm]
  | .bytes a, .bytes b, v, _, H, K => by
    simp only [At] at H K
    obtain ⟨t, rfl⟩ := H
    obtain ⟨u, e⟩ := K
    cases e; simp [sm]
  | .tuple ds, .tuple es, v, hc, H, K => by
    simp only [At] at H K
    obtain ⟨a, vs, rfl, _, ht, hr⟩ := H
    obtain ⟨a', us, e, _, ht', hr'⟩ := K
    cases e
    have := tup_fun ht ht'
    subst this
    simp only [cmpb, Bool.and_eq_true] at hc
    simp only [sm]
    exact AtAll.same ds es hc.2 hr hr'
  | .list ds, .list es, v, hc, H, K => by
    simp only [At] at H K
    obtain ⟨a, vs, rfl, _, ht, hr⟩ := H
    obtain ⟨a', us, e, _, ht', hr'⟩ := K
    cases e
    have := list_fun ht.isList ht'.isList
    subst this
    have hl : ds.length = es.length := by rw [← hr.length, ← hr'.length]
    simp only [cmpb, hl, bne_self_eq_false, Bool.false_or] at hc
    simp only [sm]
    exact AtAll.same ds es hc hr hr'
  | .bool _, _, _, hc, _, _ => by simp [cmpb] at hc
  | .wlist _, _, _, hc, _, _ => by simp [cmpb] at hc
  | .table _, _, _, hc, _, _ => by simp [cmpb] at hc
  | .ty _, _, _, hc, _, _ => by simp [cmpb] at hc
  | .kref _, _, _, hc, _, _ => by simp [cmpb] at hc
  | .old _ _, _, _, hc, _, _ => by simp [cmpb] at hc
  | .new _ _, _, _, hc, _, _ => by simp [cmpb] at hc
  | .edict, _, _, hc, _, _ => by simp [cmpb] at hc
  | .flist _, _, _, hc, _, _ => by simp [cmpb] at hc
  | .tabAt _ _ _ _ _ _ _, _, _, hc, _, _ => by simp [cmpb] at hc
  | .none, .bool _, _, hc, _, _ | .none, .int _, _, hc, _, _ | .none, .str _, _, hc, _, _ | .none, .bytes _, _, hc, _, _ | .none, .tuple _, _, hc, _, _ | .none, .list _, _, hc, _, _ | .none, .wlist _, _, hc, _, _ | .none, .table _, _, hc, _, _ | .none, .ty _, _, hc, _, _ | .none, .kref _, _, hc, _, _ | .none, .old _ _, _, hc, _, _ | .none, .new _ _, _, hc, _, _ | .none, .flist _, _, hc, _, _ | .none, .edict, _, hc, _, _ | .none, .tabAt _ _ _ _ _ _ _, _, hc, _, _ => by simp [cmpb] at hc
  | .int _, .bool _, _, hc, _, _ | .int _, .none, _, hc, _, _ | .int _, .str _, _, hc, _, _ | .int _, .bytes _, _, hc, _, _ | .int _, .tuple _, _, hc, _, _ | .int _, .list _, _, hc, _, _ | .int _, .wlist _, _, hc, _, _ | .int _, .table _, _, hc, _, _ | .int _, .ty _, _, hc, _, _ | .int _, .kref _, _, hc, _, _ | .int _, .old _ _, _, hc, _, _ | .int _, .new _ _, _, hc, _, _ | .int _, .flist _, _, hc, _, _ | .int _, .edict, _, hc, _, _ | .int _, .tabAt _ _ _ _ _ _ _, _, hc, _, _ => by simp [cmpb] at hc
  | .str _, .bool _, _, hc, _, _ | .str _, .none, _, hc, _, _ | .str _, .int _, _, hc, _, _ | .str _, .bytes _, _, hc, _, _ | .str _, .tuple _, _, hc, _, _ | .str _, .list _, _, hc, _, _ | .str _, .wlist _, _, hc, _, _ | .str _, .table _, _, hc, _, _ | .str _, .ty _, _, hc, _, _ | .str _, .kref _, _, hc, _, _ | .str _, .old _ _, _, hc, _, _ | .str _, .new _ _, _, hc, _, _ | .str _, .flist _, _, hc, _, _ | .str _, .edict, _, hc, _, _ | .str _, .tabAt _ _ _ _ _ _ _, _, hc, _, _ => by simp [cmpb] at hc
  | .bytes _, .bool _, _, hc, _, _ | .bytes _, .none, _, hc, _, _ | .bytes _, .int _, _, hc, _, _ | .bytes _, .str _, _, hc, _, _ | .bytes _, .tuple _, _, hc, _, _ | .bytes _, .list _, _, hc, _, _ | .bytes _, .wlist _, _, hc, _, _ | .bytes _, .table _, _, hc, _, _ | .bytes _, .ty _, _, hc, _, _ | .bytes _, .kref _, _, hc, _, _ | .bytes _, .old _ _, _, hc, _, _ | .bytes _, .new _ _, _, hc, _, _ | .bytes _, .flist _, _, hc, _, _ | .bytes _, .edict, _, hc, _, _ | .bytes _, .tabAt _ _ _ _ _ _ _, _, hc, _, _ => by simp [cmpb] at hc
  | .tuple _, .bool _, _, hc, _, _ | .tuple _, .none, _, hc, _, _ | .tuple _, .int _, _, hc, _, _ | .tuple _, .str _, _, hc, _, _ | .tuple _, .bytes _, _, hc, _, _ | .tuple _, .list _, _, hc, _, _ | .tuple _, .wlist _, _, hc, _, _ | .tuple _, .table _, _, hc, _, _ | .tuple _, .ty _, _, hc, _, _ | .tuple _, .kref _, _, hc, _, _ | .tuple _, .old _ _, _, hc, _, _ | .tuple _, .new _ _, _, hc, _, _ | .tuple _, .flist _, _, hc, _, _ | .tuple _, .edict, _, hc, _, _ | .tuple _, .tabAt _ _ _ _ _ _ _, _, hc, _, _ => by simp [cmpb] at hc
  | .list _, .bool _, _, hc, _, _ | .list _, .none, _, hc, _, _ | .list _, .int _, _, hc, _, _ | .list _, .str _, _, hc, _, _ | .list _, .bytes _, _, hc, _, _ | .list _, .tuple _, _, hc, _, _ | .list _, .wlist _, _, hc, _, _ | .list _, .table _, _, hc, _, _ | .list _, .ty _, _, hc, _, _ | .list _, .kref _, _, hc, _, _ | .list _, .old _ _, _, hc, _, _ | .list _, .new _ _, _, hc, _, _ | .list _, .flist _, _, hc, _, _ | .list _, .edict, _, hc, _, _ | .list _, .tabAt _ _ _ _ _ _ _, _, hc, _, _ => by simp [cmpb] at hc
theorem AtAll.same : ∀ (ds es : List D) {vs : List Value}, cmpAll ds es = true → AtAll X C s ds vs → AtAll X C s es vs → smAll ds es = true
  | [], [], _, _, _, _ => by simp [smAll]
  | [], _ :: _, _, hc, _, _ => by simp [cmpAll] at hc
  | _ :: _, [], _, hc, _, _ => by simp [cmpAll] at hc
  | d :: ds, e :: es, vs, hc, H, K => by
    simp only [AtAll] at H K
    obtain ⟨v, r, rfl, h1, h2⟩ := H
    obtain ⟨v', r', e', h1', h2'⟩ := K
    cases e'
    simp only [cmpAll, Bool.and_eq_true] at hc
    simp only [smAll, Bool.and_eq_true]
    exact ⟨At.same d e hc.1 h1 h1', AtAll.same ds es hc.2 h2 h2'⟩
end
end

open PySem.SeqAt in
/-- equal or not, told by the trees -/
theorem eqAt : ∀ (n : Nat) {A : Around} {X : Addr → Prop} {C : Addr} {s : Shared} {d e : D} {v u : Value}, dep d ≤ n → A.units + n < cLine → cmpb d e = true → At X C s d v → At X C s e u → EqAt A s v u (sm d e) := by
  intro n
  induction n with
  | zero =>
    intro A X C s d e v u hd hu hc H K
    cases d <;> cases e <;> simp only [cmpb, Bool.false_eq_true] at hc <;> simp only [At] at H K
    · subst H K; exact EqAt.same _
    · obtain ⟨t, rfl⟩ := H; obtain ⟨t', rfl⟩ := K; exact EqAt.int_int _ _ _ _
    · obtain ⟨t, rfl, _⟩ := H; obtain ⟨t', rfl, _⟩ := K; exact (SeqRoads2.EqGives.str _ _ _ _).at A s
    · obtain ⟨t, rfl⟩ := H; obtain ⟨t', rfl⟩ := K
      intro prog w E Q hq
      refine eqBool_bytes ?_
      rename_i a b
      have : decide (a.toList = b.toList) = sm (.bytes a) (.bytes b) := by simp only [sm]; rw [Bool.eq_iff_iff]; simp
      rw [this]; exact hq
    · simp [dep] at hd
    · simp [dep] at hd
  | succ n ih =>
    intro A X C s d e v u hd hu hc H K
    cases d <;> cases e <;> simp only [cmpb, Bool.false_eq_true] at hc
    · simp only [At] at H K; subst H K; exact EqAt.same _
    · simp only [At] at H K; obtain ⟨t, rfl⟩ := H; obtain ⟨t', rfl⟩ := K; exact EqAt.int_int _ _ _ _
    · simp only [At] at H K; obtain ⟨t, rfl, _⟩ := H; obtain ⟨t', rfl, _⟩ := K; exact (SeqRoads2.EqGives.str _ _ _ _).at A s
    · simp only [At] at H K; obtain ⟨t, rfl⟩ := H; obtain ⟨t', rfl⟩ := K
      intro prog w E Q hq
      refine eqBool_bytes ?_
      rename_i a b
      have : decide (a.toList = b.toList) = sm (.bytes a) (.bytes b) := by simp only [sm]; rw [Bool.eq_iff_iff]; simp
      rw [this]; exact hq
    · rename_i ds es
      have H' := H
      have K' := K
      simp only [At] at H K
      obtain ⟨a, vs, rfl, _, ht, hr⟩ := H
      obtain ⟨b, us, rfl, _, ht', hr'⟩ := K
      by_cases q : a = b
      · subst q
        rw [At.same (.tuple ds) (.tuple es) (by simp only [cmpb]; exact hc) H' K']
        exact EqAt.same _
      · simp only [Bool.and_eq_true, beq_iff_eq] at hc
        have hl1 := hr.length
        have hl2 := hr'.length
        simp only [Array.length_toList] at hl1 hl2
        have key : sm (.tuple ds) (.tuple es) = ((List.range (min vs.size us.size)).all (fun j => sm (ds.getD j .none) (es.getD j .none)) && vs.size == us.size) := by
          simp only [sm]
          rw [smAll_range hc.1, hl1, hl2, hc.1, Nat.min_self, beq_self_eq_true, Bool.and_true]
        rw [key]
        refine EqAt.of_refs q (RcAt.tuples ht ht' (by omega) fun j h1 h2 => ?_)
        have hj : j < ds.length := hl1 ▸ h1
        have hj' : j < es.length := hl2 ▸ h2
        obtain ⟨x, hx, hax⟩ := hr.get (List.getElem?_eq_getElem hj)
        obtain ⟨y, hy, hay⟩ := hr'.get (List.getElem?_eq_getElem hj')
        have ex : vs[j] = x := by simpa [h1] using hx
        have ey : us[j] = y := by simpa [h2] using hy
        rw [ex, ey, List.getD_eq_getElem?_getD, List.getD_eq_getElem?_getD, List.getElem?_eq_getElem hj, List.getElem?_eq_getElem hj']
        refine ih ?_ (by show A.units + 1 + n < cLine; omega) (cmpAll_get hc.2 (List.getElem?_eq_getElem hj) (List.getElem?_eq_getElem hj')) hax hay
        have := dep_mem (List.getElem_mem hj)
        simp only [dep] at hd
        simp only [Option.getD_some]
        omega
    · rename_i ds es
      have H' := H
      have K' := K
      simp only [At] at H K
      obtain ⟨a, vs, rfl, _, ht, hr⟩ := H
      obtain ⟨b, us, rfl, _, ht', hr'⟩ := K
      by_cases q : a = b
      · subst q
        rw [At.same (.list ds) (.list es) (by simp only [cmpb]; exact hc) H' K']
        exact EqAt.same _
      · have hl1 := hr.length
        have hl2 := hr'.length
        simp only [Array.length_toList] at hl1 hl2
        by_cases hl : ds.length = es.length
        · simp only [hl, bne_self_eq_false, Bool.false_or] at hc
          have key : sm (.list ds) (.list es) = (List.range vs.size).all (fun j => sm (ds.getD j .none) (es.getD j .none)) := by
            simp only [sm]
            rw [smAll_range hl, hl1]
          rw [key]
          refine EqAt.of_refs q (RcAt.lists ht.isList ht'.isList (by omega) (by omega) fun j h1 h2 => ?_)
          have hj : j < ds.length := hl1 ▸ h1
          have hj' : j < es.length := hl2 ▸ h2
          obtain ⟨x, hx, hax⟩ := hr.get (List.getElem?_eq_getElem hj)
          obtain ⟨y, hy, hay⟩ := hr'.get (List.getElem?_eq_getElem hj')
          have ex : vs[j] = x := by simpa [h1] using hx
          have ey : us[j] = y := by simpa [h2] using hy
          rw [ex, ey, List.getD_eq_getElem?_getD, List.getD_eq_getElem?_getD, List.getElem?_eq_getElem hj, List.getElem?_eq_getElem hj']
          refine ih ?_ (by show A.units + 1 + n < cLine; omega) (cmpAll_get hc (List.getElem?_eq_getElem hj) (List.getElem?_eq_getElem hj')) hax hay
          have := dep_mem (List.getElem_mem hj)
          simp only [dep] at hd
          simp only [Option.getD_some]
          omega
        · have : sm (.list ds) (.list es) = false := by simp only [sm]; exact smAll_len hl
          rw [this]
          exact EqAt.of_refs q (RcAt.lists_lengths ht.isList ht'.isList (by rw [hl1, hl2]; simpa using hl) (by omega))

section
open PySem.SeqAt
variable {c : Cx} {A : Around} {env : Env} {Γ : Gam} {e e1 e2 e3 : Expr} {es : List Expr} {d d1 d2 d3 : D} {ds es' : List D} {pos : Pos} {x y : Int}
theorem items_eq {X : Addr → Prop} {C : Addr} {s : Shared} {vs us : Array Value} (hu : A.units + depAll ds + 1 < cLine) (hc : cmpAll ds es' = true) (hr : AtAll X C s ds vs.toList) (hr' : AtAll X C s es' us.toList) :
    ∀ j (h1 : j < vs.size) (h2 : j < us.size), EqAt A.in1 s vs[j] us[j] (sm (ds.getD j .none) (es'.getD j .none)) := by
  intro j h1 h2
  have hl1 := hr.length
  have hl2 := hr'.length
  simp only [Array.length_toList] at hl1 hl2
  have hj : j < ds.length := hl1 ▸ h1
  have hj' : j < es'.length := hl2 ▸ h2
  obtain ⟨x, hx, hax⟩ := hr.get (List.getElem?_eq_getElem hj)
  obtain ⟨y, hy, hay⟩ := hr'.get (List.getElem?_eq_getElem hj')
  have ex : vs[j] = x := by simpa [h1] using hx
  have ey : us[j] = y := by simpa [h2] using hy
  rw [ex, ey, List.getD_eq_getElem?_getD, List.getD_eq_getElem?_getD, List.getElem?_eq_getElem hj, List.getElem?_eq_getElem hj']
  exact eqAt (depAll ds) (dep_mem (List.getElem_mem hj)) (by show A.units + 1 + depAll ds < cLine; omega) (cmpAll_get hc (List.getElem?_eq_getElem hj) (List.getElem?_eq_getElem hj')) hax hay
theorem tEqL (hu : A.units + depAll ds + 1 < cLine) (hc : ds.length = es'.length → cmpAll ds es' = true) : Tr c A [.wlist ds, .wlist es'] (C2 .Eq) (.bool (smAll ds es')) := by
  intro X s vs L _ H
  obtain ⟨v, v', rfl, h1, h2⟩ := H.inv2
  simp only [At] at h1 h2
  obtain ⟨a, vs, rfl, _, ht, hr⟩ := h1
  obtain ⟨b, us, rfl, _, ht', hr'⟩ := h2
  have hl1 := hr.length
  have hl2 := hr'.length
  simp only [Array.length_toList] at hl1 hl2
  by_cases hl : ds.length = es'.length
  · refine eq_listAt ht ht' (by omega) (by omega) (items_eq hu (hc hl) hr hr') ⟨kp_refl s, ?_⟩
    rw [hl1, ← smAll_range hl]; exact at_bool
  · rw [smAll_len hl]
    exact eq_list_lengthsAt ht ht' (by rw [hl1, hl2]; simpa using hl) (by omega) ⟨kp_refl s, at_bool⟩
theorem tNeL (hu : A.units + depAll ds + 1 < cLine) (hc : ds.length = es'.length → cmpAll ds es' = true) : Tr c A [.wlist ds, .wlist es'] (C2 .NotEq) (.bool (!smAll ds es')) := by
  intro X s vs L _ H
  obtain ⟨v, v', rfl, h1, h2⟩ := H.inv2
  simp only [At] at h1 h2
  obtain ⟨a, vs, rfl, _, ht, hr⟩ := h1
  obtain ⟨b, us, rfl, _, ht', hr'⟩ := h2
  have hl1 := hr.length
  have hl2 := hr'.length
  simp only [Array.length_toList] at hl1 hl2
  by_cases hl : ds.length = es'.length
  · refine RcNeAt.lists ht ht' (by omega) (by omega) (items_eq hu (hc hl) hr hr') _ _ _ _ ⟨kp_refl s, ?_⟩
    rw [hl1, ← smAll_range hl]; exact at_bool
  · rw [smAll_len hl]
    exact RcNeAt.lists_lengths ht ht' (by rw [hl1, hl2]; simpa using hl) (by omega) _ _ _ _ ⟨kp_refl s, at_bool⟩
/-- in a list -/
theorem tInL (hu : A.units + depAll ds + 1 < cLine) (hc : ∀ e ∈ ds, cmpb e d = true) : Tr c A [d, .wlist ds] (C2 .In) (.bool (ds.any fun e => sm e d)) := by
  intro X s vs L _ H
  obtain ⟨v, v', rfl, h1, h2⟩ := H.inv2
  simp only [At] at h2
  obtain ⟨b, us, rfl, _, ht, hr⟩ := h2
  classical
  have mem : ∀ y, y ∈ us.toList → ∃ e ∈ ds, At X c.C s e y := by
    intro y hy
    obtain ⟨i, hi, rfl⟩ := List.getElem_of_mem hy
    have hi' : i < ds.length := hr.length ▸ hi
    obtain ⟨u, hu, ha⟩ := hr.get (List.getElem?_eq_getElem hi')
    rw [List.getElem?_eq_getElem hi] at hu
    cases hu
    exact ⟨_, List.getElem_mem hi', ha⟩
  have eqs : ∀ e ∈ ds, ∀ y, At X c.C s e y → EqAt A.in1 s y v (sm e d) := fun e he y ha =>
    eqAt (depAll ds) (dep_mem he) (by show A.units + 1 + depAll ds < cLine; omega) (hc e he) ha h1
  refine in_listAt (fun y => decide (∃ e ∈ ds, At X c.C s e y ∧ sm e d = true)) ht (fun y hy => ?_) ⟨kp_refl s, ?_⟩
  · by_cases q : ∃ e ∈ ds, At X c.C s e y ∧ sm e d = true
    · rw [decide_eq_true q]
      obtain ⟨e, he, ha, hs⟩ := q
      have := eqs e he y ha
      rw [hs] at this; exact this
    · rw [decide_eq_false q]
      obtain ⟨e, he, ha⟩ := mem y (by simpa using hy)
      have := eqs e he y ha
      cases hs : sm e d with
      | true => exact absurd ⟨e, he, ha, hs⟩ q
      | false => rw [hs] at this; exact this
  · have : us.any (fun y => decide (∃ e ∈ ds, At X c.C s e y ∧ sm e d = true)) = ds.any fun e => sm e d := by
      rw [← Array.any_toList, Bool.eq_iff_iff, List.any_eq_true, List.any_eq_true]
      constructor
      · rintro ⟨y, _, hy⟩
        obtain ⟨e, he, _, hs⟩ := of_decide_eq_true hy
        exact ⟨e, he, hs⟩
      · rintro ⟨e, he, hs⟩
        obtain ⟨i, hi, rfl⟩ := List.getElem_of_mem he
        obtain ⟨y, hy, ha⟩ := hr.get (List.getElem?_eq_getElem hi)
        exact ⟨y, List.mem_of_getElem? hy, decide_eq_true ⟨_, he, ha, hs⟩⟩
    rw [this]; exact at_bool
end
end Mine

namespace Mine

/-! the written part of the heap behind the text's top; a def's parts are the row's own -/
noncomputable def tops : List Stmt := PySem.Challenge.pw_xt0011_01.main.body
noncomputable def mAt (j : Nat) : Option Stmt := match (tops[20]? : Option Stmt) with
  | some (.ClassDef _ _ _ b _ _ _ _ _ _ _) => b[j]?
  | _ => none
noncomputable def dfA : Option Stmt → Arguments
  | some (.FunctionDef _ a _ _ _ _ _ _ _ _) => a
  | _ => ⟨[], [], none, [], [], none, []⟩
noncomputable def dfB : Option Stmt → List Stmt
  | some (.FunctionDef _ _ b _ _ _ _ _ _ _) => b
  | _ => []
noncomputable def dfS : Option Stmt → Scope
  | some (.FunctionDef _ _ _ _ _ _ s _ _ _) => s
  | _ => { kind := .function, names := [], isGenerator := false, isCoroutine := false }
noncomputable abbrev foF (st : Option Stmt) (name qual : Str) (dV pm : Value) (c : Addr) : Obj := ⟨.type "function", none, .func (fnX name qual (dfA st) (dfB st) (dfS st) [] dV .none .none pm none (.ref c) .none), #[]⟩
abbrev eK (P : Params) (x : Str) (t : Tok) (v : Value) : DictEntry := ⟨PyData.keyHash P x, .str x t, v⟩
noncomputable def frag (P : Params) : Frag := [
  (2, ⟨.none, none, .dict #[eK P "\x69mport.loaded._sre" 183 (.bool true), eK P "class._frozen_importlib.BuiltinImporter" 185 (.ref 14), eK P "watched.\x69mport" 206 (.ref 18), eK P "class._frozen_importlib.ModuleSpec" 216 (.ref 22), eK P "sys.modules.booked-epoch" 245 (.int 3 0), eK P "\x69mport.later-laid._sre" 270 (.bool true), eK P "watched.library" 272 (.ref 27), eK P "watched.library-objects" 0 (.str ⟨#[12]⟩ 0), eK P "watched.library-deep._sre" 273 (.str ⟨#[4, 0, 0, 11, 4, 0, 0, 11, 4, 0, 0, 3, 4, 0, 0, 11, 8, 4, 100, 105, 99, 116, 2]⟩ 0)] 9, #[]⟩),
  (3, ⟨.type "dict", none, .dict #[eK P "__name__" 165 (.str "law_xt0011_01" 648), eK P "__doc__" 166 (.none), eK P "__package__" 167 (.none), eK P "__loader__" 168 (.builtin "__main__.__loader__#\x6fpaque"), eK P "__spec__" 169 (.none), eK P "__annotations__" 170 (.ref 6), eK P "__builtins__" 171 (.ref 4), eK P "__file__" 173 (.str "/claim/cut.py" 172), eK P "__cached__" 174 (.none), eK P "_sre" 275 (.ref 12), eK P "_wall" 288 (.ref 38), eK P "contains" 298 (.ref 45), eK P "indexOf" 308 (.ref 52), eK P "iadd" 316 (.ref 59), eK P "iand" 324 (.ref 66), eK P "ifloordiv" 332 (.ref 73), eK P "ilshift" 340 (.ref 80), eK P "imod" 348 (.ref 87), eK P "imul" 356 (.ref 94), eK P "isub" 364 (.ref 101), eK P "ixor" 372 (.ref 108), eK P "Int2AP" 384 (.ref 115), eK P "tspecials" 420 (.ref 120), eK P "_name_disallowed_re" 446 (.ref 125), eK P "_value_disallowed_re" 480 (.ref 130), eK P "_formatparam" 490 (.ref 138), eK P "Headers" 647 (.ref 259), eK P "_law_figures" 659 (.ref 270), eK P "_law_laid" 671 (.ref 277), eK P "_law_still" 684 (.ref 284), eK P "_law_turned" 698 (.ref 291), eK P "_law_written" 707 (.ref 298), eK P "_law_words" 713 (.ref 303), eK P "_law_pairs" 719 (.ref 308), eK P "_law_runs" 725 (.ref 313), eK P "law" 731 (.ref 318)] 36, #[]⟩),
  (44, ⟨.type "code", none, .fields #[.str "contains" 291, .str "contains" 292, .str "/claim/cut.py" 293, .int 6 0, .int 2 0, .int 0 0, .int 0 0, .int 3 0, .ref 39, .bool true, .int 276 0, .ref 40, .none, .ref 41, .ref 42, .ref 43, .int 296 0, .int 6 0, .str "/claim/cut.py" 297], #[]⟩),
  (45, foF (tops[3]?) "contains" "contains" (.none) (.str "cpy313.operator" 289) 44),
  (51, ⟨.type "code", none, .fields #[.str "indexOf" 299, .str "indexOf" 300, .str "/claim/cut.py" 301, .int 8 0, .int 2 0, .int 0 0, .int 0 0, .int 3 0, .ref 46, .bool true, .int 276 0, .ref 47, .none, .ref 48, .ref 49, .ref 50, .int 306 0, .int 8 0, .str "/claim/cut.py" 307], #[]⟩),
  (52, foF (tops[4]?) "indexOf" "indexOf" (.none) (.str "cpy313.operator" 289) 51),
  (58, ⟨.type "code", none, .fields #[.str "iadd" 309, .str "iadd" 310, .str "/claim/cut.py" 311, .int 14 0, .int 2 0, .int 0 0, .int 0 0, .int 3 0, .ref 53, .bool true, .int 276 0, .ref 54, .none, .ref 55, .ref 56, .ref 57, .int 314 0, .int 14 0, .str "/claim/cut.py" 315], #[]⟩),
  (59, foF (tops[5]?) "iadd" "iadd" (.none) (.str "cpy313.operator" 289) 58),
  (65, ⟨.type "code", none, .fields #[.str "iand" 317, .str "iand" 318, .str "/claim/cut.py" 319, .int 17 0, .int 2 0, .int 0 0, .int 0 0, .int 3 0, .ref 60, .bool true, .int 276 0, .ref 61, .none, .ref 62, .ref 63, .ref 64, .int 322 0, .int 17 0, .str "/claim/cut.py" 323], #[]⟩),
  (66, foF (tops[6]?) "iand" "iand" (.none) (.str "cpy313.operator" 289) 65),
  (72, ⟨.type "code", none, .fields #[.str "ifloordiv" 325, .str "ifloordiv" 326, .str "/claim/cut.py" 327, .int 20 0, .int 2 0, .int 0 0, .int 0 0, .int 3 0, .ref 67, .bool true, .int 276 0, .ref 68, .none, .ref 69, .ref 70, .ref 71, .int 330 0, .int 20 0, .str "/claim/cut.py" 331], #[]⟩),
  (73, foF (tops[7]?) "ifloordiv" "ifloordiv" (.none) (.str "cpy313.operator" 289) 72),
  (79, ⟨.type "code", none, .fields #[.str "ilshift" 333, .str "ilshift" 334, .str "/claim/cut.py" 335, .int 23 0, .int 2 0, .int 0 0, .int 0 0, .int 3 0, .ref 74, .bool true, .int 276 0, .ref 75, .none, .ref 76, .ref 77, .ref 78, .int 338 0, .int 23 0, .str "/claim/cut.py" 339], #[]⟩),
  (80, foF (tops[8]?) "ilshift" "ilshift" (.none) (.str "cpy313.operator" 289) 79),
  (86, ⟨.type "code", none, .fields #[.str "imod" 341, .str "imod" 342, .str "/claim/cut.py" 343, .int 26 0, .int 2 0, .int 0 0, .int 0 0, .int 3 0, .ref 81, .bool true, .int 276 0, .ref 82, .none, .ref 83, .ref 84, .ref 85, .int 346 0, .int 26 0, .str "/claim/cut.py" 347], #[]⟩),
  (87, foF (tops[9]?) "imod" "imod" (.none) (.str "cpy313.operator" 289) 86),
  (93, ⟨.type "code", none, .fields #[.str "imul" 349, .str "imul" 350, .str "/claim/cut.py" 351, .int 29 0, .int 2 0, .int 0 0, .int 0 0, .int 3 0, .ref 88, .bool true, .int 276 0, .ref 89, .none, .ref 90, .ref 91, .ref 92, .int 354 0, .int 29 0, .str "/claim/cut.py" 355], #[]⟩),
  (94, foF (tops[10]?) "imul" "imul" (.none) (.str "cpy313.operator" 289) 93),
  (100, ⟨.type "code", none, .fields #[.str "isub" 357, .str "isub" 358, .str "/claim/cut.py" 359, .int 32 0, .int 2 0, .int 0 0, .int 0 0, .int 3 0, .ref 95, .bool true, .int 276 0, .ref 96, .none, .ref 97, .ref 98, .ref 99, .int 362 0, .int 32 0, .str "/claim/cut.py" 363], #[]⟩),
  (101, foF (tops[11]?) "isub" "isub" (.none) (.str "cpy313.operator" 289) 100),
  (107, ⟨.type "code", none, .fields #[.str "ixor" 365, .str "ixor" 366, .str "/claim/cut.py" 367, .int 35 0, .int 2 0, .int 0 0, .int 0 0, .int 3 0, .ref 102, .bool true, .int 276 0, .ref 103, .none, .ref 104, .ref 105, .ref 106, .int 370 0, .int 35 0, .str "/claim/cut.py" 371], #[]⟩),
  (108, foF (tops[12]?) "ixor" "ixor" (.none) (.str "cpy313.operator" 289) 107),
  (114, ⟨.type "code", none, .fields #[.str "Int2AP" 375, .str "Int2AP" 376, .str "/claim/cut.py" 377, .int 39 0, .int 1 0, .int 0 0, .int 0 0, .int 3 0, .ref 109, .bool true, .int 276 0, .ref 110, .none, .ref 111, .ref 112, .ref 113, .int 382 0, .int 39 0, .str "/claim/cut.py" 383], #[]⟩),
  (115, foF (tops[14]?) "Int2AP" "Int2AP" (.none) (.str "cpy313.imaplib" 373) 114),
  (124, ⟨.type "tuple", none, .seq #[.int 14 0, .int 10 0, .int 4 0, .int 1 0, .int 1 0, .int 22 0, .int 0 0, .int 31 0, .int 16 0, .int 127 0, .int 0 0, .int 13 0, .int 7 0, .int 22 0, .int 0 0, .int 31 0, .int 16 0, .int 127 0, .int 0 0, .int 1 0], #[]⟩),
  (125, ⟨.type "re.Pattern", none, .fields #[.str "[\\x00-\\x1F\\x7F]" 422, .int 32 445, .int 0 0, .none, .none, .ref 124, .int 0 0], #[]⟩),
  (129, ⟨.type "tuple", none, .seq #[.int 14 0, .int 14 0, .int 4 0, .int 1 0, .int 1 0, .int 9 0, .int 4294966783 0, .int 0 0, .int 0 0, .int 2147483648 0, .int 0 0, .int 0 0, .int 0 0, .int 0 0, .int 0 0, .int 13 0, .int 11 0, .int 9 0, .int 4294966783 0, .int 0 0, .int 0 0, .int 2147483648 0, .int 0 0, .int 0 0, .int 0 0, .int 0 0, .int 0 0, .int 1 0], #[]⟩),
  (130, ⟨.type "re.Pattern", none, .fields #[.str "[\\x00-\\x08\\x0A-\\x1F\\x7F]" 448, .int 32 479, .int 0 0, .none, .none, .ref 129, .int 0 0], #[]⟩),
  (146, ⟨.type "tuple", none, .seq #[.none], #[]⟩),
  (152, ⟨.type "code", none, .fields #[.str "__init__" 503, .str "Headers.__init__" 504, .str "/claim/cut.py" 505, .int 62 0, .int 2 0, .int 0 0, .int 0 0, .int 3 0, .ref 147, .bool true, .int 276 0, .ref 148, .none, .ref 149, .ref 150, .ref 151, .int 510 0, .int 62 0, .str "/claim/cut.py" 511], #[]⟩),
  (153, foF (mAt 0) "__init__" "Headers.__init__" (.ref 146) (.str "cpy313.wsgiref.headers" 385) 152),
  (159, ⟨.type "code", none, .fields #[.str "_convert_string_type" 513, .str "Headers._convert_string_type" 514, .str "/claim/cut.py" 515, .int 72 0, .int 2 0, .int 0 0, .int 1 0, .int 3 0, .ref 154, .bool true, .int 276 0, .ref 155, .none, .ref 156, .ref 157, .ref 158, .int 520 0, .int 72 0, .str "/claim/cut.py" 521], #[]⟩),
  (160, foF (mAt 1) "_convert_string_type" "Headers._convert_string_type" (.none) (.str "cpy313.wsgiref.headers" 385) 159),
  (197, ⟨.type "code", none, .fields #[.str "get_all" 561, .str "Headers.get_all" 562, .str "/claim/cut.py" 563, .int 97 0, .int 2 0, .int 0 0, .int 0 0, .int 3 0, .ref 194, .bool true, .int 276 0, .ref 195, .none, .none, .none, .ref 196, .int 564 0, .int 97 0, .str "/claim/cut.py" 565], #[]⟩),
  (198, foF (mAt 7) "get_all" "Headers.get_all" (.none) (.str "cpy313.wsgiref.headers" 385) 197),
  (222, ⟨.type "code", none, .fields #[.str "items" 590, .str "Headers.items" 591, .str "/claim/cut.py" 592, .int 114 0, .int 1 0, .int 0 0, .int 0 0, .int 3 0, .ref 217, .bool true, .int 276 0, .ref 218, .none, .ref 219, .ref 220, .ref 221, .int 594 0, .int 114 0, .str "/claim/cut.py" 595], #[]⟩),
  (223, foF (mAt 11) "items" "Headers.items" (.none) (.str "cpy313.wsgiref.headers" 385) 222),
  (255, ⟨.type "code", none, .fields #[.str "add_header" 626, .str "Headers.add_header" 627, .str "/claim/cut.py" 628, .int 129 0, .int 3 0, .int 0 0, .int 0 0, .int 11 0, .ref 250, .bool true, .int 276 0, .ref 251, .none, .ref 252, .ref 253, .ref 254, .int 636 0, .int 129 0, .str "/claim/cut.py" 637], #[]⟩),
  (256, foF (mAt 16) "add_header" "Headers.add_header" (.none) (.str "cpy313.wsgiref.headers" 385) 255),
  (258, ⟨.type "dict", none, .dict #[eK P "__module__" 498 (.str "cpy313.wsgiref.headers" 385), eK P "__firstlineno__" 502 (.int 60 501), eK P "__init__" 512 (.ref 153), eK P "_convert_string_type" 522 (.ref 160), eK P "__len__" 529 (.ref 167), eK P "__setitem__" 538 (.ref 174), eK P "__delitem__" 544 (.ref 179), eK P "__getitem__" 552 (.ref 186), eK P "__contains__" 560 (.ref 193), eK P "get_all" 566 (.ref 198), eK P "get" 577 (.ref 206), eK P "keys" 583 (.ref 211), eK P "values" 589 (.ref 216), eK P "items" 596 (.ref 223), eK P "__repr__" 603 (.ref 230), eK P "__str__" 609 (.ref 235), eK P "__bytes__" 616 (.ref 242), eK P "setdefault" 625 (.ref 249), eK P "add_header" 638 (.ref 256), eK P "__static_attributes__" 640 (.ref 257), eK P "__dict__" 642 (.ref 260), eK P "__weakref__" 644 (.ref 261), eK P "__doc__" 645 (.none)] 4, #[]⟩),
  (259, ⟨.type "type", none, .cls { name := "Headers", bases := [.type "object"], mro := [.ref 259, .type "object"], ns := 258, qualname := "Headers" }, #[none, none, some (.str "Headers" 491), some (.str "Headers" 499), some (.builtin "object.__new__"), some (.bool true)]⟩),
  (260, ⟨.type "getset_descriptor", none, .fields #[.str "__dict__" 641, .ref 259, .builtin "function.__dict__", .builtin "function.__dict__#set"], #[]⟩),
  (261, ⟨.type "getset_descriptor", none, .fields #[.str "__weakref__" 643, .ref 259, .builtin "ExceptionGroup.__weakref__", .none], #[]⟩),
  (269, ⟨.type "code", none, .fields #[.str "_law_figures" 650, .str "_law_figures" 651, .str "/claim/cut.py" 652, .int 143 0, .int 2 0, .int 0 0, .int 0 0, .int 3 0, .ref 264, .bool true, .int 276 0, .ref 265, .none, .ref 266, .ref 267, .ref 268, .int 657 0, .int 143 0, .str "/claim/cut.py" 658], #[]⟩),
  (270, foF (tops[22]?) "_law_figures" "_law_figures" (.none) (.str "law_xt0011_01" 648) 269),
  (276, ⟨.type "code", none, .fields #[.str "_law_laid" 660, .str "_law_laid" 661, .str "/claim/cut.py" 662, .int 149 0, .int 2 0, .int 0 0, .int 0 0, .int 3 0, .ref 271, .bool true, .int 276 0, .ref 272, .none, .ref 273, .ref 274, .ref 275, .int 669 0, .int 149 0, .str "/claim/cut.py" 670], #[]⟩),
  (277, foF (tops[23]?) "_law_laid" "_law_laid" (.none) (.str "law_xt0011_01" 648) 276),
  (283, ⟨.type "code", none, .fields #[.str "_law_still" 672, .str "_law_still" 673, .str "/claim/cut.py" 674, .int 158 0, .int 3 0, .int 0 0, .int 0 0, .int 3 0, .ref 278, .bool true, .int 276 0, .ref 279, .none, .ref 280, .ref 281, .ref 282, .int 682 0, .int 158 0, .str "/claim/cut.py" 683], #[]⟩),
  (284, foF (tops[24]?) "_law_still" "_law_still" (.none) (.str "law_xt0011_01" 648) 283),
  (290, ⟨.type "code", none, .fields #[.str "_law_turned" 685, .str "_law_turned" 686, .str "/claim/cut.py" 687, .int 167 0, .int 2 0, .int 0 0, .int 0 0, .int 3 0, .ref 285, .bool true, .int 276 0, .ref 286, .none, .ref 287, .ref 288, .ref 289, .int 696 0, .int 167 0, .str "/claim/cut.py" 697], #[]⟩),
  (291, foF (tops[25]?) "_law_turned" "_law_turned" (.none) (.str "law_xt0011_01" 648) 290),
  (297, ⟨.type "code", none, .fields #[.str "_law_written" 699, .str "_law_written" 700, .str "/claim/cut.py" 701, .int 180 0, .int 1 0, .int 0 0, .int 0 0, .int 3 0, .ref 292, .bool true, .int 276 0, .ref 293, .none, .ref 294, .ref 295, .ref 296, .int 705 0, .int 180 0, .str "/claim/cut.py" 706], #[]⟩),
  (298, foF (tops[26]?) "_law_written" "_law_written" (.none) (.str "law_xt0011_01" 648) 297),
  (302, ⟨.type "code", none, .fields #[.str "_law_words" 708, .str "_law_words" 709, .str "/claim/cut.py" 710, .int 185 0, .int 2 0, .int 0 0, .int 0 0, .int 3 0, .ref 299, .bool true, .int 276 0, .ref 300, .none, .none, .none, .ref 301, .int 711 0, .int 185 0, .str "/claim/cut.py" 712], #[]⟩),
  (303, foF (tops[27]?) "_law_words" "_law_words" (.none) (.str "law_xt0011_01" 648) 302),
  (307, ⟨.type "code", none, .fields #[.str "_law_pairs" 714, .str "_law_pairs" 715, .str "/claim/cut.py" 716, .int 199 0, .int 1 0, .int 0 0, .int 0 0, .int 3 0, .ref 304, .bool true, .int 276 0, .ref 305, .none, .none, .none, .ref 306, .int 717 0, .int 199 0, .str "/claim/cut.py" 718], #[]⟩),
  (308, foF (tops[28]?) "_law_pairs" "_law_pairs" (.none) (.str "law_xt0011_01" 648) 307),
  (312, ⟨.type "code", none, .fields #[.str "_law_runs" 720, .str "_law_runs" 721, .str "/claim/cut.py" 722, .int 209 0, .int 2 0, .int 0 0, .int 0 0, .int 3 0, .ref 309, .bool true, .int 276 0, .ref 310, .none, .none, .none, .ref 311, .int 723 0, .int 209 0, .str "/claim/cut.py" 724], #[]⟩),
  (313, foF (tops[29]?) "_law_runs" "_law_runs" (.none) (.str "law_xt0011_01" 648) 312),
  (317, ⟨.type "code", none, .fields #[.str "law" 726, .str "law" 727, .str "/claim/cut.py" 728, .int 219 0, .int 1 0, .int 0 0, .int 0 0, .int 3 0, .ref 314, .bool true, .int 276 0, .ref 315, .none, .none, .none, .ref 316, .int 729 0, .int 219 0, .str "/claim/cut.py" 730], #[]⟩),
  (318, foF (tops[30]?) "law" "law" (.none) (.str "law_xt0011_01" 648) 317)]
def fas : List Addr := [2, 3, 44, 45, 51, 52, 58, 59, 65, 66, 72, 73, 79, 80, 86, 87, 93, 94, 100, 101, 107, 108, 114, 115, 124, 125, 129, 130, 146, 152, 153, 159, 160, 197, 198, 222, 223, 255, 256, 258, 259, 260, 261, 269, 270, 276, 277, 283, 284, 290, 291, 297, 298, 302, 303, 307, 308, 312, 313, 317, 318]
noncomputable def vw : Program := view PySem.Challenge.pw_xt0011_01 [0, 1, 3, 4, 5, 6, 7, 8, 9, 10, 11, 12, 14, 16, 17, 18, 20, 22, 23, 24, 25, 26, 27, 28, 29, 30]
def lloose : List Str := ["tspecials", "_name_disallowed_re", "_value_disallowed_re", "_formatparam"]
theorem fas_eq (P : Params) : fas = (frag P).map (·.1) := by kernel_rfl
noncomputable abbrev hk : Hook := kHook frag fas fas_eq
theorem left0 : ∀ w, (openEnds treeTable PySem.Challenge.pw_xt0011_01 w 3432).map (fun s => (openSeen vw lloose (importedModules PySem.Challenge.pw_xt0011_01.main.body) (fun s => xlAt vw [] s && recOk [] s) true s, Hook.obs hk s)) = some (openGood vw lloose, Hook.val hk w) := by
  intro w
  kernel_rfl
theorem said0 : PySem.Challenge.rw_xt0011_01.wellSaid = true := by kernel_rfl
end Mine

namespace Mine

/-- the world of the law -/
noncomputable abbrev cx (w : World) (mg mb : Str → Option Value) : Cx := ⟨PySem.Challenge.rw_xt0011_01.row.prog, w, frag w.params, vw, looseW vw lloose, mg, mb, 259⟩

structure AOk (n : Nat) (A : Around) : Prop where
  hh : A.handled = none
  room : A.depth + n < recursionLimit
  un : A.units + 3 * n + 40 < cLine
theorem AOk.go {n : Nat} {A : Around} (h : AOk (n + 1) A) (env : Env) : AOk n (A.deeper env) := ⟨h.hh, by have := h.room; show A.depth + 1 + n < _; omega, by have := h.un; show A.units + 3 + 3 * n + 40 < _; omega⟩
theorem AOk.lt {n : Nat} {A : Around} (h : AOk (n + 1) A) : A.depth < recursionLimit := by have := h.room; omega
theorem AOk.mono {n k : Nat} {A : Around} (h : AOk n A) (hk : k ≤ n) : AOk k A := ⟨h.hh, by have := h.room; omega, by have := h.un; omega⟩

section
variable {w : World} {mg mb : Str → Option Value} {A : Around} {x y : Int} {n : Nat}
theorem f_iadd (a : AOk (n + 1) A)  : Tr (cx w mg mb) A [.int x, .int y] (K1 (.ref 59)) (.int (x + y)) := by
  refine Fn (a := 59) rfl rfl a.lt [] ["a", "b"] ?_ rfl (by decide) (fun _ h => nomatch h) fun L' => ?_
  · intro vs h
    match vs, h with
    | [u, v], _ => rfl
  · exact ExR.cons (StN.aug (x := "a") (d1 := .int x) rfl (Ev.name rfl) tiAdd (.inl rfl)) (ExR.ret (Ev.name rfl))
theorem f_iand (a : AOk (n + 1) A)  : Tr (cx w mg mb) A [.int x, .int y] (K1 (.ref 66)) (.int (Builtin.bitAnd x y)) := by
  refine Fn (a := 66) rfl rfl a.lt [] ["a", "b"] ?_ rfl (by decide) (fun _ h => nomatch h) fun L' => ?_
  · intro vs h
    match vs, h with
    | [u, v], _ => rfl
  · exact ExR.cons (StN.aug (x := "a") (d1 := .int x) rfl (Ev.name rfl) tiAnd (.inl rfl)) (ExR.ret (Ev.name rfl))
theorem f_ifloordiv (a : AOk (n + 1) A) (hy : y ≠ 0) (hs : y.natAbs < 1073741824) : Tr (cx w mg mb) A [.int x, .int y] (K1 (.ref 73)) (.int (x.fdiv y)) := by
  refine Fn (a := 73) rfl rfl a.lt [] ["a", "b"] ?_ rfl (by decide) (fun _ h => nomatch h) fun L' => ?_
  · intro vs h
    match vs, h with
    | [u, v], _ => rfl
  · exact ExR.cons (StN.aug (x := "a") (d1 := .int x) rfl (Ev.name rfl) (tiDiv hy hs) (.inl rfl)) (ExR.ret (Ev.name rfl))
theorem f_ilshift (a : AOk (n + 1) A) (h0 : 0 ≤ y) (h1 : y ≤ 1000000) (h2 : x.natAbs < 2 ^ 64) : Tr (cx w mg mb) A [.int x, .int y] (K1 (.ref 80)) (.int (x * 2 ^ y.toNat)) := by
  refine Fn (a := 80) rfl rfl a.lt [] ["a", "b"] ?_ rfl (by decide) (fun _ h => nomatch h) fun L' => ?_
  · intro vs h
    match vs, h with
    | [u, v], _ => rfl
  · exact ExR.cons (StN.aug (x := "a") (d1 := .int x) rfl (Ev.name rfl) (tiShl h0 h1 h2) (.inl rfl)) (ExR.ret (Ev.name rfl))
theorem f_imod (a : AOk (n + 1) A) (hy : y ≠ 0) : Tr (cx w mg mb) A [.int x, .int y] (K1 (.ref 87)) (.int (x.fmod y)) := by
  refine Fn (a := 87) rfl rfl a.lt [] ["a", "b"] ?_ rfl (by decide) (fun _ h => nomatch h) fun L' => ?_
  · intro vs h
    match vs, h with
    | [u, v], _ => rfl
  · exact ExR.cons (StN.aug (x := "a") (d1 := .int x) rfl (Ev.name rfl) (tiMod hy) (.inl rfl)) (ExR.ret (Ev.name rfl))
theorem f_imul (a : AOk (n + 1) A) (hx : x.natAbs < 2 ^ 64) : Tr (cx w mg mb) A [.int x, .int y] (K1 (.ref 94)) (.int (x * y)) := by
  refine Fn (a := 94) rfl rfl a.lt [] ["a", "b"] ?_ rfl (by decide) (fun _ h => nomatch h) fun L' => ?_
  · intro vs h
    match vs, h with
    | [u, v], _ => rfl
  · exact ExR.cons (StN.aug (x := "a") (d1 := .int x) rfl (Ev.name rfl) (tiMul hx) (.inl rfl)) (ExR.ret (Ev.name rfl))
theorem f_isub (a : AOk (n + 1) A)  : Tr (cx w mg mb) A [.int x, .int y] (K1 (.ref 101)) (.int (x - y)) := by
  refine Fn (a := 101) rfl rfl a.lt [] ["a", "b"] ?_ rfl (by decide) (fun _ h => nomatch h) fun L' => ?_
  · intro vs h
    match vs, h with
    | [u, v], _ => rfl
  · exact ExR.cons (StN.aug (x := "a") (d1 := .int x) rfl (Ev.name rfl) tiSub (.inl rfl)) (ExR.ret (Ev.name rfl))
theorem f_ixor (a : AOk (n + 1) A)  : Tr (cx w mg mb) A [.int x, .int y] (K1 (.ref 108)) (.int (Builtin.bitXor x y)) := by
  refine Fn (a := 108) rfl rfl a.lt [] ["a", "b"] ?_ rfl (by decide) (fun _ h => nomatch h) fun L' => ?_
  · intro vs h
    match vs, h with
    | [u, v], _ => rfl
  · exact ExR.cons (StN.aug (x := "a") (d1 := .int x) rfl (Ev.name rfl) tiXor (.inl rfl)) (ExR.ret (Ev.name rfl))
theorem f_contains (a : AOk (n + 1) A) {b : Array UInt8} (h0 : 0 ≤ x) (h1 : x < 256) : Tr (cx w mg mb) A [.bytes b, .int x] (K1 (.ref 45)) (.bool (b.contains x.toNat.toUInt8)) := by
  refine Fn (a := 45) rfl rfl a.lt [] ["a", "b"] ?_ rfl (by decide) (fun _ h => nomatch h) fun L' => ?_
  · intro vs h
    match vs, h with
    | [u, v], _ => rfl
  · exact ExR.ret (Ev.cmp (Ev.name rfl) (Ev.name rfl) (tInY h0 h1))
end
end Mine

namespace Mine

theorem Sub.drop {Γ : Gam} {x : Str} {e : Ent} (h : Γ.lookup x = none := by rfl) : Sub Γ ((x, e) :: Γ) := fun y e' l => by
  rw [List.lookup_cons]
  cases hb : y == x with
  | true => rw [beq_iff_eq.mp hb, h] at l; cases l
  | false => exact l
theorem Sub.trans {Γ Γ1 Γ2 : Gam} (h : Sub Γ Γ1) (k : Sub Γ1 Γ2) : Sub Γ Γ2 := fun y e l => k y e (h y e l)
theorem Sub.drop2 {Γ : Gam} {x y : Str} {e e' : Ent} (h : List.lookup x ((y, e') :: Γ) = none := by rfl) (h' : Γ.lookup y = none := by rfl) : Sub Γ ((x, e) :: (y, e') :: Γ) := (Sub.drop h').trans (Sub.drop h)

/-! the turns of enumerate over a str, with the letters' tokens -/
section
variable {prog : Program} {w : World} {A : Around} {s : Shared}
/-- one step: the inner iterator's item is x, met at one state -/
theorem enum_step {e it : Addr} {i : Int} {old x : Value} {R : Heap → Prop} {tk : Nat} {Q : Option Value → Shared → Prop} (he : IsEnum s.heap e it i old) (hne : e ≠ it)
    (hx : ∀ {Q : Value → Shared → Prop} {E : Value → Shared → Prop}, (∀ h₁, R h₁ → Heap.SameBut it s.heap h₁ → Q x { s with heap := h₁, toks := tk }) → wpAny (model prog w) A.in1 (Builtin.SmallTypes.nextOf (.ref it)) Q E s)
    (hQ : ∀ h₁ h', R h₁ → Heap.SameBut it s.heap h₁ → IsEnumOut h' e it (i + 1) x s.heap.objs.size → h'.IsTuple s.heap.objs.size #[.int i tk, x] → (∀ b o, b ≠ e → h₁.get? b = some o → h'.get? b = some o) → Q (some (.ref s.heap.objs.size)) { s with heap := h', toks := tk + 1 }) :
    wpAny (model prog w) A (pyNext (.ref e)) Q NoE s := by
  have hT : s.TypeIs (.ref e) "enumerate" := ⟨_, he, rfl⟩
  have hel : e < s.heap.objs.size := Heap.lt_size he
  obtain ⟨h₀, g, d, tk₀, os⟩ := s
  unfold pyNext
  refine wpAny_bind (wpAny_attempt (wpAny_callSpecial?_slot (name := Str.ofString "__next__") hT F.slot_enumerate_next (wpAny_call_entry F.slot_enumerate_next hT F.entry_enumerate_next ?_ (F.args_enumerate_next_1 _))))
  show wpAny _ _ (field (.ref e) 2 >>= _) _ _ _
  refine wpAny_bind (wpAny_field he rfl (x := .ref it) rfl (wpAny_bind (hx fun h₁ hR hs => ?_)))
  have hz : h₁.objs.size = h₀.objs.size := hs.1
  have e1 : IsEnum h₁ e it i old := (hs.2 e hne).trans he
  show wpAny _ _ (field (.ref e) 3 >>= _) _ _ ⟨h₁, g, d, tk, os⟩
  refine wpAny_bind (wpAny_field e1 rfl (x := rawInt i) rfl ?_)
  show wpAny _ _ (field (.ref e) 4 >>= _) _ _ ⟨h₁, g, d, tk, os⟩
  refine wpAny_bind (wpAny_field e1 rfl (x := .none) rfl ?_)
  show wpAny _ _ (mkInt i >>= _) _ _ ⟨h₁, g, d, tk, os⟩
  refine wpAny_bind (wpAny_mkInt ?_)
  show wpAny _ _ (setField (.ref e) 3 (rawInt (i + 1)) >>= _) _ _ ⟨h₁, g, d, tk + 1, os⟩
  refine wpAny_bind (wpAny_setField_rec e1 (by simp) fun h₂ e2 s2 => ?_)
  show wpAny _ _ (setField (.ref e) 4 .none >>= _) _ _ ⟨h₂, g, d, tk + 1, os⟩
  refine wpAny_bind (wpAny_setField_rec e2 (by simp) fun h₃ e3 s3 => ?_)
  show wpAny _ _ (newTuple [.int i tk, x] >>= _) _ _ ⟨h₃, g, d, tk + 1, os⟩
  refine wpAny_bind (wpAny_newTuple ?_)
  have z3 : h₃.objs.size = h₀.objs.size := by rw [s3.1, s2.1]; exact hz
  have e4 : IsEnum (h₃.push { cls := .type "tuple", data := .seq #[.int i tk, x] }) e it (i + 1) old := Heap.get?_push_of_some _ e3
  have t4 : (h₃.push { cls := .type "tuple", data := .seq #[.int i tk, x] }).get? h₀.objs.size = some { cls := .type "tuple", data := .seq #[.int i tk, x] } := z3 ▸ Heap.get?_push_size _ rfl
  have k4 : ∀ b o, b ≠ e → h₁.get? b = some o → (h₃.push { cls := .type "tuple", data := .seq #[.int i tk, x] }).get? b = some o := fun b o n q => Heap.get?_push_of_some _ (same_get s3 n (same_get s2 n q))
  show wpAny _ _ (Builtin.SmallTypes.ownedTupleIsFree (.ref e) >>= _) _ _ ⟨_, g, d, tk + 1, os⟩
  rw [show (Shared.heap ⟨h₃, g, d, tk + 1, os⟩).objs.size = h₀.objs.size from z3]
  generalize h₃.push { cls := .type "tuple", data := .seq #[.int i tk, x] } = h₄ at e4 t4 k4 ⊢
  refine wpAny_bind ?_
  unfold Builtin.SmallTypes.ownedTupleIsFree
  refine wpAny_bind (wpAny_field e4 rfl (x := .none) rfl (wpAny_pure ?_))
  simp only [if_true]
  refine wpAny_bind (wpAny_rule (wpAny_bind (wpAny_field e4 rfl (x := old) rfl (wpAny_bind (wpAny_setField_rec e4 (by simp) fun h₅ e5 s5 => ?_)))))
  show wpAny _ _ (Builtin.SmallTypes.ownedTupleHandOut (.ref e) (.ref h₀.objs.size) >>= _) _ _ ⟨h₅, g, d, tk + 1, os⟩
  refine wpAny_bind ?_
  unfold Builtin.SmallTypes.ownedTupleHandOut
  refine wpAny_bind (wpAny_setField_rec e5 (by simp) fun h₆ e6 s6 => ?_)
  refine wpAny_setField_rec e6 (by simp) fun h₇ e7 s7 => ?_
  have up : ∀ b o, b ≠ e → h₄.get? b = some o → h₇.get? b = some o := fun b o n q => same_get s7 n (same_get s6 n (same_get s5 n q))
  exact wpAny_bind (wpAny_letGo (wpAny_pure ⟨_, rfl, wpAny_pure (hQ h₁ h₇ hR hs e7 ⟨_, up _ _ (Nat.ne_of_gt hel) t4, rfl, 0, rfl⟩ fun b o n q => up b o n (k4 b o n q))⟩))
end

def newD (x : Str) (n : Nat) : List D := x.cps.toList.map fun k => D.new ⟨#[k]⟩ n

section
variable {c : Cx} {A : Around} {env : Env} {Γ : Gam} {e e1 e2 : Expr} {elts : List Expr} {kt n : Nat} {pos pt p1 p2 np : Pos} {x y xb xe : Str}
theorem newD_get {i : Nat} {d : D} (h : (enumD (newD x n))[i]? = some d) : ∃ k, x.cps[i]? = some k ∧ d = .tuple [.int i, .new ⟨#[k]⟩ n] := by
  obtain ⟨e, h1, rfl⟩ := enumD_get h
  simp only [newD, List.getElem?_map, Array.getElem?_toList] at h1
  cases q : x.cps[i]? with
  | none => rw [q] at h1; cases h1
  | some k => rw [q] at h1; cases h1; exact ⟨k, rfl, rfl⟩
theorem newD_len (x : Str) (n : Nat) : (enumD (newD x n)).length = x.cps.size := by simp [enumD, newD]

theorem enumItr {ty : String} {t : Tok} {E I : Addr} {vs : List Value} (hh : A.handled = none) (hne : E ≠ I)
    (hnext : ∀ (s : Shared) i k, s.heap.IsStrIter I ty x t i → x.cps[i]? = some k → ∀ {Q : Value → Shared → Prop} {E' : Value → Shared → Prop}, (∀ h', h'.IsStrIter I ty x t (i + 1) → Heap.SameBut I s.heap h' → Q (.str ⟨#[k]⟩ s.toks) { s with heap := h', toks := s.toks + 1 }) → wpAny c.M A.in1 (Builtin.SmallTypes.nextOf (.ref I)) Q E' s)
    (D : Draws c.prog c.w A.in1 I [I] x.cps.size (fun i v => ∃ c u, x.cps[i]? = some c ∧ v = .str ⟨#[c]⟩ u) (fun i h => h.IsStrIter I ty x t i)) :
    Itr c A (.Tuple elts kt pt) (.ref E) [E, I] [E, I] [.old y n] vs (enumD (newD x n)) (fun i h => (∃ old, IsEnum h E I i old) ∧ h.IsStrIter I ty x t i) where
  sub := fun _ hb => hb
  alive := fun i h st b hb => by
    obtain ⟨⟨old, h1⟩, ⟨o, h2, _⟩⟩ := st
    rcases List.mem_cons.mp hb with rfl | hb
    · have h1' : h.get? b = some _ := h1
      rw [h1']; rfl
    · rw [List.mem_singleton.mp hb, h2]; rfl
  frame := fun i h h' st hk => (WalksT.enumerateD D E hne (by simpa using hne) (by simp)).frame i h h' st (by simpa using hk)
  item := fun X i s d hi st L hw H => by
    obtain ⟨k, hk, rfl⟩ := newD_get hi
    obtain ⟨⟨old, he⟩, hs⟩ := st
    obtain ⟨v, rfl, hv⟩ := H.inv1
    simp only [At] at hv
    obtain ⟨t', _, h0, h1, h2⟩ := hv
    refine mono (enum_step (R := fun h => h.IsStrIter I ty x t (i + 1)) he hne (fun hq => hnext s i k hs hk fun h' st' hs' => hq h' st' hs') fun h₁ h' hR hs₁ he' hT hk' => fun hm => ⟨_, rfl, ?_⟩)
    refine wpAny_letOwnedTupleGo_enum he' fun h'' he'' hs'' => ?_
    have keep : ∀ b o, b ∉ [E, I] → s.heap.get? b = some o → h''.get? b = some o := fun b o n e => by
      have n1 : b ≠ E := fun q => n (by simp [q])
      have n2 : b ≠ I := fun q => n (by simp [q])
      exact same_get hs'' n1 (hk' b o n1 (same_get hs₁ n2 e))
    have hlt : s.heap.objs.size ≠ E := fun q => by
      have h1' : s.heap.get? E = some _ := he
      rw [← q, none_size] at h1'; cases h1'
    refine ⟨⟨⟨h'', s.toks + 1 + 1, rfl, hm⟩, keep⟩, ⟨⟨_, he''⟩, ?_⟩, ?_⟩
    · obtain ⟨o, e, r⟩ := hR
      exact ⟨o, same_get hs'' (Ne.symm hne) (hk' _ _ (Ne.symm hne) e), r⟩
    · simp only [At]
      refine ⟨_, _, rfl, dead L, hT.at fun o e => same_get hs'' hlt e, .cons at_int (.cons ?_ .nil)⟩
      simp only [At]
      refine ⟨s.toks, rfl, Nat.lt_of_lt_of_le (Nat.lt_trans h0 h1) h2, h2, ?_⟩
      show s.toks < s.toks + 1 + 1
      omega
  done := fun s st => mono ((WalksT.enumerateD D E hne (by simpa using hne) (by simp)).done s _ _ (newD_len x n ▸ st) fun h' tk hk => fun hm => ⟨rfl, ⟨⟨h', tk, rfl, hm⟩, hk⟩⟩)
  self := fun i s st => (WalksT.enumerateD D E hne (by simpa using hne) (by simp)).self i s _ _ st ⟨rfl, rfl⟩

/-- enumerate over a str, from a moment on: its letters are younger than what is old -/
theorem EvI.enumN {np : Pos} {n : Nat} (hh : A.handled = none) (hb : Γ.lookup xb = some (.d (.old y n))) (g : Gl c xe (.type "enumerate")) (ha : Ev c A env Γ e (.str x))
    (hk : env.kindOf xe = some .globalImplicit := by rfl) (hd : (xe == ("__debug__" : Str)) = false := by decide) (he : starEach [e] env = [(false, eval e env)] := by rfl) :
    EvI c A env Γ (.Call (.Name xe np) [e] [] pos) (.Tuple elts kt pt) (enumD (newD x n)) := by
  intro X Y s O
  obtain ⟨vb, _, hvb⟩ := O.nm xb _ hb
  refine wpAny_Call_NameR (glob g hk hd O (callWith_callee (.ty _) (by rw [he]; rfl) rfl (wpAny_mono (EvL.cons ha EvL.nil (by rw [he]; rfl) X Y s pos O) (fun vs s₁ h₁ => ?_) fun _ _ x => x)))
  have O₁ := O.keeps (kp_ext h₁.1)
  refine ⟨O₁.gd.inK, ?_⟩
  obtain ⟨v, rfl, hv⟩ := h₁.2.inv1
  simp only [At] at hv
  obtain ⟨t, rfl, _⟩ := hv
  refine call_enumerate_str fun h' he hi hs hk' => wpAny_pyIter_enum he ?_
  have kk : Keeps s₁ { s₁ with heap := h' } := ⟨h', s₁.toks, rfl, hk', Nat.le_refl _⟩
  have hne : s₁.heap.objs.size + 1 ≠ s₁.heap.objs.size := Nat.succ_ne_self _
  have nw : ∀ b ∈ [s₁.heap.objs.size + 1, s₁.heap.objs.size], s₁.heap.get? b = none := fun b hb => by
    rcases List.mem_cons.mp hb with rfl | hb
    · exact none_ge (Nat.le_succ _)
    · rw [List.mem_singleton.mp hb]; exact none_size _
  have fin : ∀ {ty : String}, Itr c A (.Tuple elts kt pt) (.ref (s₁.heap.objs.size + 1)) [s₁.heap.objs.size + 1, s₁.heap.objs.size] [s₁.heap.objs.size + 1, s₁.heap.objs.size] [.old y n] [vb] (enumD (newD x n)) (fun i h => (∃ old, IsEnum h (s₁.heap.objs.size + 1) s₁.heap.objs.size i old) ∧ h.IsStrIter s₁.heap.objs.size ty x t i) → h'.IsStrIter s₁.heap.objs.size ty x t 0 →
      IterOf c A (.Tuple elts kt pt) X s (enumD (newD x n)) (.ref (s₁.heap.objs.size + 1)) { s₁ with heap := h' } := by
    intro ty It st
    have st0 : (fun i h => (∃ old, IsEnum h (s₁.heap.objs.size + 1) s₁.heap.objs.size ((i : Nat) : Int) old) ∧ h.IsStrIter s₁.heap.objs.size ty x t i) 0 h' := ⟨⟨_, he⟩, st⟩
    refine IterOf.kp h₁.1 ⟨kk, _, _, _, _, _, It, st0, nw, fun b hb => .inl hb, ?_, It.alive 0 _ st0⟩
    refine .cons (((At.keeps hvb (kp_ext h₁.1)).ext fun a o e h1 h2 => h2.elim h1 fun q => by rw [nw a q] at e; cases e).keeps (kp_ext kk)) .nil
  unfold strIterType at hi
  cases hx : x.cps.all (· < 128)
  · rw [hx] at hi
    exact fin (enumItr hh hne (fun s i k hs hk => fun hq => wpAny_nextOf_wide_item hs hk hq) (Draws.strWide (A := A.in1) hh _ x t)) hi
  · rw [hx] at hi
    exact fin (enumItr hh hne (fun s i k hs hk => fun hq => wpAny_nextOf_ascii_item hs hk hq) (Draws.strAscii (A := A.in1) hh _ x t)) hi

theorem ns_none {K : Frag} {h : Heap} {a : Addr} {m : Str → Option Value} {n : Str} (X : K.In h) (G : h.Ns a m) (e : nsIn K a n = some none) : m n = none := by
  obtain ⟨o, es, ep, ho, hd, _, hf⟩ := G
  unfold nsIn at e
  split at e
  next q =>
    have e2 := X _ _ q
    rw [ho] at e2
    cases e2
    cases hd
    split at e
    · cases e
    next he =>
      rw [← hf]
      unfold nsFind findBy
      rw [← Array.find?_toList, he]
      rfl
  next => cases e
theorem noneBooked {s : Shared} (G : Gd c s) (h : nsIn c.K cStatics sharingNotToldKey = some none) : NoneBooked s.heap := by
  obtain ⟨mc, hn, _⟩ := G.top.nolimit
  exact ⟨mc, hn, ns_none G.inK hn h⟩

theorem EvB.isOrEq {n : Nat} {b : Bool} {e3 e4 : Expr} (hbk : nsIn c.K cStatics sharingNotToldKey = some none) (hb : (x.cps.toList == y.cps.toList) = b) (h1 : Ev c A env Γ e1 (.new x n)) (h2 : Ev c A env Γ e2 (.old y n)) (h3 : Ev c A env Γ e3 (.new x n)) (h4 : Ev c A env Γ e4 (.old y n)) (hm : behindInMarks .Is e2 = false := by rfl) (hm' : behindInMarks .Eq e4 = false := by rfl) :
    EvB c A env Γ (.BoolOp .Or [.Compare e1 [.Is] [e2] p1, .Compare e3 [.Eq] [e4] p2] pos) b := by
  subst hb
  intro X Y s O
  refine wpAny_isTrue_BoolOp (wpAny_allTrue_Or_cons ?_)
  refine wpAny_isTrue_Compare1 (wpAny_mono (h1 X Y s O) (fun v s₁ q₁ => ?_) fun _ _ x => x) hm
  have O₁ := O.keeps (kp_ext q₁.1)
  refine wpAny_mono (h2 X Y s₁ O₁) (fun u s₂ q₂ => ?_) fun _ _ x => x
  have O₂ := O₁.keeps (kp_ext q₂.1)
  have k := kp_trans q₁.1 q₂.1
  have a1 := q₁.2
  have a2 := q₂.2
  simp only [At] at a1 a2
  obtain ⟨t, rfl, t0, tn, _⟩ := a1
  obtain ⟨u, rfl, u0, un, _⟩ := a2
  have h0 : (t == 0 || u == 0) = false := by
    have : ¬ t = 0 := Nat.ne_of_gt t0
    have : ¬ u = 0 := Nat.ne_of_gt u0
    simp [*]
  have htu : (t == u) = false := by
    have : ¬ t = u := Nat.ne_of_gt (Nat.lt_of_lt_of_le un tn)
    simpa using this
  show wpAny c.M A (isSame (.str x t) (.str y u) >>= fun b => pure (Value.bool b)) _ NoE s₂
  have rest : wpAny c.M A (allTrue .Or [.Compare e3 [.Eq] [e4] p2] env) (fun v s' => Keeps s s' ∧ v = (x.cps.toList == y.cps.toList)) NoE s₂ := by
    have cmpE : EvB c A env Γ (.Compare e3 [.Eq] [e4] p2) (x.cps.toList == y.cps.toList) := by
      refine EvB.cmp h3 h4 ?_ hm'
      intro X s vs _ _ H
      obtain ⟨v, v', rfl, g1, g2⟩ := H.inv2
      simp only [At] at g1 g2
      obtain ⟨t, rfl, _⟩ := g1
      obtain ⟨u, rfl, _⟩ := g2
      exact P.eq_str ⟨kp_refl s, at_bool⟩
    refine wpAny_mono (EvBs.or cmpE (fun _ => EvBs.or0) X Y s₂ O₂) (fun b s₃ q₃ => ⟨kp_trans k q₃.1, ?_⟩) fun _ _ x => x
    rw [q₃.2, Bool.or_false]
  by_cases hxy : (x == y) = true
  · have e : x = y := eq_of_beq hxy
    subst e
    refine wpAny_bind (wpAny_isSame_str h0 (noneBooked O₂.gd hbk) fun b => wpAny_pure (wpAny_truthy_bool ?_))
    cases b with
    | true => simp only [if_true]; exact ⟨k, by simp⟩
    | false => simp only [Bool.false_eq_true, if_false]; exact rest
  · have hne : (x == y) = false := by simpa using hxy
    refine wpAny_bind (wpAny_of_eq (isSame_str_other x y t u h0 htu hne) (wpAny_pure (wpAny_truthy_bool ?_)))
    simp only [Bool.false_eq_true, if_false]
    exact rest

/-- from now on the name's str is old -/
theorem FS.old {W : List Str} {s0 s : Shared} {Xo X Y : Addr → Prop} (F : FS c s0 env W Xo X Y Γ s) (h : Γ.lookup xb = some (.d (.str y))) : FS c s0 env W Xo X Y ((xb, .d (.old y s.toks)) :: Γ) s := by
  have lk : ∀ {z : Str} {e2 : Ent}, List.lookup z ((xb, .d (.old y s.toks)) :: Γ) = some e2 → (z = xb ∧ e2 = .d (.old y s.toks)) ∨ (z ≠ xb ∧ Γ.lookup z = some e2) := by
    intro z e2 h
    rw [List.lookup_cons] at h
    cases hb : z == xb with
    | true => rw [hb] at h; cases h; exact .inl ⟨beq_iff_eq.mp hb, rfl⟩
    | false => rw [hb] at h; exact .inr ⟨fun q => by rw [q] at hb; simp at hb, h⟩
  have up : ∀ {v : Value}, EntAt X Y c.C s (.d (.str y)) v → EntAt X Y c.C s (.d (.old y s.toks)) v := by
    intro v H
    have H' : At X c.C s (.str y) v := H
    simp only [At] at H'
    obtain ⟨t, e, h0, h1⟩ := H'
    show At X c.C s (.old y s.toks) v
    simp only [At]
    exact ⟨t, e, h0, h1, Nat.le_refl _⟩
  refine ⟨F.kp, F.live, F.out, F.yx, F.yfr, F.yL, ?_, ?_, F.own⟩
  · obtain ⟨m, hn, hm⟩ := F.loc
    refine ⟨m, hn, fun z e l k => ?_⟩
    rcases lk l with ⟨rfl, rfl⟩ | ⟨_, l⟩
    · obtain ⟨v, hv, hE⟩ := hm _ _ h k
      exact ⟨v, hv, up hE⟩
    · exact hm z e l k
  · intro z e l k
    rcases lk l with ⟨rfl, rfl⟩ | ⟨_, l⟩
    · obtain ⟨k', a, v, h1, h2, h3, h4⟩ := F.cel _ _ h k
      exact ⟨k', a, v, h1, h2, up h3, h4⟩
    · exact F.cel z e l k
end

section
variable {w : World} {mg mb : Str → Option Value} {A : Around} {x y : Int} {n : Nat}
theorem f_indexOf (a : AOk (n + 1) A) {x : Str} {ch k : Nat} (hk : x.cps.toList.findIdx? (· == ch) = some k) : Tr (cx w mg mb) A [.str x, .str ⟨#[ch]⟩] (K1 (.ref 52)) (.int k) := by
  refine Fn (a := 52) rfl rfl a.lt [] ["a", "b"] ?_ rfl (by decide) (fun _ h => nomatch h) fun L' => ?_
  · intro vs h
    match vs, h with
    | [u, v], _ => rfl
  obtain ⟨hlt, heq, hbe⟩ := List.findIdx?_eq_some_iff_getElem.mp hk
  have bk : nsIn (frag w.params) cStatics sharingNotToldKey = some none := rfl
  intro s0 Xo X Y s G eo L F
  have F' := F.old (xb := "b") (y := ⟨#[ch]⟩) rfl
  have len : (enumD (newD x s.toks)).length = x.cps.toList.length := by rw [newD_len]; simp
  obtain ⟨k0, hk0, hkd⟩ : ∃ k0, x.cps[k]? = some k0 ∧ (enumD (newD x s.toks))[k]? = some (.tuple [.int k, .new ⟨#[k0]⟩ s.toks]) := by
    cases q : (enumD (newD x s.toks))[k]? with
    | none =>
      have := List.getElem?_eq_none_iff.mp q
      omega
    | some d => obtain ⟨k0, h1, rfl⟩ := newD_get q; exact ⟨k0, h1, rfl⟩
  have lt : ∀ i j : Nat, x.cps[i]? = some j → ∃ q : i < x.cps.toList.length, x.cps.toList[i] = j := fun i j h => by
    rw [← Array.getElem?_toList] at h
    exact List.getElem?_eq_some_iff.mp h
  refine (?_ : ExR _ _ _ _ _ _ _) s0 Xo X Y s G eo L F'
  refine ExR.forRet (fun _ => [("b", .d (.old ⟨#[ch]⟩ s.toks))]) k (EvI.enumN (xb := "b") (y := ⟨#[ch]⟩) a.hh rfl (.inr ⟨rfl, rfl, by decide⟩) (Ev.name (d := .str x) rfl)) (Sub.cons rfl Sub.nil) hkd ?_
      (Asg.pair a.hh (.inl rfl) (.inl rfl)) ?_
  · intro i d hi hd
    obtain ⟨j, h1, rfl⟩ := newD_get hd
    refine ⟨_, Asg.pair a.hh (.inl rfl) (.inl rfl), ExN.sub (ExN.cons (StN.ife (b := false) (EvB.isOrEq bk ?_ (Ev.name rfl) (Ev.name rfl) (Ev.name rfl) (Ev.name rfl)) (fun h => nomatch h) fun _ => ExN.nil) ExN.nil) Sub.drop2⟩
    obtain ⟨q, e⟩ := lt i j h1
    have hne := hbe i hi
    rw [e] at hne
    simpa using hne
  · refine ExR.ifr (b := true) (EvB.isOrEq bk ?_ (Ev.name rfl) (Ev.name rfl) (Ev.name rfl) (Ev.name rfl)) (fun _ => ExR.ret (Ev.name rfl)) (fun h => nomatch h)
    obtain ⟨q, e⟩ := lt k k0 hk0
    rw [e] at heq
    simpa using heq
end
end Mine

namespace Mine

section
variable {c : Cx} {A : Around} {env : Env} {W : List Str} {Γ Γ1 Γ2 Γ' : Gam} {e e1 e2 test : Expr} {body orelse : List Stmt} {elts : List Expr} {d d1 d2 : D} {kt n : Nat} {pos pt p1 p2 np : Pos} {x y xb xe : Str}

/-- while: n turns -/
theorem StN.while_ (Γs : Nat → Gam) (n : Nat) (h0 : Sub (Γs 0) Γ) (hb : ∀ i, i < n → EvB c A env (Γs i) test true ∧ ExN c A env W (Γs i) body (Γs (i + 1))) (hend : EvB c A env (Γs n) test false) (ho : orelse = [] := by rfl) :
    StN c A env W Γ (.While test body orelse pos) (Γs n) := by
  intro s0 Xo X Y s G eo F
  subst ho
  refine wpAny_While (codeAny_whileLoop (prog := c.prog) (w := c.w) (fun m s' => ∃ i X' Y', i ≤ n ∧ m = n - i ∧ FS c s0 env W Xo X' Y' (Γs i) s' ∧ Chg X Y X' Y' s s') ?_ n ⟨0, X, Y, Nat.zero_le _, rfl, F.sub h0, Chg.refl⟩)
  rintro m s' ⟨i, X', Y', hi, rfl, F', C'⟩
  by_cases hin : i = n
  · subst hin
    refine wpAny_mono (hend X' Y' s' (F'.ok G eo)) (fun b s₂ q => ?_) fun _ _ x => x.elim
    obtain ⟨k, rfl⟩ := q
    simp only [Bool.false_eq_true, if_false]
    exact wpAny_execs_nil ⟨rfl, X', Y', F'.keeps k, C'.trans (Chg.keeps k) F.yx⟩
  · have hlt : i < n := Nat.lt_of_le_of_ne hi hin
    obtain ⟨ht, hbody⟩ := hb i hlt
    refine wpAny_mono (ht X' Y' s' (F'.ok G eo)) (fun b s₂ q => ?_) fun _ _ x => x.elim
    obtain ⟨k, rfl⟩ := q
    simp only [if_true]
    refine wpAny_mono (hbody s0 Xo X' Y' s₂ G eo (F'.keeps k)) (fun fl s₃ q => ?_) fun _ _ x => x.elim
    obtain ⟨rfl, X2, Y2, F2, C2⟩ := q
    exact ⟨n - (i + 1), by omega, i + 1, X2, Y2, hlt, rfl, F2, (C'.trans (Chg.keeps k) F.yx).trans C2 F.yx⟩

theorem EvB.is {b b' : Bool} (q : b = b') (h : EvB c A env Γ e b) : EvB c A env Γ e b' := q ▸ h
theorem Ev.is (q : d = d1) (h : Ev c A env Γ e d) : Ev c A env Γ e d1 := q ▸ h
theorem StN.is (q : Γ1 = Γ2) {st : Stmt} (h : StN c A env W Γ st Γ1) : StN c A env W Γ st Γ2 := q ▸ h
/-- a, b = e -/
theorem StN.assignT (h : Ev c A env Γ e d) (ha : Asg c A env W (.Tuple elts kt pt) d Γ Γ1) (hs : swapsWithSole [.Tuple elts kt pt] e pos.line env = pure false := by rfl) (hw : swappedStores [.Tuple elts kt pt] e env = pure none := by rfl) :
    StN c A env W Γ (.Assign [.Tuple elts kt pt] e pos) Γ1 := by
  intro s0 Xo X Y s G eo F
  refine Assign_Tuple (wpAny_mono (h X Y s (F.ok G eo)) (fun v s₁ q => ?_) fun _ _ x => x) hs hw
  have F1 := F.keeps q.1
  refine wpAny_mono (ha s0 Xo X Y s₁ v G eo F1 q.2) (fun _ s₂ q2 => ?_) fun _ _ x => x
  exact ⟨rfl, X, Y, q2.1, (Chg.keeps q.1).trans q2.2 F.yx⟩
end

def apL (k N : Nat) : List Nat := (List.range k).reverse.map fun j => 65 + N / 16 ^ j % 16
def apB (k N : Nat) : Array UInt8 := ((apL k N).map (·.toUInt8)).toArray
theorem apL_succ (k N : Nat) : apL (k + 1) N = (65 + N / 16 ^ k % 16) :: apL k N := by
  unfold apL
  rw [List.range_succ, List.reverse_append]
  rfl
theorem apB_succ (k N : Nat) : apB (k + 1) N = #[(65 + N / 16 ^ k % 16).toUInt8] ++ apB k N := by
  unfold apB
  rw [apL_succ, ← Array.toList_inj]
  simp
theorem apB_size (k N : Nat) : (apB k N).size = k := by simp [apB, apL]
theorem ap_pick : ∀ m : Fin 16, KBy.picked ([65, 66, 67, 68, 69, 70, 71, 72, 73, 74, 75, 76, 77, 78, 79, 80] : List UInt8).toArray (some ((m.val : Nat) : Int)) (some ((m.val : Int) + 1)) = #[(65 + m.val).toUInt8] := by decide +kernel

section
variable {w : World} {mg mb : Str → Option Value} {A : Around} {x y : Int} {n : Nat}
theorem f_Int2AP (a : AOk (n + 1) A) (k : Nat) (hk : k ≤ 1000) (h1 : ∀ i, i < k → x.natAbs / 16 ^ i ≠ 0) (h2 : x.natAbs / 16 ^ k = 0) : Tr (cx w mg mb) A [.int x] (K1 (.ref 115)) (.bytes (apB k x.natAbs)) := by
  refine Fn (a := 115) rfl rfl a.lt [] ["num"] ?_ rfl (by decide) (fun _ h => nomatch h) fun L' => ?_
  · intro vs h
    match vs, h with
    | [u], _ => rfl
  refine ExR.cons (StN.assign Ev.cBytes (.inl rfl)) (ExR.cons (StN.assign Ev.cBytes (.inl rfl)) (ExR.cons (StN.assign (Ev.call (.inr ⟨rfl, rfl, by decide⟩) (.ty _) (EvL.cons (Ev.call (.inr ⟨rfl, rfl, by decide⟩) (.bi _) (EvL.cons (Ev.name rfl) EvL.nil) tAbs) EvL.nil) tInt) (.inl rfl)) ?_))
  refine ExR.cons (StN.while_ (fun i => [("num", .d (.int ((x.natAbs / 16 ^ i : Nat) : Int))), ("val", .d (.bytes (apB i x.natAbs))), ("AP", .d (.bytes ([65, 66, 67, 68, 69, 70, 71, 72, 73, 74, 75, 76, 77, 78, 79, 80] : List UInt8).toArray))]) k ?_ ?_ ?_) (ExR.ret (Ev.name rfl))
  · refine Sub.cons ?_ (Sub.cons ?_ (Sub.cons rfl Sub.nil))
    · simp
    · rfl
  · intro i hi
    refine ⟨EvB.is ?_ (EvB.valI (i := ((x.natAbs / 16 ^ i : Nat) : Int)) (Ev.name rfl)), ?_⟩
    · have := h1 i hi
      simp only [bne_iff_ne, ne_eq]
      omega
    · have hm : x.natAbs / 16 ^ i % 16 < 16 := Nat.mod_lt _ (by decide)
      have fm : (((x.natAbs / 16 ^ i : Nat) : Int)).fmod 16 = ((x.natAbs / 16 ^ i % 16 : Nat) : Int) := (Int.ofNat_fmod _ _).symm
      have fd : (((x.natAbs / 16 ^ i : Nat) : Int)).fdiv 16 = ((x.natAbs / 16 ^ (i + 1) : Nat) : Int) := by
        rw [Nat.pow_succ, ← Nat.div_div_eq_div_mul]; exact (Int.ofNat_fdiv _ _).symm
      have pk := ap_pick ⟨x.natAbs / 16 ^ i % 16, hm⟩
      refine ExN.sub (ExN.cons (StN.assignT (Ev.call (.inr ⟨rfl, rfl, by decide⟩) (.bi _) (EvL.cons (Ev.name rfl) (EvL.cons Ev.cInt EvL.nil)) (tDivmod (by decide))) (Asg.pair a.hh (.inl rfl) (.inl rfl)))
        (ExN.cons (StN.assign (Ev.bin (Ev.cutY (Ev.name rfl) (EvP.yes (Ev.name rfl)) (EvP.yes (Ev.bin (Ev.name rfl) Ev.cInt tAdd)) (by decide)) (Ev.name rfl) (tAddY ?_)) (.inl rfl)) ExN.nil)) (Sub.cons ?_ (Sub.cons ?_ (Sub.cons rfl Sub.nil)))
      · rw [fm, pk, apB_size]
        show 1 + i ≤ 16777216
        omega
      · show some (Ent.d (D.int _)) = _
        rw [fd]
      · show some (Ent.d (D.bytes _)) = _
        rw [fm, pk, apB_succ]
  · refine EvB.is ?_ (EvB.valI (i := ((x.natAbs / 16 ^ k : Nat) : Int)) (Ev.name rfl))
    rw [h2]; rfl
end
end Mine

namespace Mine

def driveP : Nat → Sre.M → Option Sre.M
  | 0, _ => none
  | n + 1, m => if (m.runFor 4).outcome.isSome then some (m.runFor 4) else driveP n (m.runFor 4)
def isFailed : Option Sre.Outcome → Bool
  | some .failed => true
  | _ => false
def nmCode : Array Nat := #[14, 10, 4, 1, 1, 22, 0, 31, 16, 127, 0, 13, 7, 22, 0, 31, 16, 127, 0, 1]
def vlCode : Array Nat := #[14, 14, 4, 1, 1, 9, 4294966783, 0, 0, 2147483648, 0, 0, 0, 0, 0, 13, 11, 9, 4294966783, 0, 0, 2147483648, 0, 0, 0, 0, 0, 1]
/-- a sign in which nothing is found -/
def fineCh (code : Array Nat) (k : Nat) : Bool := isFailed ((driveP 12 (Sre.forSearch code #[k] 0 0 1 false)).bind (·.outcome))
theorem fine_nm : ∀ k ∈ [65, 66, 67, 68, 69, 97, 98, 99, 100, 101], fineCh nmCode k = true := by decide +kernel
theorem fine_vl : ∀ k ∈ [117, 118, 119, 120, 121, 122, 85, 86, 87, 88, 89, 90, 65, 66, 67, 68, 69, 97, 98, 99, 100, 101], fineCh vlCode k = true := by decide +kernel
theorem fine_nm2 : ∀ k ∈ [117, 118, 119, 120, 121, 122, 85, 86, 87, 88, 89, 90], fineCh nmCode k = true := by decide +kernel

theorem plain_rp : PlainAttrs "re.Pattern" :=
  ⟨⟨"object.__getattribute__", by rw [typeLookup_type, builtinLookup_eq_fast]; kernel_rfl, by decide +kernel⟩, by rw [typeLookup_type, builtinLookup_eq_fast]; kernel_rfl⟩
theorem slot_search : Slot "re.Pattern" "search" "re.Pattern.search" :=
  .of (owner := "re.Pattern") (n := "search") (by rw [typeLookup_type, builtinLookup_eq_fast]; kernel_rfl) (by decide +kernel) (by decide +kernel) (by decide +kernel)
    (by first | exact .inl (by decide +kernel) | exact .inr (by decide +kernel)) (by rw [isSubtype_type]; kernel_rfl)
theorem type_search : typeOf (.builtin "re.Pattern.search") = pure (.type "method_descriptor") := by show builtinType _ = _; rw [builtinType_eq_fast]; kernel_rfl
theorem entry_search : entryFor table "re.Pattern.search" = some Builtin.«re.Pattern.search» := entryFor_of_tree (by kernel_rfl)
theorem args_search (a b : Value) : argsOk "re.Pattern.search" ⟨[a, b], []⟩ := by unfold argsOk; kernel_rfl

section
variable {M : Model} {A : Around} {s : Shared}
theorem drive_ok : ∀ (n turns : Nat) (m m' : Sre.M), driveP n m = some m' → n ≤ turns → ∀ (Q : Sre.M → Shared → Prop) (E : Value → Shared → Prop), Q m' s → wpAny M A (Builtin.Re.reDrive turns m) Q E s
  | 0, _, _, _, h, _ => by cases h
  | n + 1, 0, _, _, _, hn => by omega
  | n + 1, turns + 1, m, m', h, hn => by
    intro Q E hq
    unfold driveP at h
    unfold Builtin.Re.reDrive
    show wpAny M A (if (m.runFor 4).outcome.isSome = true then _ else _) Q E s
    split at h
    · rename_i ho
      cases h
      rw [if_pos ho]
      exact wpAny_pure hq
    · rename_i ho
      rw [if_neg ho]
      exact wpAny_bind (wpAny_rule (drive_ok n turns _ m' h (Nat.le_of_succ_le_succ hn) _ _ hq))
theorem rules_ok (f : Nat → Bool) (nm : Nat → String) : ∀ (l : List Nat) {Q : PUnit → Shared → Prop} {E : Value → Shared → Prop}, Q ⟨⟩ s → wpAny M A (forIn l PUnit.unit fun i _ => (if f i = true then (rule (nm i) >>= fun _ => pure (ForInStep.yield PUnit.unit)) else pure (ForInStep.yield PUnit.unit) : Sem (ForInStep PUnit))) Q E s
  | [], Q, E, h => by rw [List.forIn_nil]; exact wpAny_pure h
  | i :: r, Q, E, h => by
    rw [List.forIn_cons]
    refine wpAny_bind ?_
    cases f i with
    | true => exact wpAny_bind (wpAny_rule (wpAny_pure (rules_ok f nm r h)))
    | false => exact wpAny_pure (rules_ok f nm r h)
theorem run_failed {m m' : Sre.M} (h : driveP 12 m = some m') (hf : isFailed m'.outcome = true) {Q : Option Sre.M → Shared → Prop} {E : Value → Shared → Prop} (hq : Q none s) : wpAny M A (Builtin.Re.reRunToEnd m) Q E s := by
  unfold Builtin.Re.reRunToEnd
  refine wpAny_bind (drive_ok 12 _ m m' h (by decide) _ _ ?_)
  refine wpAny_bind (rules_ok (fun i => m'.seen.has i) (fun i => Sre.names.getD i "") _ ?_)
  cases ho : m'.outcome with
  | none => rw [ho] at hf; cases hf
  | some o =>
    cases o with
    | failed => exact wpAny_pure hq
    | matched => rw [ho] at hf; cases hf
    | stuck y => rw [ho] at hf; cases hf

open Builtin.Re in
theorem search_none {prog : Program} {w : World} {P T : Addr} {fs xs : Array Value} {code : Array Nat} {k : Nat} {t : Tok} {d1 d2 : Option Addr} {n : Nat} {sl sl2 : Array (Option Value)} {Q : Value → Shared → Prop} {E : Value → Shared → Prop}
    (hp : s.heap.get? P = some ⟨.type "re.Pattern", d1, .fields fs, sl⟩) (h6 : (reRawNat (fs.getD 6 .none) == 0) = true) (h5 : fs.getD 5 .none = .ref T) (h2 : reRawNat (fs.getD 2 .none) = 0) (ht : s.heap.get? T = some ⟨.type "tuple", d2, .seq xs n, sl2⟩)
    (hc : (xs.map reRawOf).map (·.toNat) = code) (hfine : fineCh code k = true) (hq : Q .none s) : wpAny (model prog w) A (call (.builtin "re.Pattern.search") [.ref P, .str ⟨#[k]⟩ t]) Q E s := by
  have hT : s.TypeIs (.ref P) "re.Pattern" := ⟨_, hp, rfl⟩
  refine wpAny_call_entry slot_search hT entry_search ?_ (args_search _ _)
  have hn : reNamed "re.Pattern.search" "search" ["string", "pos", "endpos"] 1 [.str ⟨#[k]⟩ t] [] = pure [some (.str ⟨#[k]⟩ t), none, none] := by rfl
  have hx : reTextOf (.str ⟨#[k]⟩ t) = pure (#[k], 0) := by rfl
  show wpAny _ _ (reTarget "re.Pattern.search" "search" ⟨[.ref P, .str ⟨#[k]⟩ t], []⟩ >>= fun t => reAnswer t (Sre.forSearch t.code t.text t.groups t.pos t.lim false)) _ _ s
  unfold reTarget
  refine wpAny_bind (wpAny_bind (wpAny_of_eq hn ?_))
  dsimp only
  refine wpAny_bind (wpAny_pure (wpAny_bind (wpAny_pure (wpAny_bind (wpAny_fieldsOf hp rfl ?_)))))
  refine wpAny_bind (wpAny_of_eq hx ?_)
  have w0 : reRawNat (fs.getD 6 .none) = 0 := by simpa using h6
  rw [if_neg (by rw [w0]; simp), if_neg (by rw [w0]; simp)]
  have hnc : reNoCollectionInside (.str ⟨#[k]⟩ t) 0 = pure () := by rfl
  refine wpAny_bind (wpAny_of_eq hnc ?_)
  rw [h5]
  unfold reRawItems
  refine wpAny_bind (wpAny_bind (wpAny_seqItems ht rfl (wpAny_pure (wpAny_pure ?_))))
  dsimp only [Option.getD_some]
  rw [hc, h2]
  unfold reAnswer
  unfold fineCh at hfine
  cases hm : driveP 12 (Sre.forSearch code #[k] 0 0 1 false) with
  | none => rw [hm] at hfine; cases hfine
  | some m' =>
    rw [hm, Option.bind_some] at hfine
    exact wpAny_bind (run_failed hm hfine (wpAny_pure ⟨_, rfl, hq⟩))
end
end Mine

namespace Mine

section
variable {c : Cx} {A : Around} {env : Env} {Γ : Gam} {o e e1 e2 : Expr} {d d1 d2 : D} {pos apos : Pos} {k : Nat}

theorem EvB.valN (h : Ev c A env Γ e .none) (he : isTrue e env (eval e env) = (do let v ← eval e env; standAt e.pos; holding [v] (truthy v)) := by rfl) : EvB c A env Γ e false :=
  .val h (fun X s v _ H => by simp only [At] at H; subst H; exact fun _ _ _ => ⟨kp_refl s, rfl⟩) he

/-- a pattern finds nothing in one fine sign -/
theorem Ev.search {P T : Addr} {fs xs : Array Value} {code : Array Nat} {d2 : Option Addr} {n : Nat} {sl sl2 : Array (Option Value)} (ho : Ev c A env Γ o (.kref P)) (h1 : Ev c A env Γ e1 (.str ⟨#[k]⟩))
    (hp : c.K.lookup P = some ⟨.type "re.Pattern", none, .fields fs, sl⟩) (h6 : (Builtin.Re.reRawNat (fs.getD 6 .none) == 0) = true) (h5 : fs.getD 5 .none = .ref T) (h2 : Builtin.Re.reRawNat (fs.getD 2 .none) = 0) (ht : c.K.lookup T = some ⟨.type "tuple", d2, .seq xs n, sl2⟩)
    (hc : (xs.map Builtin.Re.reRawOf).map (·.toNat) = code) (hfine : fineCh code k = true)
    (hbase : attributeBase o "search" env (eval o env) = eval o env := by rfl) (hs : starEach [e1] env = [(false, eval e1 env)] := by rfl) (hline : (apos.endLine == pos.line) = true := by rfl) :
    Ev c A env Γ (.Call (.Attribute o "search" apos) [e1] [] pos) .none := by
  intro X Y s O
  refine Call_method1 hbase hs hline (wpAny_mono (ho X Y s O) (fun ov s₁ q => ?_) fun _ _ x => x)
  have O₁ := O.keeps (kp_ext q.1)
  have hov := q.2
  simp only [At] at hov
  subst hov
  have hp₁ := O₁.gd.inK _ _ hp
  refine ⟨"re.Pattern", "re.Pattern.search", plain_rp, slot_search, type_search, ⟨_, hp₁, rfl⟩, fun a e => by cases e; exact ⟨_, hp₁, rfl⟩, ?_⟩
  refine callWith_builtin rfl (evalArgs_plain (Calls.spliced_cons (wpAny_mono (h1 X Y s₁ O₁) (fun v s₂ q₂ => Calls.spliced_nil ?_) fun _ _ x => x)))
  have hv := q₂.2
  simp only [At] at hv
  obtain ⟨t, rfl, _⟩ := hv
  have O₂ := O₁.keeps (kp_ext q₂.1)
  exact search_none (O₂.gd.inK _ _ hp) h6 h5 h2 (O₂.gd.inK _ _ ht) hc hfine ⟨kp_trans q.1 q₂.1, at_none⟩
end

theorem ent_d {X Y : Addr → Prop} {C : Addr} {s : Shared} {d : D} {v : Value} (H : At X C s d v) : EntAt X Y C s (.d d) v := H
/-- a def's call, with any arguments -/
theorem FnG {c : Cx} {A : Around} {a : Addr} {oc : Value} {od : Option Addr} {osl : Array (Option Value)} {name qual : Str} {params : Arguments} {body : List Stmt} {scope : Scope} {dV kV doc pm cdv ct : Value} {an : Option Addr} {d : D}
    (ho : c.K.lookup a = some ⟨oc, od, .func (fnX name qual params body scope [] dV kV doc pm an cdv ct), osl⟩) (hcd : codeIn c.K cdv qual = true) (hroom : A.depth < recursionLimit)
    (W : List Str) {pos : List Value} {kw : List (Str × Value)} (binds : List (Str × Value)) (g : Gam) {X : Addr → Prop} {s : Shared} (L : Live X s.heap) (G : Gd c s)
    (hbind : wpAny c.M A.in1 (bindArgs (fnX name qual params body scope [] dV kV doc pm an cdv ct) ⟨pos, kw⟩) (fun bs s₁ => bs = binds ∧ Keeps s s₁ ∧ Binds c X s₁ binds g) NoE s)
    (hk : ∀ n ∈ binds.map (·.1), scope.names.lookup n = some .local ∨ n ∈ W) (hW : ∀ n ∈ W, scope.names.lookup n = some .cell)
    (hb : ∀ L', ExR c (A.deeper (envK qual scope L' a cdv)) (envK qual scope L' a cdv) W g.reverse body d)
    (hco : scope.isCoroutine = false := by rfl) (hgen : scope.isGenerator = false := by rfl) (hkf : scope.kind = .function := by rfl) :
    wpAny c.M A (call (.ref a) pos kw) (fun v s' => Keeps s s' ∧ At X c.C s' d v) NoE s := by
  refine wpAny_call (fnEnter (G.inK _ _ ho) rfl (codeRec_of G.inK hcd) G.top.nolimit hroom L (binds := binds) (g := g) hbind hk hW (fun L' s₁ X' Y' eo F => ?_) hco hgen hkf)
  refine wpAny_mono (hb L' s X X' Y' s₁ G eo L F) (fun fl s₂ q => ?_) fun _ _ x => x
  obtain ⟨v, rfl, k, h⟩ := q
  exact ⟨k, h⟩

section
variable {w : World} {mg mb : Str → Option Value} {A : Around} {n k : Nat} {ds : List D}
theorem c_conv (a : AOk (n + 1) A) {b : Bool} (hk : fineCh (if b then nmCode else vlCode) k = true) :
    Tr (cx w mg mb) A [.table ds, .str ⟨#[k]⟩] (fun vs => call (.ref 160) vs [("name", .bool b)]) (.str ⟨#[k]⟩) := by
  intro X s vs L G H
  obtain ⟨v0, v1, rfl, h0, h1⟩ := H.inv2
  refine FnG (c := cx w mg mb) rfl rfl a.lt [] [("self", v0), ("value", v1), ("name", .bool b)] [("self", .d (.table ds)), ("value", .d (.str ⟨#[k]⟩)), ("name", .d (.bool b))] L G ?_ ?_ (fun _ h => nomatch h) fun L' => ?_
  · change wpAny _ _ (pure ([("self", v0), ("value", v1), ("name", Value.bool b)] : List (Str × Value))) _ _ _
    exact wpAny_pure ⟨rfl, kp_refl s, .cons (ent_d h0) (.cons (ent_d h1) (.cons (ent_d at_bool) .nil))⟩
  · change ∀ n ∈ (["self", "value", "name"] : List Str), _
    decide
  · refine ExR.ifr (b := true) (EvB.is ?_ (EvB.cmp (Ev.call (.inr ⟨rfl, rfl, by decide⟩) (.ty _) (EvL.cons (Ev.name rfl) EvL.nil) tTypeS) (Ev.ty (.inr ⟨rfl, rfl, by decide⟩)) tIsTy)) (fun _ => ?_) (fun h => nomatch h)
    · rfl
    cases b with
    | true =>
      refine ExR.cons (StN.assign (d := .kref 125) (Ev.ife (b := true) (EvB.valB (Ev.name rfl)) (fun _ => Ev.kref (.inl rfl)) (fun h => nomatch h)) (.inl rfl)) ?_
      exact ExR.ifr (b := false) (EvB.valN (Ev.search (code := nmCode) (Ev.name rfl) (Ev.name rfl) rfl rfl rfl rfl rfl (by decide +kernel) hk)) (fun h => nomatch h) (fun _ => ExR.ret (Ev.name rfl))
    | false =>
      refine ExR.cons (StN.assign (d := .kref 130) (Ev.ife (b := false) (EvB.valB (Ev.name rfl)) (fun h => nomatch h) (fun _ => Ev.kref (.inl rfl))) (.inl rfl)) ?_
      exact ExR.ifr (b := false) (EvB.valN (Ev.search (code := vlCode) (Ev.name rfl) (Ev.name rfl) rfl rfl rfl rfl rfl (by decide +kernel) hk)) (fun h => nomatch h) (fun _ => ExR.ret (Ev.name rfl))
end
end Mine

namespace Mine

/-- what the class of tables is, in the kept part -/
structure TabCls (K : Frag) (C : Addr) : Prop where
  ga : findIn K (.ref C) "__getattribute__" = some (some (.builtin "object.__getattribute__"))
  gk : findIn K (.ref C) "__getattr__" = some none
  hd : hasDictIn K C = true
  no : findIn K (.ref C) "_headers" = some none
structure TabMeth (K : Frag) (C : Addr) (name : Str) (f : Addr) : Prop where
  at_ : findIn K (.ref C) name = some (some (.ref f))
  ty : typeIn K (.ref f) = some (.type "function")
  keep : keepIn K (.ref f) = true
  sh : (name == ("_headers" : Str)) = false

section
variable {c : Cx} {A : Around} {env : Env} {Γ : Gam} {o e e1 e2 : Expr} {d d1 d2 dk : D} {ds : List D} {pos apos np : Pos} {k : Nat} {x : Str} {name : Str} {f : Addr} {es : List Expr} {as' : List D}

theorem inst_of {s : Shared} {C x dx hl : Addr} {hh : Int} {t : Tok} {n : Nat} (h1 : s.heap.get? x = some (instObj C dx)) (h2 : s.heap.get? dx = some (hdrDict hh t hl n)) : InstAt s.heap x (instObj C dx) C (some (hdrDict hh t hl n)) := ⟨h1, rfl, rfl, h2⟩
theorem shadow {hh : Int} {t : Tok} {hl : Addr} {n : Nat} (h : (name == ("_headers" : Str)) = false) : shadowIn (some (hdrDict hh t hl n)) name = some false := by
  show (lookIn name (dictOf _ n)).map _ = _
  rw [lookIn_dict]
  unfold getL
  have : (Value.str (Str.ofString "_headers") t).isStr name = false := by
    simp only [Value.isStr]
    have h' := h
    rw [beq_eq_false_iff_ne] at h'
    simpa using fun q => h' q.symm
  simp only [List.find?_cons, this, List.find?_nil, List.any_cons, List.any_nil]
  rfl
theorem Ev.attrH (T : TabCls c.K c.C) (ho : Ev c A env Γ (.Name x np) (.table ds)) : Ev c A env Γ (.Attribute (.Name x np) "_headers" pos) (.wlist ds) := by
  intro X Y s O
  refine Attribute_name (wpAny_mono (ho X Y s O) (fun ov s₁ q => ?_) fun _ _ x => x)
  have O₁ := O.keeps (kp_ext q.1)
  have hov := q.2
  simp only [At] at hov
  obtain ⟨x, dx, hl, hh, t, n, vs, rfl, ⟨h1, h2, h3⟩, e1, e2, hl', hr⟩ := hov
  refine get_value (v := .ref hl) O₁.gd.inK (inst_of e1 e2) T.ga (findObj_own T.hd T.no rfl ?_) rfl ?_
  · rfl
  · refine ⟨kp_trans q.1 (kp_tok s₁ _), ?_⟩
    simp only [At]
    exact ⟨hl, vs, rfl, h3, hl', hr.keeps (kp_ext (kp_tok s₁ _))⟩

/-- a call by a name behind a dot -/
theorem methCall {args : List Expr} {kws : List Keyword} {s : Shared} {Q : Value → Shared → Prop} {E : Value → Shared → Prop} (hbase : attributeBase o name env (eval o env) = eval o env)
    (hform : methodCallForm (args.length + kws.length) (backTo pos (starEach args env)) (backToKw pos (keywordEach kws env)) = true) (hline : (apos.endLine == pos.line) = true)
    (h : wpAny c.M A (eval o env) (fun ov s₁ => wpAny c.M A (getMethod ov name (do return (← importBound o env).getD true)) (fun r s₂ => wpAny c.M A (callWith pos r.1 r.2 (backTo pos (starEach args env)) (backToKw pos (keywordEach kws env))) Q E s₂) E s₁) E s) :
    wpAny c.M A (eval (.Call (.Attribute o name apos) args kws pos) env) Q E s := by
  rw [arm_eval_Call, hbase]
  refine wpAny_bind (wpAny_mono h (fun ov s₁ h₁ => wpAny_bind (wpAny_standAt ?_)) fun _ _ x => x)
  unfold methodCall
  rw [hform]
  refine wpAny_bind (wpAny_holding (wpAny_mono h₁ (fun r s₂ h₂ => ?_) fun _ _ x => x))
  have hpos : methodCallPos true o env apos pos = pure pos := by unfold methodCallPos; simp [hline]
  exact wpAny_bind (wpAny_of_eq hpos h₂)

/-- a table's method, found -/
theorem tabMeth {X : Addr → Prop} {s : Shared} {ov : Value} {pl : Sem Bool} {Q : Value × List Value → Shared → Prop} {E : Value → Shared → Prop} (T : TabCls c.K c.C) (m : TabMeth c.K c.C name f) (G : Gd c s) (h : At X c.C s (.table ds) ov) (hq : Q (.ref f, [ov]) s) :
    wpAny c.M A (getMethod ov name pl) Q E s := by
  simp only [At] at h
  obtain ⟨x, dx, hl, hh, t, n, vs, rfl, _, e1, e2, _⟩ := h
  exact method_fn G.inK (inst_of e1 e2) T.ga T.gk m.at_ m.ty (shadow m.sh) hq

theorem Ev.meth0 (T : TabCls c.K c.C) (m : TabMeth c.K c.C name f) (ho : Ev c A env Γ o (.table ds)) (ht : Tr c A [.table ds] (K1 (.ref f)) d)
    (hbase : attributeBase o name env (eval o env) = eval o env := by rfl) (hline : (apos.endLine == pos.line) = true := by rfl) : Ev c A env Γ (.Call (.Attribute o name apos) [] [] pos) d := by
  intro X Y s O
  refine methCall hbase rfl hline (wpAny_mono (ho X Y s O) (fun ov s₁ q => ?_) fun _ _ x => x)
  have O₁ := O.keeps (kp_ext q.1)
  refine tabMeth T m O₁.gd q.2 ?_
  refine callWith_K0 O₁.gd.inK m.keep (wpAny_mono (ht X s₁ [ov] O₁.live O₁.gd (.cons q.2 .nil)) (fun v s₂ q₂ => ⟨kp_trans q.1 q₂.1, q₂.2⟩) fun _ _ x => x)
theorem Ev.meth1 (T : TabCls c.K c.C) (m : TabMeth c.K c.C name f) (ho : Ev c A env Γ o (.table ds)) (h1 : Ev c A env Γ e d1) (ht : Tr c A [.table ds, d1] (K1 (.ref f)) d)
    (hbase : attributeBase o name env (eval o env) = eval o env := by rfl) (hline : (apos.endLine == pos.line) = true := by rfl) (he : starEach [e] env = [(false, eval e env)] := by rfl) : Ev c A env Γ (.Call (.Attribute o name apos) [e] [] pos) d := by
  intro X Y s O
  refine methCall hbase (by rw [he]; rfl) hline (wpAny_mono (ho X Y s O) (fun ov s₁ q => ?_) fun _ _ x => x)
  have O₁ := O.keeps (kp_ext q.1)
  refine tabMeth T m O₁.gd q.2 ?_
  refine callWith_K O₁.gd.inK m.keep ?_ he rfl
  rw [he]
  refine Calls.spliced_cons (wpAny_mono (h1 X Y s₁ O₁) (fun v s₂ q₂ => Calls.spliced_nil ⟨(O₁.keeps (kp_ext q₂.1)).gd.inK, ?_⟩) fun _ _ x => x)
  have O₂ := O₁.keeps (kp_ext q₂.1)
  exact wpAny_mono (ht X s₂ [ov, v] O₂.live O₂.gd (.cons (q.2.keeps (kp_ext q₂.1)) (.cons q₂.2 .nil))) (fun r s₃ q₃ => ⟨kp_trans (kp_trans q.1 q₂.1) q₃.1, q₃.2⟩) fun _ _ x => x
theorem Ev.meth1k {kn : Str} {kp : Pos} (T : TabCls c.K c.C) (m : TabMeth c.K c.C name f) (ho : Ev c A env Γ o (.table ds)) (h1 : Ev c A env Γ e d1) (h2 : Ev c A env Γ e2 dk)
    (ht : Tr c A [.table ds, d1, dk] (fun vs => PySem.call (.ref f) [vs.getD 0 .none, vs.getD 1 .none] [(kn, vs.getD 2 .none)]) d)
    (hbase : attributeBase o name env (eval o env) = eval o env := by rfl) (hline : (apos.endLine == pos.line) = true := by rfl) (he : starEach [e] env = [(false, eval e env)] := by rfl) : Ev c A env Γ (.Call (.Attribute o name apos) [e] [⟨some kn, e2, kp⟩] pos) d := by
  intro X Y s O
  refine methCall hbase (by rw [he]; rfl) hline (wpAny_mono (ho X Y s O) (fun ov s₁ q => ?_) fun _ _ x => x)
  have O₁ := O.keeps (kp_ext q.1)
  refine tabMeth T m O₁.gd q.2 ?_
  refine callWith_KW O₁.gd.inK m.keep rfl ?_ (by rw [he]; rfl) he
  rw [he]
  refine Calls.spliced_cons (wpAny_mono (h1 X Y s₁ O₁) (fun v s₂ q₂ => Calls.spliced_nil ?_) fun _ _ x => x)
  have O₂ := O₁.keeps (kp_ext q₂.1)
  refine wpAny_evalAll_cons (wpAny_bind (wpAny_mono (h2 X Y s₂ O₂) (fun kv s₃ q₃ => wpAny_bind (wpAny_standAt (wpAny_pure (wpAny_evalAll_nil ⟨(O₂.keeps (kp_ext q₃.1)).gd.inK, ?_⟩)))) fun _ _ x => x))
  have O₃ := O₂.keeps (kp_ext q₃.1)
  exact wpAny_mono (ht X s₃ [ov, v, kv] O₃.live O₃.gd (.cons ((q.2.keeps (kp_ext q₂.1)).keeps (kp_ext q₃.1)) (.cons (q₂.2.keeps (kp_ext q₃.1)) (.cons q₃.2 .nil)))) (fun r s₄ q₄ => ⟨kp_trans (kp_trans (kp_trans q.1 q₂.1) q₃.1) q₄.1, q₄.2⟩) fun _ _ x => x
end
theorem tabCls (w : World) (mg mb : Str → Option Value) : TabCls (cx w mg mb).K 259 := ⟨rfl, rfl, rfl, rfl⟩
theorem m_conv (w : World) (mg mb : Str → Option Value) : TabMeth (cx w mg mb).K 259 "_convert_string_type" 160 := ⟨rfl, rfl, rfl, by decide⟩
theorem m_getall (w : World) (mg mb : Str → Option Value) : TabMeth (cx w mg mb).K 259 "get_all" 198 := ⟨rfl, rfl, rfl, by decide⟩
theorem m_items (w : World) (mg mb : Str → Option Value) : TabMeth (cx w mg mb).K 259 "items" 223 := ⟨rfl, rfl, rfl, by decide⟩
theorem m_add (w : World) (mg mb : Str → Option Value) : TabMeth (cx w mg mb).K 259 "add_header" 256 := ⟨rfl, rfl, rfl, by decide⟩
end Mine

namespace Mine

/-- the small letter of a town's sign -/
def lw (k : Nat) : Nat := if k < 97 then k + 32 else k
def towns : List Nat := [97, 98, 99, 100, 101, 65, 66, 67, 68, 69]
def pipes : List Nat := [117, 118, 119, 120, 121, 122, 85, 86, 87, 88, 89, 90]
theorem low_towns : ∀ k ∈ towns, Txt.lower ⟨#[k]⟩ = ⟨#[lw k]⟩ := by decide +kernel
theorem fine_towns : ∀ k ∈ towns, fineCh nmCode k = true ∧ fineCh nmCode (lw k) = true := by decide +kernel
theorem fine_pipes : ∀ k ∈ pipes, fineCh vlCode k = true := by decide +kernel

section
variable {c : Cx} {A : Around} {env : Env} {Γ : Gam} {o e e1 e2 : Expr} {d d1 d2 dk : D} {ds : List D} {pos apos np : Pos} {k : Nat} {x y : Str}
theorem Ev.lower (hl : Txt.lower x = y) (hz : y.length ≤ 1000) (ho : Ev c A env Γ o (.str x))
    (hbase : attributeBase o "lower" env (eval o env) = eval o env := by rfl) (hline : (apos.endLine == pos.line) = true := by rfl) : Ev c A env Γ (.Call (.Attribute o "lower" apos) [] [] pos) (.str y) := by
  subst hl
  intro X Y s O
  refine Call_method0 hbase hline (wpAny_mono (ho X Y s O) (fun ov s₁ q => ?_) fun _ _ x => x)
  have O₁ := O.keeps (kp_ext q.1)
  have hov := q.2
  simp only [At] at hov
  obtain ⟨t, rfl, _⟩ := hov
  exact SB.lower (by unfold Builtin.Str.tooLong; rw [sizeLine_eq]; exact decide_eq_false (by omega)) ⟨kp_trans q.1 (kp_tok s₁ _), at_str O₁.gd.tk (Nat.lt_succ_self _)⟩

theorem range_get {α : Type} : ∀ ds : List α, (List.range ds.length).filterMap (ds[·]?) = ds
  | [] => rfl
  | d :: ds => by
    rw [List.length_cons, List.range_succ_eq_map, List.filterMap_cons, List.filterMap_map]
    have := range_get ds
    simp only [List.getElem?_cons_zero]
    congr 1
theorem range_bind {α β : Type} (g : α → Option β) : ∀ ds : List α, (List.range ds.length).filterMap (fun i => (ds[i]?).bind g) = ds.filterMap g
  | [] => rfl
  | d :: ds => by
    rw [List.length_cons, List.range_succ_eq_map, List.filterMap_cons, List.filterMap_map, List.filterMap_cons]
    have := range_bind g ds
    simp only [List.getElem?_cons_zero, Option.bind_some]
    have e : List.filterMap ((fun i => ((d :: ds)[i]?).bind g) ∘ Nat.succ) (List.range ds.length) = ds.filterMap g := this
    rw [e]
theorem filterMap_if {α β : Type} (q : α → Bool) (g : α → β) : ∀ l : List α, l.filterMap (fun p => if q p then some (g p) else none) = (l.filter q).map g
  | [] => rfl
  | p :: l => by
    have := filterMap_if q g l
    cases h : q p <;> simp [List.filterMap_cons, List.filter_cons, h, this]
theorem pick_all (ds : List D) : pickD ds none none none = ds := by
  have h : pickIdx ds.length none none none = List.range ds.length := by
    unfold pickIdx sliceBounds sliceRange
    simp only [Option.getD_none, show (1 : Int) > 0 by decide, if_true]
    have e : (((ds.length : Int) - 0 + 1 - 1) / 1).toNat = ds.length := by simp
    by_cases q : (0 : Int) < (ds.length : Int)
    · rw [if_pos q, e]
      refine (List.map_congr_left fun k _ => ?_).trans (List.map_id _)
      show (0 + 1 * (k : Int)).toNat = k
      simp
    · rw [if_neg q]
      have : ds.length = 0 := by omega
      rw [this]; rfl
  unfold pickD
  rw [h]
  exact range_get ds
end

/-- a header: a town's sign and a pipe's -/
def hdD (p : Nat × Nat) : D := .tuple [.str ⟨#[p.1]⟩, .str ⟨#[p.2]⟩]
def getAll (hs : List (Nat × Nat)) (k : Nat) : List Nat := (hs.filter fun p => lw p.1 == lw k).map (·.2)

section
variable {w : World} {mg mb : Str → Option Value} {A : Around} {n k : Nat} {ds : List D}
theorem f_items (a : AOk (n + 1) A) (hz : ds.length ≤ 1000000) : Tr (cx w mg mb) A [.table ds] (K1 (.ref 223)) (.list ds) := by
  refine Fn (a := 223) rfl rfl a.lt [] ["self"] ?_ rfl (by decide) (fun _ h => nomatch h) fun L' => ?_
  · intro vs h
    match vs, h with
    | [u], _ => rfl
  · refine ExR.ret (Ev.is (congrArg D.list (pick_all ds)) (Ev.cutW (Ev.attrH (tabCls w mg mb) (Ev.name rfl)) EvP.no EvP.no EvP.no (by decide) hz))

theorem c_conv3 (a : AOk (n + 1) A) {b : Bool} (hk : fineCh (if b then nmCode else vlCode) k = true) :
    Tr (cx w mg mb) A [.table ds, .str ⟨#[k]⟩, .bool b] (fun vs => call (.ref 160) [vs.getD 0 .none, vs.getD 1 .none] [("name", vs.getD 2 .none)]) (.str ⟨#[k]⟩) := by
  intro X s vs L G H
  obtain ⟨v0, v1, v2, rfl, h0, h1, h2⟩ := H.inv3
  simp only [At] at h2
  subst h2
  exact c_conv a hk X s [v0, v1] L G (.cons h0 (.cons h1 .nil))

theorem f_getall (a : AOk (n + 2) A) {hs : List (Nat × Nat)} (hz : hs.length ≤ 1000000) (hk : k ∈ towns) (hh : ∀ p ∈ hs, p.1 ∈ towns) :
    Tr (cx w mg mb) A [.table (hs.map hdD), .str ⟨#[k]⟩] (K1 (.ref 198)) (.list ((getAll hs k).map fun b => .str ⟨#[b]⟩)) := by
  refine Fn (a := 198) rfl rfl a.lt ["name"] ["self", "name"] ?_ rfl (by decide) (by decide) fun L' => ?_
  · intro vs h
    match vs, h with
    | [u, v], _ => rfl
  refine ExR.cons (StN.assign (Ev.meth1k (tabCls w mg mb) (m_conv w mg mb) (Ev.name rfl) (Ev.lower (low_towns k hk) (show 1 ≤ 1000 by decide) (Ev.name rfl)) Ev.cBool (c_conv3 (a.go _) (fine_towns k hk).2)) (.inr (by decide))) ?_
  refine ExR.ret (Ev.is ?_ (Ev.comp (cl := [("name", L' + 1)]) (Γc := [("name", .d (.str ⟨#[lw k]⟩))]) (Wc := []) (fun i => (hs[i]?).bind fun p => if lw p.1 == lw k then some (.str ⟨#[p.2]⟩) else none) ?_ (EvI.of (Ev.attrH (tabCls w mg mb) (Ev.name rfl)) (tiL a.hh plain_name)) (Sub.cons rfl Sub.nil) ?_ (by rw [List.length_map]; exact hz)))
  · rw [List.length_map, range_bind, filterMap_if]
    unfold getAll
    rw [List.map_map]; rfl
  · refine { clos := by rfl, fn := rfl, names := by decide, clok := ⟨⟨rfl, rfl⟩, trivial⟩, cap := ⟨⟨.inl rfl, .inl rfl, ⟨_, rfl, fun C => rfl⟩⟩, trivial⟩, own := fun _ h => nomatch h }
  · intro i d hi C
    rw [List.getElem?_map] at hi
    cases hp : hs[i]? with
    | none => rw [hp] at hi; cases hi
    | some p =>
      rw [hp] at hi
      cases hi
      have hpt := hh p (List.mem_of_getElem? hp)
      refine ⟨_, Asg.name (.inl rfl), Sub.drop, lw p.1 == lw k, Tst.one (EvB.is ?_ (EvB.cmp (Ev.lower (low_towns p.1 hpt) (show 1 ≤ 1000 by decide) (Ev.sub (d1 := hdD p) (Ev.name rfl) Ev.cInt (tGetT (by decide) (by decide) rfl))) (Ev.name rfl) tEqS)), fun q => ?_, fun q => ⟨.str ⟨#[p.2]⟩, ?_, Ev.sub (d1 := hdD p) (Ev.name rfl) Ev.cInt (tGetT (by decide) (by decide) rfl)⟩⟩
      · simp
      · rw [Option.bind_some, q]; rfl
      · rw [Option.bind_some, q]; rfl
end
end Mine

namespace Mine

section
variable {c : Cx} {A : Around} {env : Env} {W : List Str} {Γ Γ1 : Gam} {o e e1 e2 tgt : Expr} {d d1 d2 dk : D} {ds : List D} {pos apos np : Pos} {k : Nat} {x y sep : Str} {st : Stmt} {ss : List Stmt}

/-- sep.join of one str in a list that was filled -/
theorem Ev.join1 (hx : Γ.lookup x = some (.m [.str y])) (ho : Ev c A env Γ o (.str sep)) (hz : y.length + sep.length ≤ 1000)
    (hbase : attributeBase o "join" env (eval o env) = eval o env := by rfl) (hs : starEach [Expr.Name x np] env = [(false, eval (.Name x np) env)] := by rfl) (hline : (apos.endLine == pos.line) = true := by rfl)
    (hd : (x == ("__debug__" : Str)) = false := by decide) (hn : (x == ("__classdict__" : Str)) = false := by decide) :
    Ev c A env Γ (.Call (.Attribute o "join" apos) [.Name x np] [] pos) (.str y) := by
  intro X Y s O
  refine Call_method1 hbase hs hline (wpAny_mono (ho X Y s O) (fun ov s₁ q => ?_) fun _ _ x => x)
  have O₁ := O.keeps (kp_ext q.1)
  have hov := q.2
  simp only [At] at hov
  obtain ⟨t, rfl, _⟩ := hov
  refine ⟨"str", "str.join", F.plainAttrs_str, F.slot_str_join, F.type_str_join, typeIs_str _ _ _, (fun _ e => nomatch e), ?_⟩
  refine callWith_builtin rfl (evalArgs_plain (Calls.spliced_cons (wpAny_mono (nameE hx hd hn X Y s₁ O₁) (fun v s₂ q₂ => Calls.spliced_nil ?_) fun _ _ x => x)))
  obtain ⟨rfl, a, vs, rfl, _, hp, hr⟩ := q₂
  obtain ⟨v, hv, ha⟩ := hr.inv1
  have ha' := ha
  simp only [At] at ha
  obtain ⟨u, rfl, _⟩ := ha
  have hl : s₂.heap.IsList a (strValues [(y, u)]).toArray := by
    have : vs = (strValues [(y, u)]).toArray := by rw [← Array.toList_inj, hv]; rfl
    rw [← this]; exact hp.isList
  refine call_meets F.slot_str_join (typeIs_str _ _ _) F.entry_str_join (F.args_str_join_2 _ _) (meets_str_join_list sep t a [(y, u)] ?_) ⟨hl, ?_⟩
  · unfold Builtin.Str.tooLong
    rw [sizeLine_eq]
    exact decide_eq_false (by simp; omega)
  · exact ⟨q.1, ha'⟩

/-- the items of an empty dict -/
theorem EvI.noItems (hh : A.handled = none) (hx : Γ.lookup x = some (.d .edict)) (hbase : attributeBase (.Name x np) "items" env (eval (.Name x np) env) = eval (.Name x np) env := by rfl) (hline : (apos.endLine == pos.line) = true := by rfl)
    (hd : (x == ("__debug__" : Str)) = false := by decide) (hn : (x == ("__classdict__" : Str)) = false := by decide) : EvI c A env Γ (.Call (.Attribute (.Name x np) "items" apos) [] [] pos) tgt [] := by
  intro X Y s O
  refine Call_method0 hbase hline (wpAny_mono (nameE hx hd hn X Y s O) (fun ov s₁ q => ?_) fun _ _ x => x)
  obtain ⟨rfl, hE⟩ := q
  have hE' : At X c.C s₁ .edict ov := hE
  simp only [At] at hE'
  obtain ⟨a, rfl, hxa, hsm, ho⟩ := hE'
  have hDk : ∀ {h : Heap}, h.get? a = some { cls := .type "dict", data := .dict #[] } → h.DictAt (intKind c.prog c.w) a ([] : List (Int × Value)) 0 := fun ho => ⟨_, #[], ho, ⟨rfl, rfl, rfl⟩, rfl, (fun e h => by cases h with | mk h => cases h), .nil, List.Pairwise.nil⟩
  refine ⟨"dict", "dict.items", F.plainAttrs_dict, F.slot_dict_items, F.type_dict_items, ⟨_, ho, rfl⟩, (fun b e => by cases e; exact ⟨_, ho, rfl⟩), ?_⟩
  refine callWith_builtin (args := []) rfl (PySem.evalArgs_none ?_)
  refine call_meetsIn F.slot_dict_items ⟨_, ho, rfl⟩ F.entry_dict_items (F.args_dict_items_1 _) (meets_dict_items (intKind c.prog c.w) a hsm) ⟨⟨[], (hDk ho).dictOf⟩, ?_⟩
  have ho2 : (s₁.heap.push { cls := .type "dict_items", data := .fields #[.ref a] }).get? a = some { cls := .type "dict", data := .dict #[] } := Heap.get?_push_of_some _ ho
  show wpAny c.M A (pyIter (.ref s₁.heap.objs.size)) (IterOf c A tgt X s₁ []) NoE { s₁ with heap := s₁.heap.push { cls := .type "dict_items", data := .fields #[.ref a] } }
  refine wpAny_pyIter_items (knd := intKind c.prog c.w) (kvs := []) (ep := 0) ⟨_, Heap.get?_push_size _ rfl, rfl, rfl⟩ (hDk ho2) ?_
  generalize hs2 : ({ s₁ with heap := s₁.heap.push { cls := .type "dict_items", data := .fields #[.ref a] } } : Shared) = s₂
  have k2 : Keeps s₁ s₂ := hs2 ▸ kp_push _ _
  have ho2' : s₂.heap.get? a = some { cls := .type "dict", data := .dict #[] } := hs2 ▸ ho2
  have hne : s₂.heap.objs.size ≠ a := fun q => by rw [← q, none_size] at ho2'; cases ho2'
  have it0 : IsItemIter (s₂.heap.push { cls := .type "dict_itemiterator", data := .fields #[.none, .bool false, .ref a, .int 0 0, .int (([] : List (Int × Value)).length : Nat) 0, .int (0 : Nat) 0, .none, .none] }) s₂.heap.objs.size a 0 0 0 .none .none := Heap.get?_push_size _ rfl
  refine ⟨kp_trans k2 (kp_push _ _), [s₂.heap.objs.size, a], [s₂.heap.objs.size], [], [], (fun i h => IsItemIter h s₂.heap.objs.size a i 0 0 .none .none ∧ h.get? a = some { cls := .type "dict", data := .dict #[] }), ?_, ⟨it0, Heap.get?_push_of_some _ ho2'⟩, ?_, ?_, .nil, ?_⟩
  · refine { sub := fun b hb => by rw [List.mem_singleton.mp hb]; exact List.mem_cons_self, alive := ?_, frame := ?_, item := fun X i s d hi => by simp at hi, done := ?_, self := ?_ }
    · rintro i h ⟨st, _⟩ b hb
      have st' : h.get? s₂.heap.objs.size = some _ := st
      rw [List.mem_singleton.mp hb, st']; rfl
    · rintro i h h' ⟨st, st2⟩ hk
      exact ⟨hk _ List.mem_cons_self _ st, hk _ (List.mem_cons_of_mem _ List.mem_cons_self) _ st2⟩
    · rintro s ⟨st, st2⟩
      exact wpAny_pyNext_items_end (knd := intKind c.prog c.w) (kvs := []) hh st (hDk st2) rfl fun h' he => ⟨rfl, ⟨⟨h', s.toks, rfl, Nat.le_refl _⟩, fun b o n e => he b o (fun q => n (List.mem_singleton.mpr q)) e⟩⟩
    · rintro i s ⟨st, _⟩
      exact kcp_self st ⟨rfl, rfl⟩
  · intro b hb
    rw [List.mem_singleton.mp hb]
    cases e : s₁.heap.get? s₂.heap.objs.size with
    | none => rfl
    | some o => have := (kp_ext k2).1 _ _ e; rw [none_size] at this; cases this
  · intro b hb
    rcases List.mem_cons.mp hb with rfl | hb
    · exact .inl (List.mem_singleton.mpr rfl)
    · rw [List.mem_singleton.mp hb]; exact .inr hxa
  · intro b hb
    show ((s₂.heap.push _).get? b).isSome = true
    rcases List.mem_cons.mp hb with rfl | hb
    · rw [Heap.get?_push_size _ rfl]; rfl
    · rw [List.mem_singleton.mp hb, Heap.get?_push_of_some _ ho2']; rfl
end
end Mine

namespace Mine

/-- statements with an end of one's own -/
def ExP (c : Cx) (A : Around) (env : Env) (W : List Str) (Γ : Gam) (ss : List Stmt) (s0 : Shared) (Xo : Addr → Prop) (P : Flow → Shared → Prop) : Prop :=
  ∀ X Y s, FS c s0 env W Xo X Y Γ s → wpAny c.M A (execs ss env) P NoE s
section
variable {c : Cx} {A : Around} {env : Env} {W : List Str} {Γ Γ1 Γ2 : Gam} {o e e1 e2 tgt : Expr} {d d1 d2 dk : D} {ds : List D} {pos apos np : Pos} {k : Nat} {x y sep : Str} {st : Stmt} {ss : List Stmt} {s0 : Shared} {Xo : Addr → Prop} {P : Flow → Shared → Prop}
theorem ExP.cons (G : Gd c s0) (eo : EnvOk env) (h1 : StN c A env W Γ st Γ1) (h2 : ExP c A env W Γ1 ss s0 Xo P) : ExP c A env W Γ (st :: ss) s0 Xo P := by
  intro X Y s F
  refine wpAny_execs_cons (wpAny_mono (h1 s0 Xo X Y s G eo F) (fun fl s₁ q => ?_) fun _ _ x => x)
  obtain ⟨rfl, X1, Y1, F1, _⟩ := q
  exact h2 X1 Y1 s₁ F1

theorem Ev.tab {x dx hl : Addr} {hh : Int} {t : Tok} {n : Nat} (h : Ev c A env Γ e (.tabAt x dx hl hh t n ds)) : Ev c A env Γ e (.table ds) := fun X Y s O => wpAny_mono (h X Y s O) (fun v s' q => ⟨q.1, by
  have := q.2
  simp only [At] at this ⊢
  obtain ⟨vs, rfl, r⟩ := this
  exact ⟨x, dx, hl, hh, t, n, vs, rfl, r⟩⟩) fun _ _ x => x
end

section
variable {w : World} {mg mb : Str → Option Value} {A : Around} {n k1 k2 : Nat}
/-- add_header's end: the table's list has one header more -/
def Added (c : Cx) (X : Addr → Prop) (hl : Addr) (vs : Array Value) (d : D) (s : Shared) (v : Value) (s' : Shared) : Prop :=
  v = .none ∧ (∃ h tk, s' = { s with heap := h, toks := tk }) ∧ s.toks ≤ s'.toks ∧ (∀ b o, b ≠ hl → s.heap.get? b = some o → s'.heap.get? b = some o) ∧ ∃ y, s'.heap.PlainList hl (vs.push y) ∧ At X c.C s' d y

theorem c_add (a : AOk (n + 2) A) {X : Addr → Prop} {s : Shared} {x dx hl : Addr} {hh : Int} {t : Tok} {m : Nat} {vs : Array Value} {ds : List D} {v1 v2 : Value} (hk1 : k1 ∈ towns) (hk2 : k2 ∈ pipes) (L : Live X s.heap) (G : Gd (cx w mg mb) s)
    (hX : ¬ X x ∧ ¬ X dx) (e1 : s.heap.get? x = some (instObj 259 dx)) (e2 : s.heap.get? dx = some (hdrDict hh t hl m)) (e3 : s.heap.PlainList hl vs) (hr : AtAll X 259 s ds vs.toList) (hz : ds.length ≤ 1000)
    (h1 : At X 259 s (.str ⟨#[k1]⟩) v1) (h2 : At X 259 s (.str ⟨#[k2]⟩) v2) :
    wpAny (cx w mg mb).M A (PySem.call (.ref 256) [.ref x, v1, v2]) (fun v s' => Added (cx w mg mb) X hl vs (hdD (k1, k2)) s v s') NoE s := by
  have hxl : x ≠ hl := fun q => by
    obtain ⟨_, e⟩ := e3
    rw [← q, e1] at e; cases e
  have hdl : dx ≠ hl := fun q => by
    obtain ⟨_, e⟩ := e3
    rw [← q, e2] at e
    have := congrArg Obj.data (Option.some.inj e)
    cases this
  let X' : Addr → Prop := fun a => X a ∧ a ≠ hl
  have L' : Live X' s.heap := fun a h => L a h.1
  have up : ∀ {d v}, At X 259 s d v → At X' 259 s d v := fun h => h.ext fun a o _ hx h => hx h.1
  have big : (s.heap.objs.size == sysModules) = false := by
    have h3 := ltN (G.inK 3 _ rfl)
    have : ¬ s.heap.objs.size = 1 := by omega
    simpa [sysModules] using this
  refine wpAny_call (fnEnter (c := cx w mg mb) (W := []) (X := X') (s := s) (a := 256) (binds := [("self", .ref x), ("_name", v1), ("_value", v2), ("_params", .ref s.heap.objs.size)])
    (g := [("self", .d (.tabAt x dx hl hh t m ds)), ("_name", .d (.str ⟨#[k1]⟩)), ("_value", .d (.str ⟨#[k2]⟩)), ("_params", .d .edict)]) (G.inK 256 _ rfl) rfl (codeRec_of G.inK rfl) G.top.nolimit a.lt L' ?_ ?_ (fun _ h => nomatch h) ?_)
  · change wpAny _ _ (alloc { cls := .type "dict", data := .dict #[] } >>= fun d => pure ([("self", .ref x), ("_name", v1), ("_value", v2), ("_params", .ref d)] : List (Str × Value))) _ _ _
    have kk := kp_push s { cls := .type "dict", data := .dict #[] }
    have ke := kp_ext kk
    refine wpAny_bind (wpAny_alloc (wpAny_pure ⟨rfl, kk, .cons (ent_d ?_) (.cons (ent_d ((up h1).keeps ke)) (.cons (ent_d ((up h2).keeps ke)) (.cons (ent_d ?_) .nil)))⟩))
    · simp only [At]
      exact ⟨vs, trivial, ⟨fun h => hX.1 h.1, fun h => hX.2 h.1, fun h => h.2 rfl⟩, ke.1 _ _ e1, ke.1 _ _ e2, e3.isList.at fun o e => ke.1 _ _ e, (hr.ext fun a o _ hx h => hx h.1).keeps ke⟩
    · simp only [At]
      exact ⟨_, rfl, dead L', big, Heap.get?_push_size _ rfl⟩
  · change ∀ n ∈ (["self", "_name", "_value", "_params"] : List Str), _
    decide
  · intro L0 s₁ X1 Y1 eo F
    refine (?_ : ExP (cx w mg mb) _ _ [] _ _ s X' _) X1 Y1 s₁ F
    refine ExP.cons G eo (StN.assignM EvL.nil (.inl rfl)) ?_
    refine ExP.cons G eo (StN.ife (Γ' := [("parts", .m [.str ⟨#[k2]⟩]), ("self", .d (.tabAt x dx hl hh t m ds)), ("_name", .d (.str ⟨#[k1]⟩)), ("_params", .d .edict)]) (b := true) (EvB.cmp (Ev.name rfl) Ev.cNone tNotNoneS) (fun _ => ?_) (fun h => nomatch h)) ?_
    · refine ExN.sub (ExN.cons (StN.assign (Ev.meth1k (tabCls w mg mb) (m_conv w mg mb) (Ev.tab (Ev.name rfl)) (Ev.name rfl) Ev.cBool (c_conv3 (a.go _) (fine_pipes k2 hk2))) (.inl rfl)) (ExN.cons (StN.append rfl (Ev.name rfl) rfl rfl (by decide)) ExN.nil)) ?_
      exact Sub.cons rfl (Sub.cons rfl (Sub.cons rfl (Sub.cons rfl Sub.nil)))
    refine ExP.cons G eo (StN.for_ (ds := []) (fun _ => [("parts", .m [.str ⟨#[k2]⟩]), ("self", .d (.tabAt x dx hl hh t m ds)), ("_name", .d (.str ⟨#[k1]⟩))]) (EvI.noItems a.hh rfl) (Sub.cons rfl (Sub.cons rfl (Sub.cons rfl Sub.nil))) (fun i d hi => by simp at hi)) ?_
    intro X2 Y2 s₂ F2
    have O2 := F2.ok G eo
    have k02 := kp_ext F2.kp
    have p2 : s₂.heap.PlainList hl vs := e3.at fun o e => k02.1 _ _ e
    refine wpAny_execs_cons (wpAny_Expr (wpAny_Call_append rfl rfl rfl rfl ?_) rfl rfl)
    refine Attribute_name (wpAny_mono (nameE (en := .d (.tabAt x dx hl hh t m ds)) rfl (by decide) (by decide) X2 Y2 s₂ O2) (fun v s₃ q => ?_) fun _ _ x => x)
    obtain ⟨rfl, hE⟩ := q
    have hE' : At X2 259 s₃ (.tabAt x dx hl hh t m ds) v := hE
    simp only [At] at hE'
    obtain ⟨vs', rfl, _, g1, g2, _⟩ := hE'
    refine get_value (v := .ref hl) O2.gd.inK (inst_of g1 g2) (tabCls w mg mb).ga (findObj_own (tabCls w mg mb).hd (tabCls w mg mb).no rfl rfl) rfl ?_
    have kt : Keeps s₃ { s₃ with toks := s₃.toks + 1 } := kp_tok s₃ _
    have O3 := O2.keeps (kp_ext kt)
    obtain ⟨en, p2'⟩ := p2
    refine ⟨hl, vs, rfl, ⟨_, en, p2', rfl, rfl, rfl⟩, ?_⟩
    refine wpAny_mono ((?_ : Ev (cx w mg mb) _ _ [("parts", .m [.str ⟨#[k2]⟩]), ("self", .d (.tabAt x dx hl hh t m ds)), ("_name", .d (.str ⟨#[k1]⟩))] _ (hdD (k1, k2))) X2 Y2 _ O3) (fun y s₄ q => ?_) fun _ _ x => x
    · refine Ev.tuple (EvL.cons ?_ (EvL.cons ?_ EvL.nil)) (by show 2 ≤ 1000000; decide)
      · exact Ev.meth1k (tabCls w mg mb) (m_conv w mg mb) (Ev.tab (Ev.name rfl)) (Ev.name rfl) Ev.cBool (c_conv3 (a.go _) (fine_towns k1 hk1).1)
      · exact Ev.join1 rfl Ev.cStr (show 1 + 2 ≤ 1000 by decide)
    have k4 := kp_ext q.1
    have hy := q.2
    have p4 := k4.1 _ _ p2'
    have hlen := hr.length
    simp only [Array.length_toList] at hlen
    refine append_at p4 (fun h' hs hg => ?_) (by rw [hlen]; exact Nat.le_trans hz (by decide))
    have kAll : Keeps s s₄ := kp_trans (kp_trans F2.kp kt) q.1
    have kE := kp_ext kAll
    have hy' : At X2 259 s₄ (.tuple [.str ⟨#[k1]⟩, .str ⟨#[k2]⟩]) y := hy
    simp only [At] at hy'
    obtain ⟨a', us, rfl, hxa, ht, hru⟩ := hy'
    have hne : a' ≠ hl := fun q => by
      obtain ⟨o, ho, hc, _⟩ := ht
      rw [q, p4] at ho
      have := Option.some.inj ho
      rw [← this] at hc
      simp at hc
    obtain ⟨h4, t4, e4, _⟩ := kAll
    refine wpAny_execs_nil ⟨rfl, ⟨h', s₄.toks, by rw [e4]⟩, kE.2, fun b o nb e => same_get hs nb (kE.1 b o e), _, ⟨_, hg⟩, ?_⟩
    show At X 259 _ (.tuple [.str ⟨#[k1]⟩, .str ⟨#[k2]⟩]) _
    simp only [At]
    refine ⟨a', us, rfl, fun hX => hxa (F2.out a' ⟨hX, hne⟩), ht.at fun o e => same_get hs hne e, ?_⟩
    obtain ⟨u1, u2, e, b1, b2⟩ := hru.inv2
    rw [e]
    simp only [At] at b1 b2
    obtain ⟨t1, rfl, c1, c2⟩ := b1
    obtain ⟨t2, rfl, c3, c4⟩ := b2
    exact .cons (at_str c1 c2) (.cons (at_str c3 c4) .nil)
end
end Mine

namespace Mine

open Classical in
/-- a heap in which some objects are gone -/
noncomputable def wipe (Y : Addr → Prop) (h : Heap) : Heap := { h with objs := h.objs.mapIdx fun i o => if Y i then { o with data := .freed } else o }
theorem wipe_yes {Y : Addr → Prop} {h : Heap} {a : Addr} (q : Y a) : (wipe Y h).get? a = none := by
  unfold wipe Heap.get?
  simp only [Array.getElem?_mapIdx]
  cases h.objs[a]? with
  | none => rfl
  | some o => simp only [Option.map_some, if_pos q]
theorem wipe_no {Y : Addr → Prop} {h : Heap} {a : Addr} (q : ¬ Y a) : (wipe Y h).get? a = h.get? a := by
  unfold wipe Heap.get?
  simp only [Array.getElem?_mapIdx]
  cases h.objs[a]? with
  | none => rfl
  | some o => simp only [Option.map_some, if_neg q]
theorem wipe_some {Y : Addr → Prop} {h : Heap} {a : Addr} {o : Obj} (n : ¬ Y a) (e : h.get? a = some o) : (wipe Y h).get? a = some o := by rw [wipe_no n]; exact e
theorem wipe_none {Y : Addr → Prop} {h : Heap} {a : Addr} (e : h.get? a = none) : (wipe Y h).get? a = none := by
  by_cases q : Y a
  · exact wipe_yes q
  · rw [wipe_no q]; exact e
theorem of_wipe {Y : Addr → Prop} {h : Heap} {a : Addr} {o : Obj} (e : (wipe Y h).get? a = some o) : ¬ Y a ∧ h.get? a = some o := by
  by_cases q : Y a
  · rw [wipe_yes q] at e; cases e
  · rw [wipe_no q] at e; exact ⟨q, e⟩

section
variable {c : Cx} {A : Around} {env : Env} {W : List Str} {Γ Γ1 Γ2 : Gam} {s0 s s' : Shared} {Xo X Y : Addr → Prop} {dx : Addr}

/-- one object of its own, not among the frame's, is changed -/
theorem FS.poke (F : FS c s0 env W Xo X Y Γ s) (hX : X dx) (hY : ¬ Y dx) (hd : ∃ o es n, s.heap.get? dx = some o ∧ o.data = .dict es n) (hse : ∃ h tk, s' = { s with heap := h, toks := tk })
    (hs : ∀ b o, b ≠ dx → s.heap.get? b = some o → s'.heap.get? b = some o) (hal : (s'.heap.get? dx).isSome = true) (ht : s.toks ≤ s'.toks) :
    FS c { s0 with heap := wipe (· = dx) s0.heap } env W Xo X Y Γ s' := by
  have nY : ∀ {a}, Y a → a ≠ dx := fun y q => hY (q ▸ y)
  have cell : ∀ {a ov}, s.heap.IsCell a ov → a ≠ dx := fun hc q => by
    obtain ⟨o, ho, hv⟩ := hc
    obtain ⟨o', es, n, ho', hd'⟩ := hd
    rw [q, ho'] at ho; cases ho; rw [hd'] at hv; cases hv
  have cells : ∀ {a ov}, s.heap.IsCell a ov → s'.heap.IsCell a ov := fun hc => let ⟨o, e, r⟩ := id hc; ⟨o, hs _ _ (cell hc) e, r⟩
  have ent : ∀ {en v}, EntAt X Y c.C s en v → EntAt X Y c.C s' en v := fun H =>
    H.imp (fun _ _ _ x => x) (fun _ x => x) (fun a o ha e => hs a o (fun q => ha (q ▸ hX)) e) (fun a o _ _ ha e _ => hs a o (nY ha) e) ht
  refine ⟨?_, fun a ha => ?_, F.out, F.yx, fun a y => wipe_none (F.yfr a y), F.yL, ?_, fun y e l k => ?_, fun y hy => ?_⟩
  · obtain ⟨h, tk, e, k⟩ := F.kp
    obtain ⟨h', tk', e'⟩ := hse
    exact ⟨h', tk', by rw [e', e], fun b o q => hs b o (of_wipe q).1 (k.1 b o (of_wipe q).2), Nat.le_trans k.2 ht⟩
  · by_cases q : a = dx
    · rw [q]; exact hal
    · obtain ⟨o, e⟩ := Option.isSome_iff_exists.mp (F.live a ha)
      rw [hs a o q e]; rfl
  · obtain ⟨m, hn, hm⟩ := F.loc
    exact ⟨m, hn.at' fun o e => hs _ o (nY F.yL) e, fun y e l k => let ⟨v, a, b⟩ := hm y e l k; ⟨v, a, ent b⟩⟩
  · obtain ⟨k', a, v, h1, h2, h3, h4⟩ := F.cel y e l k
    refine ⟨k', a, v, h1, cells h2, ent h3, h4.imp id fun o => ?_⟩
    obtain ⟨o', e'⟩ := Option.isSome_iff_exists.mp o
    show ((wipe _ _).get? a).isSome = true
    rw [wipe_some (Y := (· = dx)) (cell h2) e']; rfl
  · obtain ⟨k', a, ov, h1, h2, h3⟩ := F.own y hy
    exact ⟨k', a, ov, h1, h2, cells h3⟩
/-- what a context still says -/
theorem Gd.wipe {spre : Shared} (G : Gd c spre) (k : Keeps spre s0) (hn : spre.heap.get? dx = none) : Gd c { s0 with heap := wipe (· = dx) s0.heap } :=
  G.keeps ⟨fun b o e => wipe_some (fun q => by rw [q, hn] at e; cases e) ((kp_ext k).1 b o e), (kp_ext k).2⟩

/-- setattr on a new object -/
theorem set_new {x : Addr} {v : Value} {name : Str} {Q : Unit → Shared → Prop} {C : Addr} (X : c.K.In s.heap) (e1 : s.heap.get? x = some (instObj C dx)) (e2 : s.heap.get? dx = some emptyDict)
    (hs : findIn c.K (.ref C) "__setattr__" = some (some (.builtin "object.__setattr__"))) (hp : plainOver c.K C = true) (ht : takerIn c.K C name = some none) (hh : hasDictIn c.K C = true)
    (h : ∀ h', Heap.SameBut dx s.heap h' → h'.get? dx = some (dictOf [⟨PyData.keyHash c.w.params name, .str name (s.toks + 1), v⟩] 1) → Q () { s with heap := h', toks := s.toks + 2 }) : wpAny c.M A (setAttr (.ref x) name v) Q NoE s := by
  obtain ⟨hp0, g, d, tk, os⟩ := s
  have I : InstAt hp0 x (instObj C dx) C (some emptyDict) := ⟨e1, rfl, rfl, e2⟩
  replace X : c.K.In hp0 := X
  replace e1 : hp0.get? x = some (instObj C dx) := e1
  replace e2 : hp0.get? dx = some emptyDict := e2
  refine set_plain X I hs ?_
  refine osa_open (s := ⟨hp0, g, d, tk + 1, os⟩) X I hp ht fun b => ?_
  obtain ⟨cd, hc, hd'⟩ := any_some hh
  refine wpAny_bind (wpAny_pure (wpAny_bind (wpAny_bind (wpAny_loadPart e1 (wpAny_bind ((looks_clsIn X hc).here ?_))))))
  rw [hd']
  refine wpAny_pure (a := some dx) (wpAny_bind (wpAny_pure (wpAny_bind ?_)))
  unfold nsSet
  refine wpAny_bind (wpAny_bind (wpAny_askSetting (wpAny_pure (wpAny_bind (wpAny_mkText (wpAny_bind (wpAny_loadPart e2 ?_)))))))
  dsimp only
  rw [aRefKeyMayBeTheName_at]
  rw [if_neg (by simp)]
  have e3 : (hp0.update dx (Obj.putName name (PyData.keyHash c.w.params name) (.str name (tk + 1)) v)).get? dx = some (dictOf [⟨PyData.keyHash c.w.params name, .str name (tk + 1), v⟩] 1) := by
    rw [Heap.get?_update_self _ e2 rfl]
    exact congrArg some (putName_dict name _ _ v [] 0)
  refine wpAny_updatePart (s := ⟨hp0, g, d, tk + 1 + 1, os⟩) e2 ?_
  refine wpAny_bind (wpAny_lookBehind e3 (pastItsLine_dict (by rw [sizeLine_eq]; simp)) ?_)
  exact wpAny_pure (h _ (Heap.SameBut.update ..) e3)
end
end Mine

namespace Mine

theorem AOk.under {n : Nat} {A : Around} (h : AOk (n + 2) A) : AOk (n + 1) (A.under (.builtin "type.__call__" ⟨[.ref 259], []⟩)) := by
  have w1 : (Code.builtin "type.__call__" ⟨[.ref 259], []⟩).weight ≤ 1 := by decide +kernel
  have w2 : (Code.builtin "type.__call__" ⟨[.ref 259], []⟩).cUnits ≤ 3 := by decide +kernel
  have h1 := h.room
  have h2 := h.un
  exact ⟨h.hh, by show A.depth + _ + (n + 1) < _; omega, by show A.units + _ + 3 * (n + 1) + 40 < _; omega⟩

section
variable {c : Cx} {A : Around} {env : Env} {W : List Str} {Γ : Gam} {e : Expr} {k : Nat}
theorem Ev.fl (h : Ev c A env Γ e (.flist k)) : Ev c A env Γ e (.list []) := fun X Y s O => wpAny_mono (h X Y s O) (fun v s' q => ⟨q.1, by
  have := q.2
  simp only [At] at this ⊢
  obtain ⟨a, rfl, h1, _, h3⟩ := this
  exact ⟨a, #[], rfl, h1, h3, .nil⟩⟩) fun _ _ x => x
end

section
variable {w : World} {mg mb : Str → Option Value} {A : Around} {n : Nat}
/-- a new table -/
theorem c_new (a : AOk (n + 3) A) {X : Addr → Prop} {s : Shared} (L : Live X s.heap) (G : Gd (cx w mg mb) s) :
    wpAny (cx w mg mb).M A (PySem.call (.ref 259) []) (fun v s' => Keeps s s' ∧ ∃ x dx hl hh t, v = .ref x ∧ s.heap.get? x = none ∧ s.heap.get? dx = none ∧ s.heap.get? hl = none ∧
      s'.heap.get? x = some (instObj 259 dx) ∧ s'.heap.get? dx = some (hdrDict hh t hl 1) ∧ s'.heap.PlainList hl #[]) NoE s := by
  have a1 : AOk (n + 2) (A.under (.builtin "type.__call__" ⟨[.ref 259], []⟩)) := a.under
  obtain ⟨hp, g, d, tk, os⟩ := s
  refine wpAny_call (make_core (C := 259) (makes_of G.inK rfl) (looks_findIn G.inK (r := some (.ref 153)) rfl) (fun self => bind_fn G.inK self rfl) (.inl rfl) ?_)
  have k1 : Keeps (⟨hp, g, d, tk, os⟩ : Shared) ⟨(hp.push emptyDict).push (instObj 259 hp.objs.size), g, d, tk, os⟩ := ⟨_, tk, rfl, fun b o e => Heap.get?_push_of_some _ (Heap.get?_push_of_some _ e), Nat.le_refl _⟩
  have e1 : ((hp.push emptyDict).push (instObj 259 hp.objs.size)).get? (hp.objs.size + 1) = some (instObj 259 hp.objs.size) := by
    have := Heap.get?_push_size (hp.push emptyDict) (o := instObj 259 hp.objs.size) rfl
    rwa [Heap.size_push] at this
  have e2 : ((hp.push emptyDict).push (instObj 259 hp.objs.size)).get? hp.objs.size = some emptyDict := Heap.get?_push_of_some _ (Heap.get?_push_size _ rfl)
  have z1 : hp.get? hp.objs.size = none := none_size _
  have z2 : hp.get? (hp.objs.size + 1) = none := none_ge (Nat.le_succ _)
  have zl : ∀ b, @LE.le Nat _ hp.objs.size b → hp.get? b = none := fun b h => none_ge h
  generalize hs1 : (⟨(hp.push emptyDict).push (instObj 259 hp.objs.size), g, d, tk, os⟩ : Shared) = s1 at *
  have e1' : s1.heap.get? (hp.objs.size + 1) = some (instObj 259 hp.objs.size) := hs1 ▸ e1
  have e2' : s1.heap.get? hp.objs.size = some emptyDict := hs1 ▸ e2
  generalize hs0 : (⟨hp, g, d, tk, os⟩ : Shared) = s at *
  replace z1 : s.heap.get? hp.objs.size = none := hs0 ▸ z1
  replace z2 : s.heap.get? (hp.objs.size + 1) = none := hs0 ▸ z2
  replace zl : ∀ b, @LE.le Nat _ hp.objs.size b → s.heap.get? b = none := hs0 ▸ zl
  clear e1 e2 hs1 hs0
  generalize hp.objs.size = dx at *
  have G1 := G.keeps (kp_ext k1)
  have L1 : Live (fun b => X b ∨ b = dx) s1.heap := fun b hb => hb.elim ((L.keeps (kp_ext k1).1) b) fun q => by rw [q, e2']; rfl
  refine fnEnter (c := cx w mg mb) (W := []) (X := fun b => X b ∨ b = dx) (s := s1) (a := 153) (binds := [("self", .ref (dx + 1)), ("headers", .none)]) (g := [("self", .d (.kref (dx + 1))), ("headers", .d .none)]) (G1.inK 153 _ rfl) rfl (codeRec_of G1.inK rfl) G1.top.nolimit a1.lt L1 ?_ ?_ (fun _ h => nomatch h) ?_
  · refine BindsTo.of_defaults (binds := [("self", .ref (dx + 1)), ("headers", .none)]) rfl (G1.inK 146 _ rfl) rfl rfl rfl _ _ _ _ ⟨rfl, kp_refl _, .cons (ent_d ?_) (.cons (ent_d at_none) .nil)⟩
    simp only [At]
  · change ∀ n ∈ (["self", "headers"] : List Str), _
    decide
  · intro L0 s₁ X1 Y1 eo F
    have dx1 : (s₁.heap.get? dx).isSome = true := F.live dx (F.out dx (.inr rfl))
    have nYx : ¬ Y1 (dx + 1) := fun y => by have := F.yfr _ y; rw [e1'] at this; cases this
    have hC : (cx w mg mb).C = 259 := rfl
    -- headers = headers if headers is not None else []
    refine wpAny_execs_cons (wpAny_Assign_Name (wpAny_IfExp (wpAny_mono ((EvB.cmp (Ev.name rfl) Ev.cNone tNotNoneN) X1 Y1 s₁ (F.ok G1 eo)) (fun b s₂ q => ?_) fun _ _ x => x)) rfl)
    obtain ⟨k2, rfl⟩ := q
    simp only [Bool.false_eq_true, if_false]
    have F2 := F.keeps k2
    refine wpAny_List (wpAny_mono (EvL.nil X1 Y1 s₂ _ (F2.ok G1 eo)) (fun us s₃ q => ⟨?_, ?_⟩) fun _ _ x => x)
    · rw [q.2.length]; decide
    have F3 := F2.keeps q.1
    have kk : Keeps s₃ { s₃ with heap := s₃.heap.push { cls := .type "list", data := .seq us.toArray } } := kp_push _ _
    have F4 := F3.keeps kk
    have ul : us = [] := List.length_eq_zero_iff.mp q.2.length
    subst ul
    have dx3 : (s₃.heap.get? dx).isSome = true := F3.live dx (F3.out dx (.inr rfl))
    obtain ⟨o3, ho3⟩ := Option.isSome_iff_exists.mp dx3
    have lt3 : @LE.le Nat _ dx s₃.heap.objs.size := Nat.le_of_lt (Heap.lt_size ho3)
    have nl3 : ¬ X1 s₃.heap.objs.size := fun h => by
      have := F3.live _ h
      rw [none_size] at this; cases this
    have pl3 : (s₃.heap.push { cls := .type "list", data := .seq ([] : List Value).toArray }).PlainList s₃.heap.objs.size #[] := ⟨_, Heap.get?_push_size _ rfl⟩
    refine wpAny_mono (F4.store eo (x := "headers") (e := .d (.flist dx)) (v := .ref s₃.heap.objs.size) ?_ (.inl rfl)) (fun _ s₅ q5 => ?_) fun _ _ x => x
    · show At X1 259 _ (.flist dx) _
      simp only [At]
      exact ⟨_, rfl, nl3, lt3, pl3⟩
    obtain ⟨F5, C5⟩ := q5
    have pl5 := (pl3 : Heap.PlainList (Shared.heap { s₃ with heap := s₃.heap.push { cls := .type "list", data := .seq ([] : List Value).toArray } }) _ _).at fun o e => C5.but _ o (fun y => nl3 (F3.yx _ y)) e
    have e15 : s₅.heap.get? (dx + 1) = some (instObj 259 dx) := (kp_ext F5.kp).1 _ _ e1'
    have e25 : s₅.heap.get? dx = some emptyDict := (kp_ext F5.kp).1 _ _ e2'
    clear C5 F4 F3 F2 F
    have hlpl : s₃.heap.objs.size = s₃.heap.objs.size := rfl
    generalize s₃.heap.objs.size = hl0 at *
    obtain ⟨Γ, hΓ⟩ : ∃ Γ : List (Str × Ent), Γ = ([("headers", .d (.flist dx)), ("self", .d (.kref (dx + 1)))] : List (Str × Ent)) := ⟨_, rfl⟩
    replace F5 := F5.sub (Γ2 := Γ) (by rw [hΓ]; exact Sub.cons rfl (Sub.cons rfl Sub.nil))
    have gH : Γ.lookup ("headers" : Str) = some (.d (.flist dx)) := by rw [hΓ]; rfl
    have gS : Γ.lookup ("self" : Str) = some (.d (.kref (dx + 1))) := by rw [hΓ]; rfl
    refine (?_ : ExP (cx w mg mb) _ (envK "Headers.__init__" _ L0 153 _) [] Γ _ s1 _ _) X1 Y1 s₅ F5
    refine ExP.cons G1 eo (StN.ife (Γ' := Γ) (b := false) (EvB.cmp (Ev.call (.inr ⟨rfl, rfl, by decide⟩) (.ty _) (EvL.cons (Ev.fl (Ev.name gH)) EvL.nil) tTypeL) (Ev.ty (.inr ⟨rfl, rfl, by decide⟩)) tIsNotTy) (fun h => nomatch h) (fun _ => ExN.nil)) ?_
    intro X2 Y2 s₆ F6
    have e16 : s₆.heap.get? (dx + 1) = some (instObj 259 dx) := (kp_ext F6.kp).1 _ _ e1'
    have e26 : s₆.heap.get? dx = some emptyDict := (kp_ext F6.kp).1 _ _ e2'
    have O6 := F6.ok G1 eo
    refine wpAny_execs_cons (plainObj_wpAny_Assign_Attribute (wpAny_mono (nameE gH (by decide) (by decide) X2 Y2 s₆ O6) (fun v s₇ q => ?_) fun _ _ x => x) rfl)
    obtain ⟨rfl, hv⟩ := q
    refine wpAny_mono (nameE gS (by decide) (by decide) X2 Y2 s₇ O6) (fun v' s₈ q => ?_) fun _ _ x => x
    obtain ⟨rfl, hv'⟩ := q
    have hv1 : At X2 259 s₈ (.flist dx) v := hv
    have hv2 : At X2 259 s₈ (.kref (dx + 1)) v' := hv'
    simp only [At] at hv1 hv2
    subst hv2
    obtain ⟨hl, rfl, nXl, gel, pl⟩ := hv1
    refine set_new (c := cx w mg mb) (C := 259) O6.gd.inK e16 e26 rfl rfl rfl rfl fun h' hsb hg => ?_
    have nX2d : X2 dx := F6.out dx (.inr rfl)
    have nYd : ¬ Y2 dx := fun y => by have := F6.yfr _ y; rw [e2'] at this; cases this
    have F7 := F6.poke (s' := { s₈ with heap := h', toks := s₈.toks + 2 }) nX2d nYd ⟨_, _, _, e26, rfl⟩ ⟨_, _, rfl⟩ (fun b o n e => same_get hsb n e) (by show (h'.get? dx).isSome = true; rw [hg]; rfl) (by show s₈.toks ≤ s₈.toks + 2; omega)
    have nYl : ¬ Y2 hl := fun y => nXl (F6.yx _ y)
    have hdl : hl ≠ dx := fun q => nXl (q ▸ nX2d)
    have nYx2 : ¬ Y2 (dx + 1) := fun y => by have := F6.yfr _ y; rw [e1'] at this; cases this
    have p7 : Heap.PlainList h' hl #[] := pl.at fun o e => same_get hsb hdl e
    have e17 : h'.get? (dx + 1) = some (instObj 259 dx) := same_get hsb (Nat.succ_ne_self dx) e16
    have G2 : Gd (cx w mg mb) { s1 with heap := wipe (· = dx) s1.heap } := Gd.wipe (spre := s) G k1 z1
    refine wpAny_mono ((?_ : ExN (cx w mg mb) _ _ [] Γ _ Γ) _ _ X2 Y2 _ G2 eo F7) (fun fl s₉ q => ?_) fun _ _ x => x
    · refine ExN.cons (StN.ife (Γ' := Γ) (b := true) (EvB.valB Ev.cBool) (fun _ => ?_) (fun h => nomatch h)) ExN.nil
      exact ExN.cons (StN.for_ (ds := []) (fun _ => Γ) (EvI.of (d := .wlist []) (Ev.weak (Ev.fl (Ev.name gH))) (tiLP a1.hh)) Sub.refl (fun i d hi => by simp at hi)) ExN.nil
    obtain ⟨rfl, X9, Y9, F9, C9⟩ := q
    have e29 := C9.but dx _ nYd hg
    have e19 := C9.but (dx + 1) _ nYx2 e17
    have p9 : s₉.heap.PlainList hl #[] := p7.at fun o e => C9.but hl o nYl e
    refine ⟨rfl, ?_, dx + 1, dx, hl, _, _, rfl, z2, z1, zl hl gel, e19, e29, p9⟩
    obtain ⟨h0, t0, e0, x0⟩ := k1
    obtain ⟨h9, t9, e9, x9⟩ := F9.kp
    refine ⟨h9, t9, by rw [e9, e0], fun b o e => ?_, Nat.le_trans x0.2 x9.2⟩
    exact x9.1 b o (wipe_some (fun q => by rw [q, z1] at e; cases e) (x0.1 b o e))
end
end Mine

namespace Mine

section
variable {w : World} {mg mb : Str → Option Value} {A : Around} {env : Env} {W : List Str} {Γ : Gam} {n : Nat} {x : Str} {np pos cp : Pos}

/-- a new table, by the class's name -/
theorem newCall (a : AOk (n + 3) A) {X Y : Addr → Prop} {s : Shared} (O : Ok (cx w mg mb) env X Y Γ s) (g : Gl (cx w mg mb) x (.ref 259)) (hk : env.kindOf x = some .globalImplicit) (hd : (x == ("__debug__" : Str)) = false) :
    wpAny (cx w mg mb).M A (eval (.Call (.Name x np) [] [] cp) env) (fun v s' => Keeps s s' ∧ ∃ x dx hl hh t, v = .ref x ∧ s.heap.get? x = none ∧ s.heap.get? dx = none ∧ s.heap.get? hl = none ∧
      s'.heap.get? x = some (instObj 259 dx) ∧ s'.heap.get? dx = some (hdrDict hh t hl 1) ∧ s'.heap.PlainList hl #[]) NoE s := by
  refine wpAny_Call_NameR (glob g hk hd O (callWith_K0 O.gd.inK rfl ?_))
  exact c_new a O.live O.gd

theorem Ev.new (a : AOk (n + 3) A) (g : Gl (cx w mg mb) x (.ref 259)) (hk : env.kindOf x = some .globalImplicit := by rfl) (hd : (x == ("__debug__" : Str)) = false := by decide) : Ev (cx w mg mb) A env Γ (.Call (.Name x np) [] [] cp) (.table []) := by
  intro X Y s O
  refine wpAny_mono (newCall a O g hk hd) (fun v s' q => ?_) fun _ _ x => x
  obtain ⟨k, x, dx, hl, hh, t, rfl, z1, z2, z3, e1, e2, p⟩ := q
  refine ⟨k, ?_⟩
  simp only [At]
  exact ⟨x, dx, hl, hh, t, 1, #[], rfl, ⟨dead_of_none O.live z1, dead_of_none O.live z2, dead_of_none O.live z3⟩, e1, e2, p.isList, .nil⟩

/-- one more address is the frame's own -/
theorem FS.more {c : Cx} {s0 s : Shared} {Xo X Y : Addr → Prop} {D : Addr} (F : FS c s0 env W Xo X Y Γ s) (sp : Shared) (k0 : Keeps s0 sp) (hF : FS c s0 env W Xo X Y Γ sp) (k : Keeps sp s) (hn : sp.heap.get? D = none) (hal : (s.heap.get? D).isSome = true) :
    FS c s0 env W Xo (fun a => X a ∨ a = D) (fun a => Y a ∨ a = D) Γ s ∧ Chg X Y (fun a => X a ∨ a = D) (fun a => Y a ∨ a = D) sp s := by
  have kx := kp_ext k
  have hE : ∀ {en v}, EntAt X Y c.C sp en v → EntAt (fun a => X a ∨ a = D) (fun a => Y a ∨ a = D) c.C s en v :=
    fun H => (H.imp (s' := sp) (X' := fun a => X a ∨ a = D) (Y' := fun a => Y a ∨ a = D) (fun a o e hx hh => hh.elim hx (fun q => by rw [q, hn] at e; cases e)) (fun a y => .inl y) (fun _ _ _ e => e) (fun _ _ _ _ _ e _ => e) (Nat.le_refl _)).keeps kx
  refine ⟨⟨F.kp, fun a hx => ?_, fun a ha => .inl (F.out a ha), fun a ha => ha.imp (F.yx a) id, fun a ha => ?_, .inl F.yL, ?_, ?_, ?_⟩, ⟨fun a o _ e => kx.1 a o e, fun a x => .inl x, fun a y => y.imp id fun e => by rw [e]; exact hn, fun a y => y.imp id fun e => by rw [e]; exact hn, kx.2⟩⟩
  · rcases hx with hx | rfl
    · exact F.live a hx
    · exact hal
  · rcases ha with ha | rfl
    · exact F.yfr a ha
    · cases e : s0.heap.get? a with
      | none => rfl
      | some o => rw [(kp_ext k0).1 _ _ e] at hn; cases hn
  · obtain ⟨m, hn', hm⟩ := hF.loc
    exact ⟨m, hn'.keeps kx.1, fun y e l k => let ⟨v, a, b⟩ := hm y e l k; ⟨v, a, hE b⟩⟩
  · exact fun y e l k => let ⟨k, a, v, h1, h2, h3, h4⟩ := hF.cel y e l k; ⟨k, a, v, h1, h2.keeps kx.1, hE h3, h4.imp .inl id⟩
  · exact fun y hy => let ⟨k, a, ov, h1, h2, h3⟩ := F.own y hy; ⟨k, a, ov, h1, .inl h2, h3⟩

/-- name = Class() -/
theorem StN.assignNew {y : Str} (a : AOk (n + 3) A) (g : Gl (cx w mg mb) x (.ref 259)) (hy : env.kindOf y = some .local ∨ y ∈ W) (hk : env.kindOf x = some .globalImplicit := by rfl) (hd : (x == ("__debug__" : Str)) = false := by decide) {yp : Pos} (hs : swapsWith (.Call (.Name x np) [] [] cp) (some (.Name y yp)) pos.line env = pure false := by rfl) :
    StN (cx w mg mb) A env W Γ (.Assign [.Name y yp] (.Call (.Name x np) [] [] cp) pos) ((y, .t []) :: Γ) := by
  intro s0 Xo X Y s G eo F
  have O := F.ok G eo
  refine wpAny_Assign_Name (wpAny_mono (newCall a O g hk hd) (fun v s₁ q => ?_) fun _ _ x => x) hs
  obtain ⟨k, x, dx, hl, hh, t, rfl, z1, z2, z3, e1, e2, p⟩ := q
  obtain ⟨F1, C1⟩ := FS.more (D := hl) (F.keeps k) s F.kp F k z3 (by obtain ⟨m, e⟩ := p; rw [e]; rfl)
  have nx : x ≠ hl := fun q => by
    obtain ⟨_, e⟩ := p
    rw [← q, e1] at e; cases e
  have nd : dx ≠ hl := fun q => by
    obtain ⟨_, e⟩ := p
    rw [← q, e2] at e
    have := congrArg Obj.data (Option.some.inj e)
    cases this
  refine wpAny_mono (F1.store eo (e := .t []) ?_ hy) (fun _ s₂ q2 => ⟨rfl, _, _, q2.1, C1.trans q2.2 F.yx⟩) fun _ _ x => x
  exact ⟨x, dx, hl, hh, t, 1, #[], rfl, ⟨fun h => h.elim (dead_of_none F.live z1) nx, fun h => h.elim (dead_of_none F.live z2) nd, .inr rfl⟩, e1, e2, p, .nil⟩
end

section
variable {c : Cx} {A : Around} {env : Env} {W : List Str} {Γ : Gam} {x y : Str} {ds : List D} {ss : List Stmt} {s0 : Shared} {Xo : Addr → Prop} {P : Flow → Shared → Prop}

/-- where a name's value lies -/
def Spot (c : Cx) (s0 : Shared) (env : Env) (X Y : Addr → Prop) (Γ : Gam) (x : Str) (v : Value) (s : Shared) : Prop :=
  ∃ m, s.heap.Ns env.locals m ∧ (∀ y e, Γ.lookup y = some e → env.kindOf y = some .local → ∃ v, m y = some v ∧ EntAt X Y c.C s e v) ∧
    ((env.kindOf x = some .local ∧ m x = some v) ∨ (env.kindOf x ≠ some .local ∧ (env.kindOf x = some .cell ∨ env.kindOf x = some .free) ∧ ∃ a, env.cells.lookup x = some a ∧ s.heap.IsCell a (some v) ∧ (Y a ∨ (s0.heap.get? a).isSome = true)))
theorem FS.get {X Y : Addr → Prop} {s : Shared} {e : Ent} (F : FS c s0 env W Xo X Y Γ s) (hl : Γ.lookup x = some e) : ∃ v, Spot c s0 env X Y Γ x v s ∧ EntAt X Y c.C s e v := by
  obtain ⟨m, hn, hm⟩ := F.loc
  by_cases k : env.kindOf x = some .local
  · obtain ⟨v, hv, hE⟩ := hm x e hl k
    exact ⟨v, ⟨m, hn, hm, .inl ⟨k, hv⟩⟩, hE⟩
  · obtain ⟨k', a, v, h1, h2, h3, h4⟩ := F.cel x e hl k
    exact ⟨v, ⟨m, hn, hm, .inr ⟨k, k', a, h1, h2, h4⟩⟩, h3⟩

/-- a list is filled no more -/
theorem FS.thaw {X Y : Addr → Prop} {s : Shared} {D : Addr} {v : Value} (L : Live Xo s0.heap) (F : FS c s0 env W Xo X Y Γ s) (hY : Y D) (hl : ∃ o xs n, s.heap.get? D = some o ∧ o.data = .seq xs n) (hfr : ∀ y e, y ≠ x → Γ.lookup y = some e → e.frz = true)
    {e' : Ent} (hv : Spot c s0 env X Y Γ x v s) (he : EntAt (fun a => X a ∧ a ≠ D) (fun a => Y a ∧ a ≠ D) c.C s e' v) :
    FS c s0 env W Xo (fun a => X a ∧ a ≠ D) (fun a => Y a ∧ a ≠ D) ((x, e') :: Γ) s := by
  obtain ⟨o, xs, nn, ho, hd⟩ := hl
  have cell : ∀ {a ov}, s.heap.IsCell a ov → a ≠ D := fun hc q => (cell_not_seq hc ho hd) q.symm
  have hD0 : s0.heap.get? D = none := F.yfr _ hY
  have frz : ∀ {en v}, en.frz = true → EntAt X Y c.C s en v → EntAt (fun a => X a ∧ a ≠ D) (fun a => Y a ∧ a ≠ D) c.C s en v := fun hf H => ent_frz hf (fun a o _ hx h => hx h.1) H
  have lk : ∀ {y : Str} {e2 : Ent}, List.lookup y ((x, e') :: Γ) = some e2 → (y = x ∧ e2 = e') ∨ (y ≠ x ∧ Γ.lookup y = some e2) := by
    intro y e2 h
    rw [List.lookup_cons] at h
    cases hb : y == x with
    | true => rw [hb] at h; cases h; exact .inl ⟨beq_iff_eq.mp hb, rfl⟩
    | false => rw [hb] at h; exact .inr ⟨fun q => by rw [q] at hb; simp at hb, h⟩
  obtain ⟨m, hn, hm, hx⟩ := hv
  refine ⟨F.kp, fun a ha => F.live a ha.1, fun a ha => ⟨F.out a ha, fun q => ?_⟩, fun a ha => ⟨F.yx a ha.1, ha.2⟩, fun a ha => F.yfr a ha.1, ⟨F.yL, fun q => (ns_not_seq hn ho hd) q.symm⟩, ⟨m, hn, fun y e l k => ?_⟩, fun y e l k => ?_, fun y hy => ?_⟩
  · have := L a ha
    rw [q, hD0] at this; cases this
  · rcases lk l with ⟨rfl, rfl⟩ | ⟨hne, l⟩
    · rcases hx with ⟨_, h⟩ | ⟨h, _⟩
      · exact ⟨v, h, he⟩
      · exact absurd k h
    · obtain ⟨v, hv, hE⟩ := hm y e l k
      exact ⟨v, hv, frz (hfr y e hne l) hE⟩
  · rcases lk l with ⟨rfl, rfl⟩ | ⟨hne, l⟩
    · rcases hx with ⟨h, _⟩ | ⟨_, k', a, h1, h2, h4⟩
      · exact absurd h k
      · exact ⟨k', a, v, h1, h2, he, h4.imp (fun q => ⟨q, cell h2⟩) id⟩
    · obtain ⟨k', a, v, h1, h2, h3, h4⟩ := F.cel y e l k
      exact ⟨k', a, v, h1, h2, frz (hfr y e hne l) h3, h4.imp (fun q => ⟨q, cell h2⟩) id⟩
  · obtain ⟨k', a, ov, h1, h2, h3⟩ := F.own y hy
    exact ⟨k', a, ov, h1, ⟨h2, cell h3⟩, h3⟩

theorem ExP.thaw (L : Live Xo s0.heap) (hl : Γ.lookup x = some (.m ds)) (hfr : onlyM x Γ = true) (h : ExP c A env W ((x, .d (.list ds)) :: Γ) ss s0 Xo P) : ExP c A env W Γ ss s0 Xo P := by
  intro X Y s F
  obtain ⟨v, sp, hE⟩ := F.get hl
  obtain ⟨D, vs, rfl, hY, ⟨n, ho⟩, hr⟩ := hE
  refine h _ _ s (F.thaw L hY ⟨_, _, _, ho, rfl⟩ (onlyM_frz hfr) sp ?_)
  show At _ _ _ (.list ds) _
  simp only [At]
  exact ⟨D, vs, rfl, fun h => h.2 rfl, ⟨n, ho⟩, hr.ext fun a o _ hx h => hx h.1⟩
theorem ExP.thawT (L : Live Xo s0.heap) (hl : Γ.lookup x = some (.t ds)) (hfr : onlyM x Γ = true) (h : ExP c A env W ((x, .d (.table ds)) :: Γ) ss s0 Xo P) : ExP c A env W Γ ss s0 Xo P := by
  intro X Y s F
  obtain ⟨v, sp, hE⟩ := F.get hl
  obtain ⟨x', dx, hl', hh, t, n, vs, rfl, ⟨h1, h2, h3⟩, e1, e2, ⟨n', ho⟩, hr⟩ := hE
  refine h _ _ s (F.thaw L h3 ⟨_, _, _, ho, rfl⟩ (onlyM_frz hfr) sp ?_)
  show At _ _ _ (.table ds) _
  simp only [At]
  exact ⟨x', dx, hl', hh, t, n, vs, rfl, ⟨fun h => h1 h.1, fun h => h2 h.1, fun h => h.2 rfl⟩, e1, e2, ⟨_, ho, rfl, n', rfl⟩, hr.ext fun a o _ hx h => hx h.1⟩
end
end Mine

namespace Mine

theorem spot_eval {c : Cx} {A : Around} {env : Env} {Γ : Gam} {s0 s : Shared} {X Y : Addr → Prop} {x : Str} {np : Pos} {v : Value} {Q : Value → Shared → Prop} (eo : EnvOk env) (sp : Spot c s0 env X Y Γ x v s) (hq : Q v s)
    (hd : (x == ("__debug__" : Str)) = false := by decide) (hn : (x == ("__classdict__" : Str)) = false := by decide) : wpAny c.M A (eval (.Name x np) env) Q NoE s := by
  refine wpAny_Name ?_ hd
  obtain ⟨m, n, _, ⟨k, e⟩ | ⟨_, k, a, l, h, _⟩⟩ := sp
  · exact wpAny_loadName_local eo.fn k n e hq
  · rcases k with k | k
    · exact wpAny_loadName_cell eo.fn k l h hq
    · exact wpAny_loadName_free eo.fn k l h hq hn

/-- a list of the frame's own is changed, and one object more is marked -/
theorem FS.setListC {c : Cx} {env : Env} {W : List Str} {Γ : Gam} {x : Str} {s0 s s' : Shared} {Xo X Y : Addr → Prop} {D Cf : Addr} {m : Str → Option Value} {e' : Ent} (F : FS c s0 env W Xo X Y Γ s) (hse : ∃ h tk, s' = { s with heap := h, toks := tk }) (hn : s.heap.Ns env.locals m)
    (hall : ∀ y e, Γ.lookup y = some e → env.kindOf y = some .local → ∃ v, m y = some v ∧ EntAt X Y c.C s e v)
    (hx : (env.kindOf x = some .local ∧ ∃ v, m x = some v ∧ EntAt (fun a => X a ∨ a ∈ [Cf]) Y c.C s' e' v) ∨ (env.kindOf x ≠ some .local ∧ (env.kindOf x = some .cell ∨ env.kindOf x = some .free) ∧ ∃ a v, env.cells.lookup x = some a ∧ s.heap.IsCell a (some v) ∧ EntAt (fun a => X a ∨ a ∈ [Cf]) Y c.C s' e' v ∧ (Y a ∨ (s0.heap.get? a).isSome = true)))
    (hfr : ∀ y e, y ≠ x → Γ.lookup y = some e → e.frz = true) (hD : Y D) (hl : ∃ o xs n, s.heap.get? D = some o ∧ o.data = .seq xs n) (hs : ∀ b o, b ≠ D → s.heap.get? b = some o → s'.heap.get? b = some o) (hal : (s'.heap.get? D).isSome = true) (ht : s.toks ≤ s'.toks)
    (hC : s.heap.get? Cf = none) (hCl : (s'.heap.get? Cf).isSome = true) :
    FS c s0 env W Xo (fun a => X a ∨ a ∈ [Cf]) Y ((x, e') :: Γ) s' ∧ Chg X Y (fun a => X a ∨ a ∈ [Cf]) Y s s' := by
  obtain ⟨o, xs, n, hg, hd⟩ := hl
  have nL : env.locals ≠ D := fun q => (ns_not_seq hn hg hd) q.symm
  have nC : ∀ {a ov}, s.heap.IsCell a ov → a ≠ D := fun hc q => (cell_not_seq hc hg hd) q.symm
  have hX := F.yx _ hD
  have upX : ∀ a o, s.heap.get? a = some o → ¬ X a → ¬ (X a ∨ a ∈ [Cf]) := fun a o e hx hh => hh.elim hx fun q => by rw [List.mem_singleton.mp q, hC] at e; cases e
  have frz : ∀ {en v}, en.frz = true → EntAt X Y c.C s en v → EntAt (fun a => X a ∨ a ∈ [Cf]) Y c.C s' en v := by
    intro en v hf H
    cases en with
    | d d => exact At.imp upX (fun a o ha e => hs a o (fun q => ha (q ▸ hX)) e) ht d v H
    | s ns =>
      obtain ⟨a, vs, rfl, hx, ht, hr⟩ := H
      obtain ⟨o', ho', _⟩ := id ht
      exact ⟨a, vs, rfl, upX _ _ ho' hx, ht.at fun o e => hs a o (fun q => hx (q ▸ hX)) e, hr⟩
    | _ => cases hf
  have lk : ∀ {y : Str} {e2 : Ent}, List.lookup y ((x, e') :: Γ) = some e2 → (y = x ∧ e2 = e') ∨ (y ≠ x ∧ Γ.lookup y = some e2) := by
    intro y e2 h
    rw [List.lookup_cons] at h
    cases hb : y == x with
    | true => rw [hb] at h; cases h; exact .inl ⟨beq_iff_eq.mp hb, rfl⟩
    | false => rw [hb] at h; exact .inr ⟨fun q => by rw [q] at hb; simp at hb, h⟩
  have cell : ∀ {a ov}, s.heap.IsCell a ov → s'.heap.IsCell a ov := fun hc => let ⟨o, e, r⟩ := id hc; ⟨o, hs _ _ (nC hc) e, r⟩
  have hkp : Keeps s0 s' := by
    obtain ⟨hz, tz, ez, kz⟩ := F.kp
    obtain ⟨h', tk, e'⟩ := hse
    refine ⟨h', tk, by rw [e', ez], fun b o q => hs b o (fun q' => ?_) (kz.1 b o q), Nat.le_trans kz.2 ht⟩
    rw [q', F.yfr _ hD] at q; cases q
  refine ⟨⟨hkp, fun a ha => ?_, fun a ha => .inl (F.out a ha), fun a ha => .inl (F.yx a ha), F.yfr, F.yL, ⟨m, hn.at' fun o e => hs _ o nL e, fun y e2 l k => ?_⟩, fun y e2 l k => ?_, fun y hy => ?_⟩,
    fun a o ha q => hs a o (fun q' => ha (q' ▸ hD)) q, fun _ x => .inl x, fun _ y => .inl y, fun _ x => x.imp id fun q => by rw [List.mem_singleton.mp q]; exact hC, ht⟩
  · rcases ha with ha | ha
    · by_cases q : a = D
      · rw [q]; exact hal
      · obtain ⟨o, e⟩ := Option.isSome_iff_exists.mp (F.live a ha)
        rw [hs a o q e]; rfl
    · rw [List.mem_singleton.mp ha]; exact hCl
  · rcases lk l with ⟨rfl, rfl⟩ | ⟨hne, l⟩
    · rcases hx with ⟨_, h⟩ | ⟨h, _⟩
      · exact h
      · exact absurd k h
    · obtain ⟨v, hv, hE⟩ := hall y e2 l k
      exact ⟨v, hv, frz (hfr y e2 hne l) hE⟩
  · rcases lk l with ⟨rfl, rfl⟩ | ⟨hne, l⟩
    · rcases hx with ⟨h, _⟩ | ⟨_, k', a, v, h1, h2, h3, h4⟩
      · exact absurd h k
      · exact ⟨k', a, v, h1, cell h2, h3, h4⟩
    · obtain ⟨k', a, v, h1, h2, h3, h4⟩ := F.cel y e2 l k
      exact ⟨k', a, v, h1, cell h2, frz (hfr y e2 hne l) h3, h4⟩
  · obtain ⟨k', a, ov, h1, h2, h3⟩ := F.own y hy
    exact ⟨k', a, ov, h1, h2, cell h3⟩
theorem cell_one {h : Heap} {a : Addr} {u v : Option Value} (p : h.IsCell a u) (q : h.IsCell a v) : u = v := by
  obtain ⟨o, e, d⟩ := p
  obtain ⟨o', e', d'⟩ := q
  rw [e] at e'; cases e'; rw [d] at d'; cases d'; rfl

section
variable {w : World} {mg mb : Str → Option Value} {A : Around} {env : Env} {W Wc : List Str} {Γ Γc : Gam} {n k1 k2 : Nat} {x y : Str} {np pos cp ap yp : Pos} {ds src : List D} {e1 e2 tgt iter elt : Expr} {scope : Scope} {cl : List (Str × Addr)}

/-- table.add_header(.., ..) -/
theorem elAdd (a : AOk (n + 2) A) (hx : Γ.lookup x = some (.t ds)) (hfr : onlyM x Γ = true) (h1 : Ev (cx w mg mb) A env Γ e1 (.str ⟨#[k1]⟩)) (h2 : Ev (cx w mg mb) A env Γ e2 (.str ⟨#[k2]⟩)) (hk1 : k1 ∈ towns) (hk2 : k2 ∈ pipes) (hz : ds.length ≤ 1000)
    (hbase : attributeBase (.Name x np) "add_header" env (eval (.Name x np) env) = eval (.Name x np) env := by rfl) (hline : (ap.endLine == cp.line) = true := by rfl) (he : starEach [e1, e2] env = (false, eval e1 env) :: starEach [e2] env := by rfl) (he2 : starEach [e2] env = [(false, eval e2 env)] := by rfl)
    (hd : (x == ("__debug__" : Str)) = false := by decide) (hn : (x == ("__classdict__" : Str)) = false := by decide) :
    ElN (cx w mg mb) A env W Γ (.Call (.Attribute (.Name x np) "add_header" ap) [e1, e2] [] cp) .none ((x, .t (ds ++ [hdD (k1, k2)])) :: Γ) := by
  intro s0 Xo X Y s G eo F
  have O := F.ok G eo
  obtain ⟨v, sp, hE⟩ := F.get hx
  obtain ⟨x', dx, hl, hh, t, m, vs, rfl, ⟨g1, g2, g3⟩, q1, q2, p, hr⟩ := hE
  refine methCall hbase (by rw [he, he2]; rfl) hline (spot_eval eo sp ?_ hd hn)
  refine method_fn O.gd.inK (inst_of q1 q2) (tabCls w mg mb).ga (tabCls w mg mb).gk (m_add w mg mb).at_ (m_add w mg mb).ty (shadow (m_add w mg mb).sh) ?_
  refine callWith_K O.gd.inK (m_add w mg mb).keep ?_ he (by rw [he2]; rfl)
  refine wpAny_mono ((EvL.cons h1 (EvL.cons h2 EvL.nil he2) he) X Y s _ O) (fun us s₁ q => ?_) fun _ _ x => x
  have O₁ := O.keeps (kp_ext q.1)
  obtain ⟨u1, u2, rfl, b1, b2⟩ := q.2.inv2
  refine ⟨O₁.gd.inK, ?_⟩
  have kx := kp_ext q.1
  obtain ⟨en, po⟩ := p
  refine wpAny_mono (c_add a hk1 hk2 O₁.live O₁.gd ⟨g1, g2⟩ (kx.1 _ _ q1) (kx.1 _ _ q2) ⟨_, kx.1 _ _ po⟩ (hr.keeps kx) hz b1 b2) (fun v s₂ q' => ?_) fun _ _ x => x
  obtain ⟨rfl, hse, tk, but, yv, p2, hy⟩ := q'
  obtain ⟨m', hn', hall, hsp⟩ := sp
  have xl : x' ≠ hl := fun q => by rw [q, po] at q1; cases q1
  have dl : dx ≠ hl := fun q => by
    rw [q, po] at q2
    have := congrArg Obj.data (Option.some.inj q2)
    cases this
  have E2 : EntAt X Y 259 s₂ (.t (ds ++ [hdD (k1, k2)])) (.ref x') := by
    refine ⟨x', dx, hl, hh, t, m, vs.push yv, rfl, ⟨g1, g2, g3⟩, but _ _ xl (kx.1 _ _ q1), but _ _ dl (kx.1 _ _ q2), p2, ?_⟩
    rw [Array.toList_push]
    exact ((hr.keeps kx).but (fun a o ha e => but a o (fun q => ha (q ▸ F.yx _ g3)) e) tk).append (.cons hy .nil)
  have z := FS.setList (x := x) (e' := .t (ds ++ [hdD (k1, k2)])) (s' := s₂) (F.keeps q.1) hse (hn'.keeps kx.1) (fun y e l k' => let ⟨v, a, b⟩ := hall y e l k'; ⟨v, a, b.keeps kx⟩)
    (hsp.imp (fun h => ⟨h.1, _, h.2, E2⟩) (fun h => ⟨h.1, h.2.1, let ⟨a, b1, b2, b3⟩ := h.2.2; ⟨a, _, b1, b2.keeps kx.1, E2, b3⟩⟩))
    (onlyM_frz hfr) g3 ⟨_, _, _, kx.1 _ _ po, rfl⟩ (fun b o nb e => but b o nb e) (by obtain ⟨_, e⟩ := p2; rw [e]; rfl) tk
  exact ⟨z.1, (Chg.keeps q.1).trans z.2 F.yx, by simp only [At]⟩

/-- name = [table.add_header(..) for .. in ..], where the names are exchanged -/
theorem StN.quiet {hs : List (Nat × Nat)} (hx : Γ.lookup x = some (.t [])) (hfr : onlyM x Γ = true) (B : Blk env scope cl [(x, .t [])] Wc) (hI : EvI (cx w mg mb) A env Γ iter tgt src) (hl : src.length = hs.length)
    (hitem : ∀ C i d, src[i]? = some d → ∃ Γ1, Asg (cx w mg mb) A (cenvK scope cl C env) Wc tgt d [(x, .t ((hs.take i).map hdD))] Γ1 ∧ ∃ Γ2, ElN (cx w mg mb) A (cenvK scope cl C env) Wc Γ1 elt .none Γ2 ∧ Sub [(x, .t ((hs.take (i + 1)).map hdD))] Γ2)
    (hk : env.kindOf y = some .local) (hxy : env.kindOf x ≠ some .local) (hsc : (scope.names.all fun p => p.2 != .cell) = true) (hz : src.length ≤ 1000)
    (hsw : swapsWith (.ListComp elt [⟨tgt, iter, [], 0⟩] scope pos) (some (.Name y yp)) np.line env = pure true) (hs' : ∀ x, foldedSetIterable iter env x = pure x := by intro _; rfl) :
    StN (cx w mg mb) A env W Γ (.Assign [.Name y yp] (.ListComp elt [⟨tgt, iter, [], 0⟩] scope pos) np) ((y, .d (.list (List.replicate src.length .none))) :: (x, .t (hs.map hdD)) :: Γ) := by
  intro s0 Xo X Y s G eo F
  have O := F.ok G eo
  rw [exec_Assign_Name_used _ _ _ _ hsw]
  refine wpAny_bind (wpAny_standAt (wpAny_bind ?_))
  show wpAny _ A (do let _ ← comprehension (.ListComp elt [⟨tgt, iter, [], 0⟩] scope pos) scope env _ (newList []) false (eval iter env) (some (PySem.assign (.Name y yp) env))) _ _ s
  refine wpAny_bind (wpAny_mono (wpAny_comprehension_free (use := some (PySem.assign (Expr.Name y yp) env)) (Q := fun _ s' => ∃ X' Y', FS (cx w mg mb) s0 env W Xo X' Y' ((y, .d (.list (List.replicate src.length .none))) :: (x, .t (hs.map hdD)) :: Γ) s' ∧ Chg X Y X' Y' s s') rfl hs' B.clos B.fn (fun x hx hl => B.names x hx hl)
    (wpAny_mono (hI X Y s O) (fun xv s₁ h₁ => wpAny_mono h₁ (fun it s₂ h₂ => ?_) fun _ _ x => x) fun _ _ x => x)) (fun _ s' hq => wpAny_pure (wpAny_pure ⟨rfl, hq⟩)) fun _ _ x => x)
  obtain ⟨k, fp, wr, bs, vs, St, It, hst, hw, hfp, hsrc, hfa⟩ := h₂
  have kx := kp_ext k
  have al := It.alive _ _ hst
  have old : ∀ a, s₂.heap.get? a = none → s.heap.get? a = none := fun a y => by
    cases e : s.heap.get? a with
    | none => rfl
    | some o => rw [kx.1 a o e] at y; cases y
  have wX : ∀ b ∈ wr, ¬ X b := fun b hb hx => by
    obtain ⟨o, e⟩ := Option.isSome_iff_exists.mp (O.live b hx)
    rw [hw b hb] at e; cases e
  have hw0 : ∀ b ∈ wr, s0.heap.get? b = none := fun b hb => by
    cases e : s0.heap.get? b with
    | none => rfl
    | some o => have := hw b hb; rw [(kp_ext F.kp).1 _ _ e] at this; cases this
  -- the table
  obtain ⟨tv, sp, hE⟩ := F.get hx
  obtain ⟨x', dx, hl', hh, t, m, ts, rfl, ⟨g1, g2, g3⟩, q1, q2, ⟨en, po⟩, hr⟩ := hE
  obtain ⟨m0, hn0, hall, hsp⟩ := sp
  obtain ⟨hxk, ca, hca, hcc, hcy⟩ := (hsp.resolve_left fun h => hxy h.1).2
  have xl : x' ≠ hl' := fun q => by rw [q, po] at q1; cases q1
  have dl : dx ≠ hl' := fun q => by
    rw [q, po] at q2
    have := congrArg Obj.data (Option.some.inj q2)
    cases this
  have cal : ca ≠ hl' := fun q => (cell_not_seq hcc po rfl) q.symm
  have wl : hl' ∉ wr := fun q => by rw [hw _ q] at po; cases po
  let s0' : Shared := { s with heap := wipe (· = hl') s.heap }
  have kw : Keeps s0' s₂ := by
    obtain ⟨h, tk, rfl, e⟩ := k
    exact ⟨h, tk, rfl, fun b o q => e.1 b o (of_wipe q).2, e.2⟩
  have G' : Gd (cx w mg mb) s0' := Gd.wipe (spre := s0) G F.kp (F.yfr _ g3)
  refine comp_block (s0 := s0') (Xo := fun _ => False) (X := fun a => X a ∨ a ∈ wr) (Y0 := fun a => a = hl') (fun i => [(x, .t ((hs.take i).map hdD))]) (fun _ => some .none) B G' O.eo kw (fun a ha => ha.elim (O.live.keeps kx.1 a) (al a)) (fun _ h => h.elim) (fun a h => .inl (by rw [h]; exact F.yx _ g3)) (fun a h => wipe_yes h) ?_ It hst
    (fun b hb => wipe_none (hw b hb)) (fun b hb => .inr hb) (fun b hb q => wl (q ▸ hb)) ?_ hfa hsrc (Nat.le_trans hz (by decide)) (fun C i d hi => ?_) (B.cap : _ ∧ _) (.inr hsc) ?_
  · intro y' e l
    rw [List.lookup_cons] at l
    cases hb : y' == x with
    | false => rw [hb] at l; cases l
    | true =>
      rw [hb] at l; cases l
      rw [beq_iff_eq.mp hb]
      refine ⟨ca, .ref x', hca, hcc.keeps kx.1, ⟨x', dx, hl', hh, t, m, ts, rfl, ⟨fun h => h.elim g1 fun q => (by rw [hw _ q] at q1; cases q1), fun h => h.elim g2 fun q => (by rw [hw _ q] at q2; cases q2), rfl⟩, kx.1 _ _ q1, kx.1 _ _ q2, ⟨en, kx.1 _ _ po⟩, ?_⟩, .inr ?_⟩
      · exact (hr.ext (X' := fun a => X a ∨ a ∈ wr) fun a o e hx h => h.elim hx fun q => by rw [hw a q] at e; cases e).keeps kx
      · obtain ⟨o, e⟩ := Option.isSome_iff_exists.mp (cell_some hcc)
        show ((wipe _ _).get? ca).isSome = true
        rw [wipe_some (Y := (· = hl')) cal e]; rfl
  · intro b hb
    by_cases q : b ∈ wr
    · exact .inl q
    · exact .inr fun h => h.elim ((hfp b hb).resolve_left q) q
  · obtain ⟨Γ1, h1, Γ2, h2, h3⟩ := hitem C i d hi
    exact ⟨Γ1, h1, true, Tst.nil, fun q => (nomatch q), fun _ => ⟨.none, rfl, Γ2, h2, h3⟩⟩
  · intro D C mC s' ys hD hC hCD hn hp hkp hkept hlive hr' hcels hsz
    show wpAny _ A (PySem.assign (.Name y yp) env (.ref D)) _ _ _
    obtain ⟨a', v', h1, h2, h3⟩ := hcels x _ (List.lookup_cons_self ..)
    have : a' = ca := by rw [hca] at h1; cases h1; rfl
    subst this
    have hccE : s'.heap.IsCell a' (some (.ref x')) := by
      obtain ⟨o, e, r⟩ := hcc
      exact ⟨o, hkept _ _ cal (fun q => by rw [hw _ q] at e; cases e) (kx.1 _ _ e), r⟩
    have : v' = .ref x' := Option.some.inj (cell_one h2 hccE)
    subst this
    have but : ∀ b o, b ≠ hl' → s.heap.get? b = some o → s'.heap.get? b = some o := fun b o n e => hkept b o n (fun q => by rw [hw _ q] at e; cases e) (kx.1 _ _ e)
    have hE' : EntAt (fun a => X a ∨ a ∈ [C]) Y 259 s' (.t (hs.map hdD)) (.ref x') := by
      have hh3 : EntAt (fun a => (X a ∨ a ∈ wr) ∨ a = C) (fun a => a = hl') 259 s' (.t ((hs.take src.length).map hdD)) (.ref x') := h3
      rw [hl, List.take_length] at hh3
      exact hh3.imp (fun a o _ hx h => hx (h.imp .inl List.mem_singleton.mp)) (fun a q => q ▸ g3) (fun _ _ _ e => e) (fun _ _ _ _ _ e _ => e) (Nat.le_refl _)
    have hal : (s'.heap.get? hl').isSome = true := by
      obtain ⟨_, _, hl2, _, _, _, _, _, ⟨_, _, g⟩, _, _, ⟨_, e⟩, _⟩ := h3
      have g' : hl2 = hl' := g
      rw [← g', e]; rfl
    obtain ⟨F1, C1⟩ := FS.setListC (x := x) (Cf := C) (e' := .t (hs.map hdD)) (s' := s') F (by obtain ⟨h, tk, e, _⟩ := hkp; exact ⟨h, tk, e⟩) hn0 hall (.inr ⟨hxy, hxk, a', _, hca, hcc, hE', hcy⟩) (onlyM_frz hfr) g3 ⟨_, _, _, po, rfl⟩ but hal (kp_ext hkp).2 (old C hC) (ns_some hn)
    have hC0 : s0.heap.get? C = none := by
      cases e : s0.heap.get? C with
      | none => rfl
      | some o => have := old C hC; rw [(kp_ext F.kp).1 _ _ e] at this; cases this
    have hout : (List.range src.length).filterMap (fun _ => some Mine.D.none) = List.replicate src.length .none := by
      rw [show (fun (_ : Nat) => some Mine.D.none) = some ∘ (fun _ => Mine.D.none) from rfl, List.filterMap_eq_map, List.map_const', List.length_range]
    rw [hout] at hr'
    have hDt : At (fun a => X a ∨ a ∈ [C]) 259 s' (.list (List.replicate src.length .none)) (.ref D) := by
      simp only [At]
      exact ⟨D, ys, rfl, fun h => h.elim (dead_of_none F.live (old D hD)) fun q => hCD (List.mem_singleton.mp q).symm, hp, hr'.ext fun a o _ hx h => hx (h.imp .inl List.mem_singleton.mp)⟩
    refine wpAny_assign_Name (wpAny_mono (F1.store eo (e := .d (.list (List.replicate src.length .none))) hDt (.inl hk)) (fun _ s'' q => ?_) fun _ _ x => x)
    have hCY : ¬ Y C := fun y => by
      obtain ⟨o, e⟩ := Option.isSome_iff_exists.mp (F.live C (F.yx C y))
      rw [old C hC] at e; cases e
    obtain ⟨o, es, ep, ho, hrest⟩ := hn
    have hn2 : s''.heap.Ns C mC := ⟨o, es, ep, q.2.but C o hCY ho, hrest⟩
    refine ⟨mC, hn2, fun h' hs' => ⟨fun a => (X a ∨ a ∈ [C]) ∧ a ∉ [C], Y, ?_, ?_⟩⟩
    · have S2 : LoopSt (cx w mg mb) s0 env W Xo (fun a => X a ∨ a ∈ [C]) Y [C] [] [] _ s'' := ⟨q.1, .nil, fun b hb => .inr hb, fun b hb => by rw [List.mem_singleton.mp hb]; exact hCY⟩
      refine S2.finish ⟨⟨h', s''.toks, rfl, Nat.le_refl _⟩, fun b o n e => same_get hs' (fun q => n (List.mem_singleton.mpr q)) e⟩ (fun b hb => by rw [List.mem_singleton.mp hb]; exact hC0) (fun b hb h => ?_)
      rw [List.mem_singleton.mp hb] at h
      have := F.live C (F.out C h)
      rw [old C hC] at this; cases this
    · have z := C1.trans q.2 F.yx
      refine ⟨fun a o ha e => same_get hs' (fun q => by rw [q, old C hC] at e; cases e) (z.but a o ha e), fun a x => ⟨.inl x, fun q => ?_⟩, z.yy, fun a x => z.xn a x.1, z.tk⟩
      rw [List.mem_singleton.mp q] at x
      have := F.live C x
      rw [old C hC] at this; cases this
end
end Mine

namespace Mine

theorem foldl_take {α β : Type} (f : β → α → β) (z : β) {l : List α} {i : Nat} {b : α} (h : l[i]? = some b) : (l.take (i + 1)).foldl f z = f ((l.take i).foldl f z) b := by
  rw [List.take_add_one, h, List.foldl_append]; rfl
theorem map_get {α β : Type} {f : α → β} {l : List α} {i : Nat} {d : β} (h : (l.map f)[i]? = some d) : ∃ a, l[i]? = some a ∧ d = f a := by
  rw [List.getElem?_map] at h
  cases e : l[i]? with
  | none => rw [e] at h; cases h
  | some a => rw [e] at h; cases h; exact ⟨a, rfl, rfl⟩

/-- figures by bases -/
def figS (p : Int × List Int) (b : Int) : Int × List Int := (p.1.fdiv b, p.2 ++ [p.1.fmod b])
def figs (c : Int) (bs : List Int) : List Int := (bs.foldl figS (c, [])).2
theorem figS_len (bs : List Int) : ∀ z : Int × List Int, (bs.foldl figS z).2.length = z.2.length + bs.length := by
  induction bs with
  | nil => intro z; rfl
  | cons b bs ih =>
    intro z
    rw [List.foldl_cons, ih]
    simp [figS]; omega

def written (fs : List Int) : Int := fs.foldl (fun t f => t * 16 + f) 0

section
variable {w : World} {mg mb : Str → Option Value} {A : Around} {n : Nat} {c : Int} {bs fs : List Int}
theorem f_figures (a : AOk (n + 1) A) (hb : ∀ b ∈ bs, b ≠ 0 ∧ b.natAbs < 1073741824) (hz : bs.length ≤ 1000) : Tr (cx w mg mb) A [.int c, .list (bs.map .int)] (K1 (.ref 270)) (.list ((figs c bs).map .int)) := by
  refine Fn (a := 270) rfl rfl a.lt [] ["cell", "bases"] ?_ rfl (by decide) (fun _ h => nomatch h) fun L' => ?_
  · intro vs h
    match vs, h with
    | [u, v], _ => rfl
  refine ExR.cons (StN.assignM EvL.nil (.inl rfl)) ?_
  refine ExR.cons (StN.for_ (ds := bs.map .int) (fun i => [("cell", .d (.int ((bs.take i).foldl figS (c, [])).1)), ("told", .m (((bs.take i).foldl figS (c, [])).2.map .int))]) (EvI.of (Ev.weak (Ev.name rfl)) (tiL a.hh plain_name)) (Sub.cons rfl (Sub.cons rfl Sub.nil)) ?_) ?_
  · intro i d hi
    obtain ⟨b, hbi, rfl⟩ := map_get hi
    obtain ⟨h1, h2⟩ := hb b (List.mem_of_getElem? hbi)
    refine ⟨_, Asg.name (.inl rfl), ExN.sub (ExN.cons (StN.append rfl (Ev.bin (Ev.name rfl) (Ev.name rfl) (tMod h1)) rfl rfl ?_) (ExN.cons (StN.assign (Ev.bin (Ev.name rfl) (Ev.name rfl) (tDiv h1 h2)) (.inl rfl)) ExN.nil)) (Sub.cons ?_ (Sub.cons ?_ Sub.nil))⟩
    · rw [List.length_map, figS_len, List.length_take]
      simp only [List.length_nil]
      omega
    · rw [foldl_take figS _ hbi]; rfl
    · rw [foldl_take figS _ hbi]
      show _ = some (Ent.m (List.map D.int (_ ++ [_])))
      rw [List.map_append]; rfl
  · refine ExR.retM ?_
    rw [List.length_map, List.take_length]; rfl

theorem f_written (a : AOk (n + 2) A) (hb : ∀ i, (written (fs.take i)).natAbs < 2 ^ 64) : Tr (cx w mg mb) A [.wlist (fs.map .int)] (K1 (.ref 298)) (.int (written fs)) := by
  refine Fn (a := 298) rfl rfl a.lt [] ["figures"] ?_ rfl (by decide) (fun _ h => nomatch h) fun L' => ?_
  · intro vs h
    match vs, h with
    | [u], _ => rfl
  refine ExR.cons (StN.assign Ev.cInt (.inl rfl)) ?_
  refine ExR.cons (StN.for_ (ds := fs.map .int) (fun i => [("told", .d (.int (written (fs.take i))))]) (EvI.of (Ev.name rfl) (tiL a.hh plain_name)) (Sub.cons rfl Sub.nil) ?_) ?_
  · intro i d hi
    obtain ⟨b, hbi, rfl⟩ := map_get hi
    refine ⟨_, Asg.name (.inl rfl), ExN.sub (ExN.cons (StN.assign (Ev.call (.inl rfl) (.ref _ rfl) (EvL.cons (Ev.call (.inl rfl) (.ref _ rfl) (EvL.cons (Ev.name rfl) (EvL.cons Ev.cInt EvL.nil)) (f_ilshift (a.go _) (by decide) (by decide) (hb i))) (EvL.cons (Ev.name rfl) EvL.nil)) (f_iadd (a.go _))) (.inl rfl)) ExN.nil) (Sub.cons ?_ Sub.nil)⟩
    show some (Ent.d (D.int _)) = _
    unfold written
    rw [foldl_take _ _ hbi]; rfl
  · refine ExR.ret (Ev.name ?_)
    rw [List.length_map, List.take_length]; rfl
end
end Mine

namespace Mine

/-- the place of a pipe's sign -/
def signs : List Nat := [117, 118, 119, 120, 121, 122, 85, 86, 87, 88, 89, 90]
def pIdx (p : Nat) : Nat := (signs.findIdx? (· == p)).getD 0
def fig0 (chord : Nat) : List Int := ([0, 0, 0, 0, 0, 0] : List Int).set chord 1
def stillK (hs : List (Nat × Nat)) (q : Nat) (fs : List Int) : Int := (getAll hs q).foldl (fun l p => Builtin.bitXor l (fs.getD (pIdx p % 6) 0)) 0
def stillF (hs : List (Nat × Nat)) (q : Nat → Nat) (m : Nat) (chord : Nat) : List Int := (List.range m).foldl (fun fs k => fs.set k (stillK hs (q k) fs)) (fig0 chord)
def still (hs : List (Nat × Nat)) (q : Nat → Nat) (chord : Nat) : List Int := stillF hs q 3 chord

theorem stillF_succ (hs : List (Nat × Nat)) (q : Nat → Nat) (m chord : Nat) : stillF hs q (m + 1) chord = (stillF hs q m chord).set m (stillK hs (q m) (stillF hs q m chord)) := by
  unfold stillF
  rw [List.range_succ, List.foldl_append]; rfl
theorem stillF_len (hs : List (Nat × Nat)) (q : Nat → Nat) (chord : Nat) : ∀ m, (stillF hs q m chord).length = 6
  | 0 => by simp [stillF, fig0]
  | m + 1 => by rw [stillF_succ, List.length_set, stillF_len hs q chord m]
theorem rangeD_get {n i : Nat} {d : D} (h : (rangeD 0 (n : Int))[i]? = some d) : i < n ∧ d = .int (i : Int) := by
  unfold rangeD at h
  have e : ((n : Int) - 0).toNat = n := by omega
  rw [e] at h
  obtain ⟨a, ha, rfl⟩ := map_get h
  obtain ⟨h1, h2⟩ := List.getElem?_eq_some_iff.mp ha
  rw [List.length_range] at h1
  rw [List.getElem_range] at h2
  subst h2
  exact ⟨h1, by rw [Int.zero_add]⟩
theorem rangeD_len (n : Nat) : (rangeD 0 (n : Int)).length = n := by
  unfold rangeD
  have e : ((n : Int) - 0).toNat = n := by omega
  rw [e]; simp
theorem pIdx_ok : ∀ p ∈ pipes, signs.findIdx? (· == p) = some (pIdx p) ∧ pIdx p < 12 := by decide +kernel
theorem getAll_mem {hs : List (Nat × Nat)} {q p : Nat} (hh : ∀ p ∈ hs, p.2 ∈ pipes) (h : p ∈ getAll hs q) : p ∈ pipes := by
  unfold getAll at h
  obtain ⟨x, hx, rfl⟩ := List.mem_map.mp h
  exact hh x (List.mem_filter.mp hx).1
theorem getD_get {fs : List Int} {i : Nat} (h : i < fs.length) : (fs.map D.int)[i]? = some (.int (fs.getD i 0)) := by
  rw [List.getElem?_map, List.getElem?_eq_getElem h]
  simp [List.getD, List.getElem?_eq_getElem h]

section
variable {w : World} {mg mb : Str → Option Value} {A : Around} {n : Nat} {hs : List (Nat × Nat)} {q : Nat → Nat} {asked : Str} {chord : Nat}
theorem f_still (a : AOk (n + 4) A) (hz : hs.length ≤ 1000) (hh : ∀ p ∈ hs, p.1 ∈ towns) (hp : ∀ p ∈ hs, p.2 ∈ pipes) (hq : ∀ k, k < 3 → q k ∈ towns) (ha : ∀ k : Nat, k < 3 → Txt.item asked (k : Int) = ⟨#[q k]⟩) (hl : asked.length = 4) (hc : chord < 6) :
    Tr (cx w mg mb) A [.table (hs.map hdD), .str asked, .int chord] (K1 (.ref 284)) (.wlist ((still hs q chord).map .int)) := by
  refine Fn (a := 284) rfl rfl a.lt [] ["table", "asked", "chord"] ?_ rfl (by decide) (fun _ h => nomatch h) fun L' => ?_
  · intro vs h
    match vs, h with
    | [u, v, x], _ => rfl
  refine ExR.cons (StN.assignM (EvL.cons Ev.cInt (EvL.cons Ev.cInt (EvL.cons Ev.cInt (EvL.cons Ev.cInt (EvL.cons Ev.cInt (EvL.cons Ev.cInt EvL.nil)))))) (.inl rfl)) ?_
  refine ExR.cons (StN.setItem (k := (chord : Int)) rfl (.inl rfl) Ev.cInt (Ev.name rfl) rfl rfl (by omega) (by show (chord : Int) < 6; omega) (by decide)) ?_
  refine ExR.cons (StN.for_ (ds := rangeD 0 ((3 : Nat) : Int)) (fun i => [("figures", .mw ((stillF hs q i chord).map .int)), ("table", .d (.table (hs.map hdD))), ("asked", .d (.str asked))]) (EvI.call (.inr ⟨rfl, rfl, by decide⟩) (.ty _) (EvL.cons Ev.cInt EvL.nil) (tcRange1 a.hh plain_name (by decide) (by decide))) (Sub.cons ?_ (Sub.cons rfl (Sub.cons rfl Sub.nil))) ?_) ?_
  · show some (Ent.mw _) = some (Ent.mw _)
    congr 2
    show List.set _ chord _ = List.map _ (List.set _ chord _)
    rw [List.map_set]; rfl
  · intro k d hi
    obtain ⟨hk, rfl⟩ := rangeD_get hi
    have hlen := stillF_len hs q chord k
    refine ⟨_, Asg.name (.inl rfl), ExN.sub (ExN.cons (StN.assign Ev.cInt (.inl rfl)) (ExN.cons (StN.for_ (ds := (getAll hs (q k)).map fun b => .str ⟨#[b]⟩)
        (fun j => [("left", .d (.int (((getAll hs (q k)).take j).foldl (fun l p => Builtin.bitXor l ((stillF hs q k chord).getD (pIdx p % 6) 0)) 0))), ("figures", .mw ((stillF hs q k chord).map .int)), ("table", .d (.table (hs.map hdD))), ("asked", .d (.str asked)), ("k", .d (.int (k : Int)))])
        (EvI.of (Ev.weak (Ev.meth1 (tabCls w mg mb) (m_getall w mg mb) (Ev.name rfl) (Ev.is (congrArg D.str (ha k hk)) (Ev.sub (Ev.name (d := .str asked) rfl) (Ev.name rfl) (tGetS (by omega) (by rw [hl]; omega) (by omega)))) (f_getall (n := n + 1) (a.go _) (Nat.le_trans hz (by decide)) (hq k hk) hh))) (tiL a.hh plain_name)) (Sub.cons rfl (Sub.cons rfl (Sub.cons rfl (Sub.cons rfl (Sub.cons rfl Sub.nil))))) ?_)
        (ExN.cons (StN.setItem (k := (k : Int)) rfl (.inr rfl) (Ev.name rfl) (Ev.name rfl) rfl rfl (by omega) (by rw [List.length_map, hlen]; omega) (by rw [List.length_map, hlen]; decide)) ExN.nil))) (Sub.cons ?_ (Sub.cons rfl (Sub.cons rfl Sub.nil)))⟩
    · intro j d hj
      obtain ⟨p, hpj, rfl⟩ := map_get hj
      have hpp := getAll_mem hp (List.mem_of_getElem? hpj)
      obtain ⟨e1, e2⟩ := pIdx_ok p hpp
      have fm : ((pIdx p : Nat) : Int).fmod 6 = ((pIdx p % 6 : Nat) : Int) := (Int.ofNat_fmod _ _).symm
      have lt6 : pIdx p % 6 < 6 := Nat.mod_lt _ (by decide)
      refine ⟨_, Asg.name (.inl rfl), ExN.sub (ExN.cons (StN.assign (Ev.call (.inl rfl) (.ref _ rfl) (EvL.cons (Ev.name rfl) (EvL.cons (Ev.subM (k := ((pIdx p % 6 : Nat) : Int)) (d := .int ((stillF hs q k chord).getD (pIdx p % 6) 0)) rfl (.inr rfl) (Ev.is (congrArg D.int fm) (Ev.call (.inl rfl) (.ref _ rfl) (EvL.cons (Ev.call (.inl rfl) (.ref _ rfl) (EvL.cons Ev.cStr (EvL.cons (Ev.name rfl) EvL.nil)) (f_indexOf (a.go _) e1)) (EvL.cons Ev.cInt EvL.nil)) (f_imod (a.go _) (by decide)))) (by omega) (by omega) ?_) EvL.nil)) (f_ixor (a.go _))) (.inl rfl)) ExN.nil) (Sub.cons ?_ (Sub.cons rfl (Sub.cons rfl (Sub.cons rfl (Sub.cons rfl Sub.nil)))))⟩
      · exact getD_get (by rw [hlen, Int.toNat_natCast]; exact lt6)
      · rw [foldl_take _ _ hpj]; rfl
    · show some (Ent.mw _) = some (Ent.mw _)
      congr 2
      rw [List.length_map, List.take_length, stillF_succ, List.map_set, Int.toNat_natCast]; rfl
  · rw [rangeD_len]
    exact ExR.retMW rfl
end
end Mine

namespace Mine

theorem dep_hd (p : Nat × Nat) : dep (hdD p) = 1 := rfl
theorem depAll_hd : ∀ hs : List (Nat × Nat), depAll (hs.map hdD) ≤ 1
  | [] => by simp [depAll]
  | p :: hs => by
    rw [List.map_cons, depAll, dep_hd]
    exact Nat.max_le.mpr ⟨Nat.le_refl _, depAll_hd hs⟩
theorem cmp_hd (p q : Nat × Nat) : cmpb (hdD p) (hdD q) = true := rfl
theorem sm_hd (p q : Nat × Nat) : sm (hdD p) (hdD q) = (p == q) := by
  have h1 : sm (hdD p) (hdD q) = ((p.1 == q.1) && (p.2 == q.2)) := by
    simp [hdD, sm, smAll]
  rw [h1]; rfl

def good (p : Nat × Nat) : Prop := (p.1 ∈ [97, 98, 99, 100, 101] ∧ p.2 ∈ [117, 118, 119, 120, 121, 122]) ∨ (p.1 ∈ [65, 66, 67, 68, 69] ∧ p.2 ∈ [85, 86, 87, 88, 89, 90])
def turnStep (fs : List Int) (k : Nat) (l : Int) (p : Nat × Nat) : Int :=
  let l1 := if p.1 == 97 + k then l + fs.getD (p.2 - 117) 0 else l
  if p.1 == 65 + k then l1 - fs.getD (p.2 - 85) 0 else l1
def turnK (hs : List (Nat × Nat)) (k : Nat) (fs : List Int) : Int :=
  let left := hs.foldl (turnStep fs k) 0
  (if hs.any (· == (97 + k, 117 + k)) then -left else left).fmod 4
def turnF (hs : List (Nat × Nat)) (m : Nat) (chord : Nat) : List Int := (List.range m).foldl (fun fs k => fs.set k (turnK hs k fs)) (fig0 chord)
def turned (hs : List (Nat × Nat)) (chord : Nat) : List Int := turnF hs 3 chord
theorem turnF_succ (hs : List (Nat × Nat)) (m chord : Nat) : turnF hs (m + 1) chord = (turnF hs m chord).set m (turnK hs m (turnF hs m chord)) := by
  unfold turnF
  rw [List.range_succ, List.foldl_append]; rfl
theorem turnF_len (hs : List (Nat × Nat)) (chord : Nat) : ∀ m, (turnF hs m chord).length = 6
  | 0 => by simp [turnF, fig0]
  | m + 1 => by rw [turnF_succ, List.length_set, turnF_len hs chord m]
theorem abcd_item : ∀ k : Fin 3, Txt.item "abcd" (k.val : Int) = ⟨#[97 + k.val]⟩ ∧ Txt.item "ABCD" (k.val : Int) = ⟨#[65 + k.val]⟩ ∧ Txt.item "uvw" (k.val : Int) = ⟨#[117 + k.val]⟩ := by decide +kernel
theorem low_idx : ∀ p ∈ [117, 118, 119, 120, 121, 122], ([117, 118, 119, 120, 121, 122, 117, 118, 119, 120, 121, 122] : List Nat).findIdx? (· == p) = some (p - 117) ∧ p - 117 < 6 := by decide +kernel
theorem up_idx : ∀ p ∈ [85, 86, 87, 88, 89, 90], ([85, 86, 87, 88, 89, 90, 85, 86, 87, 88, 89, 90] : List Nat).findIdx? (· == p) = some (p - 85) ∧ p - 85 < 6 := by decide +kernel

section
variable {w : World} {mg mb : Str → Option Value} {A : Around} {n : Nat} {hs : List (Nat × Nat)} {chord : Nat}
theorem eqCode (i j : Nat) : ((⟨#[i]⟩ : Str).cps.toList == (⟨#[j]⟩ : Str).cps.toList) = (i == j) := by simp
theorem f_turned (a : AOk (n + 4) A) (hz : hs.length ≤ 1000) (hg : ∀ p ∈ hs, good p) (hc : chord < 6) :
    Tr (cx w mg mb) A [.table (hs.map hdD), .int chord] (K1 (.ref 291)) (.wlist ((turned hs chord).map .int)) := by
  refine Fn (a := 291) rfl rfl a.lt [] ["table", "chord"] ?_ rfl (by decide) (fun _ h => nomatch h) fun L' => ?_
  · intro vs h
    match vs, h with
    | [u, v], _ => rfl
  have hzm : (hs.map hdD).length ≤ 1000000 := by rw [List.length_map]; exact Nat.le_trans hz (by decide)
  refine ExR.cons (StN.assignM (EvL.cons Ev.cInt (EvL.cons Ev.cInt (EvL.cons Ev.cInt (EvL.cons Ev.cInt (EvL.cons Ev.cInt (EvL.cons Ev.cInt EvL.nil)))))) (.inl rfl)) ?_
  refine ExR.cons (StN.setItem (k := (chord : Int)) rfl (.inl rfl) Ev.cInt (Ev.name rfl) rfl rfl (by omega) (by show (chord : Int) < 6; omega) (by decide)) ?_
  refine ExR.cons (StN.for_ (ds := rangeD 0 ((3 : Nat) : Int)) (fun i => [("figures", .mw ((turnF hs i chord).map .int)), ("table", .d (.table (hs.map hdD)))]) (EvI.call (.inr ⟨rfl, rfl, by decide⟩) (.ty _) (EvL.cons Ev.cInt EvL.nil) (tcRange1 a.hh plain_name (by decide) (by decide))) (Sub.cons ?_ (Sub.cons rfl Sub.nil)) ?_) ?_
  · show some (Ent.mw _) = some (Ent.mw _)
    congr 2
    show List.set _ chord _ = List.map _ (List.set _ chord _)
    rw [List.map_set]; rfl
  · intro k d hi
    obtain ⟨hk, rfl⟩ := rangeD_get hi
    have hlen := turnF_len hs chord k
    obtain ⟨c1, c2, c3⟩ := abcd_item ⟨k, hk⟩
    have ea : ∀ {env Γ pos ip sp e}, Ev (cx w mg mb) (A.deeper env) env Γ e (.int (k : Int)) → Ev (cx w mg mb) (A.deeper env) env Γ (.Subscript (.Constant (.str "abcd") 0 sp) e pos) (.str ⟨#[97 + k]⟩) ∧ Ev (cx w mg mb) (A.deeper env) env Γ (.Subscript (.Constant (.str "ABCD") 0 sp) e ip) (.str ⟨#[65 + k]⟩) := fun he =>
      ⟨Ev.is (congrArg D.str c1) (Ev.sub Ev.cStr he (tGetS (by omega) (by show (k : Int) < 4; omega) (by omega))), Ev.is (congrArg D.str c2) (Ev.sub Ev.cStr he (tGetS (by omega) (by show (k : Int) < 4; omega) (by omega)))⟩
    generalize hfs : turnF hs k chord = fs at hlen ⊢
    refine ⟨_, Asg.name (.inl rfl), ExN.sub (ExN.cons (StN.assign Ev.cInt (.inl rfl)) (ExN.cons (StN.for_ (ds := hs.map hdD)
        (fun j => [("left", .d (.int ((hs.take j).foldl (turnStep fs k) 0))), ("figures", .mw (fs.map .int)), ("table", .d (.table (hs.map hdD))), ("k", .d (.int (k : Int)))])
        (EvI.of (Ev.weak (Ev.meth0 (tabCls w mg mb) (m_items w mg mb) (Ev.name rfl) (f_items (n := n + 2) (a.go _) hzm))) (tiLP a.hh)) (Sub.cons rfl (Sub.cons rfl (Sub.cons rfl (Sub.cons rfl Sub.nil)))) ?_)
        (ExN.cons (StN.assign (d := .bool (hs.any (· == (97 + k, 117 + k)))) ?_ (.inl rfl))
        (ExN.cons (StN.setItem (k := (k : Int)) (d := .int (turnK hs k fs)) rfl (.inr rfl) ?_ (Ev.name rfl) rfl rfl (by omega) (by rw [List.length_map, hlen]; omega) (by rw [List.length_map, hlen]; decide)) ExN.nil)))) (Sub.cons ?_ (Sub.cons rfl Sub.nil))⟩
    · intro j d hj
      obtain ⟨p, hpj, rfl⟩ := map_get hj
      have hgp := hg p (List.mem_of_getElem? hpj)
      refine ⟨_, Asg.pair a.hh (.inl rfl) (.inl rfl), ExN.sub (ExN.cons (StN.ife (b := p.1 == 97 + k) (Γ' := [("left", .d (.int (if p.1 == 97 + k then (hs.take j).foldl (turnStep fs k) 0 + fs.getD (p.2 - 117) 0 else (hs.take j).foldl (turnStep fs k) 0))), ("figures", .mw (fs.map .int)), ("table", .d (.table (hs.map hdD))), ("k", .d (.int (k : Int))), ("name", .d (.str ⟨#[p.1]⟩)), ("pipe", .d (.str ⟨#[p.2]⟩))])
          (EvB.is (eqCode _ _) (EvB.cmp (Ev.name rfl) (ea (ip := default) (Ev.name rfl)).1 tEqS)) (fun hb => ?_) (fun hb => ?_))
        (ExN.cons (StN.ife (b := p.1 == 65 + k) (Γ' := [("left", .d (.int (turnStep fs k ((hs.take j).foldl (turnStep fs k) 0) p))), ("figures", .mw (fs.map .int)), ("table", .d (.table (hs.map hdD))), ("k", .d (.int (k : Int)))])
          (EvB.is (eqCode _ _) (EvB.cmp (Ev.name rfl) (ea (pos := default) (Ev.name rfl)).2 tEqS)) (fun hb => ?_) (fun hb => ?_)) ExN.nil)) (Sub.cons ?_ (Sub.cons rfl (Sub.cons rfl (Sub.cons rfl Sub.nil))))⟩
      · rw [hb]
        simp only [if_true]
        have h2 : p.2 ∈ [117, 118, 119, 120, 121, 122] := by
          rcases hgp with h | h
          · exact h.2
          · have := eq_of_beq hb
            rw [this] at h
            simp at h; omega
        obtain ⟨e1, e2⟩ := low_idx _ h2
        refine ExN.sub (ExN.cons (StN.assign (Ev.call (.inl rfl) (.ref _ rfl) (EvL.cons (Ev.name rfl) (EvL.cons (Ev.subM (k := ((p.2 - 117 : Nat) : Int)) (d := .int (fs.getD (p.2 - 117) 0)) rfl (.inr rfl) (Ev.call (.inl rfl) (.ref _ rfl) (EvL.cons Ev.cStr (EvL.cons (Ev.name rfl) EvL.nil)) (f_indexOf (n := n) ((a.go _).mono (by omega)) e1)) (by omega) (by omega) ?_) EvL.nil)) (f_iadd (n := n) ((a.go _).mono (by omega)))) (.inl rfl)) ExN.nil) (Sub.cons rfl (Sub.cons rfl (Sub.cons rfl (Sub.cons rfl (Sub.cons rfl (Sub.cons rfl Sub.nil))))))
        exact getD_get (by rw [hlen, Int.toNat_natCast]; exact e2)
      · rw [hb]
        simp only [Bool.false_eq_true, if_false]
        exact ExN.sub ExN.nil (Sub.cons rfl (Sub.cons rfl (Sub.cons rfl (Sub.cons rfl (Sub.cons rfl (Sub.cons rfl Sub.nil))))))
      · have h2 : p.2 ∈ [85, 86, 87, 88, 89, 90] := by
          rcases hgp with h | h
          · have := eq_of_beq hb
            rw [this] at h
            simp at h; omega
          · exact h.2
        obtain ⟨e1, e2⟩ := up_idx _ h2
        refine ExN.sub (ExN.cons (StN.assign (Ev.call (.inl rfl) (.ref _ rfl) (EvL.cons (Ev.name rfl) (EvL.cons (Ev.subM (k := ((p.2 - 85 : Nat) : Int)) (d := .int (fs.getD (p.2 - 85) 0)) rfl (.inr rfl) (Ev.call (.inl rfl) (.ref _ rfl) (EvL.cons Ev.cStr (EvL.cons (Ev.name rfl) EvL.nil)) (f_indexOf (n := n) ((a.go _).mono (by omega)) e1)) (by omega) (by omega) ?_) EvL.nil)) (f_isub (n := n) ((a.go _).mono (by omega)))) (.inl rfl)) ExN.nil) (Sub.cons ?_ (Sub.cons rfl (Sub.cons rfl (Sub.cons rfl Sub.nil))))
        · exact getD_get (by rw [hlen, Int.toNat_natCast]; exact e2)
        · show some (Ent.d (D.int _)) = some (Ent.d (D.int _))
          unfold turnStep
          simp only [hb, if_true]
      · refine ExN.sub ExN.nil (Sub.cons ?_ (Sub.cons rfl (Sub.cons rfl (Sub.cons rfl Sub.nil))))
        show some (Ent.d (D.int _)) = some (Ent.d (D.int _))
        unfold turnStep
        simp only [hb, Bool.false_eq_true, if_false]
      · show some (Ent.d (D.int _)) = some (Ent.d (D.int _))
        rw [foldl_take _ _ hpj]
    · have hu := a.un
      refine Ev.is (congrArg D.bool ?_) (Ev.cmp (d1 := hdD (97 + k, 117 + k)) (Ev.tuple (EvL.cons (ea (ip := default) (Ev.name rfl)).1 (EvL.cons (Ev.is (congrArg D.str c3) (Ev.sub Ev.cStr (Ev.name rfl) (tGetS (by omega) (by show (k : Int) < 3; omega) (by omega)))) EvL.nil)) (by show 2 ≤ 1000000; decide)) (Ev.weak (Ev.meth0 (tabCls w mg mb) (m_items w mg mb) (Ev.name rfl) (f_items (n := n + 2) (a.go _) hzm))) (tInL ?_ ?_))
      · rw [List.any_map]
        refine congrArg (List.any hs) (funext fun p => ?_)
        exact sm_hd _ _
      · have := depAll_hd hs
        show A.units + 3 + depAll (hs.map hdD) + 1 < cLine
        omega
      · intro e he
        obtain ⟨p, _, rfl⟩ := List.mem_map.mp he
        exact cmp_hd _ _
    · refine Ev.call (.inl rfl) (.ref _ rfl) (EvL.cons (Ev.ife (b := hs.any (· == (97 + k, 117 + k))) (d := .int (if hs.any (· == (97 + k, 117 + k)) then -(hs.foldl (turnStep fs k) 0) else hs.foldl (turnStep fs k) 0)) (EvB.valB (Ev.name rfl)) (fun hb => ?_) (fun hb => ?_)) (EvL.cons Ev.cInt EvL.nil)) (f_imod (n := n) ((a.go _).mono (by omega)) (by decide))
      · rw [if_pos hb]
        refine Ev.un (Ev.name ?_) tNeg
        rw [List.length_map, List.take_length]; rfl
      · rw [if_neg (by rw [hb]; decide)]
        refine Ev.name ?_
        rw [List.length_map, List.take_length]; rfl
    · show some (Ent.mw _) = some (Ent.mw _)
      congr 2
      rw [turnF_succ, List.map_set, Int.toNat_natCast, hfs]
  · rw [rangeD_len]
    exact ExR.retMW rfl
end
end Mine

namespace Mine

def nD (k : Nat) : D := .int (k : Int)
def bgD (p : Nat × Nat) : D := .tuple [nD p.1, nD p.2]
def ord (d1 : Nat) : List Nat := if d1 == 1 then [5, 4, 3, 2, 1, 0] else [0, 1, 2, 3, 4, 5]
def rot (d0 d1 : Nat) : List Nat := (ord d1).drop d0 ++ (ord d1).take d0
def endsOf (bs : List (Nat × Nat)) (d2 p : Nat) : List (Nat × Nat) :=
  if d2 == 1 then [(65 + (bs.getD p (0, 0)).2, 85 + p), (97 + (bs.getD p (0, 0)).1, 117 + p)] else [(97 + (bs.getD p (0, 0)).1, 117 + p), (65 + (bs.getD p (0, 0)).2, 85 + p)]
def laid (bs : List (Nat × Nat)) (d0 d1 d2 : Nat) : List (Nat × Nat) := (rot d0 d1).flatMap (endsOf bs d2)
theorem endsOf_len (bs : List (Nat × Nat)) (d2 p : Nat) : (endsOf bs d2 p).length = 2 := by unfold endsOf; split <;> rfl
theorem flat_len (bs : List (Nat × Nat)) (d2 : Nat) : ∀ l : List Nat, (l.flatMap (endsOf bs d2)).length = 2 * l.length
  | [] => rfl
  | p :: l => by rw [List.flatMap_cons, List.length_append, endsOf_len, flat_len bs d2 l, List.length_cons]; omega
theorem ord_lt (d1 : Nat) : ∀ p ∈ ord d1, p < 6 := by unfold ord; split <;> decide
theorem rot_lt {d0 d1 p : Nat} (h : p ∈ rot d0 d1) : p < 6 := by
  unfold rot at h
  rcases List.mem_append.mp h with h | h
  · exact ord_lt d1 p (List.mem_of_mem_drop h)
  · exact ord_lt d1 p (List.mem_of_mem_take h)
theorem rot_len (d0 d1 : Nat) : (rot d0 d1).length = 6 := by
  unfold rot
  have : (ord d1).length = 6 := by unfold ord; split <;> rfl
  rw [List.length_append, List.length_drop, List.length_take, this]
  omega
theorem pk_idx : ∀ d0 : Fin 6, pickIdx 6 (some (d0.val : Int)) none none = (List.range 6).drop d0.val ∧ pickIdx 6 none (some (d0.val : Int)) none = (List.range 6).take d0.val := by decide +kernel
theorem pk_rev6 : pickIdx 6 none none (some (-1)) = [5, 4, 3, 2, 1, 0] := by decide +kernel
theorem pk_rev2 : pickIdx 2 none none (some (-1)) = [1, 0] := by decide +kernel
theorem pick_rev6 (a b c d e f : D) : pickD [a, b, c, d, e, f] none none (some (-1)) = [f, e, d, c, b, a] := by
  show (pickIdx 6 none none (some (-1))).filterMap _ = _
  rw [pk_rev6]; rfl
theorem pick_rev2 (a b : D) : pickD [a, b] none none (some (-1)) = [b, a] := by
  show (pickIdx 2 none none (some (-1))).filterMap _ = _
  rw [pk_rev2]; rfl
theorem pick_lo6 (a b c d e f : D) : ∀ d0 : Fin 6, pickD [a, b, c, d, e, f] (some (d0.val : Int)) none none = [a, b, c, d, e, f].drop d0.val := by
  intro d0
  show (pickIdx 6 (some (d0.val : Int)) none none).filterMap _ = _
  rw [(pk_idx d0).1]
  exact match d0 with
    | ⟨0, _⟩ => rfl
    | ⟨1, _⟩ => rfl
    | ⟨2, _⟩ => rfl
    | ⟨3, _⟩ => rfl
    | ⟨4, _⟩ => rfl
    | ⟨5, _⟩ => rfl
theorem pick_hi6 (a b c d e f : D) : ∀ d0 : Fin 6, pickD [a, b, c, d, e, f] none (some (d0.val : Int)) none = [a, b, c, d, e, f].take d0.val := by
  intro d0
  show (pickIdx 6 none (some (d0.val : Int)) none).filterMap _ = _
  rw [(pk_idx d0).2]
  exact match d0 with
    | ⟨0, _⟩ => rfl
    | ⟨1, _⟩ => rfl
    | ⟨2, _⟩ => rfl
    | ⟨3, _⟩ => rfl
    | ⟨4, _⟩ => rfl
    | ⟨5, _⟩ => rfl
theorem pick_lo (d1 : Nat) (d0 : Fin 6) : pickD ((ord d1).map nD) (some (d0.val : Int)) none none = ((ord d1).drop d0.val).map nD := by
  rw [List.map_drop]
  unfold ord
  split <;> exact pick_lo6 _ _ _ _ _ _ d0
theorem pick_hi (d1 : Nat) (d0 : Fin 6) : pickD ((ord d1).map nD) none (some (d0.val : Int)) none = ((ord d1).take d0.val).map nD := by
  rw [List.map_take]
  unfold ord
  split <;> exact pick_hi6 _ _ _ _ _ _ d0
theorem item4 : ∀ k : Fin 4, Txt.item "abcd" (k.val : Int) = ⟨#[97 + k.val]⟩ ∧ Txt.item "ABCD" (k.val : Int) = ⟨#[65 + k.val]⟩ := by decide +kernel
theorem item6 : ∀ k : Fin 6, Txt.item "uvwxyz" (k.val : Int) = ⟨#[117 + k.val]⟩ ∧ Txt.item "UVWXYZ" (k.val : Int) = ⟨#[85 + k.val]⟩ := by decide +kernel

section
variable {w : World} {mg mb : Str → Option Value} {A : Around} {n : Nat} {bs : List (Nat × Nat)} {d0 d1 d2 : Nat} {dr : List D}
theorem f_laid (a : AOk (n + 1) A) (hb : ∀ p ∈ bs, p.1 < 4 ∧ p.2 < 4) (hl : bs.length = 6) (h0 : d0 < 6) :
    Tr (cx w mg mb) A [.list (bs.map bgD), .list (nD d0 :: nD d1 :: nD d2 :: dr)] (K1 (.ref 277)) (.list ((laid bs d0 d1 d2).map hdD)) := by
  refine Fn (a := 277) rfl rfl a.lt [] ["begins", "dress"] ?_ rfl (by decide) (fun _ h => nomatch h) fun L' => ?_
  · intro vs h
    match vs, h with
    | [u, v], _ => rfl
  refine ExR.cons (StN.assign (Ev.list (EvL.cons Ev.cInt (EvL.cons Ev.cInt (EvL.cons Ev.cInt (EvL.cons Ev.cInt (EvL.cons Ev.cInt (EvL.cons Ev.cInt EvL.nil))))))) (.inl rfl)) ?_
  refine ExR.cons (StN.ife (b := d1 == 1) (Γ' := [("order", .d (.list ((ord d1).map nD))), ("begins", .d (.list (bs.map bgD))), ("dress", .d (.list (nD d0 :: nD d1 :: nD d2 :: dr)))]) (EvB.is ?_ (EvB.cmp (Ev.sub (Ev.name rfl) Ev.cInt (tGetL (by decide) (by decide) rfl)) Ev.cInt tEqI)) (fun hb => ?_) (fun hb => ?_)) ?_
  · show ((d1 : Int) == 1) = (d1 == 1)
    rw [Bool.eq_iff_iff]; simp; omega
  · refine ExN.sub (ExN.cons (StN.assign (Ev.cutL (st := some (-1)) (Ev.name rfl) EvP.no EvP.no (EvP.yes (Ev.un Ev.cInt tNeg)) (by decide)) (.inl rfl)) ExN.nil) (Sub.cons ?_ (Sub.cons rfl (Sub.cons rfl Sub.nil)))
    rw [pick_rev6]
    unfold ord
    rw [if_pos hb]; rfl
  · refine ExN.sub ExN.nil (Sub.cons ?_ (Sub.cons rfl (Sub.cons rfl Sub.nil)))
    unfold ord
    rw [if_neg (by rw [hb]; decide)]; rfl
  refine ExR.cons (StN.assign (Ev.list EvL.nil) (.inl rfl)) ?_
  have zo : ((ord d1).map nD).length = 6 := by unfold ord; split <;> rfl
  refine ExR.cons (StN.for_ (ds := (rot d0 d1).map nD) (fun i => [("told", .d (.list ((((rot d0 d1).take i).flatMap (endsOf bs d2)).map hdD))), ("begins", .d (.list (bs.map bgD))), ("dress", .d (.list (nD d0 :: nD d1 :: nD d2 :: dr)))])
    (EvI.of (d := .wlist ((rot d0 d1).map nD)) (Ev.weak (Ev.is (congrArg D.list ?_) (Ev.bin (Ev.cutL (Ev.name rfl) (EvP.yes (Ev.sub (Ev.name rfl) Ev.cInt (tGetL (by decide) (by decide) rfl))) EvP.no EvP.no (by decide) (by rw [zo]; decide)) (Ev.cutL (Ev.name rfl) EvP.no (EvP.yes (Ev.sub (Ev.name rfl) Ev.cInt (tGetL (by decide) (by decide) rfl))) EvP.no (by decide) (by rw [zo]; decide)) (tCat ?_)))) (tiL a.hh plain_name)) (Sub.cons rfl (Sub.cons rfl (Sub.cons rfl Sub.nil))) ?_) ?_
  · rw [pick_lo d1 ⟨d0, h0⟩, pick_hi d1 ⟨d0, h0⟩, ← List.map_append]; rfl
  · rw [pick_lo d1 ⟨d0, h0⟩, pick_hi d1 ⟨d0, h0⟩, ← List.length_append, ← List.map_append, List.length_map]
    show (rot d0 d1).length ≤ _
    rw [rot_len]; decide
  · intro i d hi
    obtain ⟨p, hpi, rfl⟩ := map_get hi
    have hp6 := rot_lt (List.mem_of_getElem? hpi)
    have hbp : bs[p]? = some (bs.getD p (0, 0)) := by
      rw [List.getD_eq_getElem?_getD, List.getElem?_eq_getElem (by omega)]; rfl
    obtain ⟨b1, b2⟩ := hb _ (List.mem_of_getElem? hbp)
    have hbD : (bs.map bgD)[(p : Int).toNat]? = some (bgD (bs.getD p (0, 0))) := by rw [Int.toNat_natCast, List.getElem?_map, hbp]; rfl
    obtain ⟨u1, _⟩ := item4 ⟨_, b1⟩
    obtain ⟨_, u2⟩ := item4 ⟨_, b2⟩
    obtain ⟨u3, u4⟩ := item6 ⟨_, hp6⟩
    have lt := (List.getElem?_eq_some_iff.mp hpi).1
    rw [rot_len] at lt
    have lenT : ((((rot d0 d1).take i).flatMap (endsOf bs d2)).map hdD).length = 2 * i := by rw [List.length_map, flat_len, List.length_take, rot_len]; omega
    refine ⟨_, Asg.name (.inl rfl), ExN.sub (ExN.cons (StN.assign (d := .list [hdD (97 + (bs.getD p (0, 0)).1, 117 + p), hdD (65 + (bs.getD p (0, 0)).2, 85 + p)])
      (Ev.list (EvL.cons (Ev.tuple (EvL.cons (Ev.is (congrArg D.str u1) (Ev.sub Ev.cStr (Ev.sub (d1 := bgD (bs.getD p (0, 0))) (Ev.sub (Ev.name rfl) (Ev.name (d := nD p) rfl) (tGetL (by omega) (by omega) hbD)) Ev.cInt (tGetT (by decide) (by decide) rfl)) (tGetS (by omega) (by show ((bs.getD p (0, 0)).1 : Int) < 4; omega) (by omega)))) (EvL.cons (Ev.is (congrArg D.str u3) (Ev.sub Ev.cStr (Ev.name (d := nD p) rfl) (tGetS (by omega) (by show (p : Int) < 6; omega) (by omega)))) EvL.nil)) (by show 2 ≤ 1000000; decide))
        (EvL.cons (Ev.tuple (EvL.cons (Ev.is (congrArg D.str u2) (Ev.sub Ev.cStr (Ev.sub (d1 := bgD (bs.getD p (0, 0))) (Ev.sub (Ev.name rfl) (Ev.name (d := nD p) rfl) (tGetL (by omega) (by omega) hbD)) Ev.cInt (tGetT (by decide) (by decide) rfl)) (tGetS (by omega) (by show ((bs.getD p (0, 0)).2 : Int) < 4; omega) (by omega)))) (EvL.cons (Ev.is (congrArg D.str u4) (Ev.sub Ev.cStr (Ev.name (d := nD p) rfl) (tGetS (by omega) (by show (p : Int) < 6; omega) (by omega)))) EvL.nil)) (by show 2 ≤ 1000000; decide)) EvL.nil)) (by show 2 ≤ 1000000; decide)) (.inl rfl))
      (ExN.cons (StN.assign (Ev.bin (Ev.name rfl) (Ev.ife (b := d2 == 1) (d := .list ((endsOf bs d2 p).map hdD)) (EvB.is ?_ (EvB.cmp (Ev.sub (Ev.name rfl) Ev.cInt (tGetL (by decide) (by decide) rfl)) Ev.cInt tEqI)) (fun hq => ?_) (fun hq => ?_)) (tCat ?_)) (.inl rfl)) ExN.nil)) (Sub.cons ?_ (Sub.cons rfl (Sub.cons rfl Sub.nil)))⟩
    · show ((d2 : Int) == 1) = (d2 == 1)
      rw [Bool.eq_iff_iff]; simp; omega
    · unfold endsOf
      rw [if_pos hq]
      exact Ev.is (congrArg D.list (pick_rev2 _ _)) (Ev.cutL (st := some (-1)) (Ev.name rfl) EvP.no EvP.no (EvP.yes (Ev.un Ev.cInt tNeg)) (by decide) (by show 2 ≤ 1000000; decide))
    · unfold endsOf
      rw [if_neg (by rw [hq]; decide)]
      exact Ev.name rfl
    · rw [lenT, List.length_map, endsOf_len]; omega
    · show some (Ent.d (D.list _)) = _
      rw [← List.map_append, List.take_add_one, hpi, List.flatMap_append]
      simp
  · refine ExR.ret (Ev.name ?_)
    rw [List.length_map, List.take_length]; rfl
end
end Mine

namespace Mine

def M4 : Int := 3355443
def partOf (b : Bool) (t s : Int) : Int := if b then Builtin.bitAnd (t * s) 3355443 else t * s
def mixOf (b : Bool) (n p : Int) : Int := if b then Builtin.bitAnd (n + p) 3355443 else Builtin.bitXor n p
def growT (b : Bool) (s : Int) (nums : List Int) (ts : List Int) : List Int := ts.flatMap fun t => nums.map fun n => mixOf b n (partOf b t s)
def grow (b : Bool) (nums : List Int) (s : Int) : List Int := growT b s nums [1, 2, 3]
def numsOf (b : Bool) (ss : List Int) : List Int := ss.foldl (grow b) [0]
def wordOf (n : Int) : Array UInt8 := apB 7 (16777216 + n.toNat)
def wordsOf (b : Bool) (ss : List Int) : List (Array UInt8) := sortB (((numsOf b ss).map wordOf).filter fun w => !w.contains 65)

theorem growT_len (b : Bool) (s : Int) (nums : List Int) : ∀ ts : List Int, (growT b s nums ts).length = ts.length * nums.length
  | [] => by simp [growT]
  | t :: ts => by
    have := growT_len b s nums ts
    unfold growT at this ⊢
    rw [List.flatMap_cons, List.length_append, this, List.length_map, List.length_cons, Nat.succ_mul]
    omega
theorem numsOf_len (b : Bool) (ss : List Int) : ∀ z : List Int, (ss.foldl (grow b) z).length = z.length * 3 ^ ss.length := by
  induction ss with
  | nil => intro z; simp
  | cons s ss ih =>
    intro z
    rw [List.foldl_cons, ih, grow, growT_len]
    show 3 * z.length * 3 ^ ss.length = z.length * 3 ^ (ss.length + 1)
    rw [Nat.pow_succ, Nat.mul_comm 3, Nat.mul_assoc, Nat.mul_comm 3]
theorem comp_map {α : Type} (g : α → D) (ds : List α) : (List.range ds.length).filterMap (fun i => (ds[i]?).bind fun n => some (g n)) = ds.map g := by
  rw [range_bind (fun n => some (g n)) ds]
  induction ds with
  | nil => rfl
  | cons d ds ih => rw [List.filterMap_cons, ih]; rfl

section
variable {w : World} {mg mb : Str → Option Value} {A : Around} {n : Nat} {ss : List Int} {b : Bool}
theorem f_words (a : AOk (n + 2) A) (hl : ss.length ≤ 3) (hn : ∀ x ∈ numsOf b ss, 0 ≤ x ∧ x < 16777216) :
    Tr (cx w mg mb) A [.list (ss.map .int), .bool b] (K1 (.ref 303)) (.list ((wordsOf b ss).map .bytes)) := by
  refine Fn (a := 303) rfl rfl a.lt ["part"] ["streams", "by_four"] ?_ rfl (by decide) (by decide) fun L' => ?_
  · intro vs h
    match vs, h with
    | [u, v], _ => rfl
  have lenN : ∀ i, (numsOf b (ss.take i)).length ≤ 27 := fun i => by
    unfold numsOf
    rw [numsOf_len]
    have : (ss.take i).length ≤ 3 := by rw [List.length_take]; omega
    have h3 : 3 ^ (ss.take i).length ≤ 3 ^ 3 := Nat.pow_le_pow_right (by decide) this
    simp only [List.length_cons, List.length_nil]
    omega
  refine ExR.cons (StN.assign (Ev.list (EvL.cons Ev.cInt EvL.nil)) (.inl rfl)) ?_
  refine ExR.cons (StN.for_ (ds := ss.map .int) (fun i => [("numbers", .d (.list ((numsOf b (ss.take i)).map .int))), ("by_four", .d (.bool b))]) (EvI.of (Ev.weak (Ev.name rfl)) (tiL a.hh plain_name)) (Sub.cons rfl (Sub.cons rfl Sub.nil)) ?_) ?_
  · intro i d hi
    obtain ⟨s, hsi, rfl⟩ := map_get hi
    have lenI := lenN i
    have next : numsOf b (ss.take (i + 1)) = growT b s (numsOf b (ss.take i)) [1, 2, 3] := by
      unfold numsOf
      rw [foldl_take _ _ hsi]; rfl
    generalize hnu : numsOf b (ss.take i) = nu at lenI next ⊢
    refine ⟨_, Asg.name (.inl rfl), ExN.sub (ExN.cons (StN.assign (Ev.list EvL.nil) (.inl rfl)) (ExN.cons (StN.for_ (ds := ([1, 2, 3] : List Int).map .int)
      (fun j => [("grown", .d (.list ((growT b s nu (([1, 2, 3] : List Int).take j)).map .int))), ("numbers", .d (.list (nu.map .int))), ("by_four", .d (.bool b)), ("stream", .d (.int s))])
      (EvI.of (Ev.weak (Ev.list (EvL.cons Ev.cInt (EvL.cons Ev.cInt (EvL.cons Ev.cInt EvL.nil))))) (tiL a.hh plain_name)) (Sub.cons rfl (Sub.cons rfl (Sub.cons rfl (Sub.cons rfl Sub.nil)))) ?_)
      (ExN.cons (StN.assign (Ev.name rfl) (.inl rfl)) ExN.nil))) (Sub.cons ?_ (Sub.cons rfl Sub.nil))⟩
    · intro j d hj
      obtain ⟨t, htj, rfl⟩ := map_get hj
      have ht : t.natAbs < 2 ^ 64 := by
        have := List.mem_of_getElem? htj
        simp at this
        rcases this with rfl | rfl | rfl <;> decide
      have hj3 : j < 3 := (List.getElem?_eq_some_iff.mp htj).1
      have nextT : growT b s nu (([1, 2, 3] : List Int).take (j + 1)) = growT b s nu (([1, 2, 3] : List Int).take j) ++ nu.map (fun n => mixOf b n (partOf b t s)) := by
        unfold growT
        rw [List.take_add_one, htj, List.flatMap_append]
        simp
      have lenT : (growT b s nu (([1, 2, 3] : List Int).take j)).length ≤ 100 := by
        rw [growT_len, List.length_take]
        simp only [List.length_cons, List.length_nil]
        have : min j 3 ≤ 3 := Nat.min_le_right _ _
        calc min j (0 + 1 + 1 + 1) * nu.length ≤ 3 * 27 := Nat.mul_le_mul this lenI
          _ ≤ 100 := by decide
      refine ⟨_, Asg.name (.inl rfl), ExN.sub (ExN.cons (StN.assign (Ev.call (.inl rfl) (.ref _ rfl) (EvL.cons (Ev.name rfl) (EvL.cons (Ev.name rfl) EvL.nil)) (f_imul (a.go _) ht)) (.inr (by decide)))
        (ExN.cons (StN.ife (b := b) (Γ' := [("grown", .d (.list ((growT b s nu (([1, 2, 3] : List Int).take (j + 1))).map .int))), ("numbers", .d (.list (nu.map .int))), ("by_four", .d (.bool b)), ("stream", .d (.int s))]) (EvB.valB (Ev.name rfl)) (fun hb => ?_) (fun hb => ?_)) ExN.nil)) Sub.refl⟩
      · refine ExN.sub (ExN.cons (StN.assign (Ev.call (.inl rfl) (.ref _ rfl) (EvL.cons (Ev.name rfl) (EvL.cons Ev.cInt EvL.nil)) (f_iand (a.go _))) (.inr (by decide))) (ExN.cons (StN.assign (Ev.bin (Ev.name rfl)
            (Ev.is (congrArg D.list (comp_map (fun n => D.int (mixOf b n (partOf b t s))) nu)) ((?_ : Ev _ _ _ _ _ _))) (tCat ?_)) (.inl rfl)) ExN.nil)) (Sub.cons ?_ (Sub.cons rfl (Sub.cons rfl (Sub.cons rfl Sub.nil))))
        · rw [← List.length_map (f := D.int)]
          refine Ev.comp (cl := [("part", L' + 1)]) (Γc := [("part", .d (.int (partOf b t s)))]) (Wc := []) _ ?_ (EvI.of (Ev.weak (Ev.name rfl)) (tiL a.hh plain_name)) (Sub.cons ?_ Sub.nil) ?_ (by rw [List.length_map]; omega)
          · refine { clos := by rfl, fn := rfl, names := by decide, clok := ⟨⟨rfl, rfl⟩, trivial⟩, cap := ⟨⟨.inl rfl, .inl rfl, ⟨_, rfl, fun C => rfl⟩⟩, trivial⟩, own := fun _ h => nomatch h }
          · unfold partOf
            rw [if_pos hb]; rfl
          · intro k d hk C
            obtain ⟨x, hx, rfl⟩ := map_get hk
            refine ⟨_, Asg.name (.inl rfl), Sub.drop, true, Tst.nil, fun q => (nomatch q), fun _ => ⟨.int (mixOf b x (partOf b t s)), by rw [hx]; rfl, ?_⟩⟩
            have hm : mixOf b x (partOf b t s) = Builtin.bitAnd (x + partOf b t s) 3355443 := by unfold mixOf; rw [if_pos hb]
            rw [hm]
            exact Ev.call (.inl rfl) (.ref _ rfl) (EvL.cons (Ev.call (.inl rfl) (.ref _ rfl) (EvL.cons (Ev.name rfl) (EvL.cons (Ev.name rfl) EvL.nil)) (f_iadd (a.go _))) (EvL.cons Ev.cInt EvL.nil)) (f_iand (a.go _))
        · rw [List.length_map, List.length_map]; omega
        · show some (Ent.d (D.list _)) = some (Ent.d (D.list _))
          rw [nextT, List.map_append, List.map_map]; rfl
      · refine ExN.sub (ExN.cons (StN.assign (Ev.bin (Ev.name rfl)
            (Ev.is (congrArg D.list (comp_map (fun n => D.int (mixOf b n (partOf b t s))) nu)) ((?_ : Ev _ _ _ _ _ _))) (tCat ?_)) (.inl rfl)) ExN.nil) (Sub.cons ?_ (Sub.cons rfl (Sub.cons rfl (Sub.cons rfl Sub.nil))))
        · rw [← List.length_map (f := D.int)]
          refine Ev.comp (cl := [("part", L' + 1)]) (Γc := [("part", .d (.int (partOf b t s)))]) (Wc := []) _ ?_ (EvI.of (Ev.weak (Ev.name rfl)) (tiL a.hh plain_name)) (Sub.cons ?_ Sub.nil) ?_ (by rw [List.length_map]; omega)
          · refine { clos := by rfl, fn := rfl, names := by decide, clok := ⟨⟨rfl, rfl⟩, trivial⟩, cap := ⟨⟨.inl rfl, .inl rfl, ⟨_, rfl, fun C => rfl⟩⟩, trivial⟩, own := fun _ h => nomatch h }
          · unfold partOf
            rw [if_neg (by rw [hb]; decide)]; rfl
          · intro k d hk C
            obtain ⟨x, hx, rfl⟩ := map_get hk
            refine ⟨_, Asg.name (.inl rfl), Sub.drop, true, Tst.nil, fun q => (nomatch q), fun _ => ⟨.int (mixOf b x (partOf b t s)), by rw [hx]; rfl, ?_⟩⟩
            have hm : mixOf b x (partOf b t s) = Builtin.bitXor x (partOf b t s) := by unfold mixOf; rw [if_neg (by rw [hb]; decide)]
            rw [hm]
            exact Ev.call (.inl rfl) (.ref _ rfl) (EvL.cons (Ev.name rfl) (EvL.cons (Ev.name rfl) EvL.nil)) (f_ixor (a.go _))
        · rw [List.length_map, List.length_map]; omega
        · show some (Ent.d (D.list _)) = some (Ent.d (D.list _))
          rw [nextT, List.map_append, List.map_map]; rfl
    · show some (Ent.d (D.list _)) = some (Ent.d (D.list _))
      rw [next]; rfl
  have hfin : numsOf b (ss.take ss.length) = numsOf b ss := by rw [List.take_length]
  have lenF := lenN ss.length
  rw [hfin] at lenF
  rw [List.length_map, hfin]
  refine ExR.cons (StN.is (congrArg (fun z => ((("words" : Str), Ent.d (D.list z)) :: ([("numbers", .d (.list ((numsOf b ss).map .int))), ("by_four", .d (.bool b))] : List (Str × Ent)) : Gam)) (comp_map (fun x => D.bytes (wordOf x)) (numsOf b ss))) (?_ : StN _ _ _ _ _ _ _)) ?_
  · rw [← List.length_map (f := D.int)]
    refine StN.assignComp (cl := []) (Γc := []) (Wc := []) _ ?_ (EvI.of (Ev.weak (Ev.name rfl)) (tiL a.hh plain_name)) Sub.nil ?_ rfl (by rfl) (by rw [List.length_map]; omega)
    · refine { clos := by rfl, fn := rfl, names := by decide, clok := trivial, cap := trivial, own := fun _ h => nomatch h }
    · intro k d hk C
      obtain ⟨x, hx, rfl⟩ := map_get hk
      obtain ⟨h0, h1⟩ := hn x (List.mem_of_getElem? hx)
      refine ⟨_, Asg.name (.inl rfl), Sub.nil, true, Tst.nil, fun q => (nomatch q), fun _ => ⟨.bytes (wordOf x), by rw [hx]; rfl, ?_⟩⟩
      have hab : (-(16 : Int) ^ (6 : Int).toNat - x).natAbs = 16777216 + x.toNat := by
        have : (16 : Int) ^ (6 : Int).toNat = 16777216 := by decide
        rw [this]; omega
      refine Ev.is ?_ (Ev.call (.inl rfl) (.ref _ rfl) (EvL.cons (Ev.bin (Ev.un (Ev.bin Ev.cInt Ev.cInt (tPow (by decide) (by decide) (by decide))) tNeg) (Ev.name rfl) tSub) EvL.nil) (f_Int2AP (a.go _) 7 (by decide) ?_ ?_))
      · rw [hab]; rfl
      · intro i hi
        rw [hab]
        have : 16 ^ i ≤ 16 ^ 6 := Nat.pow_le_pow_right (by decide) (by omega)
        have h2 : 0 < 16 ^ i := Nat.pow_pos (by decide)
        have := Nat.div_pos (a := 16777216 + x.toNat) (b := 16 ^ i) (by omega) h2
        omega
      · rw [hab]
        exact Nat.div_eq_of_lt (by omega)
  refine ExR.ret (Ev.call (.inr ⟨rfl, rfl, by decide⟩) (.bi _) (EvL.cons (Ev.weak (Ev.is (congrArg D.list ?_) (?_ : Ev _ _ _ _ _ (.list ((List.range ((numsOf b ss).map fun x => D.bytes (wordOf x)).length).filterMap fun i => ((numsOf b ss)[i]?).bind fun x => if !(wordOf x).contains 65 then some (.bytes (wordOf x)) else none))))) EvL.nil) (tSorted ?_))
  · rw [List.length_map, range_bind, filterMap_if (fun x => !(wordOf x).contains 65)]
    rw [List.filter_map, List.map_map]; rfl
  · refine Ev.comp (cl := []) (Γc := []) (Wc := []) _ ?_ (EvI.of (Ev.weak (Ev.name rfl)) (tiL a.hh plain_name)) Sub.nil ?_ (by rw [List.length_map]; omega)
    · refine { clos := by rfl, fn := rfl, names := by decide, clok := trivial, cap := trivial, own := fun _ h => nomatch h }
    · intro k d hk C
      obtain ⟨x, hx, rfl⟩ := map_get hk
      refine ⟨_, Asg.name (.inl rfl), Sub.nil, !(wordOf x).contains 65, Tst.one (EvB.is ?_ (EvB.bool (EvBs.and (EvB.cmp (Ev.call (.inr ⟨rfl, rfl, by decide⟩) (.ty _) (EvL.cons (Ev.name rfl) EvL.nil) tTypeY) (Ev.ty (.inr ⟨rfl, rfl, by decide⟩)) tIsTy) fun _ => EvBs.and (EvB.cmp (Ev.call (.inl rfl) (.ref _ rfl) (EvL.cons (Ev.name rfl) (EvL.cons Ev.cInt EvL.nil)) (f_contains (a.go _) (by decide) (by decide))) Ev.cBool tIsB) fun _ => EvBs.and0))), fun q => ?_, fun q => ⟨.bytes (wordOf x), ?_, Ev.name rfl⟩⟩
      · show (("bytes" == "bytes") && (((wordOf x).contains 65 == false) && true)) = _
        simp
      · rw [hx, Option.bind_some, q]; rfl
      · rw [hx, Option.bind_some, q]; rfl
  · have := List.length_filter_le (fun w => !w.contains 65) ((numsOf b ss).map wordOf)
    rw [List.length_map] at this
    omega
end
end Mine

namespace Mine

def mkW (fs : List Nat) : Array UInt8 := ((66 :: fs.map (65 + ·)).map (·.toUInt8)).toArray
theorem mkW_size (fs : List Nat) : (mkW fs).size = fs.length + 1 := by simp [mkW]
theorem mkW_cut (fs : List Nat) : (KBy.picked (mkW fs) (some 1) none).toList = (fs.map (65 + ·)).map (·.toUInt8) := by
  rw [KBc.picked_eq, List.toList_toArray]
  show ((mkW fs).toList.drop (clipAt (mkW fs).size 1)).take ((mkW fs).size - clipAt (mkW fs).size 1) = _
  rw [KBc.clip_lit, mkW_size, Nat.min_eq_left (Nat.succ_le_succ (Nat.zero_le _))]
  show (List.drop 1 ((66 :: fs.map (65 + ·)).map (·.toUInt8))).take _ = _
  rw [List.map_cons, List.drop_succ_cons, List.drop_zero]
  exact List.take_of_length_le (by simp)
theorem oct_cut {fs : List Nat} (h : ∀ f ∈ fs, f ≤ 3) : octD (KBy.picked (mkW fs) (some 1) none) = fs.map fun f => D.int ((65 + f : Nat) : Int) := by
  unfold octD
  rw [mkW_cut, List.map_map, List.map_map]
  refine List.map_congr_left fun f hf => ?_
  have := h f hf
  show D.int (((65 + f).toUInt8.toNat : Nat) : Int) = _
  rw [show (65 + f).toUInt8.toNat = 65 + f from by simp [UInt8.toNat_ofNat']; omega]
def flow (fs : List Nat) (bs : List (Nat × Nat)) (sel : Nat × Nat → Nat) (town : Nat) : Int := (((List.range 6).filter fun p => sel (bs.getD p (0, 0)) == town).map fun p => ((fs.getD p 0 : Nat) : Int)).sum

theorem beqI (a b : Nat) : ((a : Int) == (b : Int)) = (a == b) := by rw [Bool.eq_iff_iff]; simp; omega

section
variable {w : World} {mg mb : Str → Option Value} {A : Around} {n : Nat} {bs : List (Nat × Nat)} {fs : List Nat}
theorem f_runs (a : AOk (n + 1) A) (hl : bs.length = 6) (hf : ∀ f ∈ fs, f ≤ 3) (hfl : fs.length = 6) (hr : ∀ t, t < 3 → (flow fs bs (·.1) t - flow fs bs (·.2) t).fmod 4 = 0) :
    Tr (cx w mg mb) A [.bytes (mkW fs), .list (bs.map bgD)] (K1 (.ref 313)) (.bool true) := by
  refine Fn (a := 313) rfl rfl a.lt ["begins", "figures", "town"] ["word", "begins"] ?_ rfl (by decide) (by decide) fun L' => ?_
  · intro vs h
    match vs, h with
    | [u, v], _ => rfl
  refine ExR.cons (StN.assign (Ev.is (congrArg D.list (comp_map (fun f : Nat => D.int (f : Int)) fs)) (?_ : Ev _ _ _ _ _ _)) (.inr (by decide))) ?_
  · have hlen : fs.length = (octD (KBy.picked (mkW fs) (some 1) none)).length := by rw [oct_cut hf, List.length_map]
    rw [hlen]
    refine Ev.comp (cl := []) (Γc := []) (Wc := []) _ ?_ (EvI.of (Ev.cutY (Ev.name rfl) (EvP.yes Ev.cInt) EvP.no (by rw [mkW_size]; omega)) (tiY a.hh plain_name)) Sub.nil ?_ (by rw [← hlen]; omega)
    · refine { clos := by rfl, fn := rfl, names := by decide, clok := trivial, cap := trivial, own := fun _ h => nomatch h }
    · intro k d hk C
      rw [oct_cut hf] at hk
      obtain ⟨f, hx, rfl⟩ := map_get hk
      refine ⟨_, Asg.name (.inl rfl), Sub.nil, true, Tst.nil, fun q => (nomatch q), fun _ => ⟨.int (f : Int), by rw [hx]; rfl, ?_⟩⟩
      exact Ev.is (congrArg D.int (by omega)) (Ev.bin (Ev.name rfl) Ev.cInt tSub)
  refine ExR.ifr (b := false) (EvB.is (b := false || (false || (false || false))) rfl (EvB.bool (EvBs.or (a := false) ?_ fun _ => EvBs.or (a := false) ?_ fun _ => EvBs.or (a := false) ?_ fun _ => EvBs.or0))) (fun h => nomatch h) (fun _ => ?_)
  · refine EvB.is ?_ (EvB.cmp (Ev.call (.inr ⟨rfl, rfl, by decide⟩) (.bi _) (EvL.cons (Ev.name rfl) EvL.nil) (tLenY (b := mkW fs) (by rw [mkW_size]; omega))) Ev.cInt tNeI)
    rw [mkW_size, hfl]; rfl
  · exact EvB.is (by rfl) (EvB.cmp (Ev.sub (Ev.name rfl) Ev.cInt (tGetY (x := mkW fs) (by decide) (by rw [mkW_size]; omega) (by rw [mkW_size]; omega))) Ev.cInt tNeI)
  · refine EvB.cmp (Ev.weak (Ev.is (congrArg D.list (?_ : (List.range (fs.map fun f : Nat => D.int (f : Int)).length).filterMap (fun _ => (none : Option D)) = [])) ?_)) (Ev.weak (Ev.list EvL.nil)) (tNeL (es' := []) (ds := []) ?_ (fun _ => rfl))
    · rw [List.filterMap_eq_nil_iff]
      exact fun _ _ => rfl
    · refine Ev.comp (cl := []) (Γc := []) (Wc := []) _ ?_ (EvI.of (Ev.weak (Ev.name rfl)) (tiL a.hh plain_name)) Sub.nil ?_ (by rw [List.length_map]; omega)
      · refine { clos := by rfl, fn := rfl, names := by decide, clok := trivial, cap := trivial, own := fun _ h => nomatch h }
      · intro k d hk C
        obtain ⟨f, hx, rfl⟩ := map_get hk
        have := hf f (List.mem_of_getElem? hx)
        refine ⟨_, Asg.name (.inl rfl), Sub.nil, false, Tst.one (EvB.is ?_ (EvB.cmp (Ev.name rfl) Ev.cInt tGtI)), fun _ => rfl, fun q => (nomatch q)⟩
        exact decide_eq_false (by omega)
    · have hu := a.un
      show A.units + 3 + 0 + 1 < cLine
      omega
  refine ExR.cons (StN.for_ (ds := rangeD 0 ((3 : Nat) : Int)) (fun i => [("begins", .d (.list (bs.map bgD))), ("figures", .d (.list (fs.map fun f : Nat => D.int (f : Int))))]) (EvI.call (.inr ⟨rfl, rfl, by decide⟩) (.ty _) (EvL.cons Ev.cInt EvL.nil) (tcRange1 a.hh plain_name (by decide) (by decide))) (Sub.cons rfl (Sub.cons rfl Sub.nil)) ?_) (ExR.ret Ev.cBool)
  intro t d hi
  obtain ⟨ht, rfl⟩ := rangeD_get hi
  have item : ∀ p : Nat, p < 6 → (bs.map bgD)[(p : Int).toNat]? = some (bgD (bs.getD p (0, 0))) ∧ (fs.map fun f : Nat => D.int (f : Int))[(p : Int).toNat]? = some (.int ((fs.getD p 0 : Nat) : Int)) := fun p hp => by
    constructor
    · rw [Int.toNat_natCast, List.getElem?_map, List.getD_eq_getElem?_getD, List.getElem?_eq_getElem (by omega)]; rfl
    · rw [Int.toNat_natCast, List.getElem?_map, List.getD_eq_getElem?_getD, List.getElem?_eq_getElem (by omega)]; rfl
  have picks : ∀ sel : Nat × Nat → Nat, (List.range (rangeD 0 ((6 : Nat) : Int)).length).filterMap (fun p => if sel (bs.getD p (0, 0)) == t then some (D.int ((fs.getD p 0 : Nat) : Int)) else none) = (((List.range 6).filter fun p => sel (bs.getD p (0, 0)) == t).map fun p => ((fs.getD p 0 : Nat) : Int)).map D.int := fun sel => by
    rw [rangeD_len, filterMap_if (fun p => sel (bs.getD p (0, 0)) == t) (fun p => D.int ((fs.getD p 0 : Nat) : Int)), List.map_map]; rfl
  refine ⟨_, Asg.name (.inr (by decide)), ExN.sub (ExN.cons (StN.assign (d := .int (flow fs bs (·.1) t)) (Ev.call (.inr ⟨rfl, rfl, by decide⟩) (.bi _) (EvL.cons (Ev.weak (Ev.is (congrArg D.list (picks (·.1))) (?_ : Ev _ _ _ _ _ _))) EvL.nil) (tSum a.hh)) (.inl rfl))
    (ExN.cons (StN.assign (d := .int (flow fs bs (·.2) t)) (Ev.call (.inr ⟨rfl, rfl, by decide⟩) (.bi _) (EvL.cons (Ev.weak (Ev.is (congrArg D.list (picks (·.2))) (?_ : Ev _ _ _ _ _ _))) EvL.nil) (tSum a.hh)) (.inl rfl))
    (ExN.cons (StN.ife (b := false) (EvB.is ?_ (EvB.cmp (Ev.bin (Ev.bin (Ev.name rfl) (Ev.name rfl) tSub) Ev.cInt (tMod (by decide))) Ev.cInt tNeI)) (fun h => nomatch h) (fun _ => ExN.nil)) ExN.nil))) (Sub.cons rfl (Sub.cons rfl Sub.nil))⟩
  · refine Ev.comp (cl := [("town", L' + 3), ("figures", L' + 2), ("begins", L' + 1)]) (Γc := [("begins", .d (.list (bs.map bgD))), ("figures", .d (.list (fs.map fun f : Nat => D.int (f : Int)))), ("town", .d (.int (t : Int)))]) (Wc := []) _ ?_ (EvI.call (.inr ⟨rfl, rfl, by decide⟩) (.ty _) (EvL.cons Ev.cInt EvL.nil) (tcRange1 a.hh plain_name (by decide) (by decide))) (Sub.cons rfl (Sub.cons rfl (Sub.cons rfl Sub.nil))) ?_ (by rw [rangeD_len]; decide)
    · refine { clos := by rfl, fn := rfl, names := by decide, clok := ⟨⟨rfl, rfl⟩, ⟨rfl, rfl⟩, ⟨rfl, rfl⟩, trivial⟩, cap := ⟨⟨.inl rfl, .inl rfl, ⟨_, rfl, fun C => rfl⟩⟩, ⟨.inl rfl, .inl rfl, ⟨_, rfl, fun C => rfl⟩⟩, ⟨.inl rfl, .inl rfl, ⟨_, rfl, fun C => rfl⟩⟩, trivial⟩, own := fun _ h => nomatch h }
    · intro p d hk C
      obtain ⟨hp, rfl⟩ := rangeD_get hk
      obtain ⟨i1, i2⟩ := item p hp
      refine ⟨_, Asg.name (.inl rfl), Sub.drop, (bs.getD p (0, 0)).1 == t, Tst.one (EvB.is (beqI _ _) (EvB.cmp (Ev.sub (d1 := bgD (bs.getD p (0, 0))) (Ev.sub (Ev.name rfl) (Ev.name rfl) (tGetL (by omega) (by omega) i1)) Ev.cInt (tGetT (by decide) (by decide) rfl)) (Ev.name rfl) tEqI)), fun q => ?_, fun q => ⟨_, ?_, Ev.sub (Ev.name rfl) (Ev.name rfl) (tGetL (by omega) (by omega) i2)⟩⟩
      · simp only [q, Bool.false_eq_true, if_false]
      · simp only [q, if_true]
  · refine Ev.comp (cl := [("town", L' + 3), ("figures", L' + 2), ("begins", L' + 1)]) (Γc := [("begins", .d (.list (bs.map bgD))), ("figures", .d (.list (fs.map fun f : Nat => D.int (f : Int)))), ("town", .d (.int (t : Int)))]) (Wc := []) _ ?_ (EvI.call (.inr ⟨rfl, rfl, by decide⟩) (.ty _) (EvL.cons Ev.cInt EvL.nil) (tcRange1 a.hh plain_name (by decide) (by decide))) (Sub.cons rfl (Sub.cons rfl (Sub.cons rfl Sub.nil))) ?_ (by rw [rangeD_len]; decide)
    · refine { clos := by rfl, fn := rfl, names := by decide, clok := ⟨⟨rfl, rfl⟩, ⟨rfl, rfl⟩, ⟨rfl, rfl⟩, trivial⟩, cap := ⟨⟨.inl rfl, .inl rfl, ⟨_, rfl, fun C => rfl⟩⟩, ⟨.inl rfl, .inl rfl, ⟨_, rfl, fun C => rfl⟩⟩, ⟨.inl rfl, .inl rfl, ⟨_, rfl, fun C => rfl⟩⟩, trivial⟩, own := fun _ h => nomatch h }
    · intro p d hk C
      obtain ⟨hp, rfl⟩ := rangeD_get hk
      obtain ⟨i1, i2⟩ := item p hp
      refine ⟨_, Asg.name (.inl rfl), Sub.drop, (bs.getD p (0, 0)).2 == t, Tst.one (EvB.is (beqI _ _) (EvB.cmp (Ev.sub (d1 := bgD (bs.getD p (0, 0))) (Ev.sub (Ev.name rfl) (Ev.name rfl) (tGetL (by omega) (by omega) i1)) Ev.cInt (tGetT (by decide) (by decide) rfl)) (Ev.name rfl) tEqI)), fun q => ?_, fun q => ⟨_, ?_, Ev.sub (Ev.name rfl) (Ev.name rfl) (tGetL (by omega) (by omega) i2)⟩⟩
      · simp only [q, Bool.false_eq_true, if_false]
      · simp only [q, if_true]
  · rw [hr t ht]; rfl
end
end Mine

namespace Mine

theorem pairItems {X : Addr → Prop} {C : Addr} {s : Shared} {x y : Int} {vs : Array Value} (H : AtAll X C s [.int x, .int y] vs.toList) : ∃ t u, vs = intItems #[(x, t), (y, u)] := by
  obtain ⟨v1, v2, e, h1, h2⟩ := H.inv2
  simp only [At] at h1 h2
  obtain ⟨t, rfl⟩ := h1
  obtain ⟨u, rfl⟩ := h2
  refine ⟨t, u, ?_⟩
  rw [← Array.toList_inj, e]; simp [intItems]
theorem tMaxT {c : Cx} {A : Around} {x y : Int} (hh : A.handled = none) : Tr c A [.tuple [.int x, .int y]] (K1 (.builtin "max")) (.int (max x y)) := by
  intro X s vs L _ H
  obtain ⟨v, rfl, h1⟩ := H.inv1
  simp only [At] at h1
  obtain ⟨T, ws, rfl, _, hT, hr⟩ := h1
  obtain ⟨t, u, rfl⟩ := pairItems hr
  obtain ⟨o, ho, _⟩ := id hT
  have hne : s.heap.objs.size ≠ T := fun q => Nat.lt_irrefl _ (by have := ltN ho; rw [← q] at this; exact this)
  refine mono (call_max_walk (wpAny_pyIter_tuple hT ?_))
  refine ⟨_, [_, T], [_], _, _, _, _, rfl, Walks.tuple (A := A.in1) hh _ T (Ne.symm hne) (intItems #[(x, t), (y, u)]), ⟨⟨_, Heap.get?_push_size _ rfl, rfl, rfl⟩, hT.push _⟩, fun c hc => ?_, by simp [intItems], CmpOf.ints_gt (numAt #[(x, t), (y, u)]) (fun _ _ => intItems_at), fun v h' tk hP hk => ?_⟩
  · show c < (s.heap.push _).objs.size
    rw [Heap.size_push]
    rcases List.mem_cons.mp hc with rfl | hc
    · exact Nat.lt_succ_self _
    · rw [List.mem_singleton.mp hc]; exact Nat.lt_succ_of_lt (ltN ho)
  · have hold : ∀ c o, s.heap.get? c = some o → h'.get? c = some o := fun c o e => by
      refine hk c o (fun hm => ?_) (Heap.get?_push_of_some _ e)
      have := ltN e
      rw [List.mem_singleton.mp hm] at this
      exact Nat.lt_irrefl _ this
    have hP' : (intItems #[(x, t), (y, u)])[argBest (fun i j => decide (numAt #[(x, t), (y, u)] i > numAt #[(x, t), (y, u)] j)) 1]? = some v := by
      have hsz2 : (intItems #[(x, t), (y, u)]).size - 1 = 1 := by simp [intItems]
      rw [← hsz2]; exact hP
    refine fun hm => ⟨⟨h', tk, rfl, hold, hm⟩, ?_⟩
    by_cases hba : y > x
    · have e : argBest (fun i j => decide (numAt #[(x, t), (y, u)] i > numAt #[(x, t), (y, u)] j)) 1 = 1 := by simp [argBest, numAt, hba]
      rw [e] at hP'
      have : v = .int y u := by simpa [intItems] using hP'.symm
      rw [this, Int.max_eq_right (Int.le_of_lt hba)]; exact at_int
    · have e : argBest (fun i j => decide (numAt #[(x, t), (y, u)] i > numAt #[(x, t), (y, u)] j)) 1 = 0 := by simp [argBest, numAt, hba]
      rw [e] at hP'
      have : v = .int x t := by simpa [intItems] using hP'.symm
      rw [this, Int.max_eq_left (Int.not_lt.mp hba)]; exact at_int
theorem tMinT {c : Cx} {A : Around} {x y : Int} (hh : A.handled = none) : Tr c A [.tuple [.int x, .int y]] (K1 (.builtin "min")) (.int (min x y)) := by
  intro X s vs L _ H
  obtain ⟨v, rfl, h1⟩ := H.inv1
  simp only [At] at h1
  obtain ⟨T, ws, rfl, _, hT, hr⟩ := h1
  obtain ⟨t, u, rfl⟩ := pairItems hr
  obtain ⟨o, ho, _⟩ := id hT
  have hne : s.heap.objs.size ≠ T := fun q => Nat.lt_irrefl _ (by have := ltN ho; rw [← q] at this; exact this)
  refine mono (call_min_walk (wpAny_pyIter_tuple hT ?_))
  refine ⟨_, [_, T], [_], _, _, _, _, rfl, Walks.tuple (A := A.in1) hh _ T (Ne.symm hne) (intItems #[(x, t), (y, u)]), ⟨⟨_, Heap.get?_push_size _ rfl, rfl, rfl⟩, hT.push _⟩, fun c hc => ?_, by simp [intItems], CmpOf.ints_lt (numAt #[(x, t), (y, u)]) (fun _ _ => intItems_at), fun v h' tk hP hk => ?_⟩
  · show c < (s.heap.push _).objs.size
    rw [Heap.size_push]
    rcases List.mem_cons.mp hc with rfl | hc
    · exact Nat.lt_succ_self _
    · rw [List.mem_singleton.mp hc]; exact Nat.lt_succ_of_lt (ltN ho)
  · have hold : ∀ c o, s.heap.get? c = some o → h'.get? c = some o := fun c o e => by
      refine hk c o (fun hm => ?_) (Heap.get?_push_of_some _ e)
      have := ltN e
      rw [List.mem_singleton.mp hm] at this
      exact Nat.lt_irrefl _ this
    have hP' : (intItems #[(x, t), (y, u)])[argBest (fun i j => decide (numAt #[(x, t), (y, u)] i < numAt #[(x, t), (y, u)] j)) 1]? = some v := by
      have hsz2 : (intItems #[(x, t), (y, u)]).size - 1 = 1 := by simp [intItems]
      rw [← hsz2]; exact hP
    refine fun hm => ⟨⟨h', tk, rfl, hold, hm⟩, ?_⟩
    by_cases hba : y < x
    · have e : argBest (fun i j => decide (numAt #[(x, t), (y, u)] i < numAt #[(x, t), (y, u)] j)) 1 = 1 := by simp [argBest, numAt, hba]
      rw [e] at hP'
      have : v = .int y u := by simpa [intItems] using hP'.symm
      rw [this, Int.min_eq_right (Int.le_of_lt hba)]; exact at_int
    · have e : argBest (fun i j => decide (numAt #[(x, t), (y, u)] i < numAt #[(x, t), (y, u)] j)) 1 = 0 := by simp [argBest, numAt, hba]
      rw [e] at hP'
      have : v = .int x t := by simpa [intItems] using hP'.symm
      rw [this, Int.min_eq_left (Int.not_lt.mp hba)]; exact at_int
end Mine

namespace Mine

def ring (b : Nat × Nat) (chord : Nat) : Int := 2 ^ chord + ((List.range (max b.1 b.2 - min b.1 b.2)).map fun i => (2 : Int) ^ (min b.1 b.2 + i)).sum
def evStep (bs : List (Nat × Nat)) (ev : List Int) (ch : Nat) : List Int := ev ++ ev.map fun e => Builtin.bitXor e (ring (bs.getD ch (0, 0)) ch)
def evens (bs : List (Nat × Nat)) : List Int := ([3, 4, 5] : List Nat).foldl (evStep bs) [0]
def bitK (x : Int) (k : Nat) : Int := (x.fdiv (2 ^ k)).fmod 2
def pairL (one other : Int) : List Int := (List.range 6).map fun k => 65 + bitK one k + 2 * bitK other k
def pairW (one other : Int) : Array UInt8 := byteArr (66 :: pairL one other)
def others (ev : List Int) (one : Int) : List Int := ev.filter fun e => Builtin.bitOr one e == 63
def toldW (ev ones : List Int) : List (Array UInt8) := ones.flatMap fun one => (others ev one).map (pairW one)
def pairsOf2 (bs : List (Nat × Nat)) : List (Array UInt8) := sortB (toldW (evens bs) (evens bs))

theorem bitK_le (x : Int) (k : Nat) : 0 ≤ bitK x k ∧ bitK x k < 2 := ⟨Int.fmod_nonneg_of_pos _ (by decide), Int.fmod_lt_of_pos _ (by decide)⟩
theorem evens_len (bs : List (Nat × Nat)) : (evens bs).length = 8 := by
  unfold evens
  simp [evStep]
theorem rangeD_get2 {a b : Int} {i : Nat} {d : D} (h : (rangeD a b)[i]? = some d) : i < (b - a).toNat ∧ d = .int (a + i) := by
  unfold rangeD at h
  obtain ⟨j, ha, rfl⟩ := map_get h
  obtain ⟨h1, h2⟩ := List.getElem?_eq_some_iff.mp ha
  rw [List.length_range] at h1
  rw [List.getElem_range] at h2
  subst h2
  exact ⟨h1, rfl⟩
theorem comp_all (g : Nat → D) (n : Nat) : (List.range n).filterMap (fun i => some (g i)) = (List.range n).map g := by
  rw [show (fun (i : Nat) => some (g i)) = some ∘ g from rfl, List.filterMap_eq_map]

theorem ExR.thaw {c : Cx} {A : Around} {env : Env} {W : List Str} {Γ : Gam} {x : Str} {ds : List D} {d : D} {ss : List Stmt} (hl : Γ.lookup x = some (.m ds)) (hfr : onlyM x Γ = true) (h : ExR c A env W ((x, .d (.list ds)) :: Γ) ss d) : ExR c A env W Γ ss d :=
  fun s0 Xo X Y s G eo L F => (ExP.thaw L hl hfr (fun X Y s F => h s0 Xo X Y s G eo L F)) X Y s F

section
variable {w : World} {mg mb : Str → Option Value} {A : Around} {n : Nat} {bs : List (Nat × Nat)}
theorem f_pairs (a : AOk (n + 1) A) (hb : ∀ p ∈ bs, p.1 < 4 ∧ p.2 < 4) (hl : bs.length = 6) (hz : (toldW (evens bs) (evens bs)).length < 64) :
    Tr (cx w mg mb) A [.list (bs.map bgD)] (K1 (.ref 308)) (.list ((pairsOf2 bs).map .bytes)) := by
  refine Fn (a := 308) rfl rfl a.lt ["ring", "one", "other"] ["begins"] ?_ rfl (by decide) (by decide) fun L' => ?_
  · intro vs h
    match vs, h with
    | [u], _ => rfl
  refine ExR.cons (StN.assign (Ev.list (EvL.cons Ev.cInt EvL.nil)) (.inl rfl)) ?_
  refine ExR.cons (StN.for_ (ds := ([3, 4, 5] : List Nat).map nD) (fun i => [("evens", .d (.list (((([3, 4, 5] : List Nat).take i).foldl (evStep bs) [0]).map .int))), ("begins", .d (.list (bs.map bgD)))])
    (EvI.of (Ev.weak (Ev.list (EvL.cons Ev.cInt (EvL.cons Ev.cInt (EvL.cons Ev.cInt EvL.nil))))) (tiL a.hh plain_name)) (Sub.cons rfl (Sub.cons rfl Sub.nil)) ?_) ?_
  · intro i d hi
    obtain ⟨ch, hci, rfl⟩ := map_get hi
    have hch : 3 ≤ ch ∧ ch < 6 := by
      have := List.mem_of_getElem? hci
      simp at this; omega
    have hi3 : i < 3 := (List.getElem?_eq_some_iff.mp hci).1
    have hbp : bs[ch]? = some (bs.getD ch (0, 0)) := by
      rw [List.getD_eq_getElem?_getD, List.getElem?_eq_getElem (by omega)]; rfl
    obtain ⟨b1, b2⟩ := hb _ (List.mem_of_getElem? hbp)
    have hbD : (bs.map bgD)[(ch : Int).toNat]? = some (bgD (bs.getD ch (0, 0))) := by rw [Int.toNat_natCast, List.getElem?_map, hbp]; rfl
    have next := foldl_take (evStep bs) [0] hci
    have lenE : ∀ l : List Nat, ∀ z : List Int, (l.foldl (evStep bs) z).length = z.length * 2 ^ l.length := by
      intro l
      induction l with
      | nil => intro z; simp
      | cons x l ih =>
        intro z
        rw [List.foldl_cons, ih]
        simp only [evStep, List.length_append, List.length_map, List.length_cons, Nat.pow_succ]
        rw [← Nat.mul_two, Nat.mul_assoc, Nat.mul_comm 2]
    have lenI : ((([3, 4, 5] : List Nat).take i).foldl (evStep bs) [0]).length ≤ 8 := by
      rw [lenE]
      have : (([3, 4, 5] : List Nat).take i).length ≤ 3 := by rw [List.length_take]; exact Nat.min_le_right _ _
      have h3 : 2 ^ (([3, 4, 5] : List Nat).take i).length ≤ 2 ^ 3 := Nat.pow_le_pow_right (by decide) this
      simp only [List.length_cons, List.length_nil]
      omega
    generalize (([3, 4, 5] : List Nat).take i).foldl (evStep bs) [0] = ev at next lenI ⊢
    generalize hbq : bs.getD ch (0, 0) = b at *
    refine ⟨_, Asg.name (.inl rfl), ExN.sub (ExN.cons (StN.assign (d := .int (ring b ch)) (Ev.is (congrArg D.int (?_ : (2 : Int) ^ ((ch : Int)).toNat + ((List.range (max b.1 b.2 - min b.1 b.2)).map fun i => (2 : Int) ^ (min b.1 b.2 + i)).sum = ring b ch)) (Ev.bin (Ev.bin Ev.cInt (Ev.name (d := nD ch) rfl) (tPow (by omega) (by omega) (by decide)))
      (Ev.call (.inr ⟨rfl, rfl, by decide⟩) (.bi _) (EvL.cons (Ev.weak (Ev.is (congrArg D.list ?_) (?_ : Ev _ _ _ _ _ (.list ((List.range (rangeD (min (b.1 : Int) b.2) (max (b.1 : Int) b.2)).length).filterMap fun i => some (D.int ((2 : Int) ^ (min b.1 b.2 + i)))))))) EvL.nil) (tSum a.hh)) tAdd)) (.inr (by decide)))
      (ExN.cons (StN.assign (Ev.bin (Ev.name rfl) (Ev.is (congrArg D.list (comp_map (fun e => D.int (Builtin.bitXor e (ring b ch))) ev)) (?_ : Ev _ _ _ _ _ _)) (tCat ?_)) (.inl rfl)) ExN.nil)) (Sub.cons ?_ (Sub.cons rfl Sub.nil))⟩
    · rw [Int.toNat_natCast]; rfl
    · have hlen : (rangeD (min (b.1 : Int) b.2) (max (b.1 : Int) b.2)).length = max b.1 b.2 - min b.1 b.2 := by
        unfold rangeD
        rw [List.length_map, List.length_range]; omega
      rw [hlen, comp_all, List.map_map]; rfl
    · refine Ev.comp (cl := []) (Γc := []) (Wc := []) _ ?_ (EvI.call (.inr ⟨rfl, rfl, by decide⟩) (.ty _) (EvL.cons (Ev.call (.inr ⟨rfl, rfl, by decide⟩) (.bi _) (EvL.cons (Ev.sub (d1 := .list (bs.map bgD)) (Ev.name rfl) (Ev.name (d := nD ch) rfl) (tGetL (by omega) (by omega) hbD)) EvL.nil) (tMinT a.hh)) (EvL.cons (Ev.call (.inr ⟨rfl, rfl, by decide⟩) (.bi _) (EvL.cons (Ev.sub (d1 := .list (bs.map bgD)) (Ev.name rfl) (Ev.name (d := nD ch) rfl) (tGetL (by omega) (by omega) hbD)) EvL.nil) (tMaxT a.hh)) EvL.nil))
        (tcRange2 a.hh plain_name (by omega) (by omega) (by omega) (by omega))) Sub.nil ?_ ?_
      · refine { clos := by rfl, fn := rfl, names := by decide, clok := trivial, cap := trivial, own := fun _ h => nomatch h }
      · intro k d hk C
        obtain ⟨h1, rfl⟩ := rangeD_get2 hk
        refine ⟨_, Asg.name (.inl rfl), Sub.nil, true, Tst.nil, fun q => (nomatch q), fun _ => ⟨_, rfl, Ev.is (congrArg D.int ?_) (Ev.bin Ev.cInt (Ev.name rfl) (tPow (by omega) (by omega) (by decide)))⟩⟩
        congr 1
        omega
      · unfold rangeD
        rw [List.length_map, List.length_range]; omega
    · rw [← List.length_map (f := D.int)]
      refine Ev.comp (cl := [("ring", L' + 1)]) (Γc := [("ring", .d (.int (ring b ch)))]) (Wc := []) _ ?_ (EvI.of (Ev.weak (Ev.name rfl)) (tiL a.hh plain_name)) (Sub.cons rfl Sub.nil) ?_ (by rw [List.length_map]; omega)
      · refine { clos := by rfl, fn := rfl, names := by decide, clok := ⟨⟨rfl, rfl⟩, trivial⟩, cap := ⟨⟨.inl rfl, .inl rfl, ⟨_, rfl, fun C => rfl⟩⟩, trivial⟩, own := fun _ h => nomatch h }
      · intro k d hk C
        obtain ⟨x, hx, rfl⟩ := map_get hk
        exact ⟨_, Asg.name (.inl rfl), Sub.drop, true, Tst.nil, fun q => (nomatch q), fun _ => ⟨.int (Builtin.bitXor x (ring b ch)), by rw [hx]; rfl, Ev.bin (Ev.name rfl) (Ev.name rfl) tXor⟩⟩
    · rw [List.length_map, List.length_map]; omega
    · rw [next]
      show some (Ent.d (D.list _)) = some (Ent.d (D.list _))
      unfold evStep
      rw [hbq, List.map_append, List.map_map]; rfl
  have hev : (([3, 4, 5] : List Nat).take (([3, 4, 5] : List Nat).map nD).length).foldl (evStep bs) [0] = evens bs := rfl
  rw [hev]
  have hlen := evens_len bs
  unfold pairsOf2
  generalize evens bs = ev at hlen hz ⊢
  have lenT : ∀ l : List Int, (toldW ev l).length ≤ l.length * 8 := by
    intro l
    induction l with
    | nil => exact Nat.zero_le _
    | cons x l ih =>
      unfold toldW at ih ⊢
      rw [List.flatMap_cons, List.length_append, List.length_map, List.length_cons]
      have h8 : (others ev x).length ≤ 8 := by
        have := List.length_filter_le (fun e => Builtin.bitOr x e == 63) ev
        unfold others
        omega
      omega
  refine ExR.cons (StN.assignM EvL.nil (.inl rfl)) ?_
  refine ExR.cons (StN.for_ (ds := ev.map .int) (fun i => [("told", .m ((toldW ev (ev.take i)).map .bytes)), ("evens", .d (.list (ev.map .int)))]) (EvI.of (Ev.weak (Ev.name rfl)) (tiL a.hh plain_name)) (Sub.cons rfl (Sub.cons rfl Sub.nil)) ?_) ?_
  · intro i d hi
    obtain ⟨one, hoi, rfl⟩ := map_get hi
    have hi8 : i < 8 := by have := (List.getElem?_eq_some_iff.mp hoi).1; omega
    have next : toldW ev (ev.take (i + 1)) = toldW ev (ev.take i) ++ (others ev one).map (pairW one) := by
      unfold toldW
      rw [List.take_add_one, hoi, List.flatMap_append]
      simp
    have lenI : (toldW ev (ev.take i)).length ≤ 64 := by
      have := lenT (ev.take i)
      rw [List.length_take] at this
      omega
    have lenO : (others ev one).length ≤ 8 := by
      have := List.length_filter_le (fun e => Builtin.bitOr one e == 63) ev
      unfold others
      omega
    refine ⟨_, Asg.name (.inr (by decide)), ExN.sub (ExN.cons (StN.for_ (ds := (others ev one).map .int) (fun j => [("told", .m ((toldW ev (ev.take i) ++ ((others ev one).take j).map (pairW one)).map .bytes)), ("evens", .d (.list (ev.map .int))), ("one", .d (.int one))])
      (EvI.of (d := .wlist ((others ev one).map .int)) (Ev.weak (Ev.is (congrArg D.list (?_ : (List.range (ev.map D.int).length).filterMap (fun i => (ev[i]?).bind fun e => if Builtin.bitOr one e == 63 then some (.int e) else none) = _)) (?_ : Ev _ _ _ _ _ _))) (tiL a.hh plain_name)) (Sub.cons ?_ (Sub.cons rfl (Sub.cons rfl Sub.nil))) ?_) ExN.nil) (Sub.cons ?_ (Sub.cons rfl Sub.nil))⟩
    · rw [List.length_map, range_bind, filterMap_if (fun e => Builtin.bitOr one e == 63)]; rfl
    · refine Ev.comp (cl := [("one", L' + 2)]) (Γc := [("one", .d (.int one))]) (Wc := []) _ ?_ (EvI.of (Ev.weak (Ev.name rfl)) (tiL a.hh plain_name)) (Sub.cons rfl Sub.nil) ?_ (by rw [List.length_map]; omega)
      · refine { clos := by rfl, fn := rfl, names := by decide, clok := ⟨⟨rfl, rfl⟩, trivial⟩, cap := ⟨⟨.inl rfl, .inl rfl, ⟨_, rfl, fun C => rfl⟩⟩, trivial⟩, own := fun _ h => nomatch h }
      · intro k d hk C
        obtain ⟨e, hx, rfl⟩ := map_get hk
        refine ⟨_, Asg.name (.inl rfl), Sub.drop, Builtin.bitOr one e == 63, Tst.one (EvB.cmp (Ev.bin (Ev.name rfl) (Ev.name rfl) tOr) Ev.cInt tEqI), fun q => ?_, fun q => ⟨.int e, ?_, Ev.name rfl⟩⟩
        · rw [hx, Option.bind_some, q]; rfl
        · rw [hx, Option.bind_some, q]; rfl
    · simp
      rfl
    · intro j d hj
      obtain ⟨other, hoj, rfl⟩ := map_get hj
      have hj8 : j < (others ev one).length := (List.getElem?_eq_some_iff.mp hoj).1
      refine ⟨_, Asg.name (.inr (by decide)), ExN.sub (ExN.cons (StN.append (d := .bytes (pairW one other)) rfl (Ev.call (.inr ⟨rfl, rfl, by decide⟩) (.ty _) (EvL.cons (Ev.weak (Ev.is (congrArg D.list (?_ : [D.int 66] ++ (List.range (rangeD 0 ((6 : Nat) : Int)).length).filterMap (fun k => some (D.int (65 + bitK one k + 2 * bitK other k))) = (66 :: pairL one other).map D.int)) (Ev.bin (Ev.list (EvL.cons Ev.cInt EvL.nil)) (?_ : Ev _ _ _ _ _ _) (tCat ?_)))) EvL.nil) (tBytes a.hh ?_ ?_)) rfl rfl ?_) ExN.nil) (Sub.cons ?_ (Sub.cons rfl (Sub.cons rfl Sub.nil)))⟩
      · rw [rangeD_len, comp_all]
        unfold pairL
        rw [List.map_cons, List.map_map]; rfl
      · refine Ev.comp (cl := [("other", L' + 3), ("one", L' + 2)]) (Γc := [("other", .d (.int other)), ("one", .d (.int one))]) (Wc := []) _ ?_ (EvI.call (.inr ⟨rfl, rfl, by decide⟩) (.ty _) (EvL.cons Ev.cInt EvL.nil) (tcRange1 a.hh plain_name (by decide) (by decide))) (Sub.cons rfl (Sub.cons rfl Sub.nil)) ?_ (by rw [rangeD_len]; decide)
        · refine { clos := by rfl, fn := rfl, names := by decide, clok := ⟨⟨rfl, rfl⟩, ⟨rfl, rfl⟩, trivial⟩, cap := ⟨⟨.inl rfl, .inl rfl, ⟨_, rfl, fun C => rfl⟩⟩, ⟨.inl rfl, .inl rfl, ⟨_, rfl, fun C => rfl⟩⟩, trivial⟩, own := fun _ h => nomatch h }
        · intro k d hk C
          obtain ⟨hk6, rfl⟩ := rangeD_get hk
          have hpow : (2 : Int) ^ ((k : Int)).toNat = ((2 ^ k : Nat) : Int) := by rw [Int.toNat_natCast]; simp
          have hpb : 2 ^ k ≤ 2 ^ 6 := Nat.pow_le_pow_right (by decide) (by omega)
          have hpp : 0 < 2 ^ k := Nat.pow_pos (by decide)
          have cut : ∀ {A' env Γ e1 e2 p1 p2 p3 p4 p5 k1 k2} (x : Int), Ev (cx w mg mb) A' env Γ e1 (.int x) → Ev (cx w mg mb) A' env Γ e2 (.int (k : Int)) → Ev (cx w mg mb) A' env Γ (.BinOp (.BinOp e1 .FloorDiv (.BinOp (.Constant (.int 2) k1 p1) .Pow e2 p2) p3) .Mod (.Constant (.int 2) k2 p5) p4) (.int (bitK x k)) := fun x h1 h2 => by
            refine Ev.is (congrArg D.int ?_) (Ev.bin (Ev.bin h1 (Ev.bin Ev.cInt h2 (tPow (by omega) (by omega) (by decide))) (tDiv ?_ ?_)) Ev.cInt (tMod (by decide)))
            · rw [Int.toNat_natCast]; rfl
            · rw [hpow]; omega
            · rw [hpow, Int.natAbs_natCast]; omega
          refine ⟨_, Asg.name (.inl rfl), Sub.drop, true, Tst.nil, fun q => (nomatch q), fun _ => ⟨_, rfl, Ev.bin (Ev.bin Ev.cInt (cut one ?_ ?_) tAdd) (Ev.bin Ev.cInt (cut other ?_ ?_) (tMul (by decide))) tAdd⟩⟩ <;> exact Ev.name rfl
      · rw [rangeD_len, comp_all, List.length_map, List.length_range]; decide
      · intro x hx
        rcases List.mem_cons.mp hx with rfl | hx
        · decide
        · unfold pairL at hx
          obtain ⟨k, _, rfl⟩ := List.mem_map.mp hx
          have h1 := bitK_le one k
          have h2 := bitK_le other k
          omega
      · unfold pairL
        rw [List.length_cons, List.length_map, List.length_range]; decide
      · rw [List.length_map, List.length_append, List.length_map, List.length_take]; omega
      · show some (Ent.m _) = some (Ent.m _)
        rw [List.take_add_one, hoj]
        simp
    · show some (Ent.m _) = some (Ent.m _)
      rw [next, List.length_map, List.take_length]
  · rw [List.length_map, List.take_length]
    exact ExR.thaw (x := "told") rfl rfl (ExR.ret (Ev.call (.inr ⟨rfl, rfl, by decide⟩) (.bi _) (EvL.cons (Ev.weak (Ev.name rfl)) EvL.nil) (tSorted hz)))
end
end Mine

namespace Mine

/-! the plain law: sums over the laid headers -/
theorem sum_flat {α : Type} (F : α → Int) (g : Nat → List α) : ∀ l : List Nat, ((l.flatMap g).map F).sum = (l.map fun p => ((g p).map F).sum).sum
  | [] => rfl
  | p :: l => by rw [List.flatMap_cons, List.map_append, List.sum_append, sum_flat F g l, List.map_cons, List.sum_cons]
theorem sum_rot (G : Nat → Int) (v : Nat) : ∀ r : Fin 6, ((rot r.val v).map G).sum = G 0 + G 1 + G 2 + G 3 + G 4 + G 5 := by
  intro r
  unfold rot ord
  split
  · match r with
    | ⟨0, _⟩ => simp; omega
    | ⟨1, _⟩ => simp; omega
    | ⟨2, _⟩ => simp; omega
    | ⟨3, _⟩ => simp; omega
    | ⟨4, _⟩ => simp; omega
    | ⟨5, _⟩ => simp; omega
  · match r with
    | ⟨0, _⟩ => simp; omega
    | ⟨1, _⟩ => simp; omega
    | ⟨2, _⟩ => simp; omega
    | ⟨3, _⟩ => simp; omega
    | ⟨4, _⟩ => simp; omega
    | ⟨5, _⟩ => simp; omega
theorem sum_ends (F : Nat × Nat → Int) (bs : List (Nat × Nat)) (e p : Nat) : ((endsOf bs e p).map F).sum = F (97 + (bs.getD p (0, 0)).1, 117 + p) + F (65 + (bs.getD p (0, 0)).2, 85 + p) := by
  unfold endsOf
  split
  · simp; omega
  · simp
def sum6 (G : Nat → Int) : Int := G 0 + G 1 + G 2 + G 3 + G 4 + G 5
theorem sum6_congr {G H : Nat → Int} (h : ∀ p : Fin 6, G p.val = H p.val) : sum6 G = sum6 H := by
  have h0 := h 0; have h1 := h 1; have h2 := h 2; have h3 := h 3; have h4 := h 4; have h5 := h 5
  unfold sum6
  exact congr (congrArg _ (congr (congrArg _ (congr (congrArg _ (congr (congrArg _ (congr (congrArg _ h0) h1)) h2)) h3)) h4)) h5
theorem sum_laid (F : Nat × Nat → Int) (bs : List (Nat × Nat)) (r v e : Nat) (hr : r < 6) :
    ((laid bs r v e).map F).sum = sum6 fun p => F (97 + (bs.getD p (0, 0)).1, 117 + p) + F (65 + (bs.getD p (0, 0)).2, 85 + p) := by
  unfold laid
  rw [sum_flat, sum_rot _ v ⟨r, hr⟩]
  simp only [sum_ends]
  rfl

/-! still -/
theorem xor01 {x y : Int} (hx : x = 0 ∨ x = 1) (hy : y = 0 ∨ y = 1) : Builtin.bitXor x y = (x + y) % 2 := by
  rcases hx with rfl | rfl <;> rcases hy with rfl | rfl <;> decide
theorem fold01 {α : Type} (g : α → Int) : ∀ (l : List α) (z : Int), (z = 0 ∨ z = 1) → (∀ p ∈ l, g p = 0 ∨ g p = 1) → l.foldl (fun l p => Builtin.bitXor l (g p)) z = (z + (l.map g).sum) % 2
  | [], z, hz, _ => by
    rcases hz with rfl | rfl <;> rfl
  | p :: l, z, hz, h => by
    have hp := h p List.mem_cons_self
    rw [List.foldl_cons, xor01 hz hp, fold01 g l _ (by omega) (fun q hq => h q (List.mem_cons_of_mem _ hq)), List.map_cons, List.sum_cons]
    omega
theorem sum_filter (F : Nat × Nat → Int) (q : Nat × Nat → Bool) : ∀ l : List (Nat × Nat), ((l.filter q).map F).sum = (l.map fun p => if q p then F p else 0).sum
  | [] => rfl
  | p :: l => by
    have := sum_filter F q l
    cases h : q p <;> simp [List.filter_cons, h, this]
def cnt (c : Nat × Nat) (t : Nat) : Int := (if c.1 == t then 1 else 0) + (if c.2 == t then 1 else 0)
def sgn (c : Nat × Nat) (t : Nat) : Int := (if c.1 == t then 1 else 0) - (if c.2 == t then 1 else 0)
theorem lowN (t : Nat) : lw (97 + t) = 97 + t := by unfold lw; rw [if_neg (by omega)]
theorem lowU (t : Nat) (h : t < 32) : lw (65 + t) = 97 + t := by unfold lw; rw [if_pos (by omega)]; omega
theorem pIdx6 : ∀ p : Fin 6, pIdx (117 + p.val) % 6 = p.val ∧ pIdx (85 + p.val) % 6 = p.val := by decide +kernel
theorem beq_add (a b : Nat) : (97 + a == 97 + b) = (a == b) := by rw [Bool.eq_iff_iff]; simp

theorem stillK_eq {bs : List (Nat × Nat)} {r v e q t : Nat} {fs : List Int} (hr : r < 6) (hb : ∀ p, (bs.getD p (0, 0)).2 < 4) (hq : lw q = 97 + t) (hf : ∀ i, fs.getD i 0 = 0 ∨ fs.getD i 0 = 1) :
    stillK (laid bs r v e) q fs = (sum6 fun p => fs.getD p 0 * cnt (bs.getD p (0, 0)) t) % 2 := by
  unfold stillK getAll
  rw [fold01 (fun p => fs.getD (pIdx p % 6) 0) _ 0 (.inl rfl) (fun p _ => hf _), List.map_map, sum_filter, sum_laid _ _ _ _ _ hr, Int.zero_add]
  congr 1
  refine sum6_congr fun p => ?_
  have h4 := hb p.val
  obtain ⟨i1, i2⟩ := pIdx6 p
  simp only [Function.comp]
  rw [lowN, lowU _ (by omega), hq, beq_add, beq_add, i1, i2]
  unfold cnt
  split <;> split <;> omega
end Mine

namespace Mine

def pk (o k : Nat) : Nat × Nat := if o == 1 then (k + 1, k) else (k, k + 1)
def mkB (o0 o1 o2 : Nat) (c3 c4 c5 : Nat × Nat) : List (Nat × Nat) := [pk o0 0, pk o1 1, pk o2 2, c3, c4, c5]
def lm (c : Nat × Nat) (j : Nat) : Int := if min c.1 c.2 ≤ j ∧ j < max c.1 c.2 then 1 else 0
theorem lm01 (c : Nat × Nat) (j : Nat) : lm c j = 0 ∨ lm c j = 1 := by unfold lm; split <;> simp
theorem lm_step : ∀ a b : Fin 4, cnt (a.val, b.val) 0 % 2 = lm (a.val, b.val) 0 ∧ (lm (a.val, b.val) 0 + cnt (a.val, b.val) 1) % 2 = lm (a.val, b.val) 1 ∧ (lm (a.val, b.val) 1 + cnt (a.val, b.val) 2) % 2 = lm (a.val, b.val) 2 := by decide +kernel
theorem cnt_pk (o : Nat) : cnt (pk o 0) 1 = 1 ∧ cnt (pk o 0) 2 = 0 ∧ cnt (pk o 1) 2 = 1 := by
  unfold pk
  split <;> decide
theorem pk_lt (o k : Nat) (h : k < 3) : (pk o k).1 < 4 ∧ (pk o k).2 < 4 := by
  unfold pk
  split <;> (dsimp only; omega)
/-- unit of a chord -/
def unitC (ch : Nat) (x0 x1 x2 : Int) : List Int := if ch == 3 then [x0, x1, x2, 1, 0, 0] else if ch == 4 then [x0, x1, x2, 0, 1, 0] else [x0, x1, x2, 0, 0, 1]

section
variable {o0 o1 o2 r v e : Nat} {c3 c4 c5 : Nat × Nat} {q : Nat → Nat}
theorem mkB_lt (h3 : c3.1 < 4 ∧ c3.2 < 4) (h4 : c4.1 < 4 ∧ c4.2 < 4) (h5 : c5.1 < 4 ∧ c5.2 < 4) : ∀ p ∈ mkB o0 o1 o2 c3 c4 c5, p.1 < 4 ∧ p.2 < 4 := by
  intro p hp
  simp only [mkB, List.mem_cons, List.not_mem_nil, or_false] at hp
  rcases hp with rfl | rfl | rfl | rfl | rfl | rfl
  · exact pk_lt _ _ (by decide)
  · exact pk_lt _ _ (by decide)
  · exact pk_lt _ _ (by decide)
  · exact h3
  · exact h4
  · exact h5
theorem getD_lt {bs : List (Nat × Nat)} (h : ∀ p ∈ bs, p.1 < 4 ∧ p.2 < 4) (i : Nat) : (bs.getD i (0, 0)).1 < 4 ∧ (bs.getD i (0, 0)).2 < 4 := by
  rw [List.getD_eq_getElem?_getD]
  cases e : bs[i]? with
  | none => exact ⟨by decide, by decide⟩
  | some p => exact h p (List.mem_of_getElem? e)
theorem unit01 {ch : Nat} {x0 x1 x2 : Int} (h0 : x0 = 0 ∨ x0 = 1) (h1 : x1 = 0 ∨ x1 = 1) (h2 : x2 = 0 ∨ x2 = 1) : ∀ i, (unitC ch x0 x1 x2).getD i 0 = 0 ∨ (unitC ch x0 x1 x2).getD i 0 = 1 := by
  intro i
  unfold unitC
  have key : ∀ a b c d e f : Int, (a = 0 ∨ a = 1) → (b = 0 ∨ b = 1) → (c = 0 ∨ c = 1) → (d = 0 ∨ d = 1) → (e = 0 ∨ e = 1) → (f = 0 ∨ f = 1) → ([a, b, c, d, e, f].getD i 0 = 0 ∨ [a, b, c, d, e, f].getD i 0 = 1) := by
    intro a b c d e f ha hb hc hd he hf
    match i with
    | 0 => exact ha
    | 1 => exact hb
    | 2 => exact hc
    | 3 => exact hd
    | 4 => exact he
    | 5 => exact hf
    | n + 6 => exact .inl rfl
  split
  · exact key _ _ _ _ _ _ h0 h1 h2 (.inr rfl) (.inl rfl) (.inl rfl)
  · split
    · exact key _ _ _ _ _ _ h0 h1 h2 (.inl rfl) (.inr rfl) (.inl rfl)
    · exact key _ _ _ _ _ _ h0 h1 h2 (.inl rfl) (.inl rfl) (.inr rfl)

theorem still_eq (hr : r < 6) (h3 : c3.1 < 4 ∧ c3.2 < 4) (h4 : c4.1 < 4 ∧ c4.2 < 4) (h5 : c5.1 < 4 ∧ c5.2 < 4) (hq : ∀ k, k < 3 → lw (q k) = 97 + k) {ch : Nat} (hc : ch = 3 ∨ ch = 4 ∨ ch = 5) :
    still (laid (mkB o0 o1 o2 c3 c4 c5) r v e) q ch = unitC ch (lm ((mkB o0 o1 o2 c3 c4 c5).getD ch (0, 0)) 0) (lm ((mkB o0 o1 o2 c3 c4 c5).getD ch (0, 0)) 1) (lm ((mkB o0 o1 o2 c3 c4 c5).getD ch (0, 0)) 2) := by
  have hb := getD_lt (mkB_lt (o0 := o0) (o1 := o1) (o2 := o2) h3 h4 h5)
  have z : (0 : Int) = 0 ∨ (0 : Int) = 1 := .inl rfl
  obtain ⟨k1, k2, k3⟩ := cnt_pk o0
  obtain ⟨_, _, k4⟩ := cnt_pk o1
  have hcB := hb ch
  obtain ⟨s0, s1, s2⟩ := lm_step ⟨_, hcB.1⟩ ⟨_, hcB.2⟩
  generalize hx : (mkB o0 o1 o2 c3 c4 c5).getD ch (0, 0) = c at *
  have s0' : cnt c 0 % 2 = lm c 0 := s0
  have s1' : (lm c 0 + cnt c 1) % 2 = lm c 1 := s1
  have s2' : (lm c 1 + cnt c 2) % 2 = lm c 2 := s2
  have f0 : stillF (laid (mkB o0 o1 o2 c3 c4 c5) r v e) q 0 ch = unitC ch 0 0 0 := by rcases hc with rfl | rfl | rfl <;> rfl
  have f1 : stillF (laid (mkB o0 o1 o2 c3 c4 c5) r v e) q 1 ch = unitC ch (lm c 0) 0 0 := by
    rw [stillF_succ, f0, stillK_eq hr (fun p => (hb p).2) (hq 0 (by decide)) (unit01 z z z)]
    have : (sum6 fun p => (unitC ch 0 0 0).getD p 0 * cnt ((mkB o0 o1 o2 c3 c4 c5).getD p (0, 0)) 0) = cnt c 0 := by
      rcases hc with rfl | rfl | rfl <;> (rw [← hx]; simp [sum6, unitC, mkB])
    rw [this, s0']
    rcases hc with rfl | rfl | rfl <;> rfl
  have f2 : stillF (laid (mkB o0 o1 o2 c3 c4 c5) r v e) q 2 ch = unitC ch (lm c 0) (lm c 1) 0 := by
    rw [stillF_succ, f1, stillK_eq hr (fun p => (hb p).2) (hq 1 (by decide)) (unit01 (lm01 _ _) z z)]
    have : (sum6 fun p => (unitC ch (lm c 0) 0 0).getD p 0 * cnt ((mkB o0 o1 o2 c3 c4 c5).getD p (0, 0)) 1) = lm c 0 + cnt c 1 := by
      rcases hc with rfl | rfl | rfl <;> (rw [← hx]; simp [sum6, unitC, mkB, k1])
    rw [this, s1']
    rcases hc with rfl | rfl | rfl <;> rfl
  have f3 : stillF (laid (mkB o0 o1 o2 c3 c4 c5) r v e) q 3 ch = unitC ch (lm c 0) (lm c 1) (lm c 2) := by
    rw [stillF_succ, f2, stillK_eq hr (fun p => (hb p).2) (hq 2 (by decide)) (unit01 (lm01 _ _) (lm01 _ _) z)]
    have : (sum6 fun p => (unitC ch (lm c 0) (lm c 1) 0).getD p 0 * cnt ((mkB o0 o1 o2 c3 c4 c5).getD p (0, 0)) 2) = lm c 1 + cnt c 2 := by
      rcases hc with rfl | rfl | rfl <;> (rw [← hx]; simp [sum6, unitC, mkB, k2, k4])
    rw [this, s2']
    rcases hc with rfl | rfl | rfl <;> rfl
  exact f3
end
end Mine

namespace Mine

def turnG (fs : List Int) (k : Nat) (p : Nat × Nat) : Int := (if p.1 == 97 + k then fs.getD (p.2 - 117) 0 else 0) - (if p.1 == 65 + k then fs.getD (p.2 - 85) 0 else 0)
theorem turnStep_eq (fs : List Int) (k : Nat) (l : Int) (p : Nat × Nat) : turnStep fs k l p = l + turnG fs k p := by
  unfold turnStep turnG
  dsimp only
  split <;> split <;> omega
theorem turn_fold (fs : List Int) (k : Nat) : ∀ (hs : List (Nat × Nat)) (z : Int), hs.foldl (turnStep fs k) z = z + (hs.map (turnG fs k)).sum
  | [], z => by simp
  | p :: hs, z => by rw [List.foldl_cons, turn_fold fs k hs, turnStep_eq, List.map_cons, List.sum_cons]; omega
theorem turn_left {bs : List (Nat × Nat)} {r v e k : Nat} {fs : List Int} (hr : r < 6) (hk : k < 3) (hb : ∀ p, (bs.getD p (0, 0)).2 < 4) :
    (laid bs r v e).foldl (turnStep fs k) 0 = sum6 fun p => fs.getD p 0 * sgn (bs.getD p (0, 0)) k := by
  rw [turn_fold, Int.zero_add, sum_laid _ _ _ _ _ hr]
  refine sum6_congr fun p => ?_
  have h4 := hb p.val
  unfold turnG sgn
  dsimp only
  have e1 : (97 + (bs.getD p.val (0, 0)).1 == 65 + k) = false := by rw [beq_eq_false_iff_ne]; omega
  have e2 : (65 + (bs.getD p.val (0, 0)).2 == 97 + k) = false := by rw [beq_eq_false_iff_ne]; omega
  have e3 : (65 + (bs.getD p.val (0, 0)).2 == 65 + k) = ((bs.getD p.val (0, 0)).2 == k) := by rw [Bool.eq_iff_iff]; simp
  rw [e1, e2, e3, beq_add, Nat.add_sub_cancel_left, Nat.add_sub_cancel_left]
  simp only [Bool.false_eq_true, if_false]
  split <;> split <;> omega
theorem rot_mem (v : Nat) : ∀ r k : Fin 6, k.val ∈ rot r.val v := by
  unfold rot ord
  split <;> decide
theorem leaves_eq {bs : List (Nat × Nat)} {r v e k : Nat} (hr : r < 6) (hk : k < 3) : (laid bs r v e).any (· == (97 + k, 117 + k)) = ((bs.getD k (0, 0)).1 == k) := by
  rw [Bool.eq_iff_iff, List.any_eq_true, beq_iff_eq]
  constructor
  · rintro ⟨x, hx, he⟩
    have he := eq_of_beq he
    subst he
    unfold laid at hx
    obtain ⟨p, hp, hx⟩ := List.mem_flatMap.mp hx
    have hp6 := rot_lt hp
    have : (97 + k, 117 + k) = (97 + (bs.getD p (0, 0)).1, 117 + p) ∨ (97 + k, 117 + k) = (65 + (bs.getD p (0, 0)).2, 85 + p) := by
      unfold endsOf at hx
      split at hx <;> simp only [List.mem_cons, List.not_mem_nil, or_false] at hx
      · exact hx.symm
      · exact hx
    simp only [Prod.mk.injEq] at this
    rcases this with ⟨h1, h2⟩ | ⟨h1, h2⟩
    · have : p = k := by omega
      subst this; omega
    · omega
  · intro h
    refine ⟨(97 + k, 117 + k), List.mem_flatMap.mpr ⟨k, rot_mem v ⟨r, hr⟩ ⟨k, by omega⟩, ?_⟩, beq_self_eq_true _⟩
    unfold endsOf
    rw [h]
    split <;> simp

def sk (o : Nat) : Int := if o == 1 then -1 else 1
def sL (c : Nat × Nat) (j : Nat) : Int := if c.1 ≤ j ∧ j < c.2 then 1 else if c.2 ≤ j ∧ j < c.1 then -1 else 0
def tf (o : Nat) (c : Nat × Nat) (j : Nat) : Int := (-(sk o) * sL c j).fmod 4
def sB (b : Bool) : Int := if b then -1 else 1
theorem sL_step : ∀ a b : Fin 4, sgn (a.val, b.val) 0 = sL (a.val, b.val) 0 ∧ sL (a.val, b.val) 0 + sgn (a.val, b.val) 1 = sL (a.val, b.val) 1 ∧ sL (a.val, b.val) 1 + sgn (a.val, b.val) 2 = sL (a.val, b.val) 2 := by decide +kernel
theorem sgn_pk (o : Nat) : sgn (pk o 0) 1 = -(sk o) ∧ sgn (pk o 0) 2 = 0 ∧ sgn (pk o 1) 2 = -(sk o) := by
  unfold pk sk
  cases h : o == 1 <;> simp [sgn]
theorem pk_leaves (o k : Nat) : ((pk o k).1 == k) = !(o == 1) := by
  unfold pk
  cases h : o == 1 <;> simp
theorem sL_val (c : Nat × Nat) (j : Nat) : sL c j = -1 ∨ sL c j = 0 ∨ sL c j = 1 := by unfold sL; repeat (first | split | simp)
theorem turn_fin (o : Nat) (l x : Int) (h : (l - x) % 4 = 0) : (if (!(o == 1)) = true then -l else l).fmod 4 = (-(sk o) * x).fmod 4 := by
  unfold sk
  rw [Int.fmod_eq_emod_of_nonneg _ (by decide), Int.fmod_eq_emod_of_nonneg _ (by decide)]
  cases h1 : o == 1 <;> simp <;> omega
theorem tf_step (o : Nat) (c : Nat × Nat) (j : Nat) (y : Int) : (tf o c j * -(sk o) + y - (sL c j + y)) % 4 = 0 := by
  unfold tf sk
  rw [Int.fmod_eq_emod_of_nonneg _ (by decide)]
  rcases sL_val c j with h | h | h <;> rw [h] <;> cases h1 : o == 1 <;> simp <;> omega

section
variable {o0 o1 o2 r v e : Nat} {c3 c4 c5 : Nat × Nat}
theorem turned_eq (hr : r < 6) (h3 : c3.1 < 4 ∧ c3.2 < 4) (h4 : c4.1 < 4 ∧ c4.2 < 4) (h5 : c5.1 < 4 ∧ c5.2 < 4) {ch : Nat} (hc : ch = 3 ∨ ch = 4 ∨ ch = 5) :
    turned (laid (mkB o0 o1 o2 c3 c4 c5) r v e) ch = unitC ch (tf o0 ((mkB o0 o1 o2 c3 c4 c5).getD ch (0, 0)) 0) (tf o1 ((mkB o0 o1 o2 c3 c4 c5).getD ch (0, 0)) 1) (tf o2 ((mkB o0 o1 o2 c3 c4 c5).getD ch (0, 0)) 2) := by
  have hb := getD_lt (mkB_lt (o0 := o0) (o1 := o1) (o2 := o2) h3 h4 h5)
  obtain ⟨k1, k2, _⟩ := sgn_pk o0
  obtain ⟨_, _, k4⟩ := sgn_pk o1
  have hcB := hb ch
  obtain ⟨s0, s1, s2⟩ := sL_step ⟨_, hcB.1⟩ ⟨_, hcB.2⟩
  generalize hx : (mkB o0 o1 o2 c3 c4 c5).getD ch (0, 0) = c at *
  have s0' : sgn c 0 = sL c 0 := s0
  have s1' : sL c 0 + sgn c 1 = sL c 1 := s1
  have s2' : sL c 1 + sgn c 2 = sL c 2 := s2
  have l0 : (mkB o0 o1 o2 c3 c4 c5).getD 0 (0, 0) = pk o0 0 := rfl
  have l1 : (mkB o0 o1 o2 c3 c4 c5).getD 1 (0, 0) = pk o1 1 := rfl
  have l2 : (mkB o0 o1 o2 c3 c4 c5).getD 2 (0, 0) = pk o2 2 := rfl
  have f0 : turnF (laid (mkB o0 o1 o2 c3 c4 c5) r v e) 0 ch = unitC ch 0 0 0 := by rcases hc with rfl | rfl | rfl <;> rfl
  have f1 : turnF (laid (mkB o0 o1 o2 c3 c4 c5) r v e) 1 ch = unitC ch (tf o0 c 0) 0 0 := by
    rw [turnF_succ, f0]
    unfold turnK
    rw [turn_left hr (by decide) (fun p => (hb p).2), leaves_eq hr (by decide), l0, pk_leaves]
    have : (sum6 fun p => (unitC ch 0 0 0).getD p 0 * sgn ((mkB o0 o1 o2 c3 c4 c5).getD p (0, 0)) 0) = sgn c 0 := by
      rcases hc with rfl | rfl | rfl <;> (rw [← hx]; simp [sum6, unitC, mkB])
    rw [this]
    dsimp only
    rw [turn_fin o0 _ (sL c 0) (by rw [s0']; simp)]
    rcases hc with rfl | rfl | rfl <;> rfl
  have f2 : turnF (laid (mkB o0 o1 o2 c3 c4 c5) r v e) 2 ch = unitC ch (tf o0 c 0) (tf o1 c 1) 0 := by
    rw [turnF_succ, f1]
    unfold turnK
    rw [turn_left hr (by decide) (fun p => (hb p).2), leaves_eq hr (by decide), l1, pk_leaves]
    have : (sum6 fun p => (unitC ch (tf o0 c 0) 0 0).getD p 0 * sgn ((mkB o0 o1 o2 c3 c4 c5).getD p (0, 0)) 1) = tf o0 c 0 * -(sk o0) + sgn c 1 := by
      rcases hc with rfl | rfl | rfl <;> (rw [← hx]; simp [sum6, unitC, mkB, k1])
    rw [this]
    dsimp only
    rw [turn_fin o1 _ (sL c 1) (by rw [← s1']; exact tf_step _ _ _ _)]
    rcases hc with rfl | rfl | rfl <;> rfl
  have f3 : turnF (laid (mkB o0 o1 o2 c3 c4 c5) r v e) 3 ch = unitC ch (tf o0 c 0) (tf o1 c 1) (tf o2 c 2) := by
    rw [turnF_succ, f2]
    unfold turnK
    rw [turn_left hr (by decide) (fun p => (hb p).2), leaves_eq hr (by decide), l2, pk_leaves]
    have : (sum6 fun p => (unitC ch (tf o0 c 0) (tf o1 c 1) 0).getD p 0 * sgn ((mkB o0 o1 o2 c3 c4 c5).getD p (0, 0)) 2) = tf o1 c 1 * -(sk o1) + sgn c 2 := by
      rcases hc with rfl | rfl | rfl <;> (rw [← hx]; simp [sum6, unitC, mkB, k2, k4])
    rw [this]
    dsimp only
    rw [turn_fin o2 _ (sL c 2) (by rw [← s2']; exact tf_step _ _ _ _)]
    rcases hc with rfl | rfl | rfl <;> rfl
  exact f3
end
end Mine

namespace Mine

theorem sortB_perm_eq {l l' : List (Array UInt8)} (h : l.Perm l') : sortB l = sortB l' := sortB_unique ((sortB_perm l).trans h) (sortB_sorted l)

/-- the six figures of a number -/
def dg (n : Nat) : List Nat := [n / 1048576 % 16, n / 65536 % 16, n / 4096 % 16, n / 256 % 16, n / 16 % 16, n % 16]
theorem wordOf_eq {n : Int} (h0 : 0 ≤ n) (h1 : n < 16777216) : wordOf n = mkW (dg n.toNat) := by
  obtain ⟨m, rfl⟩ := Int.eq_ofNat_of_zero_le h0
  have hm : m < 16777216 := by omega
  unfold wordOf apB mkW
  rw [Int.toNat_natCast]
  congr 2
  have e0 : (16777216 + m) / 16 ^ 6 % 16 = 1 := by rw [show (16 : Nat) ^ 6 = 16777216 from rfl]; omega
  have e1 : (16777216 + m) / 16 ^ 5 % 16 = m / 1048576 % 16 := by rw [show (16 : Nat) ^ 5 = 1048576 from rfl]; omega
  have e2 : (16777216 + m) / 16 ^ 4 % 16 = m / 65536 % 16 := by rw [show (16 : Nat) ^ 4 = 65536 from rfl]; omega
  have e3 : (16777216 + m) / 16 ^ 3 % 16 = m / 4096 % 16 := by rw [show (16 : Nat) ^ 3 = 4096 from rfl]; omega
  have e4 : (16777216 + m) / 16 ^ 2 % 16 = m / 256 % 16 := by rw [show (16 : Nat) ^ 2 = 256 from rfl]; omega
  have e5 : (16777216 + m) / 16 ^ 1 % 16 = m / 16 % 16 := by rw [show (16 : Nat) ^ 1 = 16 from rfl]; omega
  have e6 : (16777216 + m) / 16 ^ 0 % 16 = m % 16 := by rw [show (16 : Nat) ^ 0 = 1 from rfl]; omega
  show [65 + (16777216 + m) / 16 ^ 6 % 16, 65 + (16777216 + m) / 16 ^ 5 % 16, 65 + (16777216 + m) / 16 ^ 4 % 16, 65 + (16777216 + m) / 16 ^ 3 % 16, 65 + (16777216 + m) / 16 ^ 2 % 16, 65 + (16777216 + m) / 16 ^ 1 % 16, 65 + (16777216 + m) / 16 ^ 0 % 16] = _
  rw [e0, e1, e2, e3, e4, e5, e6]; rfl
theorem dg_lt (n : Nat) : ∀ d ∈ dg n, d < 16 := by
  intro d hd
  simp only [dg, List.mem_cons, List.not_mem_nil, or_false] at hd
  rcases hd with rfl | rfl | rfl | rfl | rfl | rfl <;> exact Nat.mod_lt _ (by decide)
theorem u8_65 : ∀ d : Fin 16, ((65 + d.val).toUInt8 == 65) = (d.val == 0) := by decide +kernel
theorem mkW_contains {ds : List Nat} (h : ∀ d ∈ ds, d < 16) : (mkW ds).contains 65 = ds.contains 0 := by
  unfold mkW
  rw [List.contains_toArray, List.map_cons, List.map_map]
  have : ∀ l : List Nat, (∀ d ∈ l, d < 16) → (l.map ((fun x => x.toUInt8) ∘ fun x => 65 + x)).contains 65 = l.contains 0 := by
    intro l
    induction l with
    | nil => intro _; rfl
    | cons d l ih =>
      intro h
      rw [List.map_cons, List.contains_cons, List.contains_cons, ih fun x hx => h x (List.mem_cons_of_mem _ hx)]
      have := u8_65 ⟨d, h d List.mem_cons_self⟩
      have e1 : ((65 : UInt8) == (65 + d).toUInt8) = ((65 + d).toUInt8 == 65) := by rw [Bool.eq_iff_iff, beq_iff_eq, beq_iff_eq]; exact eq_comm
      have e2 : (0 == d) = (d == 0) := by rw [Bool.eq_iff_iff, beq_iff_eq, beq_iff_eq]; exact eq_comm
      show ((65 : UInt8) == (65 + d).toUInt8 || _) = _
      rw [e1, this, e2]
  rw [List.contains_cons, this ds h]
  have : ((65 : UInt8) == (66 : Nat).toUInt8) = false := by decide
  rw [this, Bool.false_or]

def digsOf (ns : List Int) : List (List Nat) := (ns.map fun n => dg n.toNat).filter fun ds => !ds.contains 0
theorem words_digs {b : Bool} {ss : List Int} (h : ∀ x ∈ numsOf b ss, 0 ≤ x ∧ x < 16777216) : wordsOf b ss = sortB ((digsOf (numsOf b ss)).map mkW) := by
  unfold wordsOf digsOf
  congr 1
  have : ∀ l : List Int, (∀ x ∈ l, 0 ≤ x ∧ x < 16777216) → ((l.map wordOf).filter fun w => !w.contains 65) = ((l.map fun n => dg n.toNat).filter fun ds => !ds.contains 0).map mkW := by
    intro l
    induction l with
    | nil => intro _; rfl
    | cons x l ih =>
      intro h
      have hx := h x List.mem_cons_self
      rw [List.map_cons, List.map_cons, List.filter_cons, List.filter_cons, wordOf_eq hx.1 hx.2, mkW_contains (dg_lt _), ih fun y hy => h y (List.mem_cons_of_mem _ hy)]
      split <;> rfl
  exact this _ h

def pairD (one other : Int) : List Nat := (List.range 6).map fun k => (bitK one k + 2 * bitK other k).toNat
theorem pairW_eq (one other : Int) : pairW one other = mkW (pairD one other) := by
  unfold pairW byteArr mkW pairL pairD
  congr 1
  rw [List.map_cons, List.map_cons, List.map_map, List.map_map, List.map_map]
  congr 1
  refine List.map_congr_left fun k _ => ?_
  have h1 := bitK_le one k
  have h2 := bitK_le other k
  show (65 + bitK one k + 2 * bitK other k).toNat.toUInt8 = (65 + (bitK one k + 2 * bitK other k).toNat).toUInt8
  congr 1
  omega
def toldD (ev ones : List Int) : List (List Nat) := ones.flatMap fun one => (others ev one).map (pairD one)
theorem toldW_digs (ev ones : List Int) : toldW ev ones = (toldD ev ones).map mkW := by
  unfold toldW toldD
  rw [List.map_flatMap]
  congr 1
  funext one
  rw [List.map_map]
  exact List.map_congr_left fun o _ => pairW_eq one o

/-! the check -/
def evStepR (ev : List Int) (r : Int) : List Int := ev ++ ev.map fun e => Builtin.bitXor e r
def evR (r3 r4 r5 : Int) : List Int := evStepR (evStepR (evStepR [0] r3) r4) r5
theorem evens_eq (o0 o1 o2 : Nat) (c3 c4 c5 : Nat × Nat) : evens (mkB o0 o1 o2 c3 c4 c5) = evR (ring c3 3) (ring c4 4) (ring c5 5) := rfl
def masks : List (Int × Int × Int) := [(0, 0, 0), (1, 0, 0), (0, 1, 0), (0, 0, 1), (1, 1, 0), (0, 1, 1), (1, 1, 1)]
theorem lm_mask : ∀ a b : Fin 4, (lm (a.val, b.val) 0, lm (a.val, b.val) 1, lm (a.val, b.val) 2) ∈ masks := by decide +kernel
theorem ring_mask : ∀ a b : Fin 4, ((List.range (max a.val b.val - min a.val b.val)).map fun i => (2 : Int) ^ (min a.val b.val + i)).sum = lm (a.val, b.val) 0 + 2 * lm (a.val, b.val) 1 + 4 * lm (a.val, b.val) 2 := by decide +kernel
def stillS (m3 m4 m5 : Int × Int × Int) : List Int := [written (unitC 3 m3.1 m3.2.1 m3.2.2), written (unitC 4 m4.1 m4.2.1 m4.2.2), written (unitC 5 m5.1 m5.2.1 m5.2.2)]
def ringM (m : Int × Int × Int) (ch : Nat) : Int := 2 ^ ch + (m.1 + 2 * m.2.1 + 4 * m.2.2)
def evM (m3 m4 m5 : Int × Int × Int) : List Int := evR (ringM m3 3) (ringM m4 4) (ringM m5 5)
def chk (m3 m4 : Int × Int × Int) : Bool := (digsOf (numsOf false (stillS m3 m4 (1, 1, 1)))).isPerm (toldD (evM m3 m4 (1, 1, 1)) (evM m3 m4 (1, 1, 1)))
def chkR (m3 m4 : Int × Int × Int) : Bool := (numsOf false (stillS m3 m4 (1, 1, 1))).all fun x => decide (0 ≤ x) && decide (x < 16777216)
set_option maxHeartbeats 0 in
theorem chk_all : (masks.all fun m3 => masks.all fun m4 => chk m3 m4) = true := by decide +kernel
theorem chkR_all : (masks.all fun m3 => masks.all fun m4 => chkR m3 m4) = true := by decide +kernel
end Mine

namespace Mine

/-! figures by four -/
abbrev V6 := Nat × Nat × Nat × Nat × Nat × Nat
def wv (x : V6) : Nat := ((((x.1 * 16 + x.2.1) * 16 + x.2.2.1) * 16 + x.2.2.2.1) * 16 + x.2.2.2.2.1) * 16 + x.2.2.2.2.2
def le3 (x : V6) : Prop := x.1 ≤ 3 ∧ x.2.1 ≤ 3 ∧ x.2.2.1 ≤ 3 ∧ x.2.2.2.1 ≤ 3 ∧ x.2.2.2.2.1 ≤ 3 ∧ x.2.2.2.2.2 ≤ 3
def toL (x : V6) : List Nat := [x.1, x.2.1, x.2.2.1, x.2.2.2.1, x.2.2.2.2.1, x.2.2.2.2.2]
def mulV (t : Nat) (x : V6) : V6 := (t * x.1 % 4, t * x.2.1 % 4, t * x.2.2.1 % 4, t * x.2.2.2.1 % 4, t * x.2.2.2.2.1 % 4, t * x.2.2.2.2.2 % 4)
def addV (x y : V6) : V6 := ((x.1 + y.1) % 4, (x.2.1 + y.2.1) % 4, (x.2.2.1 + y.2.2.1) % 4, (x.2.2.2.1 + y.2.2.2.1) % 4, (x.2.2.2.2.1 + y.2.2.2.2.1) % 4, (x.2.2.2.2.2 + y.2.2.2.2.2) % 4)

theorem land16 (x a m b : Nat) (ha : a < 16) (hb : b < 16) : (x * 16 + a) &&& (m * 16 + b) = (x &&& m) * 16 + (a &&& b) := by
  have h1 : ((x * 16 + a) &&& (m * 16 + b)) / 2 ^ 4 = x &&& m := by
    rw [Nat.and_div_two_pow]
    congr 1 <;> omega
  have h2 : ((x * 16 + a) &&& (m * 16 + b)) % 2 ^ 4 = a &&& b := by
    rw [Nat.and_mod_two_pow]
    congr 1 <;> omega
  have := Nat.div_add_mod ((x * 16 + a) &&& (m * 16 + b)) (2 ^ 4)
  omega
theorem and3 : ∀ a : Fin 16, a.val &&& 3 = a.val % 4 := by decide +kernel
theorem land6 (x : V6) (h : x.1 < 16 ∧ x.2.1 < 16 ∧ x.2.2.1 < 16 ∧ x.2.2.2.1 < 16 ∧ x.2.2.2.2.1 < 16 ∧ x.2.2.2.2.2 < 16) :
    wv x &&& 3355443 = wv (x.1 % 4, x.2.1 % 4, x.2.2.1 % 4, x.2.2.2.1 % 4, x.2.2.2.2.1 % 4, x.2.2.2.2.2 % 4) := by
  obtain ⟨h1, h2, h3, h4, h5, h6⟩ := h
  have e : (3355443 : Nat) = ((((3 * 16 + 3) * 16 + 3) * 16 + 3) * 16 + 3) * 16 + 3 := rfl
  unfold wv
  rw [e, land16 _ _ _ _ h6 (by decide), land16 _ _ _ _ h5 (by decide), land16 _ _ _ _ h4 (by decide), land16 _ _ _ _ h3 (by decide), land16 _ _ _ _ h2 (by decide),
    and3 ⟨_, h1⟩, and3 ⟨_, h2⟩, and3 ⟨_, h3⟩, and3 ⟨_, h4⟩, and3 ⟨_, h5⟩, and3 ⟨_, h6⟩]
theorem bitAnd_nat (x y : Nat) : Builtin.bitAnd (x : Int) (y : Int) = ((x &&& y : Nat) : Int) := by
  unfold Builtin.bitAnd
  simp
theorem part_eq {t : Nat} (ht : t = 1 ∨ t = 2 ∨ t = 3) {x : V6} (h : le3 x) : partOf true (t : Int) ((wv x : Nat) : Int) = ((wv (mulV t x) : Nat) : Int) := by
  unfold partOf
  rw [if_pos rfl]
  obtain ⟨h1, h2, h3, h4, h5, h6⟩ := h
  have e : (t : Int) * ((wv x : Nat) : Int) = ((wv (t * x.1, t * x.2.1, t * x.2.2.1, t * x.2.2.2.1, t * x.2.2.2.2.1, t * x.2.2.2.2.2) : Nat) : Int) := by
    unfold wv
    rcases ht with rfl | rfl | rfl <;> (dsimp only; omega)
  rw [e]
  rw [show (3355443 : Int) = ((3355443 : Nat) : Int) from rfl, bitAnd_nat, land6 _ (by rcases ht with rfl | rfl | rfl <;> (dsimp only; omega))]
  rfl
theorem mix_eq {x y : V6} (h : le3 x) (k : le3 y) : mixOf true ((wv x : Nat) : Int) ((wv y : Nat) : Int) = ((wv (addV x y) : Nat) : Int) := by
  unfold mixOf
  rw [if_pos rfl]
  obtain ⟨h1, h2, h3, h4, h5, h6⟩ := h
  obtain ⟨k1, k2, k3, k4, k5, k6⟩ := k
  have e : ((wv x : Nat) : Int) + ((wv y : Nat) : Int) = ((wv (x.1 + y.1, x.2.1 + y.2.1, x.2.2.1 + y.2.2.1, x.2.2.2.1 + y.2.2.2.1, x.2.2.2.2.1 + y.2.2.2.2.1, x.2.2.2.2.2 + y.2.2.2.2.2) : Nat) : Int) := by
    unfold wv
    dsimp only
    omega
  rw [e]
  rw [show (3355443 : Int) = ((3355443 : Nat) : Int) from rfl, bitAnd_nat, land6 _ (by dsimp only; omega)]
  rfl
theorem le3_mul (t : Nat) (x : V6) : le3 (mulV t x) := by
  unfold le3 mulV
  dsimp only
  omega
theorem le3_add (x y : V6) : le3 (addV x y) := by
  unfold le3 addV
  dsimp only
  omega
def growV (nums : List V6) (A : V6) : List V6 := ([1, 2, 3] : List Nat).flatMap fun t => nums.map fun x => addV x (mulV t A)
def numsV (ss : List V6) : List V6 := ss.foldl growV [(0, 0, 0, 0, 0, 0)]
theorem growV_le (nums : List V6) (A : V6) : ∀ x ∈ growV nums A, le3 x := by
  intro x hx
  unfold growV at hx
  obtain ⟨t, _, hx⟩ := List.mem_flatMap.mp hx
  obtain ⟨y, _, rfl⟩ := List.mem_map.mp hx
  exact le3_add _ _
theorem grow_eq {nums : List V6} {A : V6} (hn : ∀ x ∈ nums, le3 x) (hA : le3 A) : grow true (nums.map fun x => ((wv x : Nat) : Int)) ((wv A : Nat) : Int) = (growV nums A).map fun x => ((wv x : Nat) : Int) := by
  have one : ∀ t : Nat, (t = 1 ∨ t = 2 ∨ t = 3) → ((nums.map fun x => ((wv x : Nat) : Int)).map fun n => mixOf true n (partOf true (t : Int) ((wv A : Nat) : Int))) = (nums.map fun x => addV x (mulV t A)).map fun x => ((wv x : Nat) : Int) := by
    intro t ht
    rw [List.map_map, List.map_map]
    refine List.map_congr_left fun x hx => ?_
    show mixOf true ((wv x : Nat) : Int) (partOf true (t : Int) ((wv A : Nat) : Int)) = _
    rw [part_eq ht hA, mix_eq (hn x hx) (le3_mul _ _)]; rfl
  have h1 := one 1 (.inl rfl)
  have h2 := one 2 (.inr (.inl rfl))
  have h3 := one 3 (.inr (.inr rfl))
  unfold grow growT growV
  simp only [List.flatMap_cons, List.flatMap_nil, List.append_nil, List.map_append]
  rw [← h1, ← h2, ← h3]; rfl
theorem nums_eq : ∀ (ss : List V6) (z : List V6), (∀ x ∈ z, le3 x) → (∀ A ∈ ss, le3 A) → (ss.map fun x => ((wv x : Nat) : Int)).foldl (grow true) (z.map fun x => ((wv x : Nat) : Int)) = (ss.foldl growV z).map fun x => ((wv x : Nat) : Int)
  | [], z, _, _ => rfl
  | A :: ss, z, hz, hs => by
    rw [List.map_cons, List.foldl_cons, List.foldl_cons, grow_eq hz (hs A List.mem_cons_self)]
    exact nums_eq ss _ (growV_le z A) fun B hB => hs B (List.mem_cons_of_mem _ hB)
theorem numsOf_V {ss : List V6} (hs : ∀ A ∈ ss, le3 A) : numsOf true (ss.map fun x => ((wv x : Nat) : Int)) = (numsV ss).map fun x => ((wv x : Nat) : Int) :=
  nums_eq ss [(0, 0, 0, 0, 0, 0)] (fun x hx => by rw [List.mem_singleton.mp hx]; unfold le3; decide) hs
theorem numsV_le {A B C : V6} : ∀ x ∈ numsV [A, B, C], le3 x := growV_le _ _
theorem dg_wv {x : V6} (h : le3 x) : dg (wv x) = toL x := by
  obtain ⟨h1, h2, h3, h4, h5, h6⟩ := h
  unfold dg toL wv
  refine congr (congrArg _ ?_) (congr (congrArg _ ?_) (congr (congrArg _ ?_) (congr (congrArg _ ?_) (congr (congrArg _ ?_) (congr (congrArg _ ?_) rfl))))) <;> omega
theorem wv_lt {x : V6} (h : le3 x) : wv x < 16777216 := by
  obtain ⟨h1, h2, h3, h4, h5, h6⟩ := h
  unfold wv
  omega

/-! weights -/
def wt (w : List Int) (x : V6) : Int := w.getD 0 0 * x.1 + w.getD 1 0 * x.2.1 + w.getD 2 0 * x.2.2.1 + w.getD 3 0 * x.2.2.2.1 + w.getD 4 0 * x.2.2.2.2.1 + w.getD 5 0 * x.2.2.2.2.2
theorem mod_term (w : Int) (a b : Nat) : ∃ k : Int, w * (((a + b) % 4 : Nat) : Int) = w * a + w * b + 4 * k := by
  refine ⟨-(w * ((a + b) / 4 : Nat)), ?_⟩
  have h := Nat.div_add_mod (a + b) 4
  have h2 : (((a + b) % 4 : Nat) : Int) = (a : Int) + b - 4 * ((a + b) / 4 : Nat) := by omega
  rw [h2, Int.mul_sub, Int.mul_add, Int.mul_left_comm w 4, Int.mul_neg]
  omega
theorem mul_term (w : Int) (t a : Nat) : ∃ k : Int, w * ((t * a % 4 : Nat) : Int) = t * (w * a) + 4 * k := by
  refine ⟨-(w * (t * a / 4 : Nat)), ?_⟩
  have h := Nat.div_add_mod (t * a) 4
  have h2 : ((t * a % 4 : Nat) : Int) = ((t * a : Nat) : Int) - 4 * (t * a / 4 : Nat) := by omega
  rw [h2, Int.mul_sub, Int.mul_left_comm w 4, Int.mul_neg, Int.natCast_mul, Int.mul_left_comm w]
  omega
theorem wt_add (w : List Int) (x y : V6) : ∃ k : Int, wt w (addV x y) = wt w x + wt w y + 4 * k := by
  obtain ⟨k1, e1⟩ := mod_term (w.getD 0 0) x.1 y.1
  obtain ⟨k2, e2⟩ := mod_term (w.getD 1 0) x.2.1 y.2.1
  obtain ⟨k3, e3⟩ := mod_term (w.getD 2 0) x.2.2.1 y.2.2.1
  obtain ⟨k4, e4⟩ := mod_term (w.getD 3 0) x.2.2.2.1 y.2.2.2.1
  obtain ⟨k5, e5⟩ := mod_term (w.getD 4 0) x.2.2.2.2.1 y.2.2.2.2.1
  obtain ⟨k6, e6⟩ := mod_term (w.getD 5 0) x.2.2.2.2.2 y.2.2.2.2.2
  refine ⟨k1 + k2 + k3 + k4 + k5 + k6, ?_⟩
  unfold wt addV
  dsimp only
  rw [e1, e2, e3, e4, e5, e6]
  omega
theorem wt_mul (w : List Int) (t : Nat) (x : V6) : ∃ k : Int, wt w (mulV t x) = t * wt w x + 4 * k := by
  obtain ⟨k1, e1⟩ := mul_term (w.getD 0 0) t x.1
  obtain ⟨k2, e2⟩ := mul_term (w.getD 1 0) t x.2.1
  obtain ⟨k3, e3⟩ := mul_term (w.getD 2 0) t x.2.2.1
  obtain ⟨k4, e4⟩ := mul_term (w.getD 3 0) t x.2.2.2.1
  obtain ⟨k5, e5⟩ := mul_term (w.getD 4 0) t x.2.2.2.2.1
  obtain ⟨k6, e6⟩ := mul_term (w.getD 5 0) t x.2.2.2.2.2
  refine ⟨k1 + k2 + k3 + k4 + k5 + k6, ?_⟩
  unfold wt mulV
  dsimp only
  rw [e1, e2, e3, e4, e5, e6, Int.mul_add, Int.mul_add, Int.mul_add, Int.mul_add, Int.mul_add]
  omega
theorem wt_grow (w : List Int) {nums : List V6} {A : V6} (hn : ∀ x ∈ nums, wt w x % 4 = 0) (hA : wt w A % 4 = 0) : ∀ x ∈ growV nums A, wt w x % 4 = 0 := by
  intro x hx
  unfold growV at hx
  obtain ⟨t, _, hx⟩ := List.mem_flatMap.mp hx
  obtain ⟨y, hy, rfl⟩ := List.mem_map.mp hx
  obtain ⟨k, e⟩ := wt_add w y (mulV t A)
  obtain ⟨j, e'⟩ := wt_mul w t A
  have h1 := hn y hy
  obtain ⟨a, ha⟩ : ∃ a, wt w A = 4 * a := ⟨wt w A / 4, by omega⟩
  rw [e, e', ha, Int.mul_left_comm]
  omega
theorem wt_nums (w : List Int) {A B C : V6} (hA : wt w A % 4 = 0) (hB : wt w B % 4 = 0) (hC : wt w C % 4 = 0) : ∀ x ∈ numsV [A, B, C], wt w x % 4 = 0 := by
  refine wt_grow w (wt_grow w (wt_grow w (fun x hx => ?_) hA) hB) hC
  rw [List.mem_singleton.mp hx]
  simp [wt]
end Mine

namespace Mine

/-! the still words are the pairs -/
def mk3 (c : Nat × Nat) : Int × Int × Int := (lm c 0, lm c 1, lm c 2)
theorem mk3_mem {c : Nat × Nat} (h : c.1 < 4 ∧ c.2 < 4) : mk3 c ∈ masks := lm_mask ⟨c.1, h.1⟩ ⟨c.2, h.2⟩
theorem ring_eq {c : Nat × Nat} (h : c.1 < 4 ∧ c.2 < 4) (ch : Nat) : ring c ch = ringM (mk3 c) ch := congrArg (fun z : Int => 2 ^ ch + z) (ring_mask ⟨c.1, h.1⟩ ⟨c.2, h.2⟩)
abbrev Long (c : Nat × Nat) : Prop := c = (0, 3) ∨ c = (3, 0)
theorem long_lt {c : Nat × Nat} (h : Long c) : c.1 < 4 ∧ c.2 < 4 := by rcases h with rfl | rfl <;> decide
theorem mk3_long {c : Nat × Nat} (h : Long c) : mk3 c = (1, 1, 1) := by rcases h with rfl | rfl <;> decide
theorem chk_at {m3 m4 : Int × Int × Int} (h3 : m3 ∈ masks) (h4 : m4 ∈ masks) : chk m3 m4 = true ∧ chkR m3 m4 = true :=
  ⟨List.all_eq_true.mp (List.all_eq_true.mp chk_all m3 h3) m4 h4, List.all_eq_true.mp (List.all_eq_true.mp chkR_all m3 h3) m4 h4⟩
def chords : List Nat := [3, 4, 5]
def stN (hs : List (Nat × Nat)) (q : Nat → Nat) : List Int := chords.map fun ch => written (still hs q ch)
def tuN (hs : List (Nat × Nat)) : List Int := chords.map fun ch => written (turned hs ch)

theorem written_lt : ∀ (l : List Int) (z : Int) (P : Int), 0 ≤ z → z < P → (∀ f ∈ l, 0 ≤ f ∧ f < 16) → 0 ≤ l.foldl (fun t f => t * 16 + f) z ∧ l.foldl (fun t f => t * 16 + f) z < P * 16 ^ l.length
  | [], z, P, h0, h1, _ => ⟨h0, by simpa using h1⟩
  | f :: l, z, P, h0, h1, h => by
    obtain ⟨a, b⟩ := h f List.mem_cons_self
    have := written_lt l (z * 16 + f) (P * 16) (by omega) (by omega) fun g hg => h g (List.mem_cons_of_mem _ hg)
    rw [List.foldl_cons, List.length_cons, Int.pow_succ]
    rw [Int.mul_assoc, Int.mul_comm 16] at this
    exact this
theorem written_take {l : List Int} (hl : l.length ≤ 6) (h : ∀ f ∈ l, 0 ≤ f ∧ f < 16) (i : Nat) : (written (l.take i)).natAbs < 2 ^ 64 := by
  obtain ⟨h0, h1⟩ := written_lt (l.take i) 0 1 (by decide) (by decide) fun f hf => h f (List.mem_of_mem_take hf)
  have hz : (l.take i).length ≤ 6 := by rw [List.length_take]; omega
  unfold written
  generalize (l.take i).foldl (fun t f => t * 16 + f) 0 = W at h0 h1 ⊢
  have : (16 : Int) ^ (l.take i).length ≤ 16777216 := by
    generalize (l.take i).length = k at hz ⊢
    match k, hz with
    | 0, _ => decide
    | 1, _ => decide
    | 2, _ => decide
    | 3, _ => decide
    | 4, _ => decide
    | 5, _ => decide
    | 6, _ => decide
  omega
theorem unit_mem {ch : Nat} {x0 x1 x2 : Int} (h0 : 0 ≤ x0 ∧ x0 < 16) (h1 : 0 ≤ x1 ∧ x1 < 16) (h2 : 0 ≤ x2 ∧ x2 < 16) : ∀ f ∈ unitC ch x0 x1 x2, 0 ≤ f ∧ f < 16 := by
  intro f hf
  unfold unitC at hf
  repeat' split at hf
  all_goals
    simp only [List.mem_cons, List.not_mem_nil, or_false] at hf
    rcases hf with rfl | rfl | rfl | rfl | rfl | rfl <;> first | assumption | decide
theorem unit_len {ch : Nat} {x0 x1 x2 : Int} : (unitC ch x0 x1 x2).length ≤ 6 := by
  unfold unitC
  split
  · exact Nat.le_refl _
  · split <;> exact Nat.le_refl _
theorem lm_rng (c : Nat × Nat) (j : Nat) : 0 ≤ lm c j ∧ lm c j < 16 := by rcases lm01 c j with h | h <;> rw [h] <;> decide

section
variable {o0 o1 o2 r v e : Nat} {c3 c4 c5 : Nat × Nat} {q : Nat → Nat}
theorem stN_eq (hr : r < 6) (h3 : c3.1 < 4 ∧ c3.2 < 4) (h4 : c4.1 < 4 ∧ c4.2 < 4) (h5 : Long c5) (hq : ∀ k, k < 3 → lw (q k) = 97 + k) :
    stN (laid (mkB o0 o1 o2 c3 c4 c5) r v e) q = stillS (mk3 c3) (mk3 c4) (1, 1, 1) := by
  have e3 := still_eq (o0 := o0) (o1 := o1) (o2 := o2) (v := v) (e := e) hr h3 h4 (long_lt h5) hq (ch := 3) (.inl rfl)
  have e4 := still_eq (o0 := o0) (o1 := o1) (o2 := o2) (v := v) (e := e) hr h3 h4 (long_lt h5) hq (ch := 4) (.inr (.inl rfl))
  have e5 := still_eq (o0 := o0) (o1 := o1) (o2 := o2) (v := v) (e := e) hr h3 h4 (long_lt h5) hq (ch := 5) (.inr (.inr rfl))
  show [written (still _ q 3), written (still _ q 4), written (still _ q 5)] = _
  rw [e3, e4, e5, ← mk3_long h5]
  rfl
theorem st_take (hr : r < 6) (h3 : c3.1 < 4 ∧ c3.2 < 4) (h4 : c4.1 < 4 ∧ c4.2 < 4) (h5 : Long c5) (hq : ∀ k, k < 3 → lw (q k) = 97 + k) {ch : Nat} (hc : ch = 3 ∨ ch = 4 ∨ ch = 5) (i : Nat) :
    (written ((still (laid (mkB o0 o1 o2 c3 c4 c5) r v e) q ch).take i)).natAbs < 2 ^ 64 := by
  rw [still_eq hr h3 h4 (long_lt h5) hq hc]
  exact written_take unit_len (unit_mem (lm_rng _ _) (lm_rng _ _) (lm_rng _ _)) i
theorem evens_M (h3 : c3.1 < 4 ∧ c3.2 < 4) (h4 : c4.1 < 4 ∧ c4.2 < 4) (h5 : Long c5) : evens (mkB o0 o1 o2 c3 c4 c5) = evM (mk3 c3) (mk3 c4) (1, 1, 1) := by
  rw [evens_eq, ring_eq h3, ring_eq h4, ring_eq (long_lt h5), mk3_long h5]; rfl
theorem st_rng (hr : r < 6) (h3 : c3.1 < 4 ∧ c3.2 < 4) (h4 : c4.1 < 4 ∧ c4.2 < 4) (h5 : Long c5) (hq : ∀ k, k < 3 → lw (q k) = 97 + k) :
    ∀ x ∈ numsOf false (stN (laid (mkB o0 o1 o2 c3 c4 c5) r v e) q), 0 ≤ x ∧ x < 16777216 := by
  intro x hx
  rw [stN_eq hr h3 h4 h5 hq] at hx
  have := List.all_eq_true.mp (chk_at (mk3_mem h3) (mk3_mem h4)).2 x hx
  simp only [Bool.and_eq_true, decide_eq_true_eq] at this
  exact this
theorem st_perm (hr : r < 6) (h3 : c3.1 < 4 ∧ c3.2 < 4) (h4 : c4.1 < 4 ∧ c4.2 < 4) (h5 : Long c5) (hq : ∀ k, k < 3 → lw (q k) = 97 + k) :
    (digsOf (numsOf false (stN (laid (mkB o0 o1 o2 c3 c4 c5) r v e) q))).Perm (toldD (evens (mkB o0 o1 o2 c3 c4 c5)) (evens (mkB o0 o1 o2 c3 c4 c5))) := by
  rw [stN_eq hr h3 h4 h5 hq, evens_M h3 h4 h5]
  exact List.isPerm_iff.mp (chk_at (mk3_mem h3) (mk3_mem h4)).1
theorem st_pairs (hr : r < 6) (h3 : c3.1 < 4 ∧ c3.2 < 4) (h4 : c4.1 < 4 ∧ c4.2 < 4) (h5 : Long c5) (hq : ∀ k, k < 3 → lw (q k) = 97 + k) :
    wordsOf false (stN (laid (mkB o0 o1 o2 c3 c4 c5) r v e) q) = pairsOf2 (mkB o0 o1 o2 c3 c4 c5) := by
  rw [words_digs (st_rng hr h3 h4 h5 hq)]
  unfold pairsOf2
  rw [toldW_digs]
  exact sortB_perm_eq ((st_perm hr h3 h4 h5 hq).map mkW)
theorem digsOf_len (ns : List Int) : (digsOf ns).length ≤ ns.length := by
  unfold digsOf
  have := List.length_filter_le (fun ds : List Nat => !ds.contains 0) (ns.map fun n => dg n.toNat)
  rw [List.length_map] at this
  exact this
theorem told_lt (h3 : c3.1 < 4 ∧ c3.2 < 4) (h4 : c4.1 < 4 ∧ c4.2 < 4) (h5 : Long c5) : (toldW (evens (mkB o0 o1 o2 c3 c4 c5)) (evens (mkB o0 o1 o2 c3 c4 c5))).length < 64 := by
  have p := (st_perm (r := 0) (v := 0) (e := 0) (o0 := o0) (o1 := o1) (o2 := o2) (q := fun k => 97 + k) (by decide) h3 h4 h5 (fun k _ => lowN k)).length_eq
  have l := digsOf_len (numsOf false (stN (laid (mkB o0 o1 o2 c3 c4 c5) 0 0 0) fun k => 97 + k))
  have n : (numsOf false (stN (laid (mkB o0 o1 o2 c3 c4 c5) 0 0 0) fun k => 97 + k)).length = 27 := numsOf_len false _ [0]
  rw [toldW_digs, List.length_map, ← p]
  omega
end
end Mine

namespace Mine

/-! the words by fours -/
def combos : List (Nat × Nat × Nat) := ([1, 2, 3] : List Nat).flatMap fun c => ([1, 2, 3] : List Nat).flatMap fun b => ([1, 2, 3] : List Nat).map fun a => (a, b, c)
def fV (A B C : V6) (t : Nat × Nat × Nat) : V6 := addV (addV (addV (0, 0, 0, 0, 0, 0) (mulV t.1 A)) (mulV t.2.1 B)) (mulV t.2.2 C)
theorem numsV_combos (A B C : V6) : numsV [A, B, C] = combos.map (fV A B C) := rfl
def tfN (o : Nat) (c : Nat × Nat) (j : Nat) : Nat := (tf o c j).toNat
theorem tf_rng (o : Nat) (c : Nat × Nat) (j : Nat) : 0 ≤ tf o c j ∧ tf o c j < 4 := ⟨Int.fmod_nonneg_of_pos _ (by decide), Int.fmod_lt_of_pos _ (by decide)⟩
theorem tfN_eq (o : Nat) (c : Nat × Nat) (j : Nat) : tf o c j = (tfN o c j : Int) := by
  have := tf_rng o c j
  unfold tfN; omega
theorem tfN_le (o : Nat) (c : Nat × Nat) (j : Nat) : tfN o c j ≤ 3 := by
  have := tf_rng o c j
  unfold tfN; omega
def vA (o0 o1 o2 : Nat) (c : Nat × Nat) : V6 := (tfN o0 c 0, tfN o1 c 1, tfN o2 c 2, 1, 0, 0)
def vB (o0 o1 o2 : Nat) (c : Nat × Nat) : V6 := (tfN o0 c 0, tfN o1 c 1, tfN o2 c 2, 0, 1, 0)
def vC (o0 o1 o2 : Nat) (c : Nat × Nat) : V6 := (tfN o0 c 0, tfN o1 c 1, tfN o2 c 2, 0, 0, 1)
theorem le3_A (o0 o1 o2 : Nat) (c : Nat × Nat) : le3 (vA o0 o1 o2 c) := ⟨tfN_le _ _ _, tfN_le _ _ _, tfN_le _ _ _, show 1 ≤ 3 by decide, show 0 ≤ 3 by decide, show 0 ≤ 3 by decide⟩
theorem le3_B (o0 o1 o2 : Nat) (c : Nat × Nat) : le3 (vB o0 o1 o2 c) := ⟨tfN_le _ _ _, tfN_le _ _ _, tfN_le _ _ _, show 0 ≤ 3 by decide, show 1 ≤ 3 by decide, show 0 ≤ 3 by decide⟩
theorem le3_C (o0 o1 o2 : Nat) (c : Nat × Nat) : le3 (vC o0 o1 o2 c) := ⟨tfN_le _ _ _, tfN_le _ _ _, tfN_le _ _ _, show 0 ≤ 3 by decide, show 0 ≤ 3 by decide, show 1 ≤ 3 by decide⟩
theorem wr_A (o0 o1 o2 : Nat) (c : Nat × Nat) : written (unitC 3 (tf o0 c 0) (tf o1 c 1) (tf o2 c 2)) = ((wv (vA o0 o1 o2 c) : Nat) : Int) := by
  rw [tfN_eq, tfN_eq, tfN_eq]
  unfold wv vA
  show ((((((0 : Int) * 16 + _) * 16 + _) * 16 + _) * 16 + 1) * 16 + 0) * 16 + 0 = _
  dsimp only; omega
theorem wr_B (o0 o1 o2 : Nat) (c : Nat × Nat) : written (unitC 4 (tf o0 c 0) (tf o1 c 1) (tf o2 c 2)) = ((wv (vB o0 o1 o2 c) : Nat) : Int) := by
  rw [tfN_eq, tfN_eq, tfN_eq]
  unfold wv vB
  show ((((((0 : Int) * 16 + _) * 16 + _) * 16 + _) * 16 + 0) * 16 + 1) * 16 + 0 = _
  dsimp only; omega
theorem wr_C (o0 o1 o2 : Nat) (c : Nat × Nat) : written (unitC 5 (tf o0 c 0) (tf o1 c 1) (tf o2 c 2)) = ((wv (vC o0 o1 o2 c) : Nat) : Int) := by
  rw [tfN_eq, tfN_eq, tfN_eq]
  unfold wv vC
  show ((((((0 : Int) * 16 + _) * 16 + _) * 16 + _) * 16 + 0) * 16 + 0) * 16 + 1 = _
  dsimp only; omega

/-- no figure is nought -/
def zp (a b c : Nat) (t : Nat × Nat × Nat) : Bool := (t.1 * a + t.2.1 * b + t.2.2 * c) % 4 == 0
theorem mod3 (a x b y c z : Nat) : (((0 + a * x % 4) % 4 + b * y % 4) % 4 + c * z % 4) % 4 = (a * x + b * y + c * z) % 4 := by
  generalize a * x = p; generalize b * y = q; generalize c * z = r
  omega
theorem combos_rng : ∀ t ∈ combos, (1 ≤ t.1 ∧ t.1 ≤ 3) ∧ (1 ≤ t.2.1 ∧ t.2.1 ≤ 3) ∧ (1 ≤ t.2.2 ∧ t.2.2 ≤ 3) := by decide +kernel
theorem combos_nodup : combos.Nodup := by decide +kernel
theorem toL_f {a0 a1 a2 b0 b1 b2 c0 c1 c2 : Nat} {t : Nat × Nat × Nat} (h : t ∈ combos) : toL (fV (a0, a1, a2, 1, 0, 0) (b0, b1, b2, 0, 1, 0) (c0, c1, c2, 0, 0, 1) t) =
    [(t.1 * a0 + t.2.1 * b0 + t.2.2 * c0) % 4, (t.1 * a1 + t.2.1 * b1 + t.2.2 * c1) % 4, (t.1 * a2 + t.2.1 * b2 + t.2.2 * c2) % 4, t.1, t.2.1, t.2.2] := by
  obtain ⟨h1, h2, h3⟩ := combos_rng t h
  unfold fV addV mulV toL
  dsimp only
  rw [mod3, mod3, mod3, mod3, mod3, mod3]
  simp only [Nat.mul_one, Nat.mul_zero, Nat.add_zero, Nat.zero_add]
  rw [Nat.mod_eq_of_lt (a := t.1) (by omega), Nat.mod_eq_of_lt (a := t.2.1) (by omega), Nat.mod_eq_of_lt (a := t.2.2) (by omega)]
def gd3 (A B C : V6) (t : Nat × Nat × Nat) : Bool := !zp A.1 B.1 C.1 t && !zp A.2.1 B.2.1 C.2.1 t && !zp A.2.2.1 B.2.2.1 C.2.2.1 t
theorem beq0 {n : Nat} (h : 1 ≤ n) : (0 == n) = false := by rw [beq_eq_false_iff_ne]; omega
theorem beq_sw (n : Nat) : (0 == n) = (n == 0) := by rw [Bool.eq_iff_iff, beq_iff_eq, beq_iff_eq]; exact eq_comm

section
variable {o0 o1 o2 : Nat} {c3 c4 c5 : Nat × Nat}
theorem f_ok {t : Nat × Nat × Nat} (h : t ∈ combos) : (!(toL (fV (vA o0 o1 o2 c3) (vB o0 o1 o2 c4) (vC o0 o1 o2 c5) t)).contains 0) = gd3 (vA o0 o1 o2 c3) (vB o0 o1 o2 c4) (vC o0 o1 o2 c5) t := by
  obtain ⟨h1, h2, h3⟩ := combos_rng t h
  unfold gd3 zp vA vB vC
  rw [toL_f h]
  simp only [List.contains_cons, List.contains_nil, Bool.or_false, beq0 h1.1, beq0 h2.1, beq0 h3.1, beq_sw]
  simp only [Bool.not_or, Bool.and_assoc]
theorem digs_tu (A B C : V6) (hA : le3 A) (hB : le3 B) (hC : le3 C) : digsOf (numsOf true (([A, B, C] : List V6).map fun x => ((wv x : Nat) : Int))) = (combos.map fun t => toL (fV A B C t)).filter fun ds => !ds.contains 0 := by
  rw [numsOf_V (by
    intro x hx
    simp only [List.mem_cons, List.not_mem_nil, or_false] at hx
    rcases hx with rfl | rfl | rfl <;> assumption)]
  unfold digsOf
  congr 1
  rw [List.map_map]
  have : (numsV [A, B, C]).map ((fun n : Int => dg n.toNat) ∘ fun x => ((wv x : Nat) : Int)) = (numsV [A, B, C]).map toL := by
    refine List.map_congr_left fun x hx => ?_
    show dg (((wv x : Nat) : Int)).toNat = _
    rw [Int.toNat_natCast, dg_wv (numsV_le x hx)]
  rw [this, numsV_combos, List.map_map]; rfl
theorem digs_gd : (combos.map fun t => toL (fV (vA o0 o1 o2 c3) (vB o0 o1 o2 c4) (vC o0 o1 o2 c5) t)).filter (fun ds => !ds.contains 0) =
    (combos.filter (gd3 (vA o0 o1 o2 c3) (vB o0 o1 o2 c4) (vC o0 o1 o2 c5))).map fun t => toL (fV (vA o0 o1 o2 c3) (vB o0 o1 o2 c4) (vC o0 o1 o2 c5) t) := by
  rw [List.filter_map]
  congr 1
  exact List.filter_congr fun t h => f_ok h
end

/-! how many -/
def trits : List Int := [-1, 0, 1]
def xm (o : Bool) (x : Int) : Nat := ((if o then x else -x).fmod 4).toNat
theorem tfN_xm (o : Nat) (c : Nat × Nat) (j : Nat) : tfN o c j = xm (o == 1) (sL c j) := by
  unfold tfN tf xm sk
  cases o == 1
  · simp
  · simp
theorem sL_trit (c : Nat × Nat) (j : Nat) : sL c j ∈ trits := by
  rcases sL_val c j with h | h | h <;> rw [h] <;> decide
theorem zp_o_all : (combos.all fun t => trits.all fun x => trits.all fun y => trits.all fun z => zp (xm false x) (xm false y) (xm false z) t == zp (xm true x) (xm true y) (xm true z) t) = true := by decide +kernel
theorem zp_o {o : Bool} {x y z : Int} (hx : x ∈ trits) (hy : y ∈ trits) (hz : z ∈ trits) {t : Nat × Nat × Nat} (h : t ∈ combos) : zp (xm o x) (xm o y) (xm o z) t = zp (xm true x) (xm true y) (xm true z) t := by
  cases o with
  | true => rfl
  | false => exact eq_of_beq (List.all_eq_true.mp (List.all_eq_true.mp (List.all_eq_true.mp (List.all_eq_true.mp zp_o_all t h) x hx) y hy) z hz)
abbrev S3 := Int × Int × Int
def sl3 (c : Nat × Nat) : S3 := (sL c 0, sL c 1, sL c 2)
def gdS (a b c : S3) (t : Nat × Nat × Nat) : Bool := !zp (xm true a.1) (xm true b.1) (xm true c.1) t && !zp (xm true a.2.1) (xm true b.2.1) (xm true c.2.1) t && !zp (xm true a.2.2) (xm true b.2.2) (xm true c.2.2) t
theorem gd_S {o0 o1 o2 : Nat} {c3 c4 c5 : Nat × Nat} {t : Nat × Nat × Nat} (h : t ∈ combos) : gd3 (vA o0 o1 o2 c3) (vB o0 o1 o2 c4) (vC o0 o1 o2 c5) t = gdS (sl3 c3) (sl3 c4) (sl3 c5) t := by
  unfold gd3 gdS vA vB vC sl3
  dsimp only
  simp only [tfN_xm]
  rw [zp_o (o := o0 == 1) (sL_trit c3 0) (sL_trit c4 0) (sL_trit c5 0) h, zp_o (o := o1 == 1) (sL_trit c3 1) (sL_trit c4 1) (sL_trit c5 1) h, zp_o (o := o2 == 1) (sL_trit c3 2) (sL_trit c4 2) (sL_trit c5 2) h]
def sMasks : List S3 := [(0, 0, 0), (1, 0, 0), (0, 1, 0), (0, 0, 1), (1, 1, 0), (0, 1, 1), (1, 1, 1), (-1, 0, 0), (0, -1, 0), (0, 0, -1), (-1, -1, 0), (0, -1, -1), (-1, -1, -1)]
def absS (a : S3) : S3 := (a.1.natAbs, a.2.1.natAbs, a.2.2.natAbs)
theorem sl3_mem' : ∀ a b : Fin 4, sl3 (a.val, b.val) ∈ sMasks ∧ mk3 (a.val, b.val) = absS (sl3 (a.val, b.val)) := by decide +kernel
theorem sl3_mem {c : Nat × Nat} (h : c.1 < 4 ∧ c.2 < 4) : sl3 c ∈ sMasks ∧ mk3 c = absS (sl3 c) := sl3_mem' ⟨c.1, h.1⟩ ⟨c.2, h.2⟩
def sOnes : List S3 := [(1, 1, 1), (-1, -1, -1)]
theorem sl3_long {c : Nat × Nat} (h : Long c) : sl3 c ∈ sOnes := by rcases h with rfl | rfl <;> decide
def cntS (m3 m4 : S3) : Nat := (digsOf (numsOf false (stillS m3 m4 (1, 1, 1)))).length
def cntT (a b c : S3) : Nat := (combos.filter (gdS a b c)).length
theorem cnt_all : (sMasks.all fun a => sMasks.all fun b => let n := cntS (absS a) (absS b); sOnes.all fun c => cntT a b c == n) = true := by decide +kernel
end Mine

namespace Mine

theorem map_inj16 : ∀ {fs gs : List Nat}, (∀ f ∈ fs, f < 16) → (∀ f ∈ gs, f < 16) → fs.map (fun x => (65 + x).toUInt8) = gs.map (fun x => (65 + x).toUInt8) → fs = gs
  | [], [], _, _, _ => rfl
  | [], g :: gs, _, _, h => by cases h
  | f :: fs, [], _, _, h => by cases h
  | f :: fs, g :: gs, hf, hg, h => by
    rw [List.map_cons, List.map_cons] at h
    obtain ⟨h1, h2⟩ := List.cons.inj h
    have a := hf f List.mem_cons_self
    have b := hg g List.mem_cons_self
    have e : ∀ n, n < 16 → (65 + n).toUInt8.toNat = 65 + n := fun n hn => by simp [UInt8.toNat_ofNat']; omega
    have h1 := congrArg UInt8.toNat h1
    rw [e f a, e g b] at h1
    rw [map_inj16 (fun x hx => hf x (List.mem_cons_of_mem _ hx)) (fun x hx => hg x (List.mem_cons_of_mem _ hx)) h2]
    have : f = g := by omega
    rw [this]
theorem mkW_inj {fs gs : List Nat} (hf : ∀ f ∈ fs, f < 16) (hg : ∀ f ∈ gs, f < 16) (h : mkW fs = mkW gs) : fs = gs := by
  have h : (66 :: fs.map (65 + ·)).map (·.toUInt8) = (66 :: gs.map (65 + ·)).map (·.toUInt8) := congrArg Array.toList h
  rw [List.map_cons, List.map_cons] at h
  have h := (List.cons.inj h).2
  rw [List.map_map, List.map_map] at h
  exact map_inj16 hf hg h
theorem unlike_all : ∀ tw : List (Array UInt8), tw.Nodup → (∀ w ∈ tw, w ≠ #[]) → ((tw.zip (tw.drop 1 ++ [#[]])).filter fun p => p.1.toList != p.2.toList).map (·.1) = tw
  | [], _, _ => rfl
  | [x], _, h => by
    have hx := h x List.mem_cons_self
    have : (x.toList != (#[] : Array UInt8).toList) = true := by
      rw [bne_iff_ne]
      exact fun q => hx (Array.toList_inj.mp q)
    show (List.filter _ [(x, #[])]).map _ = _
    rw [List.filter_cons_of_pos (p := fun p : Array UInt8 × Array UInt8 => p.1.toList != p.2.toList) this]; rfl
  | x :: y :: r, hn, h => by
    have hxy : x ≠ y := fun q => (List.nodup_cons.mp hn).1 (by rw [q]; exact List.mem_cons_self)
    have : (x.toList != y.toList) = true := by
      rw [bne_iff_ne]
      exact fun q => hxy (Array.toList_inj.mp q)
    have ih := unlike_all (y :: r) (List.nodup_cons.mp hn).2 fun w hw => h w (List.mem_cons_of_mem _ hw)
    show (List.filter _ ((x, y) :: ((y :: r).zip (r ++ [#[]])))).map _ = _
    rw [List.filter_cons_of_pos (p := fun p : Array UInt8 × Array UInt8 => p.1.toList != p.2.toList) this, List.map_cons]
    exact congrArg (x :: ·) ih
theorem filt_sum (q : Nat → Bool) (F : Nat → Int) : ∀ l : List Nat, ((l.filter q).map F).sum = (l.map fun p => if q p then F p else 0).sum
  | [] => rfl
  | p :: l => by
    have := filt_sum q F l
    cases h : q p <;> simp [h, this]
theorem flow_eq (fs : List Nat) (bs : List (Nat × Nat)) (sel : Nat × Nat → Nat) (t : Nat) : flow fs bs sel t = sum6 fun p => if sel (bs.getD p (0, 0)) == t then ((fs.getD p 0 : Nat) : Int) else 0 := by
  unfold flow
  rw [filt_sum]
  generalize (fun p => if sel (bs.getD p (0, 0)) == t then ((fs.getD p 0 : Nat) : Int) else 0) = G
  show ([0, 1, 2, 3, 4, 5].map G).sum = _
  unfold sum6
  simp only [List.map_cons, List.map_nil, List.sum_cons, List.sum_nil]
  omega
def wts (bs : List (Nat × Nat)) (t : Nat) : List Int := [sgn (bs.getD 0 (0, 0)) t, sgn (bs.getD 1 (0, 0)) t, sgn (bs.getD 2 (0, 0)) t, sgn (bs.getD 3 (0, 0)) t, sgn (bs.getD 4 (0, 0)) t, sgn (bs.getD 5 (0, 0)) t]
theorem flow_wt (x : V6) (bs : List (Nat × Nat)) (t : Nat) : flow (toL x) bs (·.1) t - flow (toL x) bs (·.2) t = wt (wts bs t) x := by
  have key : ∀ (c : Nat × Nat) (y : Nat), (if c.1 == t then (y : Int) else 0) - (if c.2 == t then (y : Int) else 0) = sgn c t * (y : Int) := by
    intro c y
    unfold sgn
    split <;> split <;> simp
  rw [flow_eq, flow_eq]
  have k0 := key (bs.getD 0 (0, 0)) x.1
  have k1 := key (bs.getD 1 (0, 0)) x.2.1
  have k2 := key (bs.getD 2 (0, 0)) x.2.2.1
  have k3 := key (bs.getD 3 (0, 0)) x.2.2.2.1
  have k4 := key (bs.getD 4 (0, 0)) x.2.2.2.2.1
  have k5 := key (bs.getD 5 (0, 0)) x.2.2.2.2.2
  show ((if (bs.getD 0 (0, 0)).1 == t then (x.1 : Int) else 0) + (if (bs.getD 1 (0, 0)).1 == t then (x.2.1 : Int) else 0) + (if (bs.getD 2 (0, 0)).1 == t then (x.2.2.1 : Int) else 0) + (if (bs.getD 3 (0, 0)).1 == t then (x.2.2.2.1 : Int) else 0) + (if (bs.getD 4 (0, 0)).1 == t then (x.2.2.2.2.1 : Int) else 0) + (if (bs.getD 5 (0, 0)).1 == t then (x.2.2.2.2.2 : Int) else 0)) -
    ((if (bs.getD 0 (0, 0)).2 == t then (x.1 : Int) else 0) + (if (bs.getD 1 (0, 0)).2 == t then (x.2.1 : Int) else 0) + (if (bs.getD 2 (0, 0)).2 == t then (x.2.2.1 : Int) else 0) + (if (bs.getD 3 (0, 0)).2 == t then (x.2.2.2.1 : Int) else 0) + (if (bs.getD 4 (0, 0)).2 == t then (x.2.2.2.2.1 : Int) else 0) + (if (bs.getD 5 (0, 0)).2 == t then (x.2.2.2.2.2 : Int) else 0)) =
    sgn (bs.getD 0 (0, 0)) t * (x.1 : Int) + sgn (bs.getD 1 (0, 0)) t * (x.2.1 : Int) + sgn (bs.getD 2 (0, 0)) t * (x.2.2.1 : Int) + sgn (bs.getD 3 (0, 0)) t * (x.2.2.2.1 : Int) + sgn (bs.getD 4 (0, 0)) t * (x.2.2.2.2.1 : Int) + sgn (bs.getD 5 (0, 0)) t * (x.2.2.2.2.2 : Int)
  rw [← k0, ← k1, ← k2, ← k3, ← k4, ← k5]
  omega

theorem sgn_pk' (o : Nat) : sgn (pk o 0) 0 = sk o ∧ sgn (pk o 1) 0 = 0 ∧ sgn (pk o 2) 0 = 0 ∧ sgn (pk o 1) 1 = sk o ∧ sgn (pk o 2) 1 = 0 ∧ sgn (pk o 2) 2 = sk o := by
  unfold pk sk
  cases h : o == 1 <;> simp [sgn]
theorem tf_k (o : Nat) (c : Nat × Nat) (j : Nat) : ∃ k : Int, sk o * tf o c j = -(sL c j) + 4 * k := by
  have h := tf_step o c j 0
  have e : tf o c j * -(sk o) = -(sk o * tf o c j) := by rw [Int.mul_neg, Int.mul_comm]
  rw [e] at h
  exact ⟨(sk o * tf o c j + sL c j) / 4, by omega⟩
section
variable {o0 o1 o2 r v e : Nat} {c c3 c4 c5 : Nat × Nat}
theorem rule_ok (hc : c.1 < 4 ∧ c.2 < 4) : ∀ t, t < 3 → (sgn (pk o0 0) t * tf o0 c 0 + sgn (pk o1 1) t * tf o1 c 1 + sgn (pk o2 2) t * tf o2 c 2 + sgn c t) % 4 = 0 := by
  obtain ⟨a0, a1, a2, a3, a4, a5⟩ := sgn_pk' o0
  obtain ⟨b0, b1, b2, b3, b4, b5⟩ := sgn_pk' o1
  obtain ⟨d0, d1, d2, d3, d4, d5⟩ := sgn_pk' o2
  obtain ⟨e0, e1, _⟩ := sgn_pk o0
  obtain ⟨_, _, f2⟩ := sgn_pk o1
  obtain ⟨s0, s1, s2⟩ := sL_step ⟨c.1, hc.1⟩ ⟨c.2, hc.2⟩
  have s0 : sgn c 0 = sL c 0 := s0
  have s1 : sL c 0 + sgn c 1 = sL c 1 := s1
  have s2 : sL c 1 + sgn c 2 = sL c 2 := s2
  obtain ⟨p, hp⟩ := tf_k o0 c 0
  obtain ⟨q, hq⟩ := tf_k o1 c 1
  obtain ⟨u, hu⟩ := tf_k o2 c 2
  intro t ht
  match t, ht with
  | 0, _ =>
    rw [a0, b1, d2, hp, Int.zero_mul, Int.zero_mul]; omega
  | 1, _ =>
    rw [e0, b3, d4, Int.neg_mul, hp, hq, Int.zero_mul]; omega
  | 2, _ =>
    rw [e1, f2, d5, Int.neg_mul, hq, hu, Int.zero_mul]; omega
theorem wt_A (h3 : c3.1 < 4 ∧ c3.2 < 4) {t : Nat} (ht : t < 3) : wt (wts (mkB o0 o1 o2 c3 c4 c5) t) (vA o0 o1 o2 c3) % 4 = 0 := by
  have h := rule_ok (o0 := o0) (o1 := o1) (o2 := o2) h3 t ht
  rw [tfN_eq, tfN_eq, tfN_eq] at h
  show (sgn (pk o0 0) t * (tfN o0 c3 0 : Int) + sgn (pk o1 1) t * (tfN o1 c3 1 : Int) + sgn (pk o2 2) t * (tfN o2 c3 2 : Int) + sgn c3 t * ((1 : Nat) : Int) + sgn c4 t * ((0 : Nat) : Int) + sgn c5 t * ((0 : Nat) : Int)) % 4 = 0
  simp only [Int.natCast_one, Int.natCast_zero, Int.mul_one, Int.mul_zero, Int.add_zero] 
  exact h
theorem wt_B (h4 : c4.1 < 4 ∧ c4.2 < 4) {t : Nat} (ht : t < 3) : wt (wts (mkB o0 o1 o2 c3 c4 c5) t) (vB o0 o1 o2 c4) % 4 = 0 := by
  have h := rule_ok (o0 := o0) (o1 := o1) (o2 := o2) h4 t ht
  rw [tfN_eq, tfN_eq, tfN_eq] at h
  show (sgn (pk o0 0) t * (tfN o0 c4 0 : Int) + sgn (pk o1 1) t * (tfN o1 c4 1 : Int) + sgn (pk o2 2) t * (tfN o2 c4 2 : Int) + sgn c3 t * ((0 : Nat) : Int) + sgn c4 t * ((1 : Nat) : Int) + sgn c5 t * ((0 : Nat) : Int)) % 4 = 0
  simp only [Int.natCast_one, Int.natCast_zero, Int.mul_one, Int.mul_zero, Int.add_zero]
  exact h
theorem wt_C (h5 : c5.1 < 4 ∧ c5.2 < 4) {t : Nat} (ht : t < 3) : wt (wts (mkB o0 o1 o2 c3 c4 c5) t) (vC o0 o1 o2 c5) % 4 = 0 := by
  have h := rule_ok (o0 := o0) (o1 := o1) (o2 := o2) h5 t ht
  rw [tfN_eq, tfN_eq, tfN_eq] at h
  show (sgn (pk o0 0) t * (tfN o0 c5 0 : Int) + sgn (pk o1 1) t * (tfN o1 c5 1 : Int) + sgn (pk o2 2) t * (tfN o2 c5 2 : Int) + sgn c3 t * ((0 : Nat) : Int) + sgn c4 t * ((0 : Nat) : Int) + sgn c5 t * ((1 : Nat) : Int)) % 4 = 0
  simp only [Int.natCast_one, Int.natCast_zero, Int.mul_one, Int.mul_zero, Int.add_zero]
  exact h

theorem tuN_eq (hr : r < 6) (h3 : c3.1 < 4 ∧ c3.2 < 4) (h4 : c4.1 < 4 ∧ c4.2 < 4) (h5 : Long c5) :
    tuN (laid (mkB o0 o1 o2 c3 c4 c5) r v e) = ([vA o0 o1 o2 c3, vB o0 o1 o2 c4, vC o0 o1 o2 c5] : List V6).map fun x => ((wv x : Nat) : Int) := by
  have e3 := turned_eq (o0 := o0) (o1 := o1) (o2 := o2) (v := v) (e := e) hr h3 h4 (long_lt h5) (ch := 3) (.inl rfl)
  have e4 := turned_eq (o0 := o0) (o1 := o1) (o2 := o2) (v := v) (e := e) hr h3 h4 (long_lt h5) (ch := 4) (.inr (.inl rfl))
  have e5 := turned_eq (o0 := o0) (o1 := o1) (o2 := o2) (v := v) (e := e) hr h3 h4 (long_lt h5) (ch := 5) (.inr (.inr rfl))
  show [written (turned _ 3), written (turned _ 4), written (turned _ 5)] = _
  rw [e3, e4, e5]
  show [written (unitC 3 (tf o0 c3 0) (tf o1 c3 1) (tf o2 c3 2)), written (unitC 4 (tf o0 c4 0) (tf o1 c4 1) (tf o2 c4 2)), written (unitC 5 (tf o0 c5 0) (tf o1 c5 1) (tf o2 c5 2))] = _
  rw [wr_A, wr_B, wr_C]; rfl
theorem tu_take (hr : r < 6) (h3 : c3.1 < 4 ∧ c3.2 < 4) (h4 : c4.1 < 4 ∧ c4.2 < 4) (h5 : Long c5) {ch : Nat} (hc : ch = 3 ∨ ch = 4 ∨ ch = 5) (i : Nat) :
    (written ((turned (laid (mkB o0 o1 o2 c3 c4 c5) r v e) ch).take i)).natAbs < 2 ^ 64 := by
  rw [turned_eq hr h3 h4 (long_lt h5) hc]
  have hh : ∀ o c j, 0 ≤ tf o c j ∧ tf o c j < 16 := fun o c j => by have := tf_rng o c j; omega
  exact written_take unit_len (unit_mem (hh _ _ _) (hh _ _ _) (hh _ _ _)) i
theorem tu_nums (hr : r < 6) (h3 : c3.1 < 4 ∧ c3.2 < 4) (h4 : c4.1 < 4 ∧ c4.2 < 4) (h5 : Long c5) :
    numsOf true (tuN (laid (mkB o0 o1 o2 c3 c4 c5) r v e)) = (numsV [vA o0 o1 o2 c3, vB o0 o1 o2 c4, vC o0 o1 o2 c5]).map fun x => ((wv x : Nat) : Int) := by
  rw [tuN_eq hr h3 h4 h5]
  refine numsOf_V fun x hx => ?_
  simp only [List.mem_cons, List.not_mem_nil, or_false] at hx
  rcases hx with rfl | rfl | rfl
  · exact le3_A _ _ _ _
  · exact le3_B _ _ _ _
  · exact le3_C _ _ _ _
theorem tu_rng (hr : r < 6) (h3 : c3.1 < 4 ∧ c3.2 < 4) (h4 : c4.1 < 4 ∧ c4.2 < 4) (h5 : Long c5) :
    ∀ x ∈ numsOf true (tuN (laid (mkB o0 o1 o2 c3 c4 c5) r v e)), 0 ≤ x ∧ x < 16777216 := by
  intro x hx
  rw [tu_nums hr h3 h4 h5] at hx
  obtain ⟨y, hy, rfl⟩ := List.mem_map.mp hx
  have := wv_lt (numsV_le y hy)
  omega
theorem tu_digs (hr : r < 6) (h3 : c3.1 < 4 ∧ c3.2 < 4) (h4 : c4.1 < 4 ∧ c4.2 < 4) (h5 : Long c5) :
    digsOf (numsOf true (tuN (laid (mkB o0 o1 o2 c3 c4 c5) r v e))) = (combos.filter (gdS (sl3 c3) (sl3 c4) (sl3 c5))).map fun t => toL (fV (vA o0 o1 o2 c3) (vB o0 o1 o2 c4) (vC o0 o1 o2 c5) t) := by
  rw [tuN_eq hr h3 h4 h5, digs_tu _ _ _ (le3_A _ _ _ _) (le3_B _ _ _ _) (le3_C _ _ _ _), digs_gd]
  congr 1
  exact List.filter_congr fun t h => gd_S h
theorem tu_len (hr : r < 6) (h3 : c3.1 < 4 ∧ c3.2 < 4) (h4 : c4.1 < 4 ∧ c4.2 < 4) (h5 : Long c5) :
    (wordsOf true (tuN (laid (mkB o0 o1 o2 c3 c4 c5) r v e))).length = (pairsOf2 (mkB o0 o1 o2 c3 c4 c5)).length := by
  have q : ∀ k, k < 3 → lw ((fun k => 97 + k) k) = 97 + k := fun k _ => lowN k
  rw [← st_pairs (v := v) (e := e) hr h3 h4 h5 q, words_digs (tu_rng hr h3 h4 h5), words_digs (st_rng hr h3 h4 h5 q), (sortB_perm _).length_eq, (sortB_perm _).length_eq, List.length_map, List.length_map, tu_digs hr h3 h4 h5, List.length_map,
    stN_eq hr h3 h4 h5 q]
  obtain ⟨m3, e3⟩ := sl3_mem h3
  obtain ⟨m4, e4⟩ := sl3_mem h4
  have := List.all_eq_true.mp (List.all_eq_true.mp (List.all_eq_true.mp cnt_all _ m3) _ m4) _ (sl3_long h5)
  rw [e3, e4]
  exact eq_of_beq this
theorem tu_nodup (hr : r < 6) (h3 : c3.1 < 4 ∧ c3.2 < 4) (h4 : c4.1 < 4 ∧ c4.2 < 4) (h5 : Long c5) : (wordsOf true (tuN (laid (mkB o0 o1 o2 c3 c4 c5) r v e))).Nodup := by
  rw [words_digs (tu_rng hr h3 h4 h5), (sortB_perm _).nodup_iff, tu_digs hr h3 h4 h5, List.map_map]
  unfold List.Nodup
  rw [List.pairwise_map]
  refine List.Pairwise.imp_of_mem (fun {a b} ha hb hne heq => hne ?_) (combos_nodup.filter (gdS (sl3 c3) (sl3 c4) (sl3 c5)))
  have ha := (List.mem_filter.mp ha).1
  have hb := (List.mem_filter.mp hb).1
  have l16 : ∀ t ∈ combos, ∀ f ∈ toL (fV (vA o0 o1 o2 c3) (vB o0 o1 o2 c4) (vC o0 o1 o2 c5) t), f < 16 := by
    intro t ht f hf
    have := numsV_le _ (by rw [numsV_combos]; exact List.mem_map_of_mem ht : fV (vA o0 o1 o2 c3) (vB o0 o1 o2 c4) (vC o0 o1 o2 c5) t ∈ numsV [vA o0 o1 o2 c3, vB o0 o1 o2 c4, vC o0 o1 o2 c5])
    obtain ⟨g1, g2, g3, g4, g5, g6⟩ := this
    simp only [toL, List.mem_cons, List.not_mem_nil, or_false] at hf
    rcases hf with rfl | rfl | rfl | rfl | rfl | rfl <;> omega
  have h := mkW_inj (l16 a ha) (l16 b hb) heq
  unfold vA vB vC at h
  rw [toL_f ha, toL_f hb] at h
  simp only [List.cons.injEq, and_true] at h
  obtain ⟨_, _, _, h1, h2, h3⟩ := h
  exact Prod.ext h1 (Prod.ext h2 h3)
theorem tu_word (hr : r < 6) (h3 : c3.1 < 4 ∧ c3.2 < 4) (h4 : c4.1 < 4 ∧ c4.2 < 4) (h5 : Long c5) {w : Array UInt8} (hw : w ∈ wordsOf true (tuN (laid (mkB o0 o1 o2 c3 c4 c5) r v e))) :
    ∃ fs : List Nat, w = mkW fs ∧ (∀ f ∈ fs, f ≤ 3) ∧ fs.length = 6 ∧ ∀ t, t < 3 → (flow fs (mkB o0 o1 o2 c3 c4 c5) (·.1) t - flow fs (mkB o0 o1 o2 c3 c4 c5) (·.2) t).fmod 4 = 0 := by
  rw [words_digs (tu_rng hr h3 h4 h5), (sortB_perm _).mem_iff, tu_digs hr h3 h4 h5, List.map_map] at hw
  obtain ⟨t, ht, rfl⟩ := List.mem_map.mp hw
  have ht := (List.mem_filter.mp ht).1
  have hx : fV (vA o0 o1 o2 c3) (vB o0 o1 o2 c4) (vC o0 o1 o2 c5) t ∈ numsV [vA o0 o1 o2 c3, vB o0 o1 o2 c4, vC o0 o1 o2 c5] := by rw [numsV_combos]; exact List.mem_map_of_mem ht
  refine ⟨_, rfl, fun f hf => ?_, rfl, fun u hu => ?_⟩
  · obtain ⟨g1, g2, g3, g4, g5, g6⟩ := numsV_le _ hx
    simp only [toL, List.mem_cons, List.not_mem_nil, or_false] at hf
    rcases hf with rfl | rfl | rfl | rfl | rfl | rfl <;> assumption
  · rw [flow_wt, Int.fmod_eq_emod_of_nonneg _ (by decide)]
    exact wt_nums _ (wt_A h3 hu) (wt_B h4 hu) (wt_C (long_lt h5) hu) _ hx
theorem tu_unlike (hr : r < 6) (h3 : c3.1 < 4 ∧ c3.2 < 4) (h4 : c4.1 < 4 ∧ c4.2 < 4) (h5 : Long c5) :
    (((wordsOf true (tuN (laid (mkB o0 o1 o2 c3 c4 c5) r v e))).zip ((wordsOf true (tuN (laid (mkB o0 o1 o2 c3 c4 c5) r v e))).drop 1 ++ [#[]])).filter fun p => p.1.toList != p.2.toList).map (·.1) = wordsOf true (tuN (laid (mkB o0 o1 o2 c3 c4 c5) r v e)) := by
  refine unlike_all _ (tu_nodup hr h3 h4 h5) fun w hw q => ?_
  obtain ⟨fs, e, _, _, _⟩ := tu_word hr h3 h4 h5 hw
  rw [q] at e
  have := congrArg Array.size e
  rw [mkW_size] at this
  cases this
end
end Mine

namespace Mine

section
variable {c : Cx} {A : Around} {env : Env} {W Wc : List Str} {Γ Γc : Gam} {x y : Str} {ds src : List D} {pos np yp lp : Pos} {ss : List Stmt} {ifs : List Expr} {s0 : Shared} {Xo : Addr → Prop} {P : Flow → Shared → Prop} {tgt iter elt : Expr} {scope : Scope} {cl : List (Str × Addr)}

/-- one list more is the frame's own, and one object more is marked -/
theorem FS.moreC {sp s : Shared} {X Y : Addr → Prop} {D Cf : Addr} (F : FS c s0 env W Xo X Y Γ sp) (k : Keeps sp s) (hn : sp.heap.get? D = none) (hal : (s.heap.get? D).isSome = true) (hc : sp.heap.get? Cf = none) (hcl : (s.heap.get? Cf).isSome = true) :
    FS c s0 env W Xo (fun a => (X a ∨ a = D) ∨ a ∈ [Cf]) (fun a => Y a ∨ a = D) Γ s ∧ Chg X Y (fun a => (X a ∨ a = D) ∨ a ∈ [Cf]) (fun a => Y a ∨ a = D) sp s := by
  have kx := kp_ext k
  have F' := F.keeps k
  have no : ∀ a o, sp.heap.get? a = some o → ¬ X a → ¬ ((X a ∨ a = D) ∨ a ∈ [Cf]) := fun a o e hx hh => by
    rcases hh with (hh | rfl) | hh
    · exact hx hh
    · rw [hn] at e; cases e
    · rw [List.mem_singleton.mp hh, hc] at e; cases e
  have hE : ∀ {en v}, EntAt X Y c.C sp en v → EntAt (fun a => (X a ∨ a = D) ∨ a ∈ [Cf]) (fun a => Y a ∨ a = D) c.C s en v :=
    fun H => (H.imp (s' := sp) (X' := fun a => (X a ∨ a = D) ∨ a ∈ [Cf]) (Y' := fun a => Y a ∨ a = D) no (fun a y => .inl y) (fun _ _ _ e => e) (fun _ _ _ _ _ e _ => e) (Nat.le_refl _)).keeps kx
  refine ⟨⟨F'.kp, fun a hx => ?_, fun a ha => .inl (.inl (F.out a ha)), fun a ha => .inl (ha.imp (F.yx a) id), fun a ha => ?_, .inl F.yL, ?_, ?_, ?_⟩, ⟨fun a o _ e => kx.1 a o e, fun a x => .inl (.inl x), fun a y => y.imp id fun e => by rw [e]; exact hn, fun a y => ?_, kx.2⟩⟩
  · rcases hx with (hx | rfl) | hx
    · exact F'.live a hx
    · exact hal
    · rw [List.mem_singleton.mp hx]; exact hcl
  · rcases ha with ha | rfl
    · exact F.yfr a ha
    · cases e : s0.heap.get? a with
      | none => rfl
      | some o => rw [(kp_ext F.kp).1 _ _ e] at hn; cases hn
  · obtain ⟨m, hn', hm⟩ := F.loc
    exact ⟨m, hn'.keeps kx.1, fun y e l k => let ⟨v, a, b⟩ := hm y e l k; ⟨v, a, hE b⟩⟩
  · exact fun y e l k => let ⟨k, a, v, h1, h2, h3, h4⟩ := F.cel y e l k; ⟨k, a, v, h1, h2.keeps kx.1, hE h3, h4.imp .inl id⟩
  · exact fun y hy => let ⟨k, a, ov, h1, h2, h3⟩ := F'.own y hy; ⟨k, a, ov, h1, .inl h2, h3⟩
  · rcases y with (y | rfl) | y
    · exact .inl y
    · exact .inr hn
    · rw [List.mem_singleton.mp y]; exact .inr hc

/-- name = [.. for ..], a list that will be filled further -/
theorem StN.assignCompM {y : Str} {yp : Pos} (f : Nat → Option D) (B : Blk env scope cl Γc Wc) (hI : EvI c A env Γ iter tgt src) (h0 : Sub Γc Γ)
    (hitem : ∀ i d, src[i]? = some d → Turn c A env Wc scope cl tgt elt ifs Γc d (f i)) (hk : env.kindOf y = some .local)
    (hmk : ∀ (X : Addr → Prop) (s : Shared) (D : Addr) (ys : Array Value) (vs : List Value), s.heap.PlainList D ys → AtAll X c.C s ((List.range src.length).filterMap f) vs → AtAll (fun a => X a ∨ a = D) c.C s ((List.range src.length).filterMap f) vs)
    (hsw : swapsWith (.ListComp elt [⟨tgt, iter, ifs, 0⟩] scope pos) (some (.Name y yp)) np.line env = pure true) (hz : src.length ≤ 1000000 := by decide) (hfz : (Γc.all fun p => p.2.frz) = true := by rfl) (hs : ∀ x, foldedSetIterable iter env x = pure x := by intro _; rfl) :
    StN c A env W Γ (.Assign [.Name y yp] (.ListComp elt [⟨tgt, iter, ifs, 0⟩] scope pos) np) ((y, .m ((List.range src.length).filterMap f)) :: Γ) := by
  intro s0 Xo X Y s G eo F
  have O := F.ok G eo
  rw [exec_Assign_Name_used _ _ _ _ hsw]
  refine wpAny_bind (wpAny_standAt (wpAny_bind ?_))
  show wpAny _ A (do let _ ← comprehension (.ListComp elt [⟨tgt, iter, ifs, 0⟩] scope pos) scope env _ (newList []) false (eval iter env) (some (PySem.assign (.Name y yp) env))) _ _ s
  refine wpAny_bind (wpAny_mono (wpAny_comprehension_free (use := some (PySem.assign (Expr.Name y yp) env)) (Q := fun _ s' => ∃ X' Y', FS c s0 env W Xo X' Y' ((y, .m ((List.range src.length).filterMap f)) :: Γ) s' ∧ Chg X Y X' Y' s s') rfl hs B.clos B.fn (fun x hx hl => B.names x hx hl)
    (wpAny_mono (hI X Y s O) (fun xv s₁ h₁ => wpAny_mono h₁ (fun it s₂ h₂ => ?_) fun _ _ x => x) fun _ _ x => x)) (fun _ s' hq => wpAny_pure (wpAny_pure ⟨rfl, hq⟩)) fun _ _ x => x)
  refine comp_data f B O h0 hz hitem hfz h₂ fun D C m s' ys hD hC hCD hn hp hkp hr => ?_
  show wpAny _ A (PySem.assign (.Name y yp) env (.ref D)) _ _ _
  obtain ⟨F1, C1⟩ := FS.moreC (D := D) (Cf := C) F hkp hD (by obtain ⟨n, e⟩ := hp; rw [e]; rfl) hC (ns_some hn)
  have hC0 : s0.heap.get? C = none := by
    cases e : s0.heap.get? C with
    | none => rfl
    | some o => rw [(kp_ext F.kp).1 _ _ e] at hC; cases hC
  have hDt : EntAt (fun a => (X a ∨ a = D) ∨ a ∈ [C]) (fun a => Y a ∨ a = D) c.C s' (.m ((List.range src.length).filterMap f)) (.ref D) :=
    ⟨D, ys, rfl, .inr rfl, hp, (hmk _ _ D ys _ hp hr).ext fun a o _ hx h => hx (by
      rcases h with (h | h) | h
      · exact .inl (.inl h)
      · exact .inr h
      · exact .inl (.inr (List.mem_singleton.mp h)))⟩
  refine wpAny_assign_Name (wpAny_mono (F1.store eo (e := .m ((List.range src.length).filterMap f)) hDt (.inl hk)) (fun _ s'' q => ?_) fun _ _ x => x)
  have hCY : ¬ (Y C ∨ C = D) := fun y => by
    rcases y with y | y
    · obtain ⟨o, e⟩ := Option.isSome_iff_exists.mp (F.live C (F.yx C y))
      rw [hC] at e; cases e
    · exact hCD y
  obtain ⟨o, es, ep, ho, hrest⟩ := hn
  have hn2 : s''.heap.Ns C m := ⟨o, es, ep, q.2.but C o hCY ho, hrest⟩
  refine ⟨m, hn2, fun h' hs' => ⟨fun a => ((X a ∨ a = D) ∨ a ∈ [C]) ∧ a ∉ [C], fun a => Y a ∨ a = D, ?_, ?_⟩⟩
  · have S2 : LoopSt c s0 env W Xo (fun a => (X a ∨ a = D) ∨ a ∈ [C]) (fun a => Y a ∨ a = D) [C] [] [] _ s'' := ⟨q.1, .nil, fun b hb => .inr hb, fun b hb => by rw [List.mem_singleton.mp hb]; exact hCY⟩
    refine S2.finish ⟨⟨h', s''.toks, rfl, Nat.le_refl _⟩, fun b o n e => same_get hs' (fun q => n (List.mem_singleton.mpr q)) e⟩ (fun b hb => by rw [List.mem_singleton.mp hb]; exact hC0) (fun b hb h => ?_)
    rw [List.mem_singleton.mp hb] at h
    have := F.live C (F.out C h)
    rw [hC] at this; cases this
  · have z := C1.trans q.2 F.yx
    refine ⟨fun a o ha e => same_get hs' (fun q => by rw [q, hC] at e; cases e) (z.but a o ha e), fun a x => ⟨.inl (.inl x), fun q => ?_⟩, z.yy, fun a x => z.xn a x.1, z.tk⟩
    rw [List.mem_singleton.mp q] at x
    have := F.live C x
    rw [hC] at this; cases this

theorem ns_ints {X : Addr → Prop} {C : Addr} {s : Shared} {a b : Nat} {vs : List Value} {X' : Addr → Prop} (H : AtAll X C s [nD a, nD b] vs) : AtAll X' C s [nD a, nD b] vs := by
  simp only [AtAll, At, nD] at H ⊢
  exact H
theorem bgs_mark {C : Addr} : ∀ (l : List (Nat × Nat)) (X : Addr → Prop) (s : Shared) (D : Addr) (ys : Array Value) (vs : List Value), s.heap.PlainList D ys → AtAll X C s (l.map bgD) vs → AtAll (fun a => X a ∨ a = D) C s (l.map bgD) vs
  | [], _, _, _, _, vs, _, H => by simpa only [List.map_nil, AtAll] using H
  | p :: l, X, s, D, ys, vs, hp, H => by
    rw [List.map_cons] at H ⊢
    simp only [AtAll] at H ⊢
    obtain ⟨v, r, rfl, h1, h2⟩ := H
    refine ⟨v, r, rfl, ?_, bgs_mark l X s D ys r hp h2⟩
    unfold bgD at h1 ⊢
    simp only [At] at h1 ⊢
    obtain ⟨a, ws, rfl, hx, ht, hr⟩ := h1
    refine ⟨a, ws, rfl, fun h => h.elim hx fun q => ?_, ht, ns_ints hr⟩
    subst q
    obtain ⟨o, e1, e2, _⟩ := ht
    obtain ⟨n, e3⟩ := hp
    rw [e1] at e3
    have := Option.some.inj e3
    rw [this] at e2
    have e2 : Value.type "list" = Value.type "tuple" := e2
    exact absurd (Value.type.inj e2) (by decide)

/-- the frame's base has a token -/
theorem FS.tok {X Y : Addr → Prop} {s : Shared} (F : FS c s0 env W Xo X Y Γ s) (h : 1 ≤ s.toks) : FS c { s0 with toks := 1 } env W Xo X Y Γ s := by
  refine ⟨?_, F.live, F.out, F.yx, F.yfr, F.yL, F.loc, F.cel, F.own⟩
  obtain ⟨h', tk, rfl, e⟩ := F.kp
  exact ⟨h', tk, rfl, e.1, h⟩
/-- name = [i, j], the first statement of all -/
theorem first_two {X Y : Addr → Prop} {s : Shared} {i j : Int} {k1 k2 : Nat} {p1 p2 : Pos} (F : FS c s0 env W Xo X Y Γ s) (eo : EnvOk env) (hk : env.kindOf x = some .local ∨ x ∈ W)
    (hs : swapsWith (.List [.Constant (.int i) k1 p1, .Constant (.int j) k2 p2] lp) (some (.Name x np)) pos.line env = pure false := by rfl) :
    wpAny c.M A (exec (.Assign [.Name x np] (.List [.Constant (.int i) k1 p1, .Constant (.int j) k2 p2] lp) pos) env) (fun fl s' => fl = .next ∧ FS c { s0 with toks := 1 } env W Xo X Y ((x, .d (.list [.int i, .int j])) :: Γ) s') NoE s := by
  refine wpAny_Assign_Name (wpAny_List (wpAny_items_cons (wpAny_Constant_int (wpAny_items_cons (wpAny_Constant_int (wpAny_items_nil ⟨show 2 ≤ sizeLine by decide, ?_⟩)) rfl)) rfl)) hs
  have k1 : Keeps s { s with toks := s.toks + 1 + 1 } := kp_tok s _
  have F1 := F.keeps k1
  have kk := kp_push { s with toks := s.toks + 1 + 1 } { cls := .type "list", data := .seq [Value.int i s.toks, Value.int j (s.toks + 1)].toArray }
  have F2 := (F1.keeps kk).tok (s0 := s0) (Nat.le_add_left 1 (s.toks + 1))
  refine wpAny_mono (F2.store eo (e := .d (.list [.int i, .int j])) ?_ hk) (fun _ s₂ q2 => ⟨rfl, q2.1⟩) fun _ _ x => x
  exact At.newList F1.live (.cons at_int (.cons at_int .nil)) _ rfl (Nat.le_refl _)
/-- a list that is being filled, and one more behind it -/
theorem Ev.catM {e2 : Expr} {es' : List D} (hx : Γ.lookup x = some (.m ds)) (h : Ev c A env Γ e2 (.list es')) (hz : ds.length + es'.length ≤ 1000000) (hd : (x == ("__debug__" : Str)) = false := by decide) (hn : (x == ("__classdict__" : Str)) = false := by decide) :
    Ev c A env Γ (.BinOp (.Name x np) .Add e2 pos) (.list (ds ++ es')) := by
  intro X Y s O
  refine wpAny_BinOp (wpAny_mono (nameE hx hd hn X Y s O) (fun v s₁ h₁ => ?_) fun _ _ x => x)
  obtain ⟨rfl, a, xs, rfl, hY, ⟨n, ho⟩, hr⟩ := h₁
  refine wpAny_mono (h X Y _ O) (fun u s₂ h₂ => ?_) fun _ _ x => x
  have k := kp_ext h₂.1
  have O₂ := O.keeps k
  have h3 := h₂.2
  simp only [At] at h3
  obtain ⟨b, ys, rfl, _, ⟨m, hb⟩, hr'⟩ := h3
  have l1 := hr.length
  have l2 := hr'.length
  simp only [Array.length_toList] at l1 l2
  refine P.add_list (k.1 _ _ ho) hb ⟨kp_trans h₂.1 (kp_push _ _), At.newList O₂.live ?_ _ rfl (Nat.le_refl _)⟩ (by rw [l1, l2]; exact Nat.le_trans hz (by decide))
  rw [Array.toList_append]
  exact (hr.keeps k).append hr'
theorem ExR.thawT {d : D} (hl : Γ.lookup x = some (.t ds)) (hfr : onlyM x Γ = true) (h : ExR c A env W ((x, .d (.table ds)) :: Γ) ss d) : ExR c A env W Γ ss d :=
  fun s0 Xo X Y s G eo L F => (ExP.thawT L hl hfr (fun X Y s F => h s0 Xo X Y s G eo L F)) X Y s F
/-- a def of one argument whose body begins with name = [i, j]: into it without a token -/
theorem FnT {a : Addr} {oc : Value} {od : Option Addr} {osl : Array (Option Value)} {name qual : Str} {params : Arguments} {rest : List Stmt} {scope : Scope} {dV kV doc pm cdv ct : Value} {an : Option Addr} {i j : Int} {k1 k2 : Nat} {p1 p2 : Pos} {d0 d : D}
    (ho : c.K.lookup a = some ⟨oc, od, .func (fnX name qual params (.Assign [.Name y np] (.List [.Constant (.int i) k1 p1, .Constant (.int j) k2 p2] lp) pos :: rest) scope [] dV kV doc pm an cdv ct), osl⟩) (hcd : codeIn c.K cdv qual = true) (hroom : A.depth < recursionLimit)
    (W : List Str) (hbind : ∀ v : Value, bindArgs (fnX name qual params (.Assign [.Name y np] (.List [.Constant (.int i) k1 p1, .Constant (.int j) k2 p2] lp) pos :: rest) scope [] dV kV doc pm an cdv ct) ⟨[v], []⟩ = pure [(x, v)])
    (hx : scope.names.lookup x = some .local ∨ x ∈ W) (hy : y ∈ W) (hW : ∀ n ∈ W, scope.names.lookup n = some .cell)
    (hb : ∀ L', ExR c (A.deeper (envK qual scope L' a cdv)) (envK qual scope L' a cdv) W [(y, .d (.list [.int i, .int j])), (x, .d d0)] rest d)
    (hs : ∀ L', swapsWith (.List [.Constant (.int i) k1 p1, .Constant (.int j) k2 p2] lp) (some (.Name y np)) pos.line (envK qual scope L' a cdv) = pure false := by intro _; rfl)
    (hco : scope.isCoroutine = false := by rfl) (hgen : scope.isGenerator = false := by rfl) (hkf : scope.kind = .function := by rfl)
    {X : Addr → Prop} {s : Shared} {v : Value} (L : Live X s.heap) (hK : c.K.In s.heap) (hT : TopRead c.p c.loose c.mg c.mb s.heap) (H : At X c.C s d0 v) :
    wpAny c.M A (PySem.call (.ref a) [v]) (fun v s' => (∃ h tk, s' = { s with heap := h, toks := tk } ∧ ExtH s.heap h) ∧ At X c.C s' d v) NoE s := by
  refine wpAny_call (fnEnter (c := c) (W := W) (hK _ _ ho) rfl (codeRec_of hK hcd) hT.nolimit hroom L (binds := [(x, v)]) (g := [(x, .d d0)]) ?_ ?_ hW (fun L' s₁ X' Y' eo F => ?_) hco hgen hkf)
  · rw [hbind v]
    exact wpAny_pure ⟨rfl, kp_refl s, .cons (ent_d H) .nil⟩
  · intro n hn
    rw [List.map_cons, List.map_nil] at hn
    rw [List.mem_singleton.mp hn]; exact hx
  · refine wpAny_execs_cons (wpAny_mono (first_two F eo (.inr hy) (hs L')) (fun fl s₂ q => ?_) fun _ _ x => x)
    obtain ⟨rfl, F2⟩ := q
    have G0 : Gd c { s with toks := 1 } := ⟨hK, hT, Nat.one_pos⟩
    refine wpAny_mono (hb L' _ X X' Y' s₂ G0 eo L F2) (fun fl s₃ q => ?_) fun _ _ x => x
    obtain ⟨v, rfl, ⟨h, tk, rfl, e⟩, hA⟩ := q
    exact ⟨⟨h, tk, rfl, e.1⟩, hA⟩
end
end Mine

namespace Mine

/-! figures of the law -/
def sl (ns : List Int) (k : Nat) : List Int := (pickIdx ns.length (some (k : Int)) none (some 2)).filterMap (ns[·]?)
def cI (ns : List Int) (k : Nat) : Int := ([2605, 32] : List Int).getD k 0 + (sl ns k).sum
theorem pick_map (f : Int → D) (l : List Int) (lo hi st : Option Int) : pickD (l.map f) lo hi st = ((pickIdx l.length lo hi st).filterMap (l[·]?)).map f := by
  unfold pickD
  rw [List.length_map, List.map_filterMap]
  congr 1
  funext j
  rw [List.getElem?_map]
theorem modN (x : Int) (b : Nat) (hb : 0 < b) : ∃ k : Nat, k < b ∧ x.fmod (b : Int) = (k : Int) := by
  have h0 := Int.fmod_nonneg_of_pos x (b := (b : Int)) (by omega)
  have h1 := Int.fmod_lt_of_pos x (b := (b : Int)) (by omega)
  exact ⟨(x.fmod (b : Int)).toNat, by omega, by omega⟩
theorem figs5 (c : Int) : ∃ d0 o0 o1 o2 d4 : Nat, d0 < 256 ∧ o0 < 2 ∧ o1 < 2 ∧ o2 < 2 ∧ d4 < 2 ∧ (figs c [256, 2, 2, 2, 2]).map D.int = [d0, o0, o1, o2, d4].map nD := by
  obtain ⟨d0, h0, e0⟩ := modN c 256 (by decide)
  obtain ⟨o0, h1, e1⟩ := modN (c.fdiv 256) 2 (by decide)
  obtain ⟨o1, h2, e2⟩ := modN ((c.fdiv 256).fdiv 2) 2 (by decide)
  obtain ⟨o2, h3, e3⟩ := modN (((c.fdiv 256).fdiv 2).fdiv 2) 2 (by decide)
  obtain ⟨d4, h4, e4⟩ := modN ((((c.fdiv 256).fdiv 2).fdiv 2).fdiv 2) 2 (by decide)
  refine ⟨d0, o0, o1, o2, d4, h0, h1, h2, h3, h4, ?_⟩
  show [D.int (c.fmod (256 : Nat)), D.int ((c.fdiv 256).fmod (2 : Nat)), D.int (((c.fdiv 256).fdiv 2).fmod (2 : Nat)), D.int ((((c.fdiv 256).fdiv 2).fdiv 2).fmod (2 : Nat)), D.int (((((c.fdiv 256).fdiv 2).fdiv 2).fdiv 2).fmod (2 : Nat))] = _
  rw [e0, e1, e2, e3, e4]; rfl
theorem figs4 (c : Int) : ∃ r v e z : Nat, r < 6 ∧ v < 2 ∧ e < 2 ∧ z < 2 ∧ (figs c [6, 2, 2, 2]).map D.int = [r, v, e, z].map nD := by
  obtain ⟨d0, h0, e0⟩ := modN c 6 (by decide)
  obtain ⟨o0, h1, e1⟩ := modN (c.fdiv 6) 2 (by decide)
  obtain ⟨o1, h2, e2⟩ := modN ((c.fdiv 6).fdiv 2) 2 (by decide)
  obtain ⟨o2, h3, e3⟩ := modN (((c.fdiv 6).fdiv 2).fdiv 2) 2 (by decide)
  refine ⟨d0, o0, o1, o2, h0, h1, h2, h3, ?_⟩
  show [D.int (c.fmod (6 : Nat)), D.int ((c.fdiv 6).fmod (2 : Nat)), D.int (((c.fdiv 6).fdiv 2).fmod (2 : Nat)), D.int ((((c.fdiv 6).fdiv 2).fdiv 2).fmod (2 : Nat))] = _
  rw [e0, e1, e2, e3]; rfl

def cdec (n : Nat) : Nat × Nat := (n / 4, n % 4)
theorem cdec_lt {n : Nat} (h : n < 16) : (cdec n).1 < 4 ∧ (cdec n).2 < 4 := by unfold cdec; dsimp only; omega
def ends3 (d4 : Nat) : Nat := if d4 = 1 then 12 else 3
def cdOf (d0 d4 : Nat) : Nat := 16 * d0 + ends3 d4
theorem cd_facts {d0 d4 : Nat} (h0 : d0 < 256) : cdOf d0 d4 < 4096 ∧ cdOf d0 d4 / 256 < 16 ∧ cdOf d0 d4 / 16 % 16 < 16 ∧ cdOf d0 d4 % 16 = ends3 d4 ∧ Long (cdec (cdOf d0 d4 % 16)) := by
  have e : ends3 d4 = 3 ∨ ends3 d4 = 12 := by unfold ends3; split <;> simp
  have m : cdOf d0 d4 % 16 = ends3 d4 := by unfold cdOf; omega
  refine ⟨?_, ?_, by omega, m, ?_⟩
  · unfold cdOf; omega
  · unfold cdOf; omega
  · rw [m]
    rcases e with e | e <;> rw [e]
    · exact .inl rfl
    · exact .inr rfl
theorem oct_cut16 {fs : List Nat} (h : ∀ f ∈ fs, f < 16) : octD (KBy.picked (mkW fs) (some 1) none) = fs.map fun f => D.int ((65 + f : Nat) : Int) := by
  unfold octD
  rw [mkW_cut, List.map_map, List.map_map]
  refine List.map_congr_left fun f hf => ?_
  have := h f hf
  show D.int (((65 + f).toUInt8.toNat : Nat) : Int) = _
  rw [show (65 + f).toUInt8.toNat = 65 + f from by simp [UInt8.toNat_ofNat']; omega]
theorem ap4 {m : Nat} (h : m < 4096) : apB 4 (4096 + m) = mkW [m / 256, m / 16 % 16, m % 16] := by
  unfold apB mkW
  congr 2
  have e0 : (4096 + m) / 16 ^ 3 % 16 = 1 := by rw [show (16 : Nat) ^ 3 = 4096 from rfl]; omega
  have e1 : (4096 + m) / 16 ^ 2 % 16 = m / 256 := by rw [show (16 : Nat) ^ 2 = 256 from rfl]; omega
  have e2 : (4096 + m) / 16 ^ 1 % 16 = m / 16 % 16 := by rw [show (16 : Nat) ^ 1 = 16 from rfl]; omega
  have e3 : (4096 + m) / 16 ^ 0 % 16 = m % 16 := by rw [show (16 : Nat) ^ 0 = 1 from rfl]; omega
  show [65 + (4096 + m) / 16 ^ 3 % 16, 65 + (4096 + m) / 16 ^ 2 % 16, 65 + (4096 + m) / 16 ^ 1 % 16, 65 + (4096 + m) / 16 ^ 0 % 16] = _
  rw [e0, e1, e2, e3]; rfl
theorem dec_div {f : Nat} : (4 : Int) + (((65 + f : Nat) : Int) - 81).fdiv 4 = ((f / 4 : Nat) : Int) := by
  rw [Int.fdiv_eq_ediv_of_nonneg _ (by decide)]; omega
theorem dec_mod {f : Nat} : (((65 + f : Nat) : Int) - 81).fmod 4 = ((f % 4 : Nat) : Int) := by
  rw [Int.fmod_eq_emod_of_nonneg _ (by decide)]; omega
def told3 (o0 o1 o2 : Nat) : List (Nat × Nat) := [pk o0 0, pk o1 1, pk o2 2]
theorem StN.isM {c : Cx} {A : Around} {env : Env} {W : List Str} {Γ : Gam} {st : Stmt} {x : Str} {l l' : List D} (q : l = l') (h : StN c A env W Γ st ((x, .m l) :: Γ)) : StN c A env W Γ st ((x, .m l') :: Γ) := q ▸ h
theorem StN.isD {c : Cx} {A : Around} {env : Env} {W : List Str} {Γ : Gam} {st : Stmt} {x : Str} {l l' : List D} (q : l = l') (h : StN c A env W Γ st ((x, .d (.list l)) :: Γ)) : StN c A env W Γ st ((x, .d (.list l')) :: Γ) := q ▸ h
abbrev Wl : List Str := ["script", "cells", "drawn", "begins", "table", "asked", "laid"]

end Mine

namespace Mine

theorem laid_mem {bs : List (Nat × Nat)} {r v e : Nat} (hb : ∀ p ∈ bs, p.1 < 4 ∧ p.2 < 4) {p : Nat × Nat} (h : p ∈ laid bs r v e) : ∃ t q, t < 4 ∧ q < 6 ∧ (p = (97 + t, 117 + q) ∨ p = (65 + t, 85 + q)) := by
  unfold laid at h
  obtain ⟨q, hq, hx⟩ := List.mem_flatMap.mp h
  have hq6 := rot_lt hq
  have hl := getD_lt hb q
  unfold endsOf at hx
  split at hx <;> simp only [List.mem_cons, List.not_mem_nil, or_false] at hx
  · rcases hx with rfl | rfl
    · exact ⟨_, q, hl.2, hq6, .inr rfl⟩
    · exact ⟨_, q, hl.1, hq6, .inl rfl⟩
  · rcases hx with rfl | rfl
    · exact ⟨_, q, hl.1, hq6, .inl rfl⟩
    · exact ⟨_, q, hl.2, hq6, .inr rfl⟩
theorem t_towns : ∀ t : Fin 4, 97 + t.val ∈ towns ∧ 65 + t.val ∈ towns ∧ 97 + t.val ∈ [97, 98, 99, 100, 101] ∧ 65 + t.val ∈ [65, 66, 67, 68, 69] := by decide +kernel
theorem q_pipes : ∀ t : Fin 6, 117 + t.val ∈ pipes ∧ 85 + t.val ∈ pipes ∧ 117 + t.val ∈ [117, 118, 119, 120, 121, 122] ∧ 85 + t.val ∈ [85, 86, 87, 88, 89, 90] := by decide +kernel
theorem laid_ok {bs : List (Nat × Nat)} {r v e : Nat} (hb : ∀ p ∈ bs, p.1 < 4 ∧ p.2 < 4) : ∀ p ∈ laid bs r v e, p.1 ∈ towns ∧ p.2 ∈ pipes ∧ good p := by
  intro p h
  obtain ⟨t, q, ht, hq, h⟩ := laid_mem hb h
  obtain ⟨a1, a2, a3, a4⟩ := t_towns ⟨t, ht⟩
  obtain ⟨b1, b2, b3, b4⟩ := q_pipes ⟨q, hq⟩
  rcases h with rfl | rfl
  · exact ⟨a1, b1, .inl ⟨a3, b3⟩⟩
  · exact ⟨a2, b2, .inr ⟨a4, b4⟩⟩
theorem laid_len (bs : List (Nat × Nat)) (r v e : Nat) : (laid bs r v e).length = 12 := by
  unfold laid
  rw [flat_len, rot_len]

def askS (z : Nat) : Str := if z = 1 then "AbCe" else "aBcE"
def qL (z : Nat) : List Nat := if z = 1 then [65, 98, 67, 101] else [97, 66, 99, 69]
def qs (z k : Nat) : Nat := (qL z).getD k 97
theorem ask_facts : ∀ z : Fin 2, (∀ k : Fin 3, qs z.val k.val ∈ towns ∧ Txt.item (askS z.val) (k.val : Int) = ⟨#[qs z.val k.val]⟩ ∧ lw (qs z.val k.val) = 97 + k.val) ∧ (askS z.val).length = 4 ∧ (∀ q ∈ qL z.val, q ∈ towns) := by decide +kernel
theorem ask_letters (z : Nat) : lettersD (askS z) = (qL z).map fun k => D.str ⟨#[k]⟩ := by
  unfold askS qL
  split <;> rfl
def boths : List Str := ["aA", "bB", "cC", "eE"]
def gaD (hs : List (Nat × Nat)) (both : Str) : D := .list ((hs.filter fun p => Txt.contains both ⟨#[p.1]⟩).map fun p => .str ⟨#[p.2]⟩)
def geD (hs : List (Nat × Nat)) (k : Nat) : D := .list ((getAll hs k).map fun b => .str ⟨#[b]⟩)
theorem both_eq : ∀ z : Fin 2, ∀ t ∈ towns, ∀ j : Fin 4, (lw t == lw ((qL z.val).getD j.val 0)) = Txt.contains (boths.getD j.val "") ⟨#[t]⟩ := by decide +kernel
theorem ge_ga {hs : List (Nat × Nat)} (hh : ∀ p ∈ hs, p.1 ∈ towns) {z : Nat} (hz : z < 2) (j : Fin 4) : geD hs ((qL z).getD j.val 0) = gaD hs (boths.getD j.val "") := by
  unfold geD gaD getAll
  rw [List.map_map]
  congr 1
  refine congr (congrArg List.map rfl) (List.filter_congr fun p hp => ?_)
  exact both_eq ⟨z, hz⟩ p.1 (hh p hp) j
theorem qL4 (z : Nat) : qL z = [(qL z).getD 0 0, (qL z).getD 1 0, (qL z).getD 2 0, (qL z).getD 3 0] := by unfold qL; split <;> rfl
theorem gathered_eq {hs : List (Nat × Nat)} (hh : ∀ p ∈ hs, p.1 ∈ towns) {z : Nat} (hz : z < 2) : (qL z).map (geD hs) = boths.map (gaD hs) := by
  rw [qL4]
  have h0 := ge_ga hh hz 0
  have h1 := ge_ga hh hz 1
  have h2 := ge_ga hh hz 2
  have h3 := ge_ga hh hz 3
  show [geD hs _, geD hs _, geD hs _, geD hs _] = [gaD hs _, gaD hs _, gaD hs _, gaD hs _]
  exact congr (congrArg _ h0) (congr (congrArg _ h1) (congr (congrArg _ h2) (congrArg (fun x => [x]) h3)))

theorem smAll_map {α : Type} (g : α → D) : ∀ l : List α, (∀ x ∈ l, sm (g x) (g x) = true) → smAll (l.map g) (l.map g) = true
  | [], _ => rfl
  | x :: l, h => by
    rw [List.map_cons, smAll, h x List.mem_cons_self, smAll_map g l fun y hy => h y (List.mem_cons_of_mem _ hy)]; rfl
theorem cmpAll_map {α : Type} (g : α → D) : ∀ l : List α, (∀ x ∈ l, cmpb (g x) (g x) = true) → cmpAll (l.map g) (l.map g) = true
  | [], _ => rfl
  | x :: l, h => by
    rw [List.map_cons, cmpAll, h x List.mem_cons_self, cmpAll_map g l fun y hy => h y (List.mem_cons_of_mem _ hy)]; rfl
theorem depAll_map {α : Type} (g : α → D) (n : Nat) : ∀ l : List α, (∀ x ∈ l, dep (g x) ≤ n) → depAll (l.map g) ≤ n
  | [], _ => by simp [depAll]
  | x :: l, h => by
    rw [List.map_cons, depAll]
    exact Nat.max_le.mpr ⟨h x List.mem_cons_self, depAll_map g n l fun y hy => h y (List.mem_cons_of_mem _ hy)⟩
theorem sm_str (x : Str) : sm (.str x) (.str x) = true := by simp [sm]
theorem ga_ok (hs : List (Nat × Nat)) (b : Str) : sm (gaD hs b) (gaD hs b) = true ∧ cmpb (gaD hs b) (gaD hs b) = true ∧ dep (gaD hs b) ≤ 1 := by
  unfold gaD
  refine ⟨?_, ?_, ?_⟩
  · rw [sm]
    exact smAll_map _ _ fun x _ => sm_str _
  · rw [cmpb, cmpAll_map (fun p : Nat × Nat => D.str ⟨#[p.2]⟩) _ fun x _ => rfl, Bool.or_true]
  · rw [dep]
    exact Nat.succ_le_succ (depAll_map _ 0 _ fun x _ => Nat.le_refl 0)
theorem by_ok (b : Array UInt8) : sm (.bytes b) (.bytes b) = true := by simp [sm]

theorem pk_one : ∀ n : Fin 64, pickIdx n.val (some 1) none none = (List.range n.val).drop 1 := by decide +kernel
theorem drop_get {α : Type} (ds : List α) : ((List.range ds.length).drop 1).filterMap (ds[·]?) = ds.drop 1 := by
  cases ds with
  | nil => rfl
  | cons d ds =>
    rw [List.length_cons, List.range_succ_eq_map, List.drop_succ_cons, List.drop_zero, List.filterMap_map, List.drop_succ_cons, List.drop_zero]
    exact range_get ds
theorem pick_drop {ds : List D} (h : ds.length < 64) : pickD ds (some 1) none none = ds.drop 1 := by
  unfold pickD
  rw [pk_one ⟨ds.length, h⟩]
  exact drop_get ds
theorem zip_filter (tw ts : List (Array UInt8)) : (List.range (zipD (tw.map D.bytes) (ts.map D.bytes)).length).filterMap (fun i => ((tw.zip ts)[i]?).bind fun p => if p.1.toList != p.2.toList then some (D.bytes p.1) else none) = (((tw.zip ts).filter fun p => p.1.toList != p.2.toList).map (·.1)).map D.bytes := by
  have : (zipD (tw.map D.bytes) (ts.map D.bytes)).length = (tw.zip ts).length := by rw [zipD_len, List.length_map, List.length_map, List.length_zip]
  rw [this, range_bind, filterMap_if (fun p : Array UInt8 × Array UInt8 => p.1.toList != p.2.toList) (fun p => D.bytes p.1), List.map_map]; rfl
end Mine

namespace Mine

theorem ask_pick {z : Nat} (h : z < 2) : ([.str "aBcE", .str "AbCe"] : List D)[(z : Int).toNat]? = some (.str (askS z)) := by
  rw [Int.toNat_natCast]
  unfold askS
  match z, h with
  | 0, _ => rw [if_neg (by decide)]; rfl
  | 1, _ => rw [if_pos rfl]; rfl
section
variable {w : World} {mg mb : Str → Option Value} {A : Around} {ns : List Int}
theorem law_call (a : AOk 10 A) (hz : ns.length ≤ 1000) {X : Addr → Prop} {s : Shared} {v : Value} (L : Live X s.heap) (hK : (cx w mg mb).K.In s.heap) (hT : TopRead (cx w mg mb).p (cx w mg mb).loose mg mb s.heap) (H : At X 259 s (.wlist (ns.map .int)) v) :
    wpAny (cx w mg mb).M A (PySem.call (.ref 318) [v]) (fun v s' => (∃ h tk, s' = { s with heap := h, toks := tk } ∧ ExtH s.heap h) ∧ At X 259 s' (.bool true) v) NoE s := by
  refine FnT (c := cx w mg mb) (a := 318) (d0 := .wlist (ns.map .int)) rfl rfl (by have := a.room; omega) Wl (fun v => rfl) (.inr (by decide)) (by decide) (by decide) (fun L' => ?_) (L := L) (hK := hK) (hT := hT) (H := H)
  have aa : ∀ {env : Env} {k : Nat}, k ≤ 9 → AOk k (A.deeper env) := fun {env k} hk => (AOk.go (n := 9) a env).mono hk
  have hh : A.handled = none := a.hh
  -- cells
  refine ExR.cons (StN.assign (d := .list [.int (cI ns 0), .int (cI ns 1)]) (Ev.is (congrArg D.list (?_ : (List.range (rangeD 0 ((2 : Nat) : Int)).length).filterMap (fun k => some (D.int (cI ns k))) = _)) (?_ : Ev _ _ _ _ _ _)) (.inr (by decide))) ?_
  · rw [rangeD_len]; rfl
  · refine Ev.comp (cl := [("script", L' + 1), ("cells", L' + 2)]) (Γc := [("cells", .d (.list [.int 2605, .int 32])), ("script", .d (.wlist (ns.map .int)))]) (Wc := []) _ ?_ (EvI.call (.inr ⟨rfl, rfl, by decide⟩) (.ty _) (EvL.cons Ev.cInt EvL.nil) (tcRange1 hh plain_name (by decide) (by decide))) (Sub.cons rfl (Sub.cons rfl Sub.nil)) ?_ (by rw [rangeD_len]; decide)
    · refine { clos := by rfl, fn := rfl, names := by decide, clok := ⟨⟨rfl, rfl⟩, ⟨rfl, rfl⟩, trivial⟩, cap := ⟨⟨.inl rfl, .inl rfl, ⟨_, rfl, fun C => rfl⟩⟩, ⟨.inl rfl, .inl rfl, ⟨_, rfl, fun C => rfl⟩⟩, trivial⟩, own := fun _ h => nomatch h }
    · intro k d hk C
      obtain ⟨hk2, rfl⟩ := rangeD_get hk
      refine ⟨_, Asg.name (.inl rfl), Sub.drop, true, Tst.nil, fun q => (nomatch q), fun _ => ⟨_, rfl, Ev.bin (Ev.sub (d := .int (([2605, 32] : List Int).getD k 0)) (Ev.name rfl) (Ev.name rfl) (tGetL (by omega) (by omega) ?_))
        (Ev.call (.inr ⟨rfl, rfl, by decide⟩) (.bi _) (EvL.cons (Ev.weak (Ev.is (congrArg D.list (pick_map D.int ns _ _ _)) (Ev.cutW (Ev.name rfl) (EvP.yes (Ev.name rfl)) EvP.no (EvP.yes Ev.cInt) (by decide) (by rw [List.length_map]; omega)))) EvL.nil) (tSum hh)) tAdd⟩⟩
      match k, hk2 with
      | 0, _ => rfl
      | 1, _ => rfl
  obtain ⟨d0, o0, o1, o2, d4, hd0, ho0, ho1, ho2, hd4, e5⟩ := figs5 (cI ns 0)
  obtain ⟨r, v, e, z, hr, hv, he, hz4, e4⟩ := figs4 (cI ns 1)
  generalize cI ns 0 = C0 at e5 ⊢
  generalize cI ns 1 = C1 at e4 ⊢
  -- drawn, dress
  refine ExR.cons (StN.assign (Ev.is (congrArg D.list e5) (Ev.call (.inl rfl) (.ref _ rfl) (EvL.cons (Ev.sub (Ev.name rfl) Ev.cInt (tGetL (by decide) (by decide) rfl)) (EvL.cons (Ev.list (EvL.cons Ev.cInt (EvL.cons Ev.cInt (EvL.cons Ev.cInt (EvL.cons Ev.cInt (EvL.cons Ev.cInt EvL.nil)))))) EvL.nil)) (f_figures (n := 0) (bs := [256, 2, 2, 2, 2]) (aa (by decide)) (by decide) (by decide)))) (.inr (by decide))) ?_
  refine ExR.cons (StN.assign (Ev.is (congrArg D.list e4) (Ev.call (.inl rfl) (.ref _ rfl) (EvL.cons (Ev.sub (Ev.name rfl) Ev.cInt (tGetL (by decide) (by decide) rfl)) (EvL.cons (Ev.list (EvL.cons Ev.cInt (EvL.cons Ev.cInt (EvL.cons Ev.cInt (EvL.cons Ev.cInt EvL.nil))))) EvL.nil)) (f_figures (n := 0) (bs := [6, 2, 2, 2]) (aa (by decide)) (by decide) (by decide)))) (.inl rfl)) ?_
  -- code
  refine ExR.cons (StN.assign (d := nD (cdOf d0 d4)) (Ev.is (congrArg D.int ?_) (Ev.bin (Ev.bin Ev.cInt (Ev.sub (d := nD d0) (Ev.name rfl) Ev.cInt (tGetL (by decide) (by decide) rfl)) (tMul (by decide))) (Ev.sub (d := nD (ends3 d4)) (Ev.list (EvL.cons Ev.cInt (EvL.cons Ev.cInt EvL.nil))) (Ev.sub (d := nD d4) (Ev.name rfl) Ev.cInt (tGetL (by decide) (by decide) rfl)) (tGetL (by omega) (by omega) ?_)) tAdd)) (.inl rfl)) ?_
  · unfold cdOf; omega
  · match d4, hd4 with
    | 0, _ => rfl
    | 1, _ => rfl
  obtain ⟨cd1, cd2, cd3, cd4, cd5⟩ := cd_facts (d4 := d4) hd0
  have cd6 : cdOf d0 d4 % 16 < 16 := Nat.mod_lt _ (by decide)
  generalize cdOf d0 d4 = cd at cd1 cd2 cd3 cd4 cd5 cd6 ⊢
  -- told
  refine ExR.cons (StN.isM (x := "told") (?_ : (List.range (rangeD 0 ((3 : Nat) : Int)).length).filterMap (fun k => some (bgD (pk (([o0, o1, o2] : List Nat).getD k 0) k))) = (told3 o0 o1 o2).map bgD) (?_ : StN _ _ _ _ _ _ _)) ?_
  · rw [rangeD_len]; rfl
  · refine StN.assignCompM (cl := [("drawn", L' + 3)]) (Γc := [("drawn", .d (.list ([d0, o0, o1, o2, d4].map nD)))]) (Wc := []) _ ?_ (EvI.call (.inr ⟨rfl, rfl, by decide⟩) (.ty _) (EvL.cons Ev.cInt EvL.nil) (tcRange1 hh plain_name (by decide) (by decide))) (Sub.cons rfl Sub.nil) ?_ rfl ?_ (by rfl) (by rw [rangeD_len]; decide)
    · refine { clos := by rfl, fn := rfl, names := by decide, clok := ⟨⟨rfl, rfl⟩, trivial⟩, cap := ⟨⟨.inl rfl, .inl rfl, ⟨_, rfl, fun C => rfl⟩⟩, trivial⟩, own := fun _ h => nomatch h }
    · intro k d hk C
      obtain ⟨hk3, rfl⟩ := rangeD_get hk
      refine ⟨_, Asg.name (.inl rfl), Sub.drop, true, Tst.nil, fun q => (nomatch q), fun _ => ⟨_, rfl, ?_⟩⟩
      refine Ev.ife (b := ([o0, o1, o2] : List Nat).getD k 0 == 1) (EvB.is (beqI _ 1) (EvB.cmp (Ev.sub (d := nD (([o0, o1, o2] : List Nat).getD k 0)) (Ev.name rfl) (Ev.bin Ev.cInt (Ev.name rfl) tAdd) (tGetL (by omega) (by omega) ?_)) Ev.cInt tEqI)) (fun hb => ?_) (fun hb => ?_)
      · match k, hk3 with
        | 0, _ => rfl
        | 1, _ => rfl
        | 2, _ => rfl
      · unfold pk
        rw [if_pos hb]
        exact Ev.tuple (EvL.cons (Ev.bin (Ev.name rfl) Ev.cInt tAdd) (EvL.cons (Ev.name rfl) EvL.nil)) (by show 2 ≤ 1000000; decide)
      · unfold pk
        rw [if_neg (by rw [hb]; decide)]
        exact Ev.tuple (EvL.cons (Ev.name rfl) (EvL.cons (Ev.bin (Ev.name rfl) Ev.cInt tAdd) EvL.nil)) (by show 2 ≤ 1000000; decide)
    · intro X s D ys vs hp H
      rw [rangeD_len] at H ⊢
      exact bgs_mark (told3 o0 o1 o2) X s D ys vs hp H
  -- begins
  generalize hn3 : cd / 256 = n3 at cd2 ⊢
  generalize hn4 : cd / 16 % 16 = n4 at cd3 ⊢
  generalize hn5 : cd % 16 = n5 at cd4 cd5 cd6 ⊢
  refine ExR.cons (StN.assign (d := .list ((mkB o0 o1 o2 (cdec n3) (cdec n4) (cdec n5)).map bgD)) (Ev.is (congrArg D.list (?_ : (told3 o0 o1 o2).map bgD ++ (List.range ([n3, n4, n5].map nD).length).filterMap (fun i => (([n3, n4, n5] : List Nat)[i]?).bind fun n => some (bgD (cdec n))) = _)) (Ev.catM rfl (?_ : Ev _ _ _ _ _ _) ?_)) (.inr (by decide))) ?_
  · rfl
  · refine Ev.comp (cl := []) (Γc := []) (Wc := []) _ ?_ (EvI.of (Ev.weak (Ev.is (congrArg D.list (?_ : [D.int ((cd : Int).fdiv 256), D.int (((cd : Int).fdiv 16).fmod 16), D.int ((cd : Int).fmod 16)] = [n3, n4, n5].map nD)) (Ev.list (EvL.cons (Ev.bin (Ev.name rfl) Ev.cInt (tDiv (by decide))) (EvL.cons (Ev.bin (Ev.bin (Ev.name rfl) Ev.cInt (tDiv (by decide))) Ev.cInt (tMod (by decide))) (EvL.cons (Ev.bin (Ev.name rfl) Ev.cInt (tMod (by decide))) EvL.nil))) (by show 3 ≤ 1000000; decide)))) (tiL hh plain_name)) Sub.nil ?_ (by show 3 ≤ 1000000; decide)
    · refine { clos := by rfl, fn := rfl, names := by decide, clok := trivial, cap := trivial, own := fun _ h => nomatch h }
    · rw [Int.fdiv_eq_ediv_of_nonneg _ (by decide), Int.fdiv_eq_ediv_of_nonneg _ (by decide), Int.fmod_eq_emod_of_nonneg _ (by decide), Int.fmod_eq_emod_of_nonneg _ (by decide)]
      show [D.int _, D.int _, D.int _] = [D.int _, D.int _, D.int _]
      rw [← hn3, ← hn4, ← hn5]; rfl
    · intro k d hk C
      obtain ⟨n, hx, rfl⟩ := map_get hk
      refine ⟨_, Asg.name (.inl rfl), Sub.nil, true, Tst.nil, fun q => (nomatch q), fun _ => ⟨bgD (cdec n), by rw [hx]; rfl, ?_⟩⟩
      refine Ev.is ?_ (Ev.tuple (EvL.cons (Ev.bin (Ev.name (d := nD n) rfl) Ev.cInt (tDiv (by decide))) (EvL.cons (Ev.bin (Ev.name (d := nD n) rfl) Ev.cInt (tMod (by decide))) EvL.nil)) (by show 2 ≤ 1000000; decide))
      rw [Int.fdiv_eq_ediv_of_nonneg _ (by decide), Int.fmod_eq_emod_of_nonneg _ (by decide)]; rfl
  · show 3 + _ ≤ 1000000
    have := List.length_filterMap_le (fun i => (([n3, n4, n5] : List Nat)[i]?).bind fun n => some (bgD (cdec n))) (List.range ([n3, n4, n5].map nD).length)
    rw [List.length_range] at this
    have e3 : ([n3, n4, n5].map nD).length = 3 := rfl
    omega
  -- told, further
  have hoct : octD (KBy.picked (mkW [n3, n4, n5]) (some 1) none) = [n3, n4, n5].map fun f => D.int ((65 + f : Nat) : Int) := oct_cut16 (by
    intro f hf
    simp only [List.mem_cons, List.not_mem_nil, or_false] at hf
    rcases hf with rfl | rfl | rfl <;> assumption)
  refine ExR.cons (StN.for_ (ds := octD (KBy.picked (mkW [n3, n4, n5]) (some 1) none)) (fun i => [("told", .m ((told3 o0 o1 o2 ++ (([n3, n4, n5] : List Nat).map cdec).take i).map bgD)), ("begins", .d (.list ((mkB o0 o1 o2 (cdec n3) (cdec n4) (cdec n5)).map bgD))), ("dress", .d (.list ([r, v, e, z].map nD)))])
    (EvI.of (Ev.cutY (Ev.is (congrArg D.bytes ?_) (Ev.call (.inl rfl) (.ref _ rfl) (EvL.cons (Ev.bin Ev.cInt (Ev.name (d := nD cd) rfl) tAdd) EvL.nil) (f_Int2AP (n := 0) (aa (by decide)) 4 (by decide) ?_ ?_))) (EvP.yes Ev.cInt) EvP.no (by rw [mkW_size]; show 4 ≤ 1000000; decide)) (tiY hh plain_name)) (Sub.cons rfl (Sub.cons rfl (Sub.cons rfl Sub.nil))) ?_) ?_
  · have : ((4096 : Int) + (cd : Int)).natAbs = 4096 + cd := by omega
    rw [this, ap4 cd1, hn3, hn4, hn5]
  · intro i hi
    have : ((4096 : Int) + (cd : Int)).natAbs = 4096 + cd := by omega
    rw [this]
    have h1 : 16 ^ i ≤ 16 ^ 3 := Nat.pow_le_pow_right (by decide) (by omega)
    have h2 : 0 < 16 ^ i := Nat.pow_pos (by decide)
    have := Nat.div_pos (a := 4096 + cd) (b := 16 ^ i) (by omega) h2
    omega
  · have : ((4096 : Int) + (cd : Int)).natAbs = 4096 + cd := by omega
    rw [this]
    exact Nat.div_eq_of_lt (by omega)
  · intro i d hi
    rw [hoct] at hi
    obtain ⟨f, hfi, rfl⟩ := map_get hi
    have hi3 : i < 3 := (List.getElem?_eq_some_iff.mp hfi).1
    refine ⟨_, Asg.name (.inl rfl), ExN.sub (ExN.cons (StN.append (d := bgD (cdec f)) rfl (Ev.is ?_ (Ev.tuple (EvL.cons (Ev.bin Ev.cInt (Ev.call (.inl rfl) (.ref _ rfl) (EvL.cons (Ev.bin (Ev.name rfl) Ev.cInt tSub) (EvL.cons Ev.cInt EvL.nil)) (f_ifloordiv (n := 0) (aa (by decide)) (by decide) (by decide))) tAdd) (EvL.cons (Ev.call (.inl rfl) (.ref _ rfl) (EvL.cons (Ev.bin (Ev.name rfl) Ev.cInt tSub) (EvL.cons Ev.cInt EvL.nil)) (f_imod (n := 0) (aa (by decide)) (by decide))) EvL.nil)) (by show 2 ≤ 1000000; decide))) rfl rfl ?_) ExN.nil) (Sub.cons ?_ (Sub.cons rfl (Sub.cons rfl Sub.nil)))⟩
    · rw [dec_div, dec_mod]; rfl
    · rw [List.length_map, List.length_append, List.length_take]
      show 3 + _ ≤ _
      omega
    · show some (Ent.m _) = some (Ent.m _)
      rw [List.take_add_one, List.getElem?_map, hfi, ← List.append_assoc]
      simp only [Option.map_some, Option.toList_some, List.map_append, List.map_cons, List.map_nil]
  rw [hoct]
  refine ExR.thaw (x := "told") rfl rfl ?_
  refine ExR.pre (Γ1 := [("told", .d (.list ((mkB o0 o1 o2 (cdec n3) (cdec n4) (cdec n5)).map bgD))), ("begins", .d (.list ((mkB o0 o1 o2 (cdec n3) (cdec n4) (cdec n5)).map bgD))), ("dress", .d (.list [nD r, nD v, nD e, nD z]))]) ?_ (Sub.cons rfl (Sub.cons rfl (Sub.cons rfl Sub.nil)))
  -- facts
  have zz0 : (0 : Int) ≤ (z : Int) := by omega
  have zz4 : ((qL z).map fun k => D.str ⟨#[k]⟩).length ≤ 1000000 := by rw [List.length_map, qL4]; show 4 ≤ 1000000; decide
  have hu : ∀ {env : Env} (n : Nat), n ≤ 4 → (A.deeper env).units + n + 1 < cLine := fun {env} n hn => by have := (aa (env := env) (k := 0) (by decide)).un; omega
  have p_tw : (wordsOf true (tuN (laid (mkB o0 o1 o2 (cdec n3) (cdec n4) (cdec n5)) r v e))).length < 64 := by
    unfold wordsOf
    rw [(sortB_perm _).length_eq]
    have := List.length_filter_le (fun w : Array UInt8 => !w.contains 65) ((numsOf true (tuN (laid (mkB o0 o1 o2 (cdec n3) (cdec n4) (cdec n5)) r v e))).map wordOf)
    have n : (numsOf true (tuN (laid (mkB o0 o1 o2 (cdec n3) (cdec n4) (cdec n5)) r v e))).length = 27 := numsOf_len true _ [0]
    rw [List.length_map, n] at this
    exact Nat.lt_of_le_of_lt this (by decide)
  have zz1 : (z : Int) < 2 ^ 63 := by omega
  have hc3 := cdec_lt cd2
  have hc4 := cdec_lt cd3
  have hB : ∀ p ∈ mkB o0 o1 o2 (cdec n3) (cdec n4) (cdec n5), p.1 < 4 ∧ p.2 < 4 := mkB_lt hc3 hc4 (long_lt cd5)
  have hBl : (mkB o0 o1 o2 (cdec n3) (cdec n4) (cdec n5)).length = 6 := rfl
  obtain ⟨ak, akl, akt⟩ := ask_facts ⟨z, hz4⟩
  have aq : ∀ k, k < 3 → qs z k ∈ towns := fun k hk => (ak ⟨k, hk⟩).1
  have ai : ∀ k : Nat, k < 3 → Txt.item (askS z) (k : Int) = ⟨#[qs z k]⟩ := fun k hk => (ak ⟨k, hk⟩).2.1
  have alw : ∀ k, k < 3 → lw (qs z k) = 97 + k := fun k hk => (ak ⟨k, hk⟩).2.2
  have akl : (askS z).length = 4 := akl
  have akt : ∀ q ∈ qL z, q ∈ towns := akt
  have hok := laid_ok (r := r) (v := v) (e := e) hB
  have hlen := laid_len (mkB o0 o1 o2 (cdec n3) (cdec n4) (cdec n5)) r v e
  have p_st := st_pairs (v := v) (e := e) (o0 := o0) (o1 := o1) (o2 := o2) (q := qs z) hr hc3 hc4 cd5 alw
  have p_srng := st_rng (v := v) (e := e) (o0 := o0) (o1 := o1) (o2 := o2) (q := qs z) hr hc3 hc4 cd5 alw
  have p_stk := fun {ch : Nat} (hc : ch = 3 ∨ ch = 4 ∨ ch = 5) => st_take (v := v) (e := e) (o0 := o0) (o1 := o1) (o2 := o2) (q := qs z) hr hc3 hc4 cd5 alw hc
  have p_trng := tu_rng (v := v) (e := e) (o0 := o0) (o1 := o1) (o2 := o2) hr hc3 hc4 cd5
  have p_ttk := fun {ch : Nat} (hc : ch = 3 ∨ ch = 4 ∨ ch = 5) => tu_take (v := v) (e := e) (o0 := o0) (o1 := o1) (o2 := o2) hr hc3 hc4 cd5 hc
  have p_len := tu_len (v := v) (e := e) (o0 := o0) (o1 := o1) (o2 := o2) hr hc3 hc4 cd5
  have p_un := tu_unlike (v := v) (e := e) (o0 := o0) (o1 := o1) (o2 := o2) hr hc3 hc4 cd5
  have p_word := fun {w : Array UInt8} => tu_word (v := v) (e := e) (o0 := o0) (o1 := o1) (o2 := o2) (w := w) hr hc3 hc4 cd5
  have p_told := told_lt (o0 := o0) (o1 := o1) (o2 := o2) hc3 hc4 cd5
  generalize mkB o0 o1 o2 (cdec n3) (cdec n4) (cdec n5) = bs at hB hBl hok hlen p_tw p_st p_srng p_stk p_trng p_ttk p_len p_un p_word p_told ⊢
  have hlaid : ∀ {A' : Around} {dr : List D}, AOk 1 A' → Tr (cx w mg mb) A' [.list (bs.map bgD), .list (nD r :: nD v :: nD e :: dr)] (K1 (.ref 277)) (.list ((laid bs r v e).map hdD)) := fun a' => f_laid (n := 0) a' hB hBl hr
  generalize laid bs r v e = hs at hok hlen p_tw p_st p_srng p_stk p_trng p_ttk p_len p_un p_word hlaid
  have hs12 : (hs.map hdD).length ≤ 1000000 := by rw [List.length_map, hlen]; decide
  have hs12' : hs.length ≤ 1000000 := by rw [hlen]; decide
  have hht : ∀ p ∈ hs, p.1 ∈ towns := fun p hp => (hok p hp).1
  have hhp : ∀ p ∈ hs, p.2 ∈ pipes := fun p hp => (hok p hp).2.1
  have hhg : ∀ p ∈ hs, good p := fun p hp => (hok p hp).2.2
  -- table, quiet
  refine ExR.cons (StN.assignNew (n := 0) (aa (by decide)) (.inl rfl) (.inr (by decide))) ?_
  refine ExR.cons (StN.quiet (hs := hs) (x := "table") (cl := [("table", L' + 5)]) (Wc := []) (src := hs.map hdD) rfl rfl ?_ (EvI.of (Ev.weak (Ev.call (.inl rfl) (.ref _ rfl) (EvL.cons (Ev.name rfl) (EvL.cons (Ev.name rfl) EvL.nil)) (hlaid (aa (by decide))))) (tiLP hh)) (by rw [List.length_map]) ?_ rfl (show (some NameKind.cell : Option NameKind) ≠ some .local by decide) (by decide) (by rw [List.length_map, hlen]; decide) (by rfl)) ?_
  · refine { clos := by rfl, fn := rfl, names := by decide, clok := ⟨⟨rfl, rfl⟩, trivial⟩, cap := ⟨⟨.inl rfl, .inl rfl, ⟨_, rfl, fun C => rfl⟩⟩, trivial⟩, own := fun _ h => nomatch h }
  · intro C i d hi
    obtain ⟨p, hpi, rfl⟩ := map_get hi
    have hp := List.mem_of_getElem? hpi
    refine ⟨_, Asg.pair hh (.inl rfl) (.inl rfl), _, elAdd (n := 0) (aa (by decide)) rfl rfl (Ev.name rfl) (Ev.name rfl) (hht p hp) (hhp p hp) ?_, Sub.cons ?_ Sub.nil⟩
    · rw [List.length_map, List.length_take, hlen]; omega
    · show some (Ent.t _) = some (Ent.t _)
      rw [List.take_add_one, hpi, List.map_append]; rfl
  refine ExR.thawT (x := "table") rfl rfl ?_
  refine ExR.pre (Γ1 := [("table", .d (.table (hs.map hdD))), ("quiet", .d (.list (List.replicate 12 .none))), ("begins", .d (.list (bs.map bgD))), ("dress", .d (.list [nD r, nD v, nD e, nD z]))]) ?_ (Sub.cons rfl (Sub.cons ?_ (Sub.cons rfl (Sub.cons rfl Sub.nil))))
  rotate_left
  · show some (Ent.d (D.list (List.replicate (hs.map hdD).length .none))) = _
    rw [List.length_map, hlen]
  -- asked
  refine ExR.cons (StN.assign (d := .str (askS z)) (Ev.sub (Ev.list (EvL.cons Ev.cStr (EvL.cons Ev.cStr EvL.nil))) (Ev.sub (d := nD z) (Ev.name rfl) Ev.cInt (tGetL (by decide) (by decide) rfl)) (tGetL zz0 zz1 (ask_pick hz4))) (.inr (by decide))) ?_
  -- still
  have hchord : ∀ {k ch : Nat}, chords[k]? = some ch → ch = 3 ∨ ch = 4 ∨ ch = 5 := fun h => by
    have := List.mem_of_getElem? h
    simpa [chords] using this
  refine ExR.cons (StN.assign (d := .list ((wordsOf false (stN hs (qs z))).map .bytes)) (Ev.call (.inl rfl) (.ref _ rfl) (EvL.cons (Ev.is (congrArg D.list (?_ : (List.range (chords.map nD).length).filterMap (fun i => (chords[i]?).bind fun ch => some (D.int (written (still hs (qs z) ch)))) = (stN hs (qs z)).map D.int)) (?_ : Ev _ _ _ _ _ _)) (EvL.cons Ev.cBool EvL.nil)) (f_words (n := 0) (aa (by decide)) (Nat.le_refl 3) p_srng)) (.inl rfl)) ?_
  · rw [List.length_map, comp_map (fun ch => D.int (written (still hs (qs z) ch)))]
    unfold stN
    rw [List.map_map]; rfl
  · refine Ev.comp (cl := [("table", L' + 5), ("asked", L' + 6)]) (Γc := [("table", .d (.table (hs.map hdD))), ("asked", .d (.str (askS z)))]) (Wc := []) _ ?_ (EvI.of (Ev.weak (Ev.list (EvL.cons Ev.cInt (EvL.cons Ev.cInt (EvL.cons Ev.cInt EvL.nil))))) (tiL hh plain_name)) (Sub.cons rfl (Sub.cons rfl Sub.nil)) ?_ (by decide)
    · refine { clos := by rfl, fn := rfl, names := by decide, clok := ⟨⟨rfl, rfl⟩, ⟨rfl, rfl⟩, trivial⟩, cap := ⟨⟨.inl rfl, .inl rfl, ⟨_, rfl, fun C => rfl⟩⟩, ⟨.inl rfl, .inl rfl, ⟨_, rfl, fun C => rfl⟩⟩, trivial⟩, own := fun _ h => nomatch h }
    · intro k d hk C
      obtain ⟨ch, hci, rfl⟩ := map_get hk
      have hc := hchord hci
      refine ⟨_, Asg.name (.inl rfl), Sub.drop, true, Tst.nil, fun q => (nomatch q), fun _ => ⟨.int (written (still hs (qs z) ch)), by rw [hci]; rfl, ?_⟩⟩
      exact Ev.call (.inl rfl) (.ref _ rfl) (EvL.cons (Ev.call (.inl rfl) (.ref _ rfl) (EvL.cons (Ev.name rfl) (EvL.cons (Ev.name rfl) (EvL.cons (Ev.name (d := nD ch) rfl) EvL.nil))) (f_still (n := 0) (aa (by decide)) (by omega) hht hhp aq ai akl (by omega))) EvL.nil) (f_written (n := 0) (aa (by decide)) (p_stk hc))
  -- turned
  refine ExR.cons (StN.assign (d := .list ((wordsOf true (tuN hs)).map .bytes)) (Ev.call (.inl rfl) (.ref _ rfl) (EvL.cons (Ev.is (congrArg D.list (?_ : (List.range (chords.map nD).length).filterMap (fun i => (chords[i]?).bind fun ch => some (D.int (written (turned hs ch)))) = (tuN hs).map D.int)) (?_ : Ev _ _ _ _ _ _)) (EvL.cons Ev.cBool EvL.nil)) (f_words (n := 0) (aa (by decide)) (Nat.le_refl 3) p_trng)) (.inl rfl)) ?_
  · rw [List.length_map, comp_map (fun ch => D.int (written (turned hs ch)))]
    unfold tuN
    rw [List.map_map]; rfl
  · refine Ev.comp (cl := [("table", L' + 5)]) (Γc := [("table", .d (.table (hs.map hdD)))]) (Wc := []) _ ?_ (EvI.of (Ev.weak (Ev.list (EvL.cons Ev.cInt (EvL.cons Ev.cInt (EvL.cons Ev.cInt EvL.nil))))) (tiL hh plain_name)) (Sub.cons rfl Sub.nil) ?_ (by decide)
    · refine { clos := by rfl, fn := rfl, names := by decide, clok := ⟨⟨rfl, rfl⟩, trivial⟩, cap := ⟨⟨.inl rfl, .inl rfl, ⟨_, rfl, fun C => rfl⟩⟩, trivial⟩, own := fun _ h => nomatch h }
    · intro k d hk C
      obtain ⟨ch, hci, rfl⟩ := map_get hk
      have hc := hchord hci
      refine ⟨_, Asg.name (.inl rfl), Sub.drop, true, Tst.nil, fun q => (nomatch q), fun _ => ⟨.int (written (turned hs ch)), by rw [hci]; rfl, ?_⟩⟩
      exact Ev.call (.inl rfl) (.ref _ rfl) (EvL.cons (Ev.call (.inl rfl) (.ref _ rfl) (EvL.cons (Ev.name rfl) (EvL.cons (Ev.name (d := nD ch) rfl) EvL.nil)) (f_turned (n := 0) (aa (by decide)) (by omega) hhg (by omega))) EvL.nil) (f_written (n := 0) (aa (by decide)) (p_ttk hc))
  -- pairs, laid
  refine ExR.cons (StN.assign (Ev.call (.inl rfl) (.ref _ rfl) (EvL.cons (Ev.name rfl) EvL.nil) (f_pairs (n := 0) (aa (by decide)) hB hBl p_told)) (.inl rfl)) ?_
  refine ExR.cons (StN.assign (Ev.call (.inl rfl) (.ref _ rfl) (EvL.cons (Ev.name rfl) (EvL.cons (Ev.name rfl) EvL.nil)) (hlaid (aa (by decide)))) (.inr (by decide))) ?_
  -- gathered
  refine ExR.cons (StN.isD (x := "gathered") (comp_map (gaD hs) boths) (?_ : StN _ _ _ _ _ _ _)) ?_
  · refine StN.assignComp (src := boths.map D.str) (cl := [("laid", L' + 7)]) (Γc := [("laid", .d (.list (hs.map hdD)))]) (Wc := ["both"]) _ ?_ (EvI.of (Ev.weak (Ev.list (EvL.cons Ev.cStr (EvL.cons Ev.cStr (EvL.cons Ev.cStr (EvL.cons Ev.cStr EvL.nil)))))) (tiL hh plain_name)) (Sub.cons rfl Sub.nil) ?_ rfl (by rfl) (show 4 ≤ 1000000 by decide)
    · refine { clos := by rfl, fn := rfl, names := by decide, clok := ⟨⟨rfl, rfl⟩, trivial⟩, cap := ⟨⟨.inl rfl, .inl rfl, ⟨_, rfl, fun C => rfl⟩⟩, trivial⟩, own := ?_ }
      intro n hn
      rw [List.mem_singleton.mp hn]
      exact ⟨rfl, rfl⟩
    · intro k d hk C
      obtain ⟨both, hx, rfl⟩ := map_get hk
      refine ⟨_, Asg.name (.inr (by decide)), Sub.drop, true, Tst.nil, fun q => (nomatch q), fun _ => ⟨gaD hs both, by rw [hx]; rfl, ?_⟩⟩
      refine Ev.is (congrArg D.list (?_ : (List.range (hs.map hdD).length).filterMap (fun i => (hs[i]?).bind fun p => if Txt.contains both ⟨#[p.1]⟩ then some (D.str ⟨#[p.2]⟩) else none) = _)) (?_ : Ev _ _ _ _ _ _)
      · rw [List.length_map, range_bind, filterMap_if (fun p : Nat × Nat => Txt.contains both ⟨#[p.1]⟩) (fun p => D.str ⟨#[p.2]⟩)]
      · refine Ev.comp (cl := [("both", C + 1)]) (Γc := [("both", .d (.str both))]) (Wc := []) _ ?_ (EvI.of (Ev.weak (Ev.name rfl)) (tiLP hh)) (Sub.cons rfl Sub.nil) ?_ hs12
        · refine { clos := by rfl, fn := rfl, names := by decide, clok := ⟨⟨rfl, rfl⟩, trivial⟩, cap := ⟨⟨.inl rfl, .inl rfl, ⟨_, rfl, fun C => rfl⟩⟩, trivial⟩, own := fun _ h => nomatch h }
        · intro j d hj C'
          obtain ⟨p, hpj, rfl⟩ := map_get hj
          refine ⟨_, Asg.pair hh (.inl rfl) (.inl rfl), Sub.cons rfl Sub.nil, Txt.contains both ⟨#[p.1]⟩, Tst.one (EvB.cmp (Ev.name rfl) (Ev.name rfl) tInS), fun q => ?_, fun q => ⟨.str ⟨#[p.2]⟩, ?_, Ev.name rfl⟩⟩
          · rw [hpj, Option.bind_some, q]; rfl
          · rw [hpj, Option.bind_some, q]; rfl
  -- the headers
  refine ExR.ifr (b := false) (EvB.is (b := false || (false || false)) rfl (EvB.bool (EvBs.or (a := false) ?_ fun _ => EvBs.or (a := false) ?_ fun _ => EvBs.or0))) (fun h => nomatch h) (fun _ => ?_)
  · refine EvB.is ?_ (EvB.cmp (Ev.weak (Ev.meth0 (tabCls w mg mb) (m_items w mg mb) (Ev.name rfl) (f_items (n := 0) (aa (by decide)) hs12))) (Ev.weak (Ev.name rfl)) (tNeL (hu _ (Nat.le_trans (depAll_hd hs) (by decide))) (fun _ => cmpAll_map hdD hs fun x _ => cmp_hd x x)))
    rw [smAll_map hdD hs fun x _ => by rw [sm_hd]; exact beq_self_eq_true x]; rfl
  · refine EvB.is ?_ (EvB.cmp (Ev.weak (Ev.is (congrArg D.list (?_ : (List.range ((qL z).map fun k => D.str ⟨#[k]⟩).length).filterMap (fun i => ((qL z)[i]?).bind fun k => some (geD hs k)) = boths.map (gaD hs))) (?_ : Ev _ _ _ _ _ _))) (Ev.weak (Ev.name rfl)) (tNeL (hu _ (Nat.le_trans (depAll_map (gaD hs) 1 boths fun x _ => (ga_ok hs x).2.2) (by decide))) (fun _ => cmpAll_map (gaD hs) boths fun x _ => (ga_ok hs x).2.1)))
    · rw [smAll_map (gaD hs) boths fun x _ => (ga_ok hs x).1]; rfl
    · rw [List.length_map, comp_map (geD hs), gathered_eq hht hz4]
    · refine Ev.comp (src := (qL z).map fun k => D.str ⟨#[k]⟩) (cl := [("table", L' + 5)]) (Γc := [("table", .d (.table (hs.map hdD)))]) (Wc := []) _ ?_ (EvI.of (Ev.name (d := .str (askS z)) rfl) (ask_letters z ▸ tiS hh plain_name)) (Sub.cons rfl Sub.nil) ?_ zz4
      · refine { clos := by rfl, fn := rfl, names := by decide, clok := ⟨⟨rfl, rfl⟩, trivial⟩, cap := ⟨⟨.inl rfl, .inl rfl, ⟨_, rfl, fun C => rfl⟩⟩, trivial⟩, own := fun _ h => nomatch h }
      · intro k d hk C
        obtain ⟨q, hx, rfl⟩ := map_get hk
        refine ⟨_, Asg.name (.inl rfl), Sub.drop, true, Tst.nil, fun q => (nomatch q), fun _ => ⟨geD hs q, by rw [hx]; rfl, ?_⟩⟩
        exact Ev.meth1 (tabCls w mg mb) (m_getall w mg mb) (Ev.name rfl) (Ev.name rfl) (f_getall (n := 0) (aa (by decide)) hs12' (akt q (List.mem_of_getElem? hx)) hht)
  -- unlike
  generalize stN hs (qs z) = sn at p_st
  generalize tuN hs = tn at p_trng p_len p_un p_word p_tw ⊢
  rw [p_st]
  generalize wordsOf true tn = tw at p_len p_un p_word p_tw ⊢
  generalize pairsOf2 bs = pw at p_len ⊢
  have e1 : pickD (tw.map D.bytes) (some 1) none none ++ [D.bytes (#[] : Array UInt8)] = (tw.drop 1 ++ [#[]]).map D.bytes := by
    rw [pick_drop (by rw [List.length_map]; exact p_tw), List.map_append, List.map_drop]; rfl
  have l1 : (tw.map D.bytes).length ≤ 1000000 := by rw [List.length_map]; exact Nat.le_of_lt (Nat.lt_of_lt_of_le p_tw (by decide))
  have l1' : (pw.map D.bytes).length ≤ 1000000 := by rw [List.length_map, ← p_len]; exact Nat.le_of_lt (Nat.lt_of_lt_of_le p_tw (by decide))
  have l2 : (pickD (tw.map D.bytes) (some 1) none none).length + 1 ≤ 1000000 := by
    rw [pick_drop (by rw [List.length_map]; exact p_tw), List.length_drop, List.length_map]
    exact Nat.le_trans (Nat.succ_le_succ (Nat.sub_le _ _)) (Nat.le_trans p_tw (by decide))
  have lz : (zipD (tw.map D.bytes) ((tw.drop 1 ++ [#[]]).map D.bytes)).length ≤ 1000000 := by
    rw [zipD_len]
    exact Nat.le_trans (Nat.min_le_left _ _) l1
  have hub : ∀ {env : Env} (l : List (Array UInt8)), (A.deeper env).units + depAll (l.map D.bytes) + 1 < cLine := fun l => hu _ (Nat.le_trans (depAll_map D.bytes 0 l fun _ _ => Nat.le_refl 0) (by decide))
  refine ExR.cons (StN.isD (x := "unlike") ((zip_filter tw (tw.drop 1 ++ [#[]])).trans (congrArg (List.map D.bytes) p_un)) (?_ : StN _ _ _ _ _ _ _)) ?_
  · refine StN.assignComp (cl := []) (Γc := []) (Wc := []) _ ?_ (EvI.call (.inr ⟨rfl, rfl, by decide⟩) (.ty _) (EvL.cons (Ev.weak (Ev.name rfl)) (EvL.cons (Ev.weak (Ev.is (congrArg D.list e1) (Ev.bin (Ev.cutL (Ev.name rfl) (EvP.yes Ev.cInt) EvP.no EvP.no (by decide) l1) (Ev.list (EvL.cons Ev.cBytes EvL.nil)) (tCat l2)))) EvL.nil)) (tcZip hh)) Sub.nil ?_ rfl (by rfl) lz
    · refine { clos := by rfl, fn := rfl, names := by decide, clok := trivial, cap := trivial, own := fun _ h => nomatch h }
    · intro k d hk C
      obtain ⟨a', b', ha, hb, rfl⟩ := zipD_get hk
      obtain ⟨x, hx, rfl⟩ := map_get ha
      obtain ⟨y, hy, rfl⟩ := map_get hb
      have hzz : (tw.zip (tw.drop 1 ++ [#[]]))[k]? = some (x, y) := List.getElem?_zip_eq_some.mpr ⟨hx, hy⟩
      refine ⟨_, Asg.pair hh (.inl rfl) (.inl rfl), Sub.nil, x.toList != y.toList, Tst.one (EvB.cmp (Ev.name rfl) (Ev.name rfl) tNeY), fun q => ?_, fun q => ⟨.bytes x, ?_, Ev.name rfl⟩⟩
      · rw [hzz, Option.bind_some]
        exact if_neg (by show ¬ (x.toList != y.toList) = true; rw [q]; decide)
      · rw [hzz, Option.bind_some]
        exact if_pos q
  -- the words
  refine ExR.ifr (b := false) (EvB.is (b := false || (false || (false || false))) rfl (EvB.bool (EvBs.or (a := false) ?_ fun _ => EvBs.or (a := false) ?_ fun _ => EvBs.or (a := false) ?_ fun _ => EvBs.or0))) (fun h => nomatch h) (fun _ => ?_)
  · refine EvB.is ?_ (EvB.cmp (Ev.weak (Ev.name rfl)) (Ev.weak (Ev.name rfl)) (tNeL (hub pw) (fun _ => cmpAll_map D.bytes pw fun _ _ => rfl)))
    rw [smAll_map D.bytes pw fun x _ => by_ok x]; rfl
  · refine EvB.is ?_ (EvB.cmp (Ev.call (.inr ⟨rfl, rfl, by decide⟩) (.bi _) (EvL.cons (Ev.weak (Ev.name rfl)) EvL.nil) (tLenW l1)) (Ev.call (.inr ⟨rfl, rfl, by decide⟩) (.bi _) (EvL.cons (Ev.weak (Ev.name rfl)) EvL.nil) (tLenW l1')) tNeI)
    rw [List.length_map, List.length_map, p_len]
    exact bne_self_eq_false _
  · refine EvB.is ?_ (EvB.cmp (Ev.weak (Ev.name rfl)) (Ev.weak (Ev.name rfl)) (tNeL (hub tw) (fun _ => cmpAll_map D.bytes tw fun _ _ => rfl)))
    rw [smAll_map D.bytes tw fun x _ => by_ok x]; rfl
  -- quiet
  refine ExR.ifr (b := false) (EvB.is ?_ (EvB.cmp (Ev.weak (Ev.bin (Ev.name rfl) (Ev.meth0 (tabCls w mg mb) (m_items w mg mb) (Ev.new (n := 0) (aa (by decide)) (.inl rfl)) (f_items (n := 0) (ds := []) (aa (by decide)) (by decide))) (tCat (by decide)))) (Ev.weak (Ev.bin (Ev.list (EvL.cons Ev.cNone EvL.nil)) Ev.cInt (tRep (by decide) (by decide)))) (tNeL (hu _ (by decide)) (fun _ => rfl)))) (fun h => nomatch h) (fun _ => ?_)
  · rfl
  -- the streams
  refine ExR.ret (Ev.is (?_ : D.bool (smAll [] []) = D.bool true) (Ev.cmp (Ev.weak (Ev.is (congrArg D.list (?_ : (List.range (tw.map D.bytes).length).filterMap (fun _ => (none : Option D)) = [])) (?_ : Ev _ _ _ _ _ _))) (Ev.weak (Ev.list EvL.nil)) (tEqL (ds := []) (es' := []) (hu _ (by decide)) (fun _ => rfl))))
  · rfl
  · rw [List.filterMap_eq_nil_iff]
    exact fun _ _ => rfl
  · refine Ev.comp (cl := [("begins", L' + 4)]) (Γc := [("begins", .d (.list (bs.map bgD)))]) (Wc := []) _ ?_ (EvI.of (Ev.weak (Ev.name rfl)) (tiL hh plain_name)) (Sub.cons rfl Sub.nil) ?_ l1
    · refine { clos := by rfl, fn := rfl, names := by decide, clok := ⟨⟨rfl, rfl⟩, trivial⟩, cap := ⟨⟨.inl rfl, .inl rfl, ⟨_, rfl, fun C => rfl⟩⟩, trivial⟩, own := fun _ h => nomatch h }
    · intro k d hk C
      obtain ⟨x, hx, rfl⟩ := map_get hk
      obtain ⟨fs, rfl, h1, h2, h3⟩ := p_word (List.mem_of_getElem? hx)
      exact ⟨_, Asg.name (.inl rfl), Sub.drop, false, Tst.one (EvB.is (b := !true) rfl (EvB.not (EvB.valB (Ev.call (.inl rfl) (.ref _ rfl) (EvL.cons (Ev.name rfl) (EvL.cons (Ev.name rfl) EvL.nil)) (f_runs (n := 0) (aa (by decide)) hBl h1 h2 h3))))), fun _ => rfl, fun q => (nomatch q)⟩
end
end Mine

namespace Mine
theorem opens : (chainsOk vw && opensWell PySem.Challenge.rw_xt0011_01.row.prog && (frees PySem.Challenge.rw_xt0011_01.row.toRowW && PySem.Challenge.rw_xt0011_01.row.within.isEmpty)) = true := by decide +kernel
end Mine
theorem PySem.Challenge.cw_xt0011_01_holds : PySem.Challenge.rw_xt0011_01.Holds := by
  refine holds_law Mine.said0 fun said => ?_
  refine holds_open (q := Mine.vw) (loose := Mine.lloose) (Xt := fun s => xlAt Mine.vw [] s && recOk [] s) (XP := XL Mine.vw []) (Yf := Hook.obs Mine.hk) (Ya := Hook.val Mine.hk) (YP := Hook.says Mine.hk) (N := 3432) Mine.left0 (Hook.of Mine.hk) (Hook.keeps Mine.hk)
    (fun s e => xl_of s (Bool.and_eq_true_iff.mp e).1) XL.keeps (by rfl) (by rfl) (by rfl) (fun s e => recFacts_of (Bool.and_eq_true_iff.mp e).2) (by rfl) said Mine.opens ⟨rfl, rfl, rfl, rfl, rfl, by decide +kernel⟩ ?hw ?hc
  case hw => w_witness2
  intro w s₀ s₁ mg mb G Y fa o pm cd doc dV kV ho hd hcd hD hmg hg args vals as hpre hlay hrd hwl hlo
  clear ho hd hcd hD
  have KX := kIn_of Y
  have hfa : fa = 318 := by
    have : mg "law" = some (.ref 318) := mg_of (K := (Mine.cx w mg mb).K) KX G.T.g rfl
    rw [show mg "law" = some (.ref fa) from hmg] at this
    exact Value.ref.inj (Option.some.inj this)
  clear hmg
  refine Ground.open G ?_
  intro T B D TE TW
  clear B D TE TW
  wrow_args hpre hlay hrd hwl hlo
  rename_i ns _ _ _ _ _ _ _ la vs _ hl _ _ _ hi _ hlen _
  have hT : TopRead (Mine.cx w mg mb).p (Mine.cx w mg mb).loose mg mb s₁.heap := topRead_of T
  have hz : ns.length ≤ 1000 := by omega
  have L : Mine.Live (fun _ => False) s₁.heap := fun _ h => h.elim
  have H : Mine.At (fun _ => False) 259 s₁ (.wlist (ns.map .int)) (.ref la) := by
    simp only [Mine.At]
    exact ⟨la, vs.toArray, rfl, fun h => h, hl, by rw [List.toList_toArray]; exact Mine.ints_ats hi⟩
  have a : Mine.AOk 10 callerA := ⟨rfl, by decide +kernel, by decide +kernel⟩
  subst hfa
  refine wpAny_mono (Mine.law_call a hz L KX hT H) (fun v s' q => ?_) fun _ _ x => x.elim
  obtain ⟨⟨h, tk, rfl, e⟩, hv⟩ := q
  simp only [Mine.At] at hv
  subst hv
  exact GoodW.toG ⟨.inl ⟨.bool true, .bool true, [], rfl, fun _ => rfl, .bool true, by kernel_rfl, fun _ => ⟨List.nodup_nil, fun _ h => nomatch h⟩⟩, e, rfl, hg⟩

