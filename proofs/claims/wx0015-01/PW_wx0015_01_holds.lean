import PyProof.Rows.All
import Wide.All
import OpenK.AllK
import Wide.FinOn
import PySem.Challenge.RW_wx0015_01
open PySem PySem.W PyProof.Rows PySem.Calls PySem.Spec
set_option Elab.async false
set_option maxRecDepth 100000
set_option maxHeartbeats 8000000
namespace Mine
open_top hd for PySem.Challenge.rw_wx0015_01
end Mine
section
local macro_rules | `(tactic| k_all) => `(tactic| assumption)
local macro_rules | `(tactic| k_mem) => `(tactic| first
  | with_reducible assumption
  | exact List.Mem.head _
  | ((with_reducible refine List.mem_cons_of_mem _ ?_); k_mem)
  | ((with_reducible refine List.mem_append.mpr (Or.inr ?_)); k_mem)
  | ((with_reducible refine List.mem_append.mpr (Or.inl ?_)); k_mem))
local macro_rules | `(tactic| k_room) => `(tactic| ((try simp only [depth_under_make, depth_under_kw, depth_in1, depth_deeper, depth_caller]); (try dsimp only); omega))
local macro_rules | `(tactic| k_units) => `(tactic| ((try simp only [units_under_make, units_in1, units_deeper, Around.mark_units, units_caller]); (try dsimp only); omega))
local macro_rules | `(tactic| walk_at "subscriptTail") => `(tactic| (k_here; (with_reducible show wpAny _ _ (subscriptTail _ _ (Value.ref _) (Value.int _ _)) _ _ _); k_dflt ((show wpAny _ _ (subscriptTail _ _ (Value.ref 433) (Value.int _ _)) _ _ _); refine' Mine.menu_K Mine.IsWord ?F ?X ?l ?a ?b ?f ?c ?_ ?hs; (case hs => with_unfolding_all rfl); (case F => k_asm); (case X => k_asm); (case l => k_is); (case a => omega); (case b => exact Int.lt_of_lt_of_le (by assumption) (by decide)); (case f => decide); (case c => exact List.forall_mem_cons.mpr ⟨⟨_, _, rfl, by decide⟩, List.forall_mem_cons.mpr ⟨⟨_, _, rfl, by decide⟩, List.forall_mem_cons.mpr ⟨⟨_, _, rfl, by decide⟩, List.forall_mem_cons.mpr ⟨⟨_, _, rfl, by decide⟩, List.forall_mem_nil _⟩⟩⟩⟩); rintro _ ⟨wd', wt', hx', hw'⟩; subst hx')))
local macro_rules | `(tactic| walk_at "subscriptTail") => `(tactic| (k_here; (with_reducible show wpAny _ _ (subscriptTail _ _ (Value.ref _) (Value.int _ _)) _ _ _); k_dflt ((show wpAny _ _ (subscriptTail _ _ (Value.ref 434) (Value.int _ _)) _ _ _); refine' Mine.menu_K Mine.IsFixed ?F ?X ?l ?a ?b ?f ?c ?_ ?hs; (case hs => with_unfolding_all rfl); (case F => k_asm); (case X => k_asm); (case l => k_is); (case a => omega); (case b => exact Int.lt_of_lt_of_le (by assumption) (by decide)); (case f => decide); (case c => exact List.forall_mem_cons.mpr ⟨⟨_, _, rfl, by decide⟩, List.forall_mem_cons.mpr ⟨⟨_, _, rfl, by decide⟩, List.forall_mem_cons.mpr ⟨⟨_, _, rfl, by decide⟩, List.forall_mem_cons.mpr ⟨⟨_, _, rfl, by decide⟩, List.forall_mem_nil _⟩⟩⟩⟩); rintro _ ⟨wd', wt', hx', hw'⟩; subst hx')))
local macro_rules | `(tactic| walk_at "subscriptTail") => `(tactic| (k_here; (with_reducible show wpAny _ _ (subscriptTail _ _ (Value.ref _) (Value.int _ _)) _ _ _); k_dflt ((show wpAny _ _ (subscriptTail _ _ (Value.ref 435) (Value.int _ _)) _ _ _); refine' Mine.menu_K Mine.IsKind ?F ?X ?l ?a ?b ?f ?c ?_ ?hs; (case hs => with_unfolding_all rfl); (case F => k_asm); (case X => k_asm); (case l => k_is); (case a => omega); (case b => exact Int.lt_of_lt_of_le (by assumption) (by decide)); (case f => decide); (case c => exact List.forall_mem_cons.mpr ⟨⟨_, _, rfl, by decide⟩, List.forall_mem_cons.mpr ⟨⟨_, _, rfl, by decide⟩, List.forall_mem_nil _⟩⟩); rintro _ ⟨wd', wt', hx', hw'⟩; subst hx')))
local macro_rules | `(tactic| walk_at "enter") => `(tactic| ((case kA => exact rfl); (case kF => exact rfl); (case kK => first | exact rfl | assumption); (case k6 => k_is); (case k7 => k_is); (case k8 => k_room); (case k9 => exact BindsTo.of_eq rfl); (case c5 => decide); (case kB => exact locs rfl); (case c2 => exact rfl); (case c3 => exact rfl); (case c4 => exact rfl); k_whole))
local macro_rules | `(tactic| walk_at "begin") => `(tactic| ((try dsimp only); (try k_unmd); (try k_fold)))
local macro_rules | `(tactic| walk_at "enterC") => `(tactic| ((case kA => exact rfl); (case kF => exact rfl); (case kK => first | exact rfl | assumption); (case k6 => k_is); (case k7 => k_is); (case k8 => k_room); (case k9 => exact BindsTo.of_eq rfl); (case kB => exact rfl); (case kD => decide +kernel); (case c2 => exact rfl); (case c3 => exact rfl); (case c4 => exact rfl); k_whole))
local macro_rules | `(tactic| walk_at "ite") => `(tactic| first | (exfalso; omega) | (with_reducible refine Mine.if_pos' (by first | omega | decide | (simp only [beq_iff_eq, bne_iff_ne, ne_eq, decide_eq_true_eq, not_true_eq_false, not_false_eq_true]; done) | (simp only [beq_iff_eq, bne_iff_ne, ne_eq, decide_eq_true_eq]; omega)) ?_) | (with_reducible refine Mine.if_neg' (by first | omega | decide | (simp only [beq_iff_eq, bne_iff_ne, ne_eq, decide_eq_true_eq, not_true_eq_false, not_false_eq_true]; done) | (simp only [beq_iff_eq, bne_iff_ne, ne_eq, decide_eq_true_eq]; omega)) ?_) | ((with_reducible refine Mine.if_both ?_ ?_) <;> (intro hc'; (try simp only [beq_iff_eq, bne_iff_ne, ne_eq, decide_eq_true_eq, Bool.not_eq_true, beq_eq_false_iff_ne, bne_eq_false_iff_eq, decide_eq_false_iff_not, Decidable.not_not] at hc'))))
local macro_rules | `(tactic| walk_at "wpAt") => `(tactic| (ks_step "exec Expr"; k_dflt (refine ks_wpAt_Expr_any ?_)))
local macro_rules | `(tactic| walk_at "wpAt") => `(tactic| (ks_step "eval Call"; k_dflt (refine ks_wpAt_MethodCall ?_)))
local macro_rules | `(tactic| walk_at "callWith ref") => `(tactic| (k_here; k_dflt (first
  | ((with_reducible refine' callWith_K0 ?k1 ?k2 ?_); (case k1 => exact Frag.In.keeps (by with_reducible assumption) (Fr.keep (by with_reducible assumption))); (case k2 => k_is); k_whole)
  | ((with_reducible refine' callWith_K ?k1 ?k2 ?_ ?k3 ?k4); (case k3 => exact rfl); (case k4 => exact rfl); (case k1 => with_reducible assumption); (case k2 => k_is); k_whole))))
local macro_rules | `(tactic| walk_at "eval Name") => `(tactic| (k_here; k_dflt (first
  | ((with_reducible refine' Mine.nameO_L ?F ?v ?_ ?a ?b ?d); (case b => rfl); (case F => k_asm); (case a => rfl); (case d => decide); (case v => rfl); k_whole)
  | ((with_reducible refine' Mine.nameO_K ?F ?X ?T ?e ?_ ?a ?b ?d); (case b => rfl); (case F => k_asm); (case X => k_asm); (case T => k_asm); (case a => rfl); (case d => decide); (case e => k_is); k_whole)
  | ((with_reducible refine' Mine.nameO_B ?F ?X ?T ?e ?v ?n ?_ ?a ?b ?d); (case b => rfl); (case F => k_asm); (case X => k_asm); (case T => k_asm); (case a => rfl); (case d => decide); (case e => k_is); (case v => boot_fast); (case n => decide); k_whole)
  | ((with_reducible refine' nameX_L ?F ?v ?_ ?a ?b); (case b => rfl); (case F => k_asm); (case a => rfl); (case v => rfl); k_whole)
  | ((with_reducible refine' nameX_K ?F ?X ?T ?e ?_ ?a ?b); (case b => rfl); (case F => k_asm); (case X => k_asm); (case T => k_asm); (case a => rfl); (case e => k_is); k_whole)
  | ((with_reducible refine' nameX_B ?F ?X ?T ?e ?v ?n ?_ ?a ?b); (case b => rfl); (case F => k_asm); (case X => k_asm); (case T => k_asm); (case a => rfl); (case e => k_is); (case v => boot_fast); (case n => decide); k_whole))))
section
namespace Mine
abbrev Led := List (Addr × Obj)
abbrev tupOf (vs : List Value) : Obj := { cls := .type "tuple", data := .seq vs.toArray }
def defIn (n : String) (b : List Stmt) : Option (Arguments × List Stmt × Scope) := b.findSome? fun st => match st with
  | .FunctionDef m a b _ _ _ sc _ _ _ => if m == Str.ofString n then some (a, b, sc) else none
  | _ => none
def noArgs : Arguments := {posonlyargs := [], args := [], vararg := none, kwonlyargs := [], kw_defaults := [], kwarg := none, defaults := []}
def drawParts : Arguments × List Stmt × Scope := (((defIn "_law_draw" PySem.Challenge.pw_wx0015_01.main.body).bind fun x => defIn "draw" x.2.1).getD (noArgs, [], default))
abbrev drawObj (qual : Str) (cA cN : Addr) (doc pm : Value) (c' : Addr) (ctv : Value) : Obj :=
  fnMade "draw" qual drawParts.1 drawParts.2.1 drawParts.2.2 [("numbers", cN), ("at", cA)] doc pm c' ctv

/-- the four tables' owners stand in the ground -/
structure TabsG (h : Heap) : Prop where
  t1 : CodeHd h 376 372
  t2 : CodeHd h 276 272
  t3 : CodeHd h 441 437
  t4 : CodeHd h 417 413
theorem TabsG.keeps {h h' : Heap} (x : TabsG h) (k : ∀ b o, h.get? b = some o → h'.get? b = some o) : TabsG h' :=
  ⟨x.t1.keeps k, x.t2.keeps k, x.t3.keeps k, x.t4.keeps k⟩

abbrev Ap (a : Addr) (l : Led) : Prop := ∀ q ∈ l, q.1 ≠ a
/-- a call's contract: the ledger's turned part mu ahead, the rest stays; what is made lies above -/
def Calls (w : World) (dN uN : Nat) (f : Value) (vs : List Value) (mu : Led) (Pre : Led → Prop) (Post : Led → Led → Led → Value → Prop) : Prop :=
  ∀ (p : Program) (loose : List Str) (mean : ExcName → Option Value) (mg mb : Str → Option Value) (dp un : Nat) (gd : Option (List Code)) (cn : Str) (cs : Scope) (a : Addr) (ccd : Value) (cl : List (Str × Addr)) (outer : List Env)
    (A₀ : Around) (base h₀ : Heap) (L : Addr) (m : Str → Option Value) (news : Led) (s : Shared) (Q E : Value → Shared → Prop),
    Below A₀ base outer h₀ → Fr h₀ L s.heap m → (hd.heap_39 w.params).In h₀ → TabsG h₀ → News h₀ L s.heap (mu ++ news) → Top p loose mean mg mb h₀ → cs.kind = .function →
    dp + dN < recursionLimit → un + uN < cLine → (∀ p ∈ mu, ∀ q ∈ news, q.1 ≠ p.1) → Pre news →
    (∀ r mu' tl h' tk', Fr h₀ L h' m → News h₀ L h' (tl ++ (mu' ++ news)) → (∀ p ∈ tl, Ap p.1 (mu' ++ news)) → mu'.map (·.1) = mu.map (·.1) → Post news mu' tl r → Q r { s with heap := h', toks := tk' }) →
    wpAny (model PySem.Challenge.rw_wx0015_01.row.prog w) (ktrTop dp un gd cn cs L a ccd cl outer) (call f vs) Q E s

/-- what the draws' closure reads, all of it made and kept -/
def DrawFix (P : Led) (fd at' : Addr) : Prop :=
  ∃ (cA cN D c' : Addr) (oA oN oc : Obj) (vs : Array Value) (t : Tok) (doc pm ctv : Value) (qual : Str) (nD : Nat) (vs' : List Value) (ns : List Int),
    (fd, drawObj qual cA cN doc pm c' ctv) ∈ P ∧ (cA, oA) ∈ P ∧ (cN, oN) ∈ P ∧ (D, W.listOf vs'.toArray nD) ∈ P ∧ (c', oc) ∈ P ∧
    oA.data = .cell (some (.ref at')) ∧ oN.data = .cell (some (.ref D)) ∧ oc.data = .fields vs ∧ vs[1]? = some (.str qual t) ∧ IntsAre vs' ns ∧ ns.length ≤ 63
theorem DrawFix.mono {P P' : Led} {fd at' : Addr} (h : DrawFix P fd at') (k : ∀ p ∈ P, p ∈ P') : DrawFix P' fd at' := by
  obtain ⟨cA, cN, D, c', oA, oN, oc, vs, t, doc, pm, ctv, qual, nD, vs', ns, h1, h2, h3, h4, h5, r⟩ := h
  exact ⟨cA, cN, D, c', oA, oN, oc, vs, t, doc, pm, ctv, qual, nD, vs', ns, k _ h1, k _ h2, k _ h3, k _ h4, k _ h5, r⟩
abbrev atObj (k : Int) (tk : Tok) (n : Nat) : Obj := W.listOf #[.int k tk] n
def DrawAt (at' : Addr) (mu : Led) : Prop := ∃ (k : Int) (tk : Tok) (n : Nat), mu = [(at', atObj k tk n)] ∧ 0 ≤ k
end Mine
namespace Mine
mutual
inductive El where
  | nav (w : Str) (c : Bool) (f : Option Str)
  | par (k : Str)
  | dots (n : Nat)
  | br (ws : Ways)
  | st (ws : Ways)
inductive Ways where
  | one (p : Pth)
  | two (p q : Pth)
inductive Pth where
  | one (a : El)
  | two (a b : El)
  | thr (a b c : El)
end
def WORDS : List Str := ["a", "bc", "x_1", "parent"]
def FIXED : List Str := ["a", "two words", "b.c,(d)*", "~..+m:"]
def KINDS : List Str := ["T", "Pack"]
def El.isDots : El → Prop
  | .dots k => 1 ≤ k ∧ k ≤ 3
  | _ => False
def okFix (c : Bool) : Option Str → Prop
  | none => True
  | some x => c = false ∧ x ∈ FIXED
mutual
def El.ok : El → Prop
  | .nav w c f => w ∈ WORDS ∧ okFix c f
  | .par k => k ∈ KINDS
  | .dots _ => False
  | .br ws => ws.ok
  | .st ws => ws.ok
def Ways.ok : Ways → Prop
  | .one p => p.ok
  | .two p q => p.ok ∧ q.ok
def Pth.ok : Pth → Prop
  | .one a => (a.isDots ∨ a.ok)
  | .two a b => (a.isDots ∨ a.ok) ∧ b.ok
  | .thr a b c => (a.isDots ∨ a.ok) ∧ b.ok ∧ c.ok
end
mutual
def El.dep : El → Nat
  | .nav _ _ _ => 0
  | .par _ => 0
  | .dots _ => 0
  | .br ws => ws.dep + 1
  | .st ws => ws.dep + 1
def Ways.dep : Ways → Nat
  | .one p => p.dep
  | .two p q => max p.dep q.dep
def Pth.dep : Pth → Nat
  | .one a => a.dep
  | .two a b => max a.dep b.dep
  | .thr a b c => max a.dep (max b.dep c.dep)
end
def fixV : Option Str → Value → Prop
  | none, v => v = .none
  | some x, v => ∃ t, v = .str x t
mutual
def El.In (P : Led) : El → Value → Prop
  | .nav w c f, v => ∃ a t1 t2 fv, v = .ref a ∧ (a, tupOf [.str "n" t1, .str w t2, .bool c, fv]) ∈ P ∧ fixV f fv
  | .par k, v => ∃ a t1 t2, v = .ref a ∧ (a, tupOf [.str "p" t1, .str k t2]) ∈ P
  | .dots n, v => ∃ a t1 t2, v = .ref a ∧ (a, tupOf [.str "d" t1, .int (n : Int) t2]) ∈ P
  | .br ws, v => ∃ a t1 l, v = .ref a ∧ (a, tupOf [.str "b" t1, .ref l]) ∈ P ∧ ws.In P l
  | .st ws, v => ∃ a t1 l, v = .ref a ∧ (a, tupOf [.str "s" t1, .ref l]) ∈ P ∧ ws.In P l
def Ways.In (P : Led) : Ways → Addr → Prop
  | .one p, l => ∃ n a, (l, W.listOf [Value.ref a].toArray n) ∈ P ∧ p.In P a
  | .two p q, l => ∃ n a b, (l, W.listOf [Value.ref a, Value.ref b].toArray n) ∈ P ∧ p.In P a ∧ q.In P b
def Pth.In (P : Led) : Pth → Addr → Prop
  | .one x, l => ∃ n u, (l, W.listOf [u].toArray n) ∈ P ∧ x.In P u
  | .two x y, l => ∃ n u v, (l, W.listOf [u, v].toArray n) ∈ P ∧ x.In P u ∧ y.In P v
  | .thr x y z, l => ∃ n u v r, (l, W.listOf [u, v, r].toArray n) ∈ P ∧ x.In P u ∧ y.In P v ∧ z.In P r
end
mutual
theorem El.In.mono {P P' : Led} (k : ∀ p ∈ P, p ∈ P') : ∀ (e : El) (v : Value), e.In P v → e.In P' v
  | .nav w c f, v => by simp only [El.In]; rintro ⟨a, t1, t2, fv, h1, h2, h3⟩; exact ⟨a, t1, t2, fv, h1, k _ h2, h3⟩
  | .par x, v => by simp only [El.In]; rintro ⟨a, t1, t2, h1, h2⟩; exact ⟨a, t1, t2, h1, k _ h2⟩
  | .dots n, v => by simp only [El.In]; rintro ⟨a, t1, t2, h1, h2⟩; exact ⟨a, t1, t2, h1, k _ h2⟩
  | .br ws, v => by simp only [El.In]; rintro ⟨a, t1, l, h1, h2, h3⟩; exact ⟨a, t1, l, h1, k _ h2, Ways.In.mono k ws l h3⟩
  | .st ws, v => by simp only [El.In]; rintro ⟨a, t1, l, h1, h2, h3⟩; exact ⟨a, t1, l, h1, k _ h2, Ways.In.mono k ws l h3⟩
theorem Ways.In.mono {P P' : Led} (k : ∀ p ∈ P, p ∈ P') : ∀ (e : Ways) (l : Addr), e.In P l → e.In P' l
  | .one p, l => by simp only [Ways.In]; rintro ⟨n, a, h1, h2⟩; exact ⟨n, a, k _ h1, Pth.In.mono k p a h2⟩
  | .two p q, l => by simp only [Ways.In]; rintro ⟨n, a, b, h1, h2, h3⟩; exact ⟨n, a, b, k _ h1, Pth.In.mono k p a h2, Pth.In.mono k q b h3⟩
theorem Pth.In.mono {P P' : Led} (k : ∀ p ∈ P, p ∈ P') : ∀ (e : Pth) (l : Addr), e.In P l → e.In P' l
  | .one x, l => by simp only [Pth.In]; rintro ⟨n, u, h1, h2⟩; exact ⟨n, u, k _ h1, El.In.mono k x u h2⟩
  | .two x y, l => by simp only [Pth.In]; rintro ⟨n, u, v, h1, h2, h3⟩; exact ⟨n, u, v, k _ h1, El.In.mono k x u h2, El.In.mono k y v h3⟩
  | .thr x y z, l => by simp only [Pth.In]; rintro ⟨n, u, v, r, h1, h2, h3, h4⟩; exact ⟨n, u, v, r, k _ h1, El.In.mono k x u h2, El.In.mono k y v h3, El.In.mono k z r h4⟩
end
end Mine
namespace Mine
def Hold (p : Prop) : Prop := p
theorem hold {p : Prop} (h : Hold p) : p := h
theorem if_both {c : Prop} [Decidable c] {a b : Prop} (ha : c → a) (hb : ¬ c → b) : if c then a else b := by split; exact ha ‹_›; exact hb ‹_›
theorem if_pos' {c : Prop} [Decidable c] {a b : Prop} (hc : c) (h : a) : if c then a else b := by rw [if_pos hc]; exact h
theorem if_neg' {c : Prop} [Decidable c] {a b : Prop} (hc : ¬ c) (h : b) : if c then a else b := by rw [if_neg hc]; exact h
theorem Calls.use {w : World} {dN uN : Nat} {f : Value} {vs : List Value} {mu : Led} {Pre : Led → Prop} {Post : Led → Led → Led → Value → Prop} (C : Calls w dN uN f vs mu Pre Post)
    {p : Program} {loose : List Str} {mean : ExcName → Option Value} {mg mb : Str → Option Value} {dp un : Nat} {gd : Option (List Code)} {cn : Str} {cs : Scope} {a : Addr} {ccd : Value} {cl : List (Str × Addr)} {outer : List Env}
    {A₀ : Around} {base h₀ : Heap} {L : Addr} {m : Str → Option Value} {all : Led} {s : Shared} {Q E : Value → Shared → Prop} (news : Led)
    (B : Below A₀ base outer h₀) (F : Fr h₀ L s.heap m) (X : (hd.heap_39 w.params).In h₀) (TG : TabsG h₀) (N : News h₀ L s.heap all) (T : Top p loose mean mg mb h₀) (hk : cs.kind = .function)
    (hd : dp + dN < recursionLimit) (hu : un + uN < cLine) (sub : ∀ p ∈ mu ++ news, p ∈ all) (off : ∀ p ∈ mu, ∀ q ∈ news, q.1 ≠ p.1) (pre : Pre news)
    (ret : ∀ r mu' tl h' tk', Fr h₀ L h' m → News h₀ L h' (tl ++ (mu' ++ news)) → (∀ p ∈ tl, Ap p.1 (mu' ++ news)) → mu'.map (·.1) = mu.map (·.1) → Post news mu' tl r → Q r { s with heap := h', toks := tk' }) :
    wpAny (model PySem.Challenge.rw_wx0015_01.row.prog w) (ktrTop dp un gd cn cs L a ccd cl outer) (call f vs) Q E s :=
  C _ _ _ _ _ _ _ _ _ _ _ _ _ _ _ _ _ _ _ _ _ _ _ B F X TG (fun p hp => N p (sub p hp)) T hk hd hu off pre ret

theorem menu_K {prog : Program} {w : World} {A : Around} {E : Value → Shared → Prop} {s : Shared} {K : Frag} {h₀ : Heap} {L a : Addr} {m : Str → Option Value} {items : List Value} {k : Int} {u : Tok} {value slice : PySem.Expr} {Q : Value → Shared → Prop}
    (P : Value → Prop) (F : Fr h₀ L s.heap m) (X : K.In h₀) (hl : K.lookup a = some (tupOf items)) (h0 : 0 ≤ k) (h1 : k < items.length) (hf : items.length < 100) (hall : ∀ x ∈ items, P x) (h : ∀ x, P x → Q x s)
    (hs : subscripted slice false (.ref a) (.int k u) = operate [.ref a, .int k u] (getItem (.ref a) (.int k u))) :
    wpAny (model prog w) A (subscriptTail value slice (.ref a) (.int k u)) Q E s := by
  have hlt : k.toNat < items.length := by omega
  have ht : IsTup s.heap a items.toArray := ⟨_, F.keep _ _ (X _ _ hl), rfl, 0, rfl⟩
  have hj : seqIndex? k items.length = some k.toNat := by
    unfold seqIndex?
    simp only [if_neg (show ¬ k < 0 by omega)]
    rw [if_pos (by rw [Bool.and_eq_true, decide_eq_true_eq, decide_eq_true_eq]; exact ⟨h0, h1⟩)]
  exact item_tupleT ht (by omega) (by omega) hj (List.getElem?_eq_getElem hlt) (h _ (hall _ (List.getElem_mem hlt))) hs
theorem mapfst_allLt {x y : Led} (h : x.map (·.1) = y.map (·.1)) (a : Addr) : AllLt a x → AllLt a y := by
  induction x generalizing y with
  | nil => cases y with
    | nil => exact id
    | cons q r => cases h
  | cons p x ih => cases y with
    | nil => cases h
    | cons q r =>
      simp only [List.map_cons, List.cons.injEq] at h
      rintro ⟨h1, h2⟩
      exact ⟨h.1 ▸ h1, ih h.2 h2⟩
theorem allLt_append {a : Addr} {x y : Led} : AllLt a (x ++ y) ↔ AllLt a x ∧ AllLt a y := by
  induction x with
  | nil => exact ⟨fun h => ⟨trivial, h⟩, fun h => h.2⟩
  | cons p x ih =>
    constructor
    · rintro ⟨h1, h2⟩
      exact ⟨⟨h1, (ih.mp h2).1⟩, (ih.mp h2).2⟩
    · rintro ⟨⟨h1, h2⟩, h3⟩
      exact ⟨h1, ih.mpr ⟨h2, h3⟩⟩
theorem allLt_mem {a : Addr} {x : Led} (h : AllLt a x) : ∀ q ∈ x, q.1 < a := ktn_ltOf h
theorem allLt_ne {a : Addr} {x : Led} (h : AllLt a x) : ∀ q ∈ x, q.1 ≠ a := fun q hq => Nat.ne_of_lt (ktn_ltOf h q hq)
theorem off_of_map {mu mu' news : Led} (h : mu'.map (·.1) = mu.map (·.1)) (off : ∀ p ∈ mu, ∀ q ∈ news, q.1 ≠ p.1) : ∀ p ∈ mu', ∀ q ∈ news, q.1 ≠ p.1 := fun p hp q hq => by
  have : p.1 ∈ mu.map (·.1) := h ▸ List.mem_map_of_mem hp
  obtain ⟨p', hp', e⟩ := List.mem_map.mp this
  rw [← e]
  exact off p' hp' q hq
theorem allLt_r {a : Addr} {x y : Led} (h : AllLt a (x ++ y)) : AllLt a y := (allLt_append.mp h).2
theorem allLt_l {a : Addr} {x y : Led} (h : AllLt a (x ++ y)) : AllLt a x := (allLt_append.mp h).1
theorem off1 {a : Addr} {o : Obj} {news : Led} (h : ∀ q ∈ news, q.1 ≠ a) : ∀ p ∈ [(a, o)], ∀ q ∈ news, q.1 ≠ p.1 := fun p hp q hq => by
  rw [List.mem_singleton.mp hp]; exact h q hq
theorem off1_append {a : Addr} {x y : Led} : LCg.Off1 a (x ++ y) ↔ LCg.Off1 a x ∧ LCg.Off1 a y := by
  induction x with
  | nil => exact ⟨fun h => ⟨trivial, h⟩, fun h => h.2⟩
  | cons p x ih =>
    constructor
    · rintro ⟨h1, h2⟩
      exact ⟨⟨h1, (ih.mp h2).1⟩, (ih.mp h2).2⟩
    · rintro ⟨⟨h1, h2⟩, h3⟩
      exact ⟨h1, ih.mpr ⟨h2, h3⟩⟩
theorem off1_mem {a : Addr} : ∀ {x : Led}, LCg.Off1 a x → Ap a x
  | [], _, _, h => nomatch h
  | _ :: _, x, q, h => by
    rcases List.mem_cons.mp h with rfl | h
    · exact x.1
    · exact off1_mem x.2 q h
theorem off1_of {a : Addr} : ∀ {x : Led}, Ap a x → LCg.Off1 a x
  | [], _ => trivial
  | _ :: _, h => ⟨h _ (.head _), off1_of fun q hq => h q (.tail _ hq)⟩
theorem ap_lt {a : Addr} {x : Led} (h : ∀ q ∈ x, q.1 < a) : Ap a x := fun q hq => Nat.ne_of_lt (h q hq)
theorem ap_lt2 {a d : Addr} {x : Led} (h : d < a) (k : ∀ q ∈ x, q.1 < d) : Ap a x := fun q hq => Nat.ne_of_lt (Nat.lt_trans (k q hq) h)
theorem ne_lt2 {l d b : Addr} (h2 : d < b) (h1 : l < d) : l ≠ b := Nat.ne_of_lt (Nat.lt_trans h1 h2)
theorem ap_sub {a : Addr} {x y : Led} (h : Ap a x) (k : ∀ p ∈ y, p ∈ x) : Ap a y := fun q hq => h q (k q hq)
theorem news_rot {h₀ h : Heap} {L : Addr} {tl rest : Led} {q : Addr × Obj} (N : News h₀ L h (tl ++ (q :: rest))) : News h₀ L h (q :: (tl ++ rest)) := fun p hp => N p (by
  rcases List.mem_cons.mp hp with rfl | hp
  · exact List.mem_append.mpr (.inr (.head _))
  · rcases List.mem_append.mp hp with hp | hp
    · exact List.mem_append.mpr (.inl hp)
    · exact List.mem_append.mpr (.inr (.tail _ hp)))
theorem news_sub {h₀ h : Heap} {L : Addr} {x y : Led} (N : News h₀ L h x) (k : ∀ p ∈ y, p ∈ x) : News h₀ L h y := fun p hp => N p (k p hp)
theorem two {v : Int} (h0 : 0 ≤ v) (h1 : v < 2) : v = 0 ∨ v = 1 := by omega
theorem three {v : Int} (h0 : 0 ≤ v) (h1 : v < 3) : v = 0 ∨ v = 1 ∨ v = 2 := by omega
theorem fin_own {h₀ h : Heap} {L : Addr} (own : Led) {tl news : Led} {q : Addr × Obj} (N : News h₀ L h (own ++ (q :: (tl ++ news)))) : News h₀ L h ((own ++ tl) ++ ([q] ++ news)) := fun p hp => N p (by
  simp only [List.mem_append, List.mem_cons, List.not_mem_nil, or_false] at hp ⊢
  rcases hp with (h | h) | h | h <;> simp only [h, true_or, or_true])
theorem fin_own2 {h₀ h : Heap} {L : Addr} (own : Led) {tl rest news : Led} {q : Addr × Obj} (k : ∀ p ∈ news, p ∈ rest) (N : News h₀ L h (own ++ (q :: (tl ++ rest)))) : News h₀ L h ((own ++ tl) ++ ([q] ++ news)) := fun p hp => N p (by
  simp only [List.mem_append, List.mem_cons, List.not_mem_nil, or_false] at hp ⊢
  rcases hp with (h | h) | h | h
  · simp only [h, true_or, or_true]
  · simp only [h, true_or, or_true]
  · simp only [h, true_or, or_true]
  · simp only [k _ h, true_or, or_true])
theorem aps {tl X Y : Led} (h : ∀ p ∈ tl, Ap p.1 X) (k : ∀ q ∈ Y, q ∈ X) : ∀ p ∈ tl, Ap p.1 Y := fun p hp q hq => h p hp q (k q hq)
theorem aps_at {tl X Y : Led} {a : Addr} {o o' : Obj} (h : ∀ p ∈ tl, Ap p.1 ((a, o) :: X)) (k : ∀ q ∈ Y, q ∈ X) : ∀ p ∈ tl, Ap p.1 ((a, o') :: Y) := fun p hp => List.forall_mem_cons.mpr ⟨h p hp (a, o) (.head _), fun q hq => h p hp q (.tail _ (k q hq))⟩
theorem aps_cons {p : Addr × Obj} {tl Y : Led} (h1 : Ap p.1 Y) (h2 : ∀ q ∈ tl, Ap q.1 Y) : ∀ q ∈ p :: tl, Ap q.1 Y := List.forall_mem_cons.mpr ⟨h1, h2⟩
theorem aps_app {x tl Y : Led} (h1 : ∀ q ∈ x, Ap q.1 Y) (h2 : ∀ q ∈ tl, Ap q.1 Y) : ∀ q ∈ x ++ tl, Ap q.1 Y := List.forall_mem_append.mpr ⟨h1, h2⟩
theorem aps_one {p : Addr × Obj} {Y : Led} (h1 : Ap p.1 Y) : ∀ q ∈ [p], Ap q.1 Y := List.forall_mem_cons.mpr ⟨h1, List.forall_mem_nil _⟩
theorem fin_one {h₀ h : Heap} {L : Addr} {tl rest news : Led} {p q : Addr × Obj} (k : ∀ p ∈ news, p ∈ rest) (N : News h₀ L h (p :: q :: (tl ++ rest))) : News h₀ L h ((p :: tl) ++ ([q] ++ news)) := fin_own2 [p] k N
theorem two' {v : Int} (h1 : v < 2) (h0 : 0 ≤ v) : v = 0 ∨ v = 1 := by omega
theorem three' {v : Int} (h1 : v < 3) (h0 : 0 ≤ v) : v = 0 ∨ v = 1 ∨ v = 2 := by omega
theorem regroup {h₀ h : Heap} {L : Addr} (own : Led) {rest : Led} {at' fd : Addr} {o : Obj} (N : News h₀ L h (own ++ ((at', o) :: rest))) (hat : ∀ q ∈ rest, q.1 ≠ at') (pre : DrawFix rest fd at') (hap : ∀ p ∈ own, Ap p.1 ((at', o) :: rest)) :
    ∃ own2 rest2 : Led, rest2 = own2 ++ rest ∧ News h₀ L h ((at', o) :: rest2) ∧ (∀ q ∈ rest2, q.1 ≠ at') ∧ DrawFix rest2 fd at' ∧ (∀ p ∈ own, p ∈ own2) ∧ (∀ p ∈ own2, Ap p.1 ((at', o) :: rest)) ∧ (∀ p ∈ rest, p ∈ rest2) ∧ (∀ p ∈ own2, p ∈ rest2) :=
  ⟨own, _, rfl, news_rot N, List.forall_mem_append.mpr ⟨fun q hq => Ne.symm (hap q hq _ (.head _)), hat⟩, pre.mono fun _ h => List.mem_append.mpr (.inr h), fun _ h => h, hap, fun _ h => List.mem_append.mpr (.inr h), fun _ h => List.mem_append.mpr (.inl h)⟩
theorem fin_big {h₀ h : Heap} {L : Addr} {x y q : Addr × Obj} {tl own rest rest2 news : Led} (hr : rest2 = own ++ rest) (k : ∀ p ∈ news, p ∈ rest) (N : News h₀ L h (x :: y :: q :: (tl ++ rest2))) : News h₀ L h ((x :: (tl ++ own)) ++ ([q] ++ news)) := fun p hp => N p (by
  subst hr
  simp only [List.mem_append, List.mem_cons, List.not_mem_nil, or_false] at hp ⊢
  rcases hp with (h | h | h) | h | h
  · simp only [h, true_or, or_true]
  · simp only [h, true_or, or_true]
  · simp only [h, true_or, or_true]
  · simp only [h, true_or, or_true]
  · simp only [k _ h, true_or, or_true])
def IsWord (v : Value) : Prop := ∃ x t, v = .str x t ∧ x ∈ WORDS
def IsFixed (v : Value) : Prop := ∃ x t, v = .str x t ∧ x ∈ FIXED
def IsKind (v : Value) : Prop := ∃ x t, v = .str x t ∧ x ∈ KINDS
theorem DrawFix.fn {P : Led} {fd at' : Addr} (h : DrawFix P fd at') : ∃ oF dF fF sF, (fd, (⟨oF, dF, .func fF, sF⟩ : Obj)) ∈ P := by
  obtain ⟨cA, cN, D, c', oA, oN, oc, vs, t, doc, pm, ctv, qual, nD, vs', ns, h1, _⟩ := h
  exact ⟨_, _, _, _, h1⟩
section
variable {M : Model} {A : Around} {E : Value → Shared → Prop} {s : Shared} {K : Frag} {h₀ : Heap} {L a : Addr} {m mg mb : Str → Option Value} {cn : Str} {cs : Scope} {ccd : Value} {p : Program} {loose : List Str}
  {x : Str} {pos : Pos} {v : Value} {Q : Value → Shared → Prop}
/-- the names of a plain function's frame, in the words of the frame itself: a refine under with_reducible meets them, and is spared the evaluation of the goal's type -/
theorem nameO_L (F : Fr h₀ L s.heap m) (hv : m x = some v) (h : Q v s) (hk : cs.kind = .function) (hx : (envOf cn cs L a ccd).kindOf x = some .local) (hd : (x == ("__debug__" : Str)) = false) :
    wpAny M A (eval (.Name x pos) (envOf cn cs L a ccd)) Q E s := nameX_L (cl := []) F hv h hk hx hd
theorem nameO_K (F : Fr h₀ L s.heap m) (X : K.In h₀) (T : TopRead p loose mg mb h₀) (e : nsIn K mainGlobals x = some (some v)) (h : Q v s) (hk : cs.kind = .function) (hx : (envOf cn cs L a ccd).kindOf x = some .globalImplicit) (hd : (x == ("__debug__" : Str)) = false) :
    wpAny M A (eval (.Name x pos) (envOf cn cs L a ccd)) Q E s := nameX_K (cl := []) F X T e h hk hx hd
theorem nameO_B (F : Fr h₀ L s.heap m) (X : K.In h₀) (T : TopRead p loose mg mb h₀) (e : nsIn K mainGlobals x = some none) (hv : bootBuiltins x = some v) (hn : x ≠ "__name__") (h : Q v s)
    (hk : cs.kind = .function) (hx : (envOf cn cs L a ccd).kindOf x = some .globalImplicit) (hd : (x == ("__debug__" : Str)) = false) :
    wpAny M A (eval (.Name x pos) (envOf cn cs L a ccd)) Q E s := nameX_B (cl := []) F X T e hv hn h hk hx hd
end
end Mine
end
end
section
local macro_rules | `(tactic| k_all) => `(tactic| assumption)
local macro_rules | `(tactic| k_mem) => `(tactic| first
  | with_reducible assumption
  | exact List.Mem.head _
  | ((with_reducible refine List.mem_cons_of_mem _ ?_); k_mem)
  | ((with_reducible refine List.mem_append.mpr (Or.inr ?_)); k_mem)
  | ((with_reducible refine List.mem_append.mpr (Or.inl ?_)); k_mem))
local macro_rules | `(tactic| k_room) => `(tactic| ((try simp only [depth_under_make, depth_under_kw, depth_in1, depth_deeper, depth_caller]); (try dsimp only); omega))
local macro_rules | `(tactic| k_units) => `(tactic| ((try simp only [units_under_make, units_in1, units_deeper, Around.mark_units, units_caller]); (try dsimp only); omega))
local macro_rules | `(tactic| walk_at "subscriptTail") => `(tactic| (k_here; (with_reducible show wpAny _ _ (subscriptTail _ _ (Value.ref _) (Value.int _ _)) _ _ _); k_dflt ((show wpAny _ _ (subscriptTail _ _ (Value.ref 433) (Value.int _ _)) _ _ _); refine' Mine.menu_K Mine.IsWord ?F ?X ?l ?a ?b ?f ?c ?_ ?hs; (case hs => with_unfolding_all rfl); (case F => k_asm); (case X => k_asm); (case l => k_is); (case a => omega); (case b => exact Int.lt_of_lt_of_le (by assumption) (by decide)); (case f => decide); (case c => exact List.forall_mem_cons.mpr ⟨⟨_, _, rfl, by decide⟩, List.forall_mem_cons.mpr ⟨⟨_, _, rfl, by decide⟩, List.forall_mem_cons.mpr ⟨⟨_, _, rfl, by decide⟩, List.forall_mem_cons.mpr ⟨⟨_, _, rfl, by decide⟩, List.forall_mem_nil _⟩⟩⟩⟩); rintro _ ⟨wd', wt', hx', hw'⟩; subst hx')))
local macro_rules | `(tactic| walk_at "subscriptTail") => `(tactic| (k_here; (with_reducible show wpAny _ _ (subscriptTail _ _ (Value.ref _) (Value.int _ _)) _ _ _); k_dflt ((show wpAny _ _ (subscriptTail _ _ (Value.ref 434) (Value.int _ _)) _ _ _); refine' Mine.menu_K Mine.IsFixed ?F ?X ?l ?a ?b ?f ?c ?_ ?hs; (case hs => with_unfolding_all rfl); (case F => k_asm); (case X => k_asm); (case l => k_is); (case a => omega); (case b => exact Int.lt_of_lt_of_le (by assumption) (by decide)); (case f => decide); (case c => exact List.forall_mem_cons.mpr ⟨⟨_, _, rfl, by decide⟩, List.forall_mem_cons.mpr ⟨⟨_, _, rfl, by decide⟩, List.forall_mem_cons.mpr ⟨⟨_, _, rfl, by decide⟩, List.forall_mem_cons.mpr ⟨⟨_, _, rfl, by decide⟩, List.forall_mem_nil _⟩⟩⟩⟩); rintro _ ⟨wd', wt', hx', hw'⟩; subst hx')))
local macro_rules | `(tactic| walk_at "subscriptTail") => `(tactic| (k_here; (with_reducible show wpAny _ _ (subscriptTail _ _ (Value.ref _) (Value.int _ _)) _ _ _); k_dflt ((show wpAny _ _ (subscriptTail _ _ (Value.ref 435) (Value.int _ _)) _ _ _); refine' Mine.menu_K Mine.IsKind ?F ?X ?l ?a ?b ?f ?c ?_ ?hs; (case hs => with_unfolding_all rfl); (case F => k_asm); (case X => k_asm); (case l => k_is); (case a => omega); (case b => exact Int.lt_of_lt_of_le (by assumption) (by decide)); (case f => decide); (case c => exact List.forall_mem_cons.mpr ⟨⟨_, _, rfl, by decide⟩, List.forall_mem_cons.mpr ⟨⟨_, _, rfl, by decide⟩, List.forall_mem_nil _⟩⟩); rintro _ ⟨wd', wt', hx', hw'⟩; subst hx')))
local macro_rules | `(tactic| walk_at "enter") => `(tactic| ((case kA => exact rfl); (case kF => exact rfl); (case kK => first | exact rfl | assumption); (case k6 => k_is); (case k7 => k_is); (case k8 => k_room); (case k9 => exact BindsTo.of_eq rfl); (case c5 => decide); (case kB => exact locs rfl); (case c2 => exact rfl); (case c3 => exact rfl); (case c4 => exact rfl); k_whole))
local macro_rules | `(tactic| walk_at "begin") => `(tactic| ((try dsimp only); (try k_unmd); (try k_fold)))
local macro_rules | `(tactic| walk_at "enterC") => `(tactic| ((case kA => exact rfl); (case kF => exact rfl); (case kK => first | exact rfl | assumption); (case k6 => k_is); (case k7 => k_is); (case k8 => k_room); (case k9 => exact BindsTo.of_eq rfl); (case kB => exact rfl); (case kD => decide +kernel); (case c2 => exact rfl); (case c3 => exact rfl); (case c4 => exact rfl); k_whole))
local macro_rules | `(tactic| walk_at "ite") => `(tactic| first | (exfalso; omega) | (with_reducible refine Mine.if_pos' (by first | omega | decide | (simp only [beq_iff_eq, bne_iff_ne, ne_eq, decide_eq_true_eq, not_true_eq_false, not_false_eq_true]; done) | (simp only [beq_iff_eq, bne_iff_ne, ne_eq, decide_eq_true_eq]; omega)) ?_) | (with_reducible refine Mine.if_neg' (by first | omega | decide | (simp only [beq_iff_eq, bne_iff_ne, ne_eq, decide_eq_true_eq, not_true_eq_false, not_false_eq_true]; done) | (simp only [beq_iff_eq, bne_iff_ne, ne_eq, decide_eq_true_eq]; omega)) ?_) | ((with_reducible refine Mine.if_both ?_ ?_) <;> (intro hc'; (try simp only [beq_iff_eq, bne_iff_ne, ne_eq, decide_eq_true_eq, Bool.not_eq_true, beq_eq_false_iff_ne, bne_eq_false_iff_eq, decide_eq_false_iff_not, Decidable.not_not] at hc'))))
local macro_rules | `(tactic| walk_at "wpAt") => `(tactic| (ks_step "exec Expr"; k_dflt (refine ks_wpAt_Expr_any ?_)))
local macro_rules | `(tactic| walk_at "wpAt") => `(tactic| (ks_step "eval Call"; k_dflt (refine ks_wpAt_MethodCall ?_)))
local macro_rules | `(tactic| walk_at "callWith ref") => `(tactic| (k_here; k_dflt (first
  | ((with_reducible refine' callWith_K0 ?k1 ?k2 ?_); (case k1 => exact Frag.In.keeps (by with_reducible assumption) (Fr.keep (by with_reducible assumption))); (case k2 => k_is); k_whole)
  | ((with_reducible refine' callWith_K ?k1 ?k2 ?_ ?k3 ?k4); (case k3 => exact rfl); (case k4 => exact rfl); (case k1 => with_reducible assumption); (case k2 => k_is); k_whole))))
local macro_rules | `(tactic| walk_at "eval Name") => `(tactic| (k_here; k_dflt (first
  | ((with_reducible refine' Mine.nameO_L ?F ?v ?_ ?a ?b ?d); (case b => rfl); (case F => k_asm); (case a => rfl); (case d => decide); (case v => rfl); k_whole)
  | ((with_reducible refine' Mine.nameO_K ?F ?X ?T ?e ?_ ?a ?b ?d); (case b => rfl); (case F => k_asm); (case X => k_asm); (case T => k_asm); (case a => rfl); (case d => decide); (case e => k_is); k_whole)
  | ((with_reducible refine' Mine.nameO_B ?F ?X ?T ?e ?v ?n ?_ ?a ?b ?d); (case b => rfl); (case F => k_asm); (case X => k_asm); (case T => k_asm); (case a => rfl); (case d => decide); (case e => k_is); (case v => boot_fast); (case n => decide); k_whole)
  | ((with_reducible refine' nameX_L ?F ?v ?_ ?a ?b); (case b => rfl); (case F => k_asm); (case a => rfl); (case v => rfl); k_whole)
  | ((with_reducible refine' nameX_K ?F ?X ?T ?e ?_ ?a ?b); (case b => rfl); (case F => k_asm); (case X => k_asm); (case T => k_asm); (case a => rfl); (case e => k_is); k_whole)
  | ((with_reducible refine' nameX_B ?F ?X ?T ?e ?v ?n ?_ ?a ?b); (case b => rfl); (case F => k_asm); (case X => k_asm); (case T => k_asm); (case a => rfl); (case e => k_is); (case v => boot_fast); (case n => decide); k_whole))))
section
namespace Mine
def ent (w : World) (n : Str) (t : Tok) (v : Value) : DictEntry := ⟨PyData.keyHash w.params n, .str n t, v⟩
def El.okd (e : El) : Prop := e.isDots ∨ e.ok
mutual
def El.Made (w : World) (P : Led) : El → Value → Prop
  | .nav x c f, v => ∃ a d t1 t2 t3 t4 t5 n fv ev, v = .ref a ∧ (a, instObj 153 d) ∈ P ∧ (d, dictOf [ent w "name" t1 (.str x t5), ent w "consume_name" t2 (.bool c), ent w "fixed_name" t3 fv, ent w "rrel_expression" t4 ev] n) ∈ P ∧ fixV f fv
  | .par k, v => ∃ a d t1 t2 n, v = .ref a ∧ (a, instObj 104 d) ∈ P ∧ (d, dictOf [ent w "type" t1 (.str k t2)] n) ∈ P
  | .dots k, v => ∃ a d t1 t2 n, v = .ref a ∧ (a, instObj 252 d) ∈ P ∧ (d, dictOf [ent w "num" t1 (.int (k : Int) t2)] n) ∈ P
  | .br ws, v => ∃ a d t1 n sq, v = .ref a ∧ (a, instObj 203 d) ∈ P ∧ (d, dictOf [ent w "seq" t1 (.ref sq)] n) ∈ P ∧ ws.Made w P sq
  | .st ws, v => ∃ a d t1 n b d2 t2 n2 sq, v = .ref a ∧ (a, instObj 352 d) ∈ P ∧ (d, dictOf [ent w "path_element" t1 (.ref b)] n) ∈ P ∧ (b, instObj 203 d2) ∈ P ∧ (d2, dictOf [ent w "seq" t2 (.ref sq)] n2) ∈ P ∧ ws.Made w P sq
def Ways.Made (w : World) (P : Led) : Ways → Addr → Prop
  | .one p, a => ∃ d t1 n l k p', (a, instObj 302 d) ∈ P ∧ (d, dictOf [ent w "paths" t1 (.ref l)] n) ∈ P ∧ (l, W.listOf [Value.ref p'].toArray k) ∈ P ∧ p.Made w P p'
  | .two p q, a => ∃ d t1 n l k p' q', (a, instObj 302 d) ∈ P ∧ (d, dictOf [ent w "paths" t1 (.ref l)] n) ∈ P ∧ (l, W.listOf [Value.ref p', Value.ref q'].toArray k) ∈ P ∧ p.Made w P p' ∧ q.Made w P q'
def Pth.Made (w : World) (P : Led) : Pth → Addr → Prop
  | .one x, a => ∃ d t1 n l k u, (a, instObj 402 d) ∈ P ∧ (d, dictOf [ent w "path_elements" t1 (.ref l)] n) ∈ P ∧ (l, W.listOf [u].toArray k) ∈ P ∧ x.Made w P u
  | .two x y, a => ∃ d t1 n l k u v, (a, instObj 402 d) ∈ P ∧ (d, dictOf [ent w "path_elements" t1 (.ref l)] n) ∈ P ∧ (l, W.listOf [u, v].toArray k) ∈ P ∧ x.Made w P u ∧ y.Made w P v
  | .thr x y z, a => ∃ d t1 n l k u v r, (a, instObj 402 d) ∈ P ∧ (d, dictOf [ent w "path_elements" t1 (.ref l)] n) ∈ P ∧ (l, W.listOf [u, v, r].toArray k) ∈ P ∧ x.Made w P u ∧ y.Made w P v ∧ z.Made w P r
end

def dM (n : Nat) : Nat := 60 * n + 20
def uM (n : Nat) : Nat := 400 * n + 250
def MadeSpec (w : World) (n : Nat) : Prop := ∀ (e : El) (v : Value), e.okd → e.dep ≤ n →
  Calls w (dM n) (uM n) (.ref 466) [v] [] (fun news => e.In news v) (fun _ _ tl r => e.Made w tl r)
def dS (n : Nat) : Nat := 60 * n + 50
def uS (n : Nat) : Nat := 400 * n + 400
def SeqSpec (w : World) (n : Nat) : Prop := ∀ (e : Ways) (l : Addr), e.ok → e.dep ≤ n →
  Calls w (dS n) (uS n) (.ref 471) [.ref l] [] (fun news => e.In news l) (fun _ _ tl r => ∃ a, r = .ref a ∧ e.Made w tl a)
end Mine
end
end
section
local macro_rules | `(tactic| k_all) => `(tactic| assumption)
local macro_rules | `(tactic| k_mem) => `(tactic| first
  | with_reducible assumption
  | exact List.Mem.head _
  | ((with_reducible refine List.mem_cons_of_mem _ ?_); k_mem)
  | ((with_reducible refine List.mem_append.mpr (Or.inr ?_)); k_mem)
  | ((with_reducible refine List.mem_append.mpr (Or.inl ?_)); k_mem))
local macro_rules | `(tactic| k_room) => `(tactic| ((try simp only [depth_under_make, depth_under_kw, depth_in1, depth_deeper, depth_caller]); (try dsimp only); omega))
local macro_rules | `(tactic| k_units) => `(tactic| ((try simp only [units_under_make, units_in1, units_deeper, Around.mark_units, units_caller]); (try dsimp only); omega))
local macro_rules | `(tactic| walk_at "subscriptTail") => `(tactic| (k_here; (with_reducible show wpAny _ _ (subscriptTail _ _ (Value.ref _) (Value.int _ _)) _ _ _); k_dflt ((show wpAny _ _ (subscriptTail _ _ (Value.ref 433) (Value.int _ _)) _ _ _); refine' Mine.menu_K Mine.IsWord ?F ?X ?l ?a ?b ?f ?c ?_ ?hs; (case hs => with_unfolding_all rfl); (case F => k_asm); (case X => k_asm); (case l => k_is); (case a => omega); (case b => exact Int.lt_of_lt_of_le (by assumption) (by decide)); (case f => decide); (case c => exact List.forall_mem_cons.mpr ⟨⟨_, _, rfl, by decide⟩, List.forall_mem_cons.mpr ⟨⟨_, _, rfl, by decide⟩, List.forall_mem_cons.mpr ⟨⟨_, _, rfl, by decide⟩, List.forall_mem_cons.mpr ⟨⟨_, _, rfl, by decide⟩, List.forall_mem_nil _⟩⟩⟩⟩); rintro _ ⟨wd', wt', hx', hw'⟩; subst hx')))
local macro_rules | `(tactic| walk_at "subscriptTail") => `(tactic| (k_here; (with_reducible show wpAny _ _ (subscriptTail _ _ (Value.ref _) (Value.int _ _)) _ _ _); k_dflt ((show wpAny _ _ (subscriptTail _ _ (Value.ref 434) (Value.int _ _)) _ _ _); refine' Mine.menu_K Mine.IsFixed ?F ?X ?l ?a ?b ?f ?c ?_ ?hs; (case hs => with_unfolding_all rfl); (case F => k_asm); (case X => k_asm); (case l => k_is); (case a => omega); (case b => exact Int.lt_of_lt_of_le (by assumption) (by decide)); (case f => decide); (case c => exact List.forall_mem_cons.mpr ⟨⟨_, _, rfl, by decide⟩, List.forall_mem_cons.mpr ⟨⟨_, _, rfl, by decide⟩, List.forall_mem_cons.mpr ⟨⟨_, _, rfl, by decide⟩, List.forall_mem_cons.mpr ⟨⟨_, _, rfl, by decide⟩, List.forall_mem_nil _⟩⟩⟩⟩); rintro _ ⟨wd', wt', hx', hw'⟩; subst hx')))
local macro_rules | `(tactic| walk_at "subscriptTail") => `(tactic| (k_here; (with_reducible show wpAny _ _ (subscriptTail _ _ (Value.ref _) (Value.int _ _)) _ _ _); k_dflt ((show wpAny _ _ (subscriptTail _ _ (Value.ref 435) (Value.int _ _)) _ _ _); refine' Mine.menu_K Mine.IsKind ?F ?X ?l ?a ?b ?f ?c ?_ ?hs; (case hs => with_unfolding_all rfl); (case F => k_asm); (case X => k_asm); (case l => k_is); (case a => omega); (case b => exact Int.lt_of_lt_of_le (by assumption) (by decide)); (case f => decide); (case c => exact List.forall_mem_cons.mpr ⟨⟨_, _, rfl, by decide⟩, List.forall_mem_cons.mpr ⟨⟨_, _, rfl, by decide⟩, List.forall_mem_nil _⟩⟩); rintro _ ⟨wd', wt', hx', hw'⟩; subst hx')))
local macro_rules | `(tactic| walk_at "enter") => `(tactic| ((case kA => exact rfl); (case kF => exact rfl); (case kK => first | exact rfl | assumption); (case k6 => k_is); (case k7 => k_is); (case k8 => k_room); (case k9 => exact BindsTo.of_eq rfl); (case c5 => decide); (case kB => exact locs rfl); (case c2 => exact rfl); (case c3 => exact rfl); (case c4 => exact rfl); k_whole))
local macro_rules | `(tactic| walk_at "begin") => `(tactic| ((try dsimp only); (try k_unmd); (try k_fold)))
local macro_rules | `(tactic| walk_at "enterC") => `(tactic| ((case kA => exact rfl); (case kF => exact rfl); (case kK => first | exact rfl | assumption); (case k6 => k_is); (case k7 => k_is); (case k8 => k_room); (case k9 => exact BindsTo.of_eq rfl); (case kB => exact rfl); (case kD => decide +kernel); (case c2 => exact rfl); (case c3 => exact rfl); (case c4 => exact rfl); k_whole))
local macro_rules | `(tactic| walk_at "ite") => `(tactic| first | (exfalso; omega) | (with_reducible refine Mine.if_pos' (by first | omega | decide | (simp only [beq_iff_eq, bne_iff_ne, ne_eq, decide_eq_true_eq, not_true_eq_false, not_false_eq_true]; done) | (simp only [beq_iff_eq, bne_iff_ne, ne_eq, decide_eq_true_eq]; omega)) ?_) | (with_reducible refine Mine.if_neg' (by first | omega | decide | (simp only [beq_iff_eq, bne_iff_ne, ne_eq, decide_eq_true_eq, not_true_eq_false, not_false_eq_true]; done) | (simp only [beq_iff_eq, bne_iff_ne, ne_eq, decide_eq_true_eq]; omega)) ?_) | ((with_reducible refine Mine.if_both ?_ ?_) <;> (intro hc'; (try simp only [beq_iff_eq, bne_iff_ne, ne_eq, decide_eq_true_eq, Bool.not_eq_true, beq_eq_false_iff_ne, bne_eq_false_iff_eq, decide_eq_false_iff_not, Decidable.not_not] at hc'))))
local macro_rules | `(tactic| walk_at "wpAt") => `(tactic| (ks_step "exec Expr"; k_dflt (refine ks_wpAt_Expr_any ?_)))
local macro_rules | `(tactic| walk_at "wpAt") => `(tactic| (ks_step "eval Call"; k_dflt (refine ks_wpAt_MethodCall ?_)))
local macro_rules | `(tactic| walk_at "callWith ref") => `(tactic| (k_here; k_dflt (first
  | ((with_reducible refine' callWith_K0 ?k1 ?k2 ?_); (case k1 => exact Frag.In.keeps (by with_reducible assumption) (Fr.keep (by with_reducible assumption))); (case k2 => k_is); k_whole)
  | ((with_reducible refine' callWith_K ?k1 ?k2 ?_ ?k3 ?k4); (case k3 => exact rfl); (case k4 => exact rfl); (case k1 => with_reducible assumption); (case k2 => k_is); k_whole))))
local macro_rules | `(tactic| walk_at "eval Name") => `(tactic| (k_here; k_dflt (first
  | ((with_reducible refine' Mine.nameO_L ?F ?v ?_ ?a ?b ?d); (case b => rfl); (case F => k_asm); (case a => rfl); (case d => decide); (case v => rfl); k_whole)
  | ((with_reducible refine' Mine.nameO_K ?F ?X ?T ?e ?_ ?a ?b ?d); (case b => rfl); (case F => k_asm); (case X => k_asm); (case T => k_asm); (case a => rfl); (case d => decide); (case e => k_is); k_whole)
  | ((with_reducible refine' Mine.nameO_B ?F ?X ?T ?e ?v ?n ?_ ?a ?b ?d); (case b => rfl); (case F => k_asm); (case X => k_asm); (case T => k_asm); (case a => rfl); (case d => decide); (case e => k_is); (case v => boot_fast); (case n => decide); k_whole)
  | ((with_reducible refine' nameX_L ?F ?v ?_ ?a ?b); (case b => rfl); (case F => k_asm); (case a => rfl); (case v => rfl); k_whole)
  | ((with_reducible refine' nameX_K ?F ?X ?T ?e ?_ ?a ?b); (case b => rfl); (case F => k_asm); (case X => k_asm); (case T => k_asm); (case a => rfl); (case e => k_is); k_whole)
  | ((with_reducible refine' nameX_B ?F ?X ?T ?e ?v ?n ?_ ?a ?b); (case b => rfl); (case F => k_asm); (case X => k_asm); (case T => k_asm); (case a => rfl); (case e => k_is); (case v => boot_fast); (case n => decide); k_whole))))
local macro_rules | `(tactic| walk_at "ap") => `(tactic| first
  | exact List.forall_mem_nil _
  | assumption
  | exact Mine.allLt_ne (by tbn_find)
  | exact Mine.ap_lt (by assumption)
  | exact Mine.ap_lt2 (by assumption) (by assumption)
  | exact Mine.ap_lt2 (by assumption) (Mine.allLt_mem (by tbn_find))
  | exact Mine.ap_memLt (by assumption) (by intro q9 h9; k_mem)
  | exact Mine.off1_mem (by first | assumption | exact And.left (by assumption) | exact And.right (by assumption))
  | ((refine List.forall_mem_cons.mpr ⟨?_, ?_⟩); (focus (try dsimp only); first | assumption | k_ne | exact Ne.symm (by assumption) | exact Mine.ne_lt2 (by assumption) (by tbn_find) | exact Ne.symm (Mine.ne_memLt (by assumption) (by k_mem))); walk_at "ap")
  | ((refine List.forall_mem_append.mpr ⟨?_, ?_⟩) <;> walk_at "ap")
  | fail "ap: no order")
local macro_rules | `(tactic| walk_at "ord") => `(tactic| first
  | exact List.forall_mem_nil _
  | assumption
  | ((refine List.forall_mem_cons.mpr ⟨?_, ?_⟩); (focus walk_at "ap"); walk_at "ord")
  | exact Mine.aps (by assumption) (by intro q9 h9; k_mem)
  | exact Mine.aps2 (by assumption) (by k_mem) (by intro q9 h9; k_mem)
  | ((refine List.forall_mem_append.mpr ⟨?_, ?_⟩) <;> walk_at "ord")
  | fail "ord")
local macro_rules | `(tactic| walk_at "sub") => `(tactic| (intro q9 h9; simp only [List.mem_append, List.mem_cons, List.not_mem_nil, or_false, false_or, List.nil_append, List.cons_append] at h9 ⊢; first | exact h9 | grind))
section
namespace Mine
theorem made0 (w : World) : MadeSpec w 0 := by
  unfold MadeSpec
  intro e v hok hdep
  unfold Calls
  w_top off
  k_fill
  intro p loose mean mg mb dp un gd cn cs a ccd cl outer A₀ base h₀ L m news s Q E B F X TG N T hcs hd hu hoff hpre hret
  have hd' : dp + 20 < recursionLimit := hd
  have hu' : un + 250 < cLine := hu
  have hcode := TG.t1
  simp only [List.nil_append] at N
  obtain ⟨e0, he0⟩ : ∃ e0, v = .ref e0 := by
    cases e <;> simp only [El.In] at hpre
    · obtain ⟨a, _, _, _, h, _⟩ := hpre; exact ⟨a, h⟩
    · obtain ⟨a, _, _, h, _⟩ := hpre; exact ⟨a, h⟩
    · obtain ⟨a, _, _, h, _⟩ := hpre; exact ⟨a, h⟩
    · obtain ⟨a, _, _, h, _⟩ := hpre; exact ⟨a, h⟩
    · obtain ⟨a, _, _, h, _⟩ := hpre; exact ⟨a, h⟩
  subst he0
  refine wpAny_call ?_
  k_dflt (refine' code_def (binds := [("e", .ref e0)]) B F X N T ?kA ?kF ?kK ?k6 ?k7 ?k8 ?k9 ?kB ?_ ?c2 ?c3 ?c4 ?c5)
  walk_at "enter"
  intro g' L' h' FG' F' N' B' X' T'
  have TG' := TG.keeps FG'.keep
  have hcode' := TG'.t1
  walk_at "begin"
  cases e with
  | nav x c f =>
    obtain ⟨a, t1, t2, fv, ha, hm, hf⟩ := hpre
    obtain rfl := Value.ref.inj ha
    k_steps
    exact hret _ [] [(_, _), (_, _), (_, _), (_, _)] _ _ (by assumption) (by assumption) (by walk_at "ord") (by rfl)
      ⟨_, _, _, _, _, _, _, _, _, _, rfl, .tail _ (.tail _ (.head _)), .tail _ (.tail _ (.tail _ (.head _))), hf⟩
  | par k =>
    obtain ⟨a, t1, t2, ha, hm⟩ := hpre
    obtain rfl := Value.ref.inj ha
    k_steps
    exact hret _ [] [(_, _), (_, _), (_, _), (_, _)] _ _ (by assumption) (by assumption) (by walk_at "ord") (by rfl)
      ⟨_, _, _, _, _, rfl, .tail _ (.tail _ (.head _)), .tail _ (.tail _ (.tail _ (.head _)))⟩
  | dots k =>
    obtain ⟨a, t1, t2, ha, hm⟩ := hpre
    obtain rfl := Value.ref.inj ha
    k_steps
    exact hret _ [] [(_, _), (_, _), (_, _), (_, _)] _ _ (by assumption) (by assumption) (by walk_at "ord") (by rfl)
      ⟨_, _, _, _, _, rfl, .tail _ (.tail _ (.head _)), .tail _ (.tail _ (.tail _ (.head _)))⟩
  | br ws => simp only [El.dep] at hdep; omega
  | st ws => simp only [El.dep] at hdep; omega
end Mine
end
end
section
local macro_rules | `(tactic| k_all) => `(tactic| assumption)
local macro_rules | `(tactic| k_mem) => `(tactic| first
  | with_reducible assumption
  | exact List.Mem.head _
  | ((with_reducible refine List.mem_cons_of_mem _ ?_); k_mem)
  | ((with_reducible refine List.mem_append.mpr (Or.inr ?_)); k_mem)
  | ((with_reducible refine List.mem_append.mpr (Or.inl ?_)); k_mem))
local macro_rules | `(tactic| k_room) => `(tactic| ((try simp only [depth_under_make, depth_under_kw, depth_in1, depth_deeper, depth_caller]); (try dsimp only); omega))
local macro_rules | `(tactic| k_units) => `(tactic| ((try simp only [units_under_make, units_in1, units_deeper, Around.mark_units, units_caller]); (try dsimp only); omega))
local macro_rules | `(tactic| walk_at "subscriptTail") => `(tactic| (k_here; (with_reducible show wpAny _ _ (subscriptTail _ _ (Value.ref _) (Value.int _ _)) _ _ _); k_dflt ((show wpAny _ _ (subscriptTail _ _ (Value.ref 433) (Value.int _ _)) _ _ _); refine' Mine.menu_K Mine.IsWord ?F ?X ?l ?a ?b ?f ?c ?_ ?hs; (case hs => with_unfolding_all rfl); (case F => k_asm); (case X => k_asm); (case l => k_is); (case a => omega); (case b => exact Int.lt_of_lt_of_le (by assumption) (by decide)); (case f => decide); (case c => exact List.forall_mem_cons.mpr ⟨⟨_, _, rfl, by decide⟩, List.forall_mem_cons.mpr ⟨⟨_, _, rfl, by decide⟩, List.forall_mem_cons.mpr ⟨⟨_, _, rfl, by decide⟩, List.forall_mem_cons.mpr ⟨⟨_, _, rfl, by decide⟩, List.forall_mem_nil _⟩⟩⟩⟩); rintro _ ⟨wd', wt', hx', hw'⟩; subst hx')))
local macro_rules | `(tactic| walk_at "subscriptTail") => `(tactic| (k_here; (with_reducible show wpAny _ _ (subscriptTail _ _ (Value.ref _) (Value.int _ _)) _ _ _); k_dflt ((show wpAny _ _ (subscriptTail _ _ (Value.ref 434) (Value.int _ _)) _ _ _); refine' Mine.menu_K Mine.IsFixed ?F ?X ?l ?a ?b ?f ?c ?_ ?hs; (case hs => with_unfolding_all rfl); (case F => k_asm); (case X => k_asm); (case l => k_is); (case a => omega); (case b => exact Int.lt_of_lt_of_le (by assumption) (by decide)); (case f => decide); (case c => exact List.forall_mem_cons.mpr ⟨⟨_, _, rfl, by decide⟩, List.forall_mem_cons.mpr ⟨⟨_, _, rfl, by decide⟩, List.forall_mem_cons.mpr ⟨⟨_, _, rfl, by decide⟩, List.forall_mem_cons.mpr ⟨⟨_, _, rfl, by decide⟩, List.forall_mem_nil _⟩⟩⟩⟩); rintro _ ⟨wd', wt', hx', hw'⟩; subst hx')))
local macro_rules | `(tactic| walk_at "subscriptTail") => `(tactic| (k_here; (with_reducible show wpAny _ _ (subscriptTail _ _ (Value.ref _) (Value.int _ _)) _ _ _); k_dflt ((show wpAny _ _ (subscriptTail _ _ (Value.ref 435) (Value.int _ _)) _ _ _); refine' Mine.menu_K Mine.IsKind ?F ?X ?l ?a ?b ?f ?c ?_ ?hs; (case hs => with_unfolding_all rfl); (case F => k_asm); (case X => k_asm); (case l => k_is); (case a => omega); (case b => exact Int.lt_of_lt_of_le (by assumption) (by decide)); (case f => decide); (case c => exact List.forall_mem_cons.mpr ⟨⟨_, _, rfl, by decide⟩, List.forall_mem_cons.mpr ⟨⟨_, _, rfl, by decide⟩, List.forall_mem_nil _⟩⟩); rintro _ ⟨wd', wt', hx', hw'⟩; subst hx')))
local macro_rules | `(tactic| walk_at "enter") => `(tactic| ((case kA => exact rfl); (case kF => exact rfl); (case kK => first | exact rfl | assumption); (case k6 => k_is); (case k7 => k_is); (case k8 => k_room); (case k9 => exact BindsTo.of_eq rfl); (case c5 => decide); (case kB => exact locs rfl); (case c2 => exact rfl); (case c3 => exact rfl); (case c4 => exact rfl); k_whole))
local macro_rules | `(tactic| walk_at "begin") => `(tactic| ((try dsimp only); (try k_unmd); (try k_fold)))
local macro_rules | `(tactic| walk_at "enterC") => `(tactic| ((case kA => exact rfl); (case kF => exact rfl); (case kK => first | exact rfl | assumption); (case k6 => k_is); (case k7 => k_is); (case k8 => k_room); (case k9 => exact BindsTo.of_eq rfl); (case kB => exact rfl); (case kD => decide +kernel); (case c2 => exact rfl); (case c3 => exact rfl); (case c4 => exact rfl); k_whole))
local macro_rules | `(tactic| walk_at "ite") => `(tactic| first | (exfalso; omega) | (with_reducible refine Mine.if_pos' (by first | omega | decide | (simp only [beq_iff_eq, bne_iff_ne, ne_eq, decide_eq_true_eq, not_true_eq_false, not_false_eq_true]; done) | (simp only [beq_iff_eq, bne_iff_ne, ne_eq, decide_eq_true_eq]; omega)) ?_) | (with_reducible refine Mine.if_neg' (by first | omega | decide | (simp only [beq_iff_eq, bne_iff_ne, ne_eq, decide_eq_true_eq, not_true_eq_false, not_false_eq_true]; done) | (simp only [beq_iff_eq, bne_iff_ne, ne_eq, decide_eq_true_eq]; omega)) ?_) | ((with_reducible refine Mine.if_both ?_ ?_) <;> (intro hc'; (try simp only [beq_iff_eq, bne_iff_ne, ne_eq, decide_eq_true_eq, Bool.not_eq_true, beq_eq_false_iff_ne, bne_eq_false_iff_eq, decide_eq_false_iff_not, Decidable.not_not] at hc'))))
local macro_rules | `(tactic| walk_at "wpAt") => `(tactic| (ks_step "exec Expr"; k_dflt (refine ks_wpAt_Expr_any ?_)))
local macro_rules | `(tactic| walk_at "wpAt") => `(tactic| (ks_step "eval Call"; k_dflt (refine ks_wpAt_MethodCall ?_)))
local macro_rules | `(tactic| walk_at "callWith ref") => `(tactic| (k_here; k_dflt (first
  | ((with_reducible refine' callWith_K0 ?k1 ?k2 ?_); (case k1 => exact Frag.In.keeps (by with_reducible assumption) (Fr.keep (by with_reducible assumption))); (case k2 => k_is); k_whole)
  | ((with_reducible refine' callWith_K ?k1 ?k2 ?_ ?k3 ?k4); (case k3 => exact rfl); (case k4 => exact rfl); (case k1 => with_reducible assumption); (case k2 => k_is); k_whole))))
local macro_rules | `(tactic| walk_at "eval Name") => `(tactic| (k_here; k_dflt (first
  | ((with_reducible refine' Mine.nameO_L ?F ?v ?_ ?a ?b ?d); (case b => rfl); (case F => k_asm); (case a => rfl); (case d => decide); (case v => rfl); k_whole)
  | ((with_reducible refine' Mine.nameO_K ?F ?X ?T ?e ?_ ?a ?b ?d); (case b => rfl); (case F => k_asm); (case X => k_asm); (case T => k_asm); (case a => rfl); (case d => decide); (case e => k_is); k_whole)
  | ((with_reducible refine' Mine.nameO_B ?F ?X ?T ?e ?v ?n ?_ ?a ?b ?d); (case b => rfl); (case F => k_asm); (case X => k_asm); (case T => k_asm); (case a => rfl); (case d => decide); (case e => k_is); (case v => boot_fast); (case n => decide); k_whole)
  | ((with_reducible refine' nameX_L ?F ?v ?_ ?a ?b); (case b => rfl); (case F => k_asm); (case a => rfl); (case v => rfl); k_whole)
  | ((with_reducible refine' nameX_K ?F ?X ?T ?e ?_ ?a ?b); (case b => rfl); (case F => k_asm); (case X => k_asm); (case T => k_asm); (case a => rfl); (case e => k_is); k_whole)
  | ((with_reducible refine' nameX_B ?F ?X ?T ?e ?v ?n ?_ ?a ?b); (case b => rfl); (case F => k_asm); (case X => k_asm); (case T => k_asm); (case a => rfl); (case e => k_is); (case v => boot_fast); (case n => decide); k_whole))))
section
namespace Mine
def fixD : Option Str → PyData
  | none => .none
  | some x => .str x
mutual
def El.pd : El → PyData
  | .nav x c f => .tuple [.str "n", .str x, .bool c, fixD f]
  | .par k => .tuple [.str "p", .str k]
  | .dots k => .tuple [.str "d", .int (k : Int)]
  | .br ws => .tuple [.str "b", ws.pd]
  | .st ws => .tuple [.str "s", ws.pd]
def Ways.pd : Ways → PyData
  | .one p => .list [p.pd]
  | .two p q => .list [p.pd, q.pd]
def Pth.pd : Pth → PyData
  | .one x => .list [x.pd]
  | .two x y => .list [x.pd, y.pd]
  | .thr x y z => .list [x.pd, y.pd, z.pd]
end
mutual
theorem El.reads {P : Led} {h : Heap} (N : ∀ p ∈ P, h.get? p.1 = some p.2) : ∀ (e : El) (v : Value), e.In P v → ∃ as, Reads h v e.pd as
  | .nav x c f, v => by
    simp only [El.In, El.pd]
    rintro ⟨a, t1, t2, fv, rfl, h2, h3⟩
    have hf : ∃ as, Reads h fv (fixD f) as := by
      cases f with
      | none => simp only [fixV] at h3; subst h3; exact ⟨_, .none⟩
      | some y => obtain ⟨t, rfl⟩ := h3; exact ⟨_, .str _ _⟩
    obtain ⟨as, hf⟩ := hf
    exact ⟨_, .tuple (N _ h2) rfl rfl (.cons (.str _ _) (.cons (.str _ _) (.cons (.bool _) (.cons hf .nil))))⟩
  | .par x, v => by
    simp only [El.In, El.pd]
    rintro ⟨a, t1, t2, rfl, h2⟩
    exact ⟨_, .tuple (N _ h2) rfl rfl (.cons (.str _ _) (.cons (.str _ _) .nil))⟩
  | .dots n, v => by
    simp only [El.In, El.pd]
    rintro ⟨a, t1, t2, rfl, h2⟩
    exact ⟨_, .tuple (N _ h2) rfl rfl (.cons (.str _ _) (.cons (.int _ _) .nil))⟩
  | .br ws, v => by
    simp only [El.In, El.pd]
    rintro ⟨a, t1, l, rfl, h2, h3⟩
    obtain ⟨as, r⟩ := Ways.reads N ws l h3
    exact ⟨_, .tuple (N _ h2) rfl rfl (.cons (.str _ _) (.cons r .nil))⟩
  | .st ws, v => by
    simp only [El.In, El.pd]
    rintro ⟨a, t1, l, rfl, h2, h3⟩
    obtain ⟨as, r⟩ := Ways.reads N ws l h3
    exact ⟨_, .tuple (N _ h2) rfl rfl (.cons (.str _ _) (.cons r .nil))⟩
theorem Ways.reads {P : Led} {h : Heap} (N : ∀ p ∈ P, h.get? p.1 = some p.2) : ∀ (e : Ways) (l : Addr), e.In P l → ∃ as, Reads h (.ref l) e.pd as
  | .one p, l => by
    simp only [Ways.In, Ways.pd]
    rintro ⟨n, a, h1, h2⟩
    obtain ⟨as, r⟩ := Pth.reads N p a h2
    exact ⟨_, .list (N _ h1) rfl rfl (.cons r .nil)⟩
  | .two p q, l => by
    simp only [Ways.In, Ways.pd]
    rintro ⟨n, a, b, h1, h2, h3⟩
    obtain ⟨as, r⟩ := Pth.reads N p a h2
    obtain ⟨bs, r2⟩ := Pth.reads N q b h3
    exact ⟨_, .list (N _ h1) rfl rfl (.cons r (.cons r2 .nil))⟩
theorem Pth.reads {P : Led} {h : Heap} (N : ∀ p ∈ P, h.get? p.1 = some p.2) : ∀ (e : Pth) (l : Addr), e.In P l → ∃ as, Reads h (.ref l) e.pd as
  | .one x, l => by
    simp only [Pth.In, Pth.pd]
    rintro ⟨n, u, h1, h2⟩
    obtain ⟨as, r⟩ := El.reads N x u h2
    exact ⟨_, .list (N _ h1) rfl rfl (.cons r .nil)⟩
  | .two x y, l => by
    simp only [Pth.In, Pth.pd]
    rintro ⟨n, u, v, h1, h2, h3⟩
    obtain ⟨as, r⟩ := El.reads N x u h2
    obtain ⟨bs, r2⟩ := El.reads N y v h3
    exact ⟨_, .list (N _ h1) rfl rfl (.cons r (.cons r2 .nil))⟩
  | .thr x y z, l => by
    simp only [Pth.In, Pth.pd]
    rintro ⟨n, u, v, q, h1, h2, h3, h4⟩
    obtain ⟨as, r⟩ := El.reads N x u h2
    obtain ⟨bs, r2⟩ := El.reads N y v h3
    obtain ⟨cs, r3⟩ := El.reads N z q h4
    exact ⟨_, .list (N _ h1) rfl rfl (.cons r (.cons r2 (.cons r3 .nil)))⟩
end
theorem words_ok {x : Str} (h : x ∈ WORDS) : PyData.strOk x = true := (by decide +kernel : ∀ x ∈ WORDS, PyData.strOk x = true) x h
theorem fixed_ok {x : Str} (h : x ∈ FIXED) : PyData.strOk x = true := (by decide +kernel : ∀ x ∈ FIXED, PyData.strOk x = true) x h
theorem kinds_ok {x : Str} (h : x ∈ KINDS) : PyData.strOk x = true := (by decide +kernel : ∀ x ∈ KINDS, PyData.strOk x = true) x h
mutual
theorem El.lay : ∀ (e : El), e.okd → e.pd.canLay0 = true ∧ e.pd.depth ≤ 3 * e.dep + 1
  | .nav x c f, h => by
    have hx : x ∈ WORDS ∧ okFix c f := by rcases h with h | h; exact absurd h id; exact h
    have hf : (fixD f).canLay0 = true ∧ (fixD f).depth = 0 := by
      cases f with
      | none => exact ⟨rfl, rfl⟩
      | some y => exact ⟨fixed_ok hx.2.2, rfl⟩
    simp only [El.pd, PyData.canLay0, PyData.canLayAll0, PyData.depth, PyData.depthAll, words_ok hx.1, hf.1, hf.2, El.dep]
    exact ⟨by decide +kernel, by decide⟩
  | .par k, h => by
    have hx : k ∈ KINDS := by rcases h with h | h; exact absurd h id; exact h
    simp only [El.pd, PyData.canLay0, PyData.canLayAll0, PyData.depth, PyData.depthAll, kinds_ok hx, El.dep]
    exact ⟨by decide +kernel, by decide⟩
  | .dots n, h => by
    simp only [El.pd, PyData.canLay0, PyData.canLayAll0, PyData.depth, PyData.depthAll, El.dep]
    exact ⟨by decide +kernel, by decide⟩
  | .br ws, h => by
    have hx : ws.ok := by rcases h with h | h; exact absurd h id; exact h
    obtain ⟨h1, h2⟩ := Ways.lay ws hx
    simp only [El.pd, PyData.canLay0, PyData.canLayAll0, PyData.depth, PyData.depthAll, h1, El.dep]
    exact ⟨by decide +kernel, by omega⟩
  | .st ws, h => by
    have hx : ws.ok := by rcases h with h | h; exact absurd h id; exact h
    obtain ⟨h1, h2⟩ := Ways.lay ws hx
    simp only [El.pd, PyData.canLay0, PyData.canLayAll0, PyData.depth, PyData.depthAll, h1, El.dep]
    exact ⟨by decide +kernel, by omega⟩
theorem Ways.lay : ∀ (e : Ways), e.ok → e.pd.canLay0 = true ∧ e.pd.depth ≤ 3 * e.dep + 3
  | .one p, h => by
    obtain ⟨h1, h2⟩ := Pth.lay p h
    simp only [Ways.pd, PyData.canLay0, PyData.canLayAll0, PyData.depth, PyData.depthAll, h1, Ways.dep]
    exact ⟨by decide +kernel, by omega⟩
  | .two p q, h => by
    obtain ⟨h1, h2⟩ := Pth.lay p h.1
    obtain ⟨h3, h4⟩ := Pth.lay q h.2
    simp only [Ways.pd, PyData.canLay0, PyData.canLayAll0, PyData.depth, PyData.depthAll, h1, h3, Ways.dep]
    exact ⟨by decide +kernel, by omega⟩
theorem Pth.lay : ∀ (e : Pth), e.ok → e.pd.canLay0 = true ∧ e.pd.depth ≤ 3 * e.dep + 2
  | .one x, h => by
    obtain ⟨h1, h2⟩ := El.lay x h
    simp only [Pth.pd, PyData.canLay0, PyData.canLayAll0, PyData.depth, PyData.depthAll, h1, Pth.dep]
    exact ⟨by decide +kernel, by omega⟩
  | .two x y, h => by
    obtain ⟨h1, h2⟩ := El.lay x h.1
    obtain ⟨h3, h4⟩ := El.lay y (.inr h.2)
    simp only [Pth.pd, PyData.canLay0, PyData.canLayAll0, PyData.depth, PyData.depthAll, h1, h3, Pth.dep]
    exact ⟨by decide +kernel, by omega⟩
  | .thr x y z, h => by
    obtain ⟨h1, h2⟩ := El.lay x h.1
    obtain ⟨h3, h4⟩ := El.lay y (.inr h.2.1)
    obtain ⟨h5, h6⟩ := El.lay z (.inr h.2.2)
    simp only [Pth.pd, PyData.canLay0, PyData.canLayAll0, PyData.depth, PyData.depthAll, h1, h3, h5, Pth.dep]
    exact ⟨by decide +kernel, by omega⟩
end
theorem eqv_fix (f : Option Str) : PyData.eqv (fixD f) (fixD f) = true := by cases f <;> simp [fixD, PyData.eqv]
mutual
theorem El.eqv : ∀ (e : El), PyData.eqv e.pd e.pd = true
  | .nav x c f => by simp [El.pd, PyData.eqv, PyData.eqvAll, eqv_fix]
  | .par k => by simp [El.pd, PyData.eqv, PyData.eqvAll]
  | .dots n => by simp [El.pd, PyData.eqv, PyData.eqvAll]
  | .br ws => by simp [El.pd, PyData.eqv, PyData.eqvAll, Ways.eqv ws]
  | .st ws => by simp [El.pd, PyData.eqv, PyData.eqvAll, Ways.eqv ws]
theorem Ways.eqv : ∀ (e : Ways), PyData.eqv e.pd e.pd = true
  | .one p => by simp [Ways.pd, PyData.eqv, PyData.eqvAll, Pth.eqv p]
  | .two p q => by simp [Ways.pd, PyData.eqv, PyData.eqvAll, Pth.eqv p, Pth.eqv q]
theorem Pth.eqv : ∀ (e : Pth), PyData.eqv e.pd e.pd = true
  | .one x => by simp [Pth.pd, PyData.eqv, PyData.eqvAll, El.eqv x]
  | .two x y => by simp [Pth.pd, PyData.eqv, PyData.eqvAll, El.eqv x, El.eqv y]
  | .thr x y z => by simp [Pth.pd, PyData.eqv, PyData.eqvAll, El.eqv x, El.eqv y, El.eqv z]
end
abbrev upEl : El := .st (.one (.one (.dots 2)))
abbrev upD : PyData := .tuple [.str "s", .list [.list [.tuple [.str "d", .int 2]]]]
def El.isUp : El → Bool
  | .st (.one (.one (.dots k))) => k == 2
  | _ => false
theorem El.isUp_eq : ∀ {e : El}, e.isUp = true → e = upEl
  | .st (.one (.one (.dots k))), h => by simp only [El.isUp, beq_iff_eq] at h; subst h; rfl
  | .st (.one (.one (.nav _ _ _))), h => by cases h
  | .st (.one (.one (.par _))), h => by cases h
  | .st (.one (.one (.br _))), h => by cases h
  | .st (.one (.one (.st _))), h => by cases h
  | .st (.one (.two _ _)), h => by cases h
  | .st (.one (.thr _ _ _)), h => by cases h
  | .st (.two _ _), h => by cases h
  | .nav _ _ _, h => by cases h
  | .par _, h => by cases h
  | .dots _, h => by cases h
  | .br _, h => by cases h
theorem str_ne1 : ((("n" : Str) == ("s" : Str)) = false) := by decide
theorem El.eqv_up : ∀ (e : El), PyData.eqv e.pd upD = e.isUp
  | .st (.one (.one (.dots k))) => by
    simp only [El.pd, Ways.pd, Pth.pd, PyData.eqv, PyData.eqvAll, El.isUp, Bool.and_true, beq_self_eq_true, Bool.true_and]
    by_cases h : k = 2
    · subst h; rfl
    · have : ((k : Int) == 2) = false := by simp only [beq_eq_false_iff_ne]; omega
      rw [this]; exact (beq_eq_false_iff_ne.mpr h).symm
  | .st (.one (.one (.nav x c f))) => by
    have : (("n" : Str) == ("d" : Str)) = false := by decide
    simp [El.pd, Ways.pd, Pth.pd, PyData.eqv, PyData.eqvAll, El.isUp, this]
  | .st (.one (.one (.par _))) => by
    have : (("p" : Str) == ("d" : Str)) = false := by decide
    simp [El.pd, Ways.pd, Pth.pd, PyData.eqv, PyData.eqvAll, El.isUp, this]
  | .st (.one (.one (.br _))) => by
    have : (("b" : Str) == ("d" : Str)) = false := by decide
    simp [El.pd, Ways.pd, Pth.pd, PyData.eqv, PyData.eqvAll, El.isUp, this]
  | .st (.one (.one (.st _))) => by
    have : (("s" : Str) == ("d" : Str)) = false := by decide
    simp [El.pd, Ways.pd, Pth.pd, PyData.eqv, PyData.eqvAll, El.isUp, this]
  | .st (.one (.two _ _)) => by simp [El.pd, Ways.pd, Pth.pd, PyData.eqv, PyData.eqvAll, El.isUp]
  | .st (.one (.thr _ _ _)) => by simp [El.pd, Ways.pd, Pth.pd, PyData.eqv, PyData.eqvAll, El.isUp]
  | .st (.two _ _) => by simp [El.pd, Ways.pd, Pth.pd, PyData.eqv, PyData.eqvAll, El.isUp]
  | .nav _ _ _ => by
    have : (("n" : Str) == ("s" : Str)) = false := by decide
    simp [El.pd, Ways.pd, Pth.pd, PyData.eqv, PyData.eqvAll, El.isUp, this]
  | .par _ => by
    have : (("p" : Str) == ("s" : Str)) = false := by decide
    simp [El.pd, Ways.pd, Pth.pd, PyData.eqv, PyData.eqvAll, El.isUp, this]
  | .dots _ => by
    have : (("d" : Str) == ("s" : Str)) = false := by decide
    simp [El.pd, Ways.pd, Pth.pd, PyData.eqv, PyData.eqvAll, El.isUp, this]
  | .br _ => by
    have : (("b" : Str) == ("s" : Str)) = false := by decide
    simp [El.pd, Ways.pd, Pth.pd, PyData.eqv, PyData.eqvAll, El.isUp, this]
section
variable {prog : Program} {w : World} {A : Around} {E : Value → Shared → Prop} {s : Shared} {h₀ : Heap} {L : Addr} {Q : Value → Shared → Prop}
theorem shaped_of {d : PyData} (h1 : d.canLay0 = true) (h2 : d.depth ≤ 64) : SeqAt.shaped d = true := by
  unfold SeqAt.shaped; rw [h1, Bool.true_and]; exact decide_eq_true h2
theorem up_eq {led : Led} (N : News h₀ L s.heap led) {e : El} {v : Value} (he : e.In led v) (hok : e.okd) (hd : e.dep ≤ 16) {T lB lA D : Addr} {t1 t3 t4 : Tok} {n n2 : Nat} (m1 : (T, tupOf [.str "s" t1, .ref lB]) ∈ led) (m2 : (lB, W.listOf [Value.ref lA].toArray n) ∈ led)
    (m3 : (lA, W.listOf [Value.ref D].toArray n2) ∈ led) (m4 : (D, tupOf [.str "d" t3, .int 2 t4]) ∈ led) (hu : A.units + 64 < cLine) (h : Q (.bool e.isUp) s) : wpAny (model prog w) A (compareOp .Eq v (.ref T)) Q E s := by
  have G : ∀ p ∈ led, s.heap.get? p.1 = some p.2 := fun p hp => (N p hp).1
  obtain ⟨as, ra⟩ := El.reads G e v he
  obtain ⟨bs, rb⟩ := El.reads G upEl (.ref T) ⟨_, _, _, rfl, m1, ⟨_, _, m2, ⟨_, _, m3, ⟨_, _, _, rfl, m4⟩⟩⟩⟩
  have l1 := El.lay e hok
  refine eq_dataH (db := upD) ra rb (shaped_of l1.1 (by omega)) (by decide +kernel) hu ?_
  rw [El.eqv_up]
  exact h
theorem ways_ne {led : Led} (N : News h₀ L s.heap led) {e : Ways} {a b : Addr} (ha : e.In led a) (hb : e.In led b) (hok : e.ok) (hd : e.dep ≤ 16) (hu : A.units + 64 < cLine) (h : Q (.bool false) s) : wpAny (model prog w) A (compareOp .NotEq (.ref a) (.ref b)) Q E s := by
  have G : ∀ p ∈ led, s.heap.get? p.1 = some p.2 := fun p hp => (N p hp).1
  obtain ⟨as, ra⟩ := Ways.reads G e a ha
  obtain ⟨bs, rb⟩ := Ways.reads G e b hb
  have l1 := Ways.lay e hok
  refine ne_dataH ra rb (shaped_of l1.1 (by omega)) (shaped_of l1.1 (by omega)) hu ?_
  rw [Ways.eqv]
  exact h
end
end Mine
end
section
namespace Mine
def Off4 (I C D X : Addr) (l : Led) : Prop := ∀ p ∈ l, p.1 ≠ I ∧ p.1 ≠ C ∧ p.1 ≠ D ∧ p.1 ≠ X
/-- the turns still to come of a comprehension over a list of the ledger whose variable lies in a cell -/
def CellRest (prog : Program) (w : World) (A : Around) (h₀ : Heap) (L : Addr) (m : Str → Option Value) (env : Env) (elt : Expr) (x : Str) (scope : Scope) (cl : List (Str × Addr)) (s : Shared) (ax : Addr) (oA : Obj) (its : Array Value)
    (Fin : List Value → Led → Prop) : Nat → Nat → List Value → Led → Prop
  | 0, _, ys, news => Fin ys news
  | k + 1, i, ys, news => ∀ v I oI C oC D X oX h tk (E' : Value → Shared → Prop), its[i]? = some v → oX.data = .cell (some v) → Fr h₀ L h m → News h₀ L h ((I, oI) :: (C, oC) :: (D, LCg.lst ys) :: (X, oX) :: news) → Off4 I C D X news →
      I < D ∧ D < C ∧ C < X →
      wpAny (model prog w) A (eval elt (compEnvC scope ((x, X) :: cl) C env)) (fun y s₂ => ∃ h' tk' news', s₂ = { s with heap := h', toks := tk' } ∧ Fr h₀ L h' m ∧ News h₀ L h' ((I, oI) :: (C, oC) :: (D, LCg.lst ys) :: (X, oX) :: news') ∧ Off4 I C D X news' ∧ (ax, oA) ∈ news' ∧
        CellRest prog w A h₀ L m env elt x scope cl s ax oA its Fin k (i + 1) (ys ++ [y]) news') E' { s with heap := h, toks := tk }
def CellSrc (prog : Program) (w : World) (A : Around) (h₀ : Heap) (L : Addr) (m : Str → Option Value) (env : Env) (elt : Expr) (x : Str) (scope : Scope) (cl : List (Str × Addr)) (Q : Value → Shared → Prop) (xv : Value) (s₁ : Shared) : Prop :=
  ∃ ax its k news, xv = .ref ax ∧ A.handled = none ∧ Fr h₀ L s₁.heap m ∧ News h₀ L s₁.heap news ∧ (ax, W.listOf its k) ∈ news ∧ its.size ≤ sizeLine ∧
      ∀ g, CellRest prog w A h₀ L m env elt x scope cl { s₁ with heap := g } ax (W.listOf its k) its (LCg.FinE h₀ L m { s₁ with heap := g } Q) its.size 0 [] news

section
variable {prog : Program} {w : World} {A : Around} {E : Value → Shared → Prop} {s : Shared} {h₀ : Heap} {L : Addr} {m : Str → Option Value} {env : Env}
theorem newEnv_cell {scope : Scope} {x : Str} {cl : List (Str × Addr)} {Q : Env → Shared → Prop} (hcf : ∀ n, cellsFrom n scope.names cl = (x, n) :: cl) (hpc : ∀ h, pushCells h scope.names = h.push { cls := .type "cell", data := .cell none })
    (h : Q { scope, locals := s.heap.objs.size, globals := env.globals, cells := (x, s.heap.objs.size + 1) :: cl, qual := env.qual, func := none, code := env.code, frame := env.frame, builtins := env.builtins }
      { s with heap := (s.heap.push { cls := .type "dict", data := .dict #[] }).push { cls := .type "cell", data := .cell none } }) :
    wpAny (model prog w) A (newFunctionEnv scope env.globals cl [] env.qual none .none (some env)) Q E s := by
  simp only [newFunctionEnv, Option.isSome_some, if_true]
  refine wpAny_bind (wpAny_alloc ?_)
  refine wpAny_bind (wpAny_layCells _ (fun name kind cells => by cases hkc : kind == NameKind.cell <;> simp [hkc]) _ _ _ _ ?_)
  rw [hcf, hpc]
  refine wpAny_bind ?_
  rw [List.forIn_nil]
  refine wpAny_pure (wpAny_pure ?_)
  rw [show ({ s with heap := s.heap.push { cls := .type "dict", data := .dict #[] } } : Shared).heap.objs.size = s.heap.objs.size + 1 from Heap.size_push ..]
  exact h

theorem ListComp_cell {elt iter : Expr} {x : Str} {px : Pos} {scope : Scope} {cl : List (Str × Addr)} {pos : Pos} {Q : Value → Shared → Prop} (_F₀ : Fr h₀ L s.heap m)
    (hclos : closureFor scope env = pure cl) (hcf : ∀ n, cellsFrom n scope.names cl = (x, n) :: cl) (hpc : ∀ h, pushCells h scope.names = h.push { cls := .type "cell", data := .cell none }) (hkind : scope.kind = .function)
    (hnames : ∀ y ∈ scope.names, y.2 = .local → scope.names.lookup y.1 = some .local) (hx : (relabel scope env).names.lookup x = some .cell)
    (h : wpAny (model prog w) A (eval iter env) (CellSrc prog w A h₀ L m env elt x scope cl Q) E s)
    (hs : ∀ x, foldedSetIterable iter env x = pure x := by intro _; rfl) :
    wpAny (model prog w) A (eval (.ListComp elt [⟨.Name x px, iter, [], 0⟩] scope pos) env) Q E s := by
  rw [eval_ListComp]
  refine wpAny_comprehension_free (use := none) rfl hs hclos hkind hnames (wpAny_mono h (fun xv s₁ h₁ => ?_) fun _ _ e => e)
  obtain ⟨ax, its, kk, news, rfl, hh, F, N, hm, hsz, R⟩ := h₁
  have hl : s₁.heap.IsList ax its := ⟨_, (N _ hm).1, rfl, _, rfl⟩
  have hlt : ax < s₁.heap.objs.size := Heap.lt_size (N _ hm).1
  refine wpAny_pyIter_list hl ?_
  refine wpAny_newObj_type (newEnv_cell hcf hpc ?_)
  dsimp only
  obtain ⟨g₁, hg₁⟩ : ∃ g, g = s₁.heap.push { cls := .type "list_iterator", data := .fields #[.ref ax, .int 0 0] } := ⟨_, rfl⟩
  obtain ⟨g₂, hg₂⟩ : ∃ g, g = g₁.push { cls := .type "list", data := .seq ([] : List Value).toArray } := ⟨_, rfl⟩
  obtain ⟨g₃, hg₃⟩ : ∃ g, g = g₂.push { cls := .type "dict", data := .dict #[] } := ⟨_, rfl⟩
  obtain ⟨g₄, hg₄⟩ : ∃ g, g = g₃.push { cls := .type "cell", data := .cell none } := ⟨_, rfl⟩
  obtain ⟨I, hI⟩ : ∃ I, I = s₁.heap.objs.size := ⟨_, rfl⟩
  have z₁ : g₁.objs.size = I + 1 := by rw [hg₁, Heap.size_push, hI]
  have z₂ : g₂.objs.size = I + 1 + 1 := by rw [hg₂, Heap.size_push, z₁]
  have z₃ : g₃.objs.size = I + 1 + 1 + 1 := by rw [hg₃, Heap.size_push, z₂]
  simp only [← hI, ← hg₁]
  simp only [z₁, ← hg₂]
  simp only [z₂, ← hg₃, ← hg₄]
  have up1 : ∀ b o, s₁.heap.get? b = some o → g₁.get? b = some o := fun b o e => hg₁ ▸ Heap.get?_push_of_some _ e
  have up2 : ∀ b o, g₁.get? b = some o → g₂.get? b = some o := fun b o e => hg₂ ▸ Heap.get?_push_of_some _ e
  have up3 : ∀ b o, g₂.get? b = some o → g₃.get? b = some o := fun b o e => hg₃ ▸ Heap.get?_push_of_some _ e
  have up4 : ∀ b o, g₃.get? b = some o → g₄.get? b = some o := fun b o e => hg₄ ▸ Heap.get?_push_of_some _ e
  have up : ∀ b o, s₁.heap.get? b = some o → g₄.get? b = some o := fun b o e => up4 _ _ (up3 _ _ (up2 _ _ (up1 _ _ e)))
  have eI : g₁.get? I = some { cls := .type "list_iterator", data := .fields #[.ref ax, .int 0 0] } := by rw [hg₁, hI]; exact Heap.get?_push_size _ rfl
  have eD : g₂.get? (I + 1) = some (LCg.lst []) := by rw [hg₂, ← z₁]; exact Heap.get?_push_size _ rfl
  have eC : g₃.get? (I + 1 + 1) = some { cls := .type "dict", data := .dict #[] } := by rw [hg₃, ← z₂]; exact Heap.get?_push_size _ rfl
  have eX : g₄.get? (I + 1 + 1 + 1) = some { cls := .type "cell", data := .cell none } := by rw [hg₄, ← z₃]; exact Heap.get?_push_size _ rfl
  have fresh₀ : ∀ a, I ≤ a → h₀.get? a = none := fun a ha => by
    cases e : h₀.get? a with
    | none => rfl
    | some o' => exact absurd (Heap.lt_size (F.keep a o' e)) (Nat.not_lt.mpr (hI ▸ ha))
  have hLlt : L < I := hI ▸ F.ns.lt
  have hLI : L ≠ I := Nat.ne_of_lt hLlt
  have lD : I + 1 ≠ L := Nat.ne_of_gt (Nat.lt_succ_of_lt hLlt)
  have lC : I + 1 + 1 ≠ L := Nat.ne_of_gt (Nat.lt_succ_of_lt (Nat.lt_succ_of_lt hLlt))
  have lX : I + 1 + 1 + 1 ≠ L := Nat.ne_of_gt (Nat.lt_succ_of_lt (Nat.lt_succ_of_lt (Nat.lt_succ_of_lt hLlt)))
  have nDC : I + 1 ≠ I + 1 + 1 := Nat.ne_of_lt (Nat.lt_succ_self _)
  have nCX : I + 1 + 1 ≠ I + 1 + 1 + 1 := Nat.ne_of_lt (Nat.lt_succ_self _)
  have nDX : I + 1 ≠ I + 1 + 1 + 1 := Nat.ne_of_lt (Nat.lt_succ_of_lt (Nat.lt_succ_self _))
  have fD : h₀.get? (I + 1) = none := fresh₀ _ (Nat.le_succ _)
  have fC : h₀.get? (I + 1 + 1) = none := fresh₀ _ (Nat.le_succ_of_le (Nat.le_succ _))
  have fX : h₀.get? (I + 1 + 1 + 1) = none := fresh₀ _ (Nat.le_succ_of_le (Nat.le_succ_of_le (Nat.le_succ _)))
  have off₀ : Off4 I (I + 1 + 1) (I + 1) (I + 1 + 1 + 1) news := fun p hp => by
    have hp' : p.1 < I := hI ▸ Heap.lt_size (N p hp).1
    exact ⟨Nat.ne_of_lt hp', Nat.ne_of_lt (Nat.lt_succ_of_lt (Nat.lt_succ_of_lt hp')), Nat.ne_of_lt (Nat.lt_succ_of_lt hp'), Nat.ne_of_lt (Nat.lt_succ_of_lt (Nat.lt_succ_of_lt (Nat.lt_succ_of_lt hp')))⟩
  have hC : g₃.get? (I + 1 + 1) = some { cls := .type "dict", data := .dict #[] } := eC
  have hnsC : g₄.Ns (I + 1 + 1) (fun _ => none) := by
    have q : g₃.Ns g₂.objs.size (fun _ => none) := by rw [hg₃]; exact Heap.Ns.new g₂ (.type "dict")
    rw [z₂] at q
    exact q.keeps up4
  have hltI : ax < I := hI ▸ hlt
  have WK := Walks.list (prog := prog) (w := w) hh I ax (Nat.ne_of_lt (hI ▸ hlt)) its
  have hIC : I ≠ I + 1 + 1 := Nat.ne_of_lt (Nat.lt_succ_of_lt (Nat.lt_succ_self _))
  have hID : I ≠ I + 1 := Nat.ne_of_lt (Nat.lt_succ_self _)
  have hIX : I ≠ I + 1 + 1 + 1 := Nat.ne_of_lt (Nat.lt_succ_of_lt (Nat.lt_succ_of_lt (Nat.lt_succ_self _)))
  have haC : ax ≠ I + 1 + 1 := Nat.ne_of_lt (Nat.lt_succ_of_lt (Nat.lt_succ_of_lt hltI))
  have haD : ax ≠ I + 1 := Nat.ne_of_lt (Nat.lt_succ_of_lt hltI)
  have haX : ax ≠ I + 1 + 1 + 1 := Nat.ne_of_lt (Nat.lt_succ_of_lt (Nat.lt_succ_of_lt (Nat.lt_succ_of_lt hltI)))
  have loop : codeAny (model prog w) A (.compLoop (.ListComp elt [⟨.Name x px, iter, [], 0⟩] scope pos) 0 (.ref I) (.ref (I + 1)) (compEnvC scope ((x, I + 1 + 1 + 1) :: cl) (I + 1 + 1) env))
        (compPost (model prog w) A E none Q (.ref (I + 1)) (I + 1 + 1)) { s₁ with heap := g₄ } := by
    refine codeAny_compLoop_tests
      (fun k s' => ∃ h' tk i ys oX news', s' = { s₁ with heap := h', toks := tk } ∧ i ≤ its.size ∧ k = its.size + 1 - i ∧ ys.length = i ∧ (h'.IsListIter I ax i ∧ h'.IsList ax its) ∧ Fr h₀ L h' m ∧ h'.Ns (I + 1 + 1) (fun _ => none) ∧
        News h₀ L h' ((I + 1, LCg.lst ys) :: (I + 1 + 1 + 1, oX) :: news') ∧ (∃ cv, oX.data = .cell cv) ∧ Off4 I (I + 1 + 1) (I + 1) (I + 1 + 1 + 1) news' ∧ (ax, W.listOf its kk) ∈ news' ∧
        CellRest prog w A h₀ L m env elt x scope cl { s₁ with heap := g₁ } ax (W.listOf its kk) its (LCg.FinE h₀ L m { s₁ with heap := g₁ } Q) (its.size - i) i ys news') ?_ (its.size + 1)
      ⟨g₄, s₁.toks, 0, [], { cls := .type "cell", data := .cell none }, news, rfl, Nat.zero_le _, rfl, rfl, ⟨⟨_, up4 _ _ (up3 _ _ (up2 _ _ eI)), rfl, rfl⟩, ⟨_, up _ _ (N _ hm).1, rfl, _, rfl⟩⟩, F.keeps up, hnsC, fun p hp => ?_, ⟨none, rfl⟩, off₀, hm, R g₁⟩
    · rintro k s' ⟨h', tk, i, ys, oX, news', rfl, hi, rfl, hyl, hst', F', hn', N', ⟨cv, hcv⟩, off', hm', R'⟩
      by_cases hlt' : i < its.size
      · obtain ⟨j, hj⟩ : ∃ j, its.size - i = j + 1 := ⟨its.size - i - 1, by omega⟩
        rw [hj] at R'
        refine WK.item i _ _ _ hlt' hst' fun v h₂ tk₂ hPv hst₂ hk₂ => ?_
        have hkI : ∀ b o, b ≠ I → h'.get? b = some o → h₂.get? b = some o := fun b o hb e => hk₂ b o (by simpa using hb) e
        have eX₂ : h₂.get? (I + 1 + 1 + 1) = some oX := hkI _ _ (Ne.symm hIX) (N' _ (.tail _ (.head _))).1
        refine wpAny_assign_Name (wpAny_storeName_cell (c := I + 1 + 1 + 1) (v₀ := cv) (by exact hkind) (by exact hx) (by simp [compEnvC]) ⟨_, eX₂, hcv⟩ (fun h₃ hX₃ hs₃ => ?_))
        refine wpAny_tests_nil ?_
        simp only [if_true]
        obtain ⟨oX₃, eX₃, hoX₃⟩ := hX₃
        obtain ⟨oI, heI, hoI⟩ := hst₂.1
        have heI₃ := hs₃.extBut _ _ hIX heI
        obtain ⟨oC, heC, hoC⟩ := LCg.ns_obj hn'
        have heC₃ : h₃.get? (I + 1 + 1) = some oC := hs₃.extBut _ _ nCX (hkI _ _ (Ne.symm hIC) heC)
        have F₂ : Fr h₀ L h₂ m := LCg.fr_but F' hk₂ hLI (fresh₀ _ (Nat.le_refl _))
        have F₃ : Fr h₀ L h₃ m := F₂.change hs₃ lX fX
        have N₃ : News h₀ L h₃ ((I, oI) :: (I + 1 + 1, oC) :: (I + 1, LCg.lst ys) :: (I + 1 + 1 + 1, oX₃) :: news') := fun p hp => by
          rcases List.mem_cons.mp hp with rfl | hp
          · exact ⟨heI₃, Ne.symm hLI, fresh₀ _ (Nat.le_refl _)⟩
          · rcases List.mem_cons.mp hp with rfl | hp
            · exact ⟨heC₃, lC, fC⟩
            · rcases List.mem_cons.mp hp with rfl | hp
              · have z := N' _ (.head _)
                exact ⟨hs₃.extBut _ _ (nDX) (hkI _ _ (Ne.symm hID) z.1), z.2⟩
              · rcases List.mem_cons.mp hp with rfl | hp
                · exact ⟨eX₃, (N' _ (.tail _ (.head _))).2⟩
                · have z := N' p (.tail _ (.tail _ hp))
                  have o := off' p hp
                  exact ⟨hs₃.extBut _ _ o.2.2.2 (hkI _ _ o.1 z.1), z.2⟩
        refine wpAny_mono (R' v I oI (I + 1 + 1) oC (I + 1) (I + 1 + 1 + 1) oX₃ h₃ tk₂ _ hPv hoX₃ F₃ N₃ off' ⟨Nat.lt_succ_self _, Nat.lt_succ_self _, Nat.lt_succ_self _⟩) (fun y s₄ h₄ => ?_) fun _ _ e => e
        obtain ⟨h₄, tk₄, news₄, rfl, F₄, N₄, off₄, hm₄, R₄⟩ := h₄
        have zI := (N₄ (I, oI) (.head _)).1
        have zC := (N₄ (I + 1 + 1, oC) (.tail _ (.head _))).1
        have zD := (N₄ (I + 1, LCg.lst ys) (.tail _ (.tail _ (.head _)))).1
        have zX := N₄ (I + 1 + 1 + 1, oX₃) (.tail _ (.tail _ (.tail _ (.head _))))
        refine append_at (hsz := by show ys.toArray.size ≤ sizeLine; rw [List.size_toArray, hyl]; exact Nat.le_trans hi hsz) zD fun h₅ hs₅ hD₅ => ?_
        have N₄' : News h₀ L h₄ news₄ := fun p hp => N₄ p (.tail _ (.tail _ (.tail _ (.tail _ hp))))
        refine ⟨its.size + 1 - (i + 1), by omega, h₅, tk₄, i + 1, ys ++ [y], oX₃, news₄, rfl, hlt', rfl, by rw [List.length_append, List.length_singleton, hyl],
          ⟨⟨oI, hs₅.extBut _ _ hID zI, hoI⟩, ⟨_, hs₅.extBut _ _ haD (N₄' _ hm₄).1, rfl, _, rfl⟩⟩, F₄.change hs₅ (lD) fD,
          hoC.ns (hs₅.extBut _ _ (Ne.symm nDC) zC), fun p hp => ?_, ⟨_, hoX₃⟩, off₄, hm₄, ?_⟩
        · rcases List.mem_cons.mp hp with rfl | hp
          · exact ⟨hD₅.trans (congrArg some (LCg.lst_snoc ys y)), lD, fD⟩
          · rcases List.mem_cons.mp hp with rfl | hp
            · exact ⟨hs₅.extBut _ _ (Ne.symm nDX) zX.1, zX.2⟩
            · exact ⟨hs₅.extBut _ _ (off₄ p hp).2.2.1 (N₄' p hp).1, (N₄' p hp).2⟩
        · rw [show its.size - (i + 1) = j by omega]
          exact R₄
      · obtain rfl : i = its.size := Nat.le_antisymm hi (Nat.not_lt.mp hlt')
        rw [Nat.sub_self] at R'
        refine WK.done _ _ _ hst' fun h₂ tk₂ hk₂ => ?_
        have hkI : ∀ b o, b ≠ I → h'.get? b = some o → h₂.get? b = some o := fun b o hb e => hk₂ b o (by simpa using hb) e
        refine ⟨fun _ => none, hn'.at' fun o e => hkI _ _ (Ne.symm hIC) e, fun h'' hs'' => ?_⟩
        have F₂ : Fr h₀ L h₂ m := LCg.fr_but F' hk₂ hLI (fresh₀ _ (Nat.le_refl _))
        refine R' (I + 1) h'' tk₂ (F₂.change hs'' (lC) fC) (fun p hp => ?_) ?_
        · rcases List.mem_cons.mp hp with rfl | hp
          · have z := N' _ (.head _)
            exact ⟨hs''.extBut _ _ (nDC) (hkI _ _ (Ne.symm hID) z.1), z.2⟩
          · have z := N' p (.tail _ (.tail _ hp))
            have o := off' p hp
            exact ⟨hs''.extBut _ _ o.2.1 (hkI _ _ o.1 z.1), z.2⟩
        · exact off1_of fun p hp => (off' p hp).2.2.1
    · rcases List.mem_cons.mp hp with rfl | hp
      · exact ⟨up4 _ _ (up3 _ _ eD), lD, fD⟩
      · rcases List.mem_cons.mp hp with rfl | hp
        · exact ⟨eX, lX, fX⟩
        · exact ⟨up _ _ (N p hp).1, (N p hp).2⟩
  have hst₁ : g₄.IsListIter I ax 0 ∧ g₄.IsList ax its := ⟨⟨_, up4 _ _ (up3 _ _ (up2 _ _ eI)), rfl, rfl⟩, ⟨_, up _ _ (N _ hm).1, rfl, _, rfl⟩⟩
  exact codeAny_compStart_list loop (WK.self 0 _ _ _ hst₁ loop)
end
end Mine
end
section
namespace Mine
open PyProof.Rows.LCg in
/-- a turn of a comprehension whose element is a call that turns nothing -/
theorem new_turn {w : World} {dN uN : Nat} {f : Value} {vs : List Value} {Pre : Led → Prop} {Post : Led → Value → Prop}
    (C : Calls w dN uN f vs [] Pre (fun _ _ tl r => Post tl r))
    {p : Program} {loose : List Str} {mean : ExcName → Option Value} {mg mb : Str → Option Value} {dp un : Nat} {gd : Option (List Code)} {cn : Str} {cs : Scope} {a : Addr} {ccd : Value} {cl : List (Str × Addr)} {outer : List Env}
    {A₀ : Around} {base h₀ : Heap} {L : Addr} {m : Str → Option Value} {rest : Led} {s : Shared} {E : Value → Shared → Prop} {I C' D : Addr} {oI oC oD : Obj} {S : Led → Prop} {Rest : Value → Led → Prop}
    (B : Below A₀ base outer h₀) (F : Fr h₀ L s.heap m) (X : (hd.heap_39 w.params).In h₀) (TG : TabsG h₀) {all : Led} (N : News h₀ L s.heap all) (hsub : ∀ p ∈ (I, oI) :: (C', oC) :: (D, oD) :: rest, p ∈ all) (T : Top p loose mean mg mb h₀) (hk : cs.kind = .function)
    (hd : dp + dN < recursionLimit) (hu : un + uN < cLine) (pre : Pre ((I, oI) :: (C', oC) :: (D, oD) :: rest)) (off : Off3 I C' D rest) (hS : ∀ l, S l)
    (cont : ∀ r tl, (∀ p ∈ tl, Ap p.1 ((I, oI) :: (C', oC) :: (D, oD) :: rest)) → Off3 I C' D (tl ++ rest) → Post tl r → Rest r (tl ++ rest)) :
    wpAny (model PySem.Challenge.rw_wx0015_01.row.prog w) (ktrTop dp un gd cn cs L a ccd cl outer) (call f vs) (CompEnd h₀ L m s I oI C' oC D oD S Rest) E s := by
  have offm := Off3.mem off
  refine C.use ((I, oI) :: (C', oC) :: (D, oD) :: rest) B F X TG N T hk hd hu (fun p hp => hsub p hp) (List.forall_mem_nil _) pre ?_
  rintro r mu' tl h' tk' F' N' ht hmu hp
  obtain rfl : mu' = [] := by cases mu' with | nil => rfl | cons _ _ => cases hmu
  simp only [List.nil_append] at N' ht
  have off' : Off3 I C' D (tl ++ rest) := Off3.of fun q hq => by
    rcases List.mem_append.mp hq with h | h
    · exact ⟨Ne.symm (ht q h _ (.head _)), Ne.symm (ht q h _ (.tail _ (.head _))), Ne.symm (ht q h _ (.tail _ (.tail _ (.head _))))⟩
    · exact offm q h
  refine CompEnd.intro F' N' (tl ++ rest) ?_ off' (hS _) (cont r tl ht off' hp)
  intro p hp
  simp only [List.mem_append, List.mem_cons] at hp ⊢
  rcases hp with h | h | h | h | h <;> simp only [h, true_or, or_true]
open PyProof.Rows.LCg in
theorem compEnd_cut {h₀ h' : Heap} {L I C D : Addr} {m : Str → Option Value} {s₁ : Shared} {oI oC oD : Obj} {S : Led → Prop} {Rest : Value → Led → Prop} {y : Value} {tk : Nat} {all rest : Led}
    (F : Fr h₀ L h' m) (N : News h₀ L h' all) (hsub : ∀ p ∈ (I, oI) :: (C, oC) :: (D, oD) :: rest, p ∈ all) (off : Off3 I C D rest) (hS : S rest) (r : Rest y rest) : CompEnd h₀ L m s₁ I oI C oC D oD S Rest y { s₁ with heap := h', toks := tk } :=
  CompEnd.intro F N rest hsub off hS r
theorem sub_int {prog : Program} {w : World} {A : Around} {E : Value → Shared → Prop} {s : Shared} {Q : Value → Shared → Prop} {value slice : PySem.Expr} {v : Value} {i j : Int} {t : Tok} (h : i = j)
    (hw : wpAny (model prog w) A (subscriptTail value slice v (.int j t)) Q E s) : wpAny (model prog w) A (subscriptTail value slice v (.int i t)) Q E s := h ▸ hw
section
variable {prog : Program} {w : World} {A : Around} {E : Value → Shared → Prop} {s : Shared} {Q : Value → Shared → Prop} {value slice : PySem.Expr} {l : Addr} {u : Tok} {v v1 v2 : Value} {r : List Value}
theorem item_led0 (hl : s.heap.IsList l (v :: r).toArray) (h : Q v s) (hs : subscripted slice false (.ref l) (.int 0 u) = operate [.ref l, .int 0 u] (getItem (.ref l) (.int 0 u))) :
    wpAny (model prog w) A (subscriptTail value slice (.ref l) (.int 0 u)) Q E s := tail_any hl.typeIs slot_list_getitem.lookup (wpAny_getItem_list hl (by decide) (by decide) rfl h) hs
theorem item_led1 (hl : s.heap.IsList l (v1 :: v :: r).toArray) (h : Q v s) (hs : subscripted slice false (.ref l) (.int 1 u) = operate [.ref l, .int 1 u] (getItem (.ref l) (.int 1 u))) :
    wpAny (model prog w) A (subscriptTail value slice (.ref l) (.int 1 u)) Q E s := tail_any hl.typeIs slot_list_getitem.lookup (wpAny_getItem_list hl (by decide) (by decide) rfl h) hs
theorem item_led2 (hl : s.heap.IsList l (v1 :: v2 :: v :: r).toArray) (h : Q v s) (hs : subscripted slice false (.ref l) (.int 2 u) = operate [.ref l, .int 2 u] (getItem (.ref l) (.int 2 u))) :
    wpAny (model prog w) A (subscriptTail value slice (.ref l) (.int 2 u)) Q E s := tail_any hl.typeIs slot_list_getitem.lookup (wpAny_getItem_list hl (by decide) (by decide) rfl h) hs
end
theorem El.In.ref {P : Led} {e : El} {v : Value} (h : e.In P v) : ∃ a, v = .ref a := by
  cases e <;> simp only [El.In] at h
  · obtain ⟨a, _, _, _, h, _⟩ := h; exact ⟨a, h⟩
  · obtain ⟨a, _, _, h, _⟩ := h; exact ⟨a, h⟩
  · obtain ⟨a, _, _, h, _⟩ := h; exact ⟨a, h⟩
  · obtain ⟨a, _, _, h, _⟩ := h; exact ⟨a, h⟩
  · obtain ⟨a, _, _, h, _⟩ := h; exact ⟨a, h⟩
end Mine
end
section
namespace Mine
theorem instAt_of {h : Heap} {x C d : Addr} {o : Obj} (h1 : h.get? x = some (instObj C d)) (h2 : h.get? d = some o) : InstAt h x (instObj C d) C (some o) := ⟨h1, rfl, rfl, h2⟩
section
variable {prog : Program} {w : World} {A : Around} {E : Value → Shared → Prop} {s : Shared} {K : Frag} {x C L : Addr} {h₀ : Heap} {m : Str → Option Value} {ox : Obj} {od : Option Obj} {y : Str} {u : Tok}
theorem call_objEq_str {Q : Value → Shared → Prop} (X : K.In s.heap) (I : InstAt s.heap x ox C od) (hob : subIn K (.ref C) (.type "object") = some true) (h : Q .notImplemented s) :
    wpAny (model prog w) A (call (.builtin "object.__eq__") [.ref x, .str y u]) Q E s := by
  refine wpAny_call (codeAny_call_builtin F.cmp_object.eq.plain F.cmpEntry_eq ?_)
  simp only [checkBuiltinCall, F.cmpKind_eq, F.cmpSplit_eq]
  refine wpAny_bind ?_
  unfold isInstance
  refine wpAny_bind (I.type.here ((looks_subIn X hob).here ?_))
  simp only [Bool.not_true, Bool.false_eq_true, if_false]
  have ha := F.cmpArgs_eq (.ref x) (.str y u)
  cases hsig : Manifest.signature? "object.__eq__" with
  | none =>
    refine wpAny_pure ?_
    unfold Builtin.«object.__eq__»
    repeat wp_step
    exact h
  | some sig =>
    simp only [argsOk, hsig] at ha
    have h2 : Bind.checkArgs "object.__eq__" sig ⟨[.ref x, .str y u], []⟩ = pure () := ha
    show wpAny _ _ (Bind.checkArgs "object.__eq__" sig ⟨[.ref x, .str y u], []⟩) _ _ _
    rw [h2]
    refine wpAny_pure ?_
    unfold Builtin.«object.__eq__»
    repeat wp_step
    exact h
theorem call_strEq_inst {Q : Value → Shared → Prop} (I : InstAt s.heap x ox C od) (hp : ox.data = .plain) (h : Q .notImplemented s) :
    wpAny (model prog w) A (call (.builtin "str.__eq__") [.str y u, .ref x]) Q E s := by
  refine wpAny_call_entry F.slot_str_eq_refl (typeIs_str s y u) F.entry_str_eq ?_ (F.args_str_eq_2 _ _)
  obtain ⟨hh, g, d, t, os⟩ := s
  have hx := I.at_
  dsimp only at hx
  unfold Builtin.«str.__eq__» Builtin.Str.strCompare
  repeat (first | (with_reducible refine wpAny_load ?_ hx) | wp_step)
  rw [hp]
  repeat wp_step
  exact ⟨_, rfl, h⟩
theorem try_inst_str {Q : Option Value → Shared → Prop} (X : K.In s.heap) (I : InstAt s.heap x ox C od) (hfe : findIn K (.ref C) "__eq__" = some (some (.builtin "object.__eq__"))) (hob : subIn K (.ref C) (.type "object") = some true) (h : Q none s) :
    wpAny (model prog w) A (tryCompare (.ref x) "__eq__" (.str y u)) Q E s := by
  simp only [tryCompare, callSpecialIfBound?, bindSpecialIfBound?]
  refine wpAny_bind (wpAny_holding (wpAny_bind (wpAny_bind (wpAny_bind (I.type.here ((looks_findIn X hfe).here ?_))))))
  simp only [F.cmp_object.eq.bind]
  refine wpAny_bind (wpAny_askSetting (wpAny_ite ?_))
  have fin : ∀ (Q2 : Option Value → Shared → Prop), Q2 (some .notImplemented) s → wpAny (model prog w) A (call (.builtin "object.__eq__") ([.ref x] ++ [.str y u]) >>= fun v => pure (some v)) Q2 E s :=
    fun Q2 q => wpAny_bind (call_objEq_str X I hob (wpAny_pure q))
  split
  · exact wpAny_bind (wpAny_pure (wpAny_pure (fin _ (wpAny_pure h))))
  · exact wpAny_tryCatch (wpAny_bind (wpAny_pure (wpAny_pure (fin _ (wpAny_pure h)))))
theorem eq_inst_str {Q : Value → Shared → Prop} (hu : A.units < cLine) (F₀ : Fr h₀ L s.heap m) (X₀ : K.In h₀) (I : InstAt s.heap x ox C od) (hp : ox.data = .plain) (hsub : subIn K (.type "str") (.ref C) = some false)
    (hfe : findIn K (.ref C) "__eq__" = some (some (.builtin "object.__eq__"))) (hob : subIn K (.ref C) (.type "object") = some true) (h : Q (.bool false) s) :
    wpAny (model prog w) A (compareOp .Eq (.ref x) (.str y u)) Q E s := by
  have X := X₀.keeps F₀.keep
  have fin2 : wpAny (model prog w) A (tryCompare (.str y u) "__eq__" (.ref x)) (fun r s' => r = none ∧ s' = s) E s :=
    wpAny_tryCompare_declines (typeIs_str s y u) F.slot_str_eq_refl (call_strEq_inst I hp ⟨rfl, rfl, rfl⟩)
  show wpAny _ A (richCompare .Eq _ _) Q E s
  simp only [richCompare, cmpInfo_Eq]
  rw [show oneThing? CmpOp.Eq (Value.ref x) (Value.str y u) = none from rfl]
  refine wpAny_holding (wpAny_bind (wpAny_cRoomFor hu ?_))
  refine wpAny_bind (I.type.here (wpAny_bind (wpAny_typeOf (typeIs_str s y u) ?_)))
  rw [if_pos (by rfl)]
  refine wpAny_bind ((looks_subIn X hsub).here ?_)
  simp only [Bool.false_eq_true, if_false, Bool.not_false, if_true]
  refine wpAny_bind (try_inst_str X I hfe hob ?_)
  refine wpAny_bind (wpAny_mono fin2 (fun r s' hr => ?_) fun _ _ e => e)
  obtain ⟨rfl, rfl⟩ := hr
  refine wpAny_bind (wpAny_rule (wpAny_bind (wpAny_of_eq (show isSame (Value.ref x) (Value.str y u) = pure false from rfl) (wpAny_pure h))))
end
end Mine
end
section
namespace Mine
/-- what an element's class answers of itself, read off the ground -/
structure ElCls (w : World) (C : Addr) : Prop where
  sub : subIn (hd.heap_39 w.params) (.type "str") (.ref C) = some false
  eq : findIn (hd.heap_39 w.params) (.ref C) "__eq__" = some (some (.builtin "object.__eq__"))
  ob : subIn (hd.heap_39 w.params) (.ref C) (.type "object") = some true
def IsElem (w : World) (P : Led) (v : Value) : Prop := ∃ b C d es n, v = .ref b ∧ (b, instObj C d) ∈ P ∧ (d, dictOf es n) ∈ P ∧ ElCls w C
theorem elCls_nav' : ∀ (w : World), PySem.Challenge.rw_wx0015_01.row.prog = PySem.Challenge.rw_wx0015_01.row.prog → subIn (hd.heap_39 w.params) (.type "str") (.ref 153) = some false ∧ findIn (hd.heap_39 w.params) (.ref 153) "__eq__" = some (some (.builtin "object.__eq__")) ∧ subIn (hd.heap_39 w.params) (.ref 153) (.type "object") = some true := by
  w_top off
  k_fill
  intro w _
  exact ⟨by k_is, by k_is, by k_is⟩
theorem elCls_nav (w : World) : ElCls w 153 := let x := elCls_nav' w rfl; ⟨x.1, x.2.1, x.2.2⟩
theorem elCls_par' : ∀ (w : World), PySem.Challenge.rw_wx0015_01.row.prog = PySem.Challenge.rw_wx0015_01.row.prog → subIn (hd.heap_39 w.params) (.type "str") (.ref 104) = some false ∧ findIn (hd.heap_39 w.params) (.ref 104) "__eq__" = some (some (.builtin "object.__eq__")) ∧ subIn (hd.heap_39 w.params) (.ref 104) (.type "object") = some true := by
  k_fill
  intro w _
  exact ⟨by k_is, by k_is, by k_is⟩
theorem elCls_par (w : World) : ElCls w 104 := let x := elCls_par' w rfl; ⟨x.1, x.2.1, x.2.2⟩
theorem elCls_dots' : ∀ (w : World), PySem.Challenge.rw_wx0015_01.row.prog = PySem.Challenge.rw_wx0015_01.row.prog → subIn (hd.heap_39 w.params) (.type "str") (.ref 252) = some false ∧ findIn (hd.heap_39 w.params) (.ref 252) "__eq__" = some (some (.builtin "object.__eq__")) ∧ subIn (hd.heap_39 w.params) (.ref 252) (.type "object") = some true := by
  k_fill
  intro w _
  exact ⟨by k_is, by k_is, by k_is⟩
theorem elCls_dots (w : World) : ElCls w 252 := let x := elCls_dots' w rfl; ⟨x.1, x.2.1, x.2.2⟩
theorem elCls_br' : ∀ (w : World), PySem.Challenge.rw_wx0015_01.row.prog = PySem.Challenge.rw_wx0015_01.row.prog → subIn (hd.heap_39 w.params) (.type "str") (.ref 203) = some false ∧ findIn (hd.heap_39 w.params) (.ref 203) "__eq__" = some (some (.builtin "object.__eq__")) ∧ subIn (hd.heap_39 w.params) (.ref 203) (.type "object") = some true := by
  k_fill
  intro w _
  exact ⟨by k_is, by k_is, by k_is⟩
theorem elCls_br (w : World) : ElCls w 203 := let x := elCls_br' w rfl; ⟨x.1, x.2.1, x.2.2⟩
theorem elCls_st' : ∀ (w : World), PySem.Challenge.rw_wx0015_01.row.prog = PySem.Challenge.rw_wx0015_01.row.prog → subIn (hd.heap_39 w.params) (.type "str") (.ref 352) = some false ∧ findIn (hd.heap_39 w.params) (.ref 352) "__eq__" = some (some (.builtin "object.__eq__")) ∧ subIn (hd.heap_39 w.params) (.ref 352) (.type "object") = some true := by
  k_fill
  intro w _
  exact ⟨by k_is, by k_is, by k_is⟩
theorem elCls_st (w : World) : ElCls w 352 := let x := elCls_st' w rfl; ⟨x.1, x.2.1, x.2.2⟩
theorem El.Made.isElem {w : World} {P : Led} : ∀ {e : El} {v : Value}, e.Made w P v → IsElem w P v
  | .nav _ _ _, _, h => by
    simp only [El.Made] at h
    obtain ⟨a, d, _, _, _, _, _, n, _, _, h1, h2, h3, _⟩ := h
    exact ⟨a, 153, d, _, n, h1, h2, h3, elCls_nav w⟩
  | .par _, _, h => by
    simp only [El.Made] at h
    obtain ⟨a, d, _, _, n, h1, h2, h3⟩ := h
    exact ⟨a, 104, d, _, n, h1, h2, h3, elCls_par w⟩
  | .dots _, _, h => by
    simp only [El.Made] at h
    obtain ⟨a, d, _, _, n, h1, h2, h3⟩ := h
    exact ⟨a, 252, d, _, n, h1, h2, h3, elCls_dots w⟩
  | .br _, _, h => by
    simp only [El.Made] at h
    obtain ⟨a, d, _, n, _, h1, h2, h3, _⟩ := h
    exact ⟨a, 203, d, _, n, h1, h2, h3, elCls_br w⟩
  | .st _, _, h => by
    simp only [El.Made] at h
    obtain ⟨a, d, _, n, _, _, _, _, _, h1, h2, h3, _⟩ := h
    exact ⟨a, 352, d, _, n, h1, h2, h3, elCls_st w⟩
def PathObj (w : World) (P : Led) (l : Addr) (r : Value) : Prop := ∃ a d t n, r = .ref a ∧ (a, instObj 402 d) ∈ P ∧ (d, dictOf [ent w "path_elements" t (.ref l)] n) ∈ P
def SeqObj (w : World) (P : Led) (l : Addr) (r : Value) : Prop := ∃ a d t n, r = .ref a ∧ (a, instObj 302 d) ∈ P ∧ (d, dictOf [ent w "paths" t (.ref l)] n) ∈ P
def BrObj (w : World) (P : Led) (q : Addr) (r : Value) : Prop := ∃ a d t n, r = .ref a ∧ (a, instObj 203 d) ∈ P ∧ (d, dictOf [ent w "seq" t (.ref q)] n) ∈ P
def StObj (w : World) (P : Led) (q : Addr) (r : Value) : Prop := ∃ a d t n, r = .ref a ∧ (a, instObj 352 d) ∈ P ∧ (d, dictOf [ent w "path_element" t (.ref q)] n) ∈ P
end Mine
namespace Mine
theorem Calls.use0 {w : World} {dN uN : Nat} {f : Value} {vs : List Value} {Pre : Led → Prop} {Post : Led → Value → Prop} (C : Calls w dN uN f vs [] Pre (fun _ _ tl r => Post tl r))
    {p : Program} {loose : List Str} {mean : ExcName → Option Value} {mg mb : Str → Option Value} {dp un : Nat} {gd : Option (List Code)} {cn : Str} {cs : Scope} {a : Addr} {ccd : Value} {cl : List (Str × Addr)} {outer : List Env}
    {A₀ : Around} {base h₀ : Heap} {L : Addr} {m : Str → Option Value} {all : Led} {s : Shared} {Q E : Value → Shared → Prop}
    (B : Below A₀ base outer h₀) (F : Fr h₀ L s.heap m) (X : (hd.heap_39 w.params).In h₀) (TG : TabsG h₀) (N : News h₀ L s.heap all) (T : Top p loose mean mg mb h₀) (hk : cs.kind = .function)
    (hd : dp + dN < recursionLimit) (hu : un + uN < cLine) (pre : Pre all)
    (ret : ∀ r tl h' tk', Fr h₀ L h' m → News h₀ L h' (tl ++ all) → (∀ p ∈ tl, Ap p.1 all) → Post tl r → Q r { s with heap := h', toks := tk' }) :
    wpAny (model PySem.Challenge.rw_wx0015_01.row.prog w) (ktrTop dp un gd cn cs L a ccd cl outer) (call f vs) Q E s := by
  refine C.use all B F X TG N T hk hd hu (fun _ h => h) (List.forall_mem_nil _) pre ?_
  rintro r mu' tl h' tk' F' N' ht hmu hp
  obtain rfl : mu' = [] := by cases mu' with | nil => rfl | cons _ _ => cases hmu
  exact ret r tl h' tk' F' N' ht hp
end Mine
end
section
namespace Mine
inductive Del (l : Addr) (o : Obj) : Led → Led → Prop
  | head {r} : Del l o ((l, o) :: r) r
  | cons {p r r'} : Del l o r r' → Del l o (p :: r) (p :: r')
  | app {x y y'} : Del l o y y' → Del l o (x ++ y) (x ++ y')
theorem Del.mem {l : Addr} {o : Obj} {a b : Led} (h : Del l o a b) : (l, o) ∈ a := by
  induction h with
  | head => exact .head _
  | cons _ ih => exact .tail _ ih
  | app _ ih => exact List.mem_append.mpr (.inr ih)
theorem Del.sub {l : Addr} {o : Obj} {a b : Led} (h : Del l o a b) : ∀ p ∈ b, p ∈ a := by
  induction h with
  | head => exact fun _ h => .tail _ h
  | cons _ ih =>
      intro p hp
      rcases List.mem_cons.mp hp with rfl | hp
      · exact .head _
      · exact .tail _ (ih p hp)
  | app _ ih =>
      intro p hp
      rcases List.mem_append.mp hp with hp | hp
      · exact List.mem_append.mpr (.inl hp)
      · exact List.mem_append.mpr (.inr (ih p hp))
inductive Front (news : Led) : Led → Led → Prop
  | nil : Front news news []
  | cons {p r t} : Front news r t → Front news (p :: r) (p :: t)
  | app {x y t} : Front news y t → Front news (x ++ y) (x ++ t)
theorem Front.eq {news a t : Led} (h : Front news a t) : a = t ++ news := by
  induction h with
  | nil => rfl
  | cons _ ih => rw [ih]; rfl
  | app _ ih => rw [ih, List.append_assoc]
theorem Front.fin {h₀ h : Heap} {L : Addr} {news a t : Led} {q : Addr × Obj} (f : Front news a t) (N : News h₀ L h (q :: a)) : News h₀ L h (t ++ ([q] ++ news)) := by
  rw [f.eq] at N
  exact fun p hp => N p (by
    simp only [List.mem_append, List.mem_cons, List.not_mem_nil, or_false] at hp ⊢
    rcases hp with h | h | h <;> simp only [h, true_or, or_true])
theorem Front.fin0 {h₀ h : Heap} {L : Addr} {news a t : Led} (f : Front news a t) (N : News h₀ L h a) : News h₀ L h (t ++ ([] ++ news)) := by
  rw [f.eq] at N; exact N
section
variable {prog : Program} {w : World} {A : Around} {E : Value → Shared → Prop} {s : Shared} {h₀ : Heap} {L : Addr} {m : Str → Option Value}
theorem set_led {Q : Unit → Shared → Prop} {all rest : Led} {l : Addr} {v0 v : Value} {r : List Value} {n : Nat} {t : Tok} (F : Fr h₀ L s.heap m) (N : News h₀ L s.heap all) (D : Del l (W.listOf (v0 :: r).toArray n) all rest) (off : ∀ q ∈ rest, q.1 ≠ l)
    (h : ∀ h', Fr h₀ L h' m → News h₀ L h' ((l, W.listOf (v :: r).toArray n) :: rest) → Q () { s with heap := h' }) : wpAny (model prog w) A (setItem (.ref l) (.int 0 t) v) Q E s := by
  have N2 : News h₀ L s.heap ((l, W.listOf (v0 :: r).toArray n) :: rest) := fun p hp => by
    rcases List.mem_cons.mp hp with rfl | hp
    · exact N _ D.mem
    · exact N p (D.sub p hp)
  exact ki_set (its := (v0 :: r).toArray) (q := v :: r) F N2 (by decide) (by decide) rfl (.head off) h
end
theorem offl_of {tl Y : Led} {l : Addr} {o : Obj} (ht : ∀ p ∈ tl, Ap p.1 Y) (hm : (l, o) ∈ Y) : ∀ q ∈ tl, q.1 ≠ l := fun q hq => Ne.symm (ht q hq _ hm)
theorem aps2 {tl Y news : Led} {l : Addr} {o o' : Obj} (ht : ∀ p ∈ tl, Ap p.1 Y) (hm : (l, o) ∈ Y) (hs : ∀ q ∈ news, q ∈ Y) : ∀ p ∈ tl, Ap p.1 ((l, o') :: news) := fun p hp => List.forall_mem_cons.mpr ⟨ht p hp (l, o) hm, fun q hq => ht p hp q (hs q hq)⟩
theorem upd_app {d : Addr} {o o' : Obj} {r r' : Led} : ∀ {x : Led}, (∀ p ∈ x, p.1 ≠ d) → Upd d o o' r r' → Upd d o o' (x ++ r) (x ++ r')
  | [], _, u => u
  | p :: x, h, u => .tail (h p (.head _)) (upd_app (fun q hq => h q (.tail _ hq)) u)
theorem ne_allLt {b l : Addr} {o : Obj} {Y : Led} (h : AllLt b Y) (hm : (l, o) ∈ Y) : b ≠ l := Nat.ne_of_gt (allLt_mem h _ hm)
theorem ne_memLt {b l : Addr} {o : Obj} {Y : Led} (h : ∀ p ∈ Y, p.1 < b) (hm : (l, o) ∈ Y) : b ≠ l := Nat.ne_of_gt (h _ hm)
theorem ap_memLt {b : Addr} {X Y : Led} (h : ∀ p ∈ Y, p.1 < b) (hs : ∀ q ∈ X, q ∈ Y) : Ap b X := fun q hq => Nat.ne_of_lt (h q (hs q hq))
end Mine
end
end
section
local macro_rules | `(tactic| k_all) => `(tactic| assumption)
local macro_rules | `(tactic| k_mem) => `(tactic| first
  | with_reducible assumption
  | exact List.Mem.head _
  | ((with_reducible refine List.mem_cons_of_mem _ ?_); k_mem)
  | ((with_reducible refine List.mem_append.mpr (Or.inr ?_)); k_mem)
  | ((with_reducible refine List.mem_append.mpr (Or.inl ?_)); k_mem))
local macro_rules | `(tactic| k_room) => `(tactic| ((try simp only [depth_under_make, depth_under_kw, depth_in1, depth_deeper, depth_caller]); (try dsimp only); omega))
local macro_rules | `(tactic| k_units) => `(tactic| ((try simp only [units_under_make, units_in1, units_deeper, Around.mark_units, units_caller]); (try dsimp only); omega))
local macro_rules | `(tactic| walk_at "subscriptTail") => `(tactic| (k_here; (with_reducible show wpAny _ _ (subscriptTail _ _ (Value.ref _) (Value.int _ _)) _ _ _); k_dflt ((show wpAny _ _ (subscriptTail _ _ (Value.ref 433) (Value.int _ _)) _ _ _); refine' Mine.menu_K Mine.IsWord ?F ?X ?l ?a ?b ?f ?c ?_ ?hs; (case hs => with_unfolding_all rfl); (case F => k_asm); (case X => k_asm); (case l => k_is); (case a => omega); (case b => exact Int.lt_of_lt_of_le (by assumption) (by decide)); (case f => decide); (case c => exact List.forall_mem_cons.mpr ⟨⟨_, _, rfl, by decide⟩, List.forall_mem_cons.mpr ⟨⟨_, _, rfl, by decide⟩, List.forall_mem_cons.mpr ⟨⟨_, _, rfl, by decide⟩, List.forall_mem_cons.mpr ⟨⟨_, _, rfl, by decide⟩, List.forall_mem_nil _⟩⟩⟩⟩); rintro _ ⟨wd', wt', hx', hw'⟩; subst hx')))
local macro_rules | `(tactic| walk_at "subscriptTail") => `(tactic| (k_here; (with_reducible show wpAny _ _ (subscriptTail _ _ (Value.ref _) (Value.int _ _)) _ _ _); k_dflt ((show wpAny _ _ (subscriptTail _ _ (Value.ref 434) (Value.int _ _)) _ _ _); refine' Mine.menu_K Mine.IsFixed ?F ?X ?l ?a ?b ?f ?c ?_ ?hs; (case hs => with_unfolding_all rfl); (case F => k_asm); (case X => k_asm); (case l => k_is); (case a => omega); (case b => exact Int.lt_of_lt_of_le (by assumption) (by decide)); (case f => decide); (case c => exact List.forall_mem_cons.mpr ⟨⟨_, _, rfl, by decide⟩, List.forall_mem_cons.mpr ⟨⟨_, _, rfl, by decide⟩, List.forall_mem_cons.mpr ⟨⟨_, _, rfl, by decide⟩, List.forall_mem_cons.mpr ⟨⟨_, _, rfl, by decide⟩, List.forall_mem_nil _⟩⟩⟩⟩); rintro _ ⟨wd', wt', hx', hw'⟩; subst hx')))
local macro_rules | `(tactic| walk_at "subscriptTail") => `(tactic| (k_here; (with_reducible show wpAny _ _ (subscriptTail _ _ (Value.ref _) (Value.int _ _)) _ _ _); k_dflt ((show wpAny _ _ (subscriptTail _ _ (Value.ref 435) (Value.int _ _)) _ _ _); refine' Mine.menu_K Mine.IsKind ?F ?X ?l ?a ?b ?f ?c ?_ ?hs; (case hs => with_unfolding_all rfl); (case F => k_asm); (case X => k_asm); (case l => k_is); (case a => omega); (case b => exact Int.lt_of_lt_of_le (by assumption) (by decide)); (case f => decide); (case c => exact List.forall_mem_cons.mpr ⟨⟨_, _, rfl, by decide⟩, List.forall_mem_cons.mpr ⟨⟨_, _, rfl, by decide⟩, List.forall_mem_nil _⟩⟩); rintro _ ⟨wd', wt', hx', hw'⟩; subst hx')))
local macro_rules | `(tactic| walk_at "enter") => `(tactic| ((case kA => exact rfl); (case kF => exact rfl); (case kK => first | exact rfl | assumption); (case k6 => k_is); (case k7 => k_is); (case k8 => k_room); (case k9 => exact BindsTo.of_eq rfl); (case c5 => decide); (case kB => exact locs rfl); (case c2 => exact rfl); (case c3 => exact rfl); (case c4 => exact rfl); k_whole))
local macro_rules | `(tactic| walk_at "begin") => `(tactic| ((try dsimp only); (try k_unmd); (try k_fold)))
local macro_rules | `(tactic| walk_at "enterC") => `(tactic| ((case kA => exact rfl); (case kF => exact rfl); (case kK => first | exact rfl | assumption); (case k6 => k_is); (case k7 => k_is); (case k8 => k_room); (case k9 => exact BindsTo.of_eq rfl); (case kB => exact rfl); (case kD => decide +kernel); (case c2 => exact rfl); (case c3 => exact rfl); (case c4 => exact rfl); k_whole))
local macro_rules | `(tactic| walk_at "ite") => `(tactic| first | (exfalso; omega) | (with_reducible refine Mine.if_pos' (by first | omega | decide | (simp only [beq_iff_eq, bne_iff_ne, ne_eq, decide_eq_true_eq, not_true_eq_false, not_false_eq_true]; done) | (simp only [beq_iff_eq, bne_iff_ne, ne_eq, decide_eq_true_eq]; omega)) ?_) | (with_reducible refine Mine.if_neg' (by first | omega | decide | (simp only [beq_iff_eq, bne_iff_ne, ne_eq, decide_eq_true_eq, not_true_eq_false, not_false_eq_true]; done) | (simp only [beq_iff_eq, bne_iff_ne, ne_eq, decide_eq_true_eq]; omega)) ?_) | ((with_reducible refine Mine.if_both ?_ ?_) <;> (intro hc'; (try simp only [beq_iff_eq, bne_iff_ne, ne_eq, decide_eq_true_eq, Bool.not_eq_true, beq_eq_false_iff_ne, bne_eq_false_iff_eq, decide_eq_false_iff_not, Decidable.not_not] at hc'))))
local macro_rules | `(tactic| walk_at "wpAt") => `(tactic| (ks_step "exec Expr"; k_dflt (refine ks_wpAt_Expr_any ?_)))
local macro_rules | `(tactic| walk_at "wpAt") => `(tactic| (ks_step "eval Call"; k_dflt (refine ks_wpAt_MethodCall ?_)))
local macro_rules | `(tactic| walk_at "callWith ref") => `(tactic| (k_here; k_dflt (first
  | ((with_reducible refine' callWith_K0 ?k1 ?k2 ?_); (case k1 => exact Frag.In.keeps (by with_reducible assumption) (Fr.keep (by with_reducible assumption))); (case k2 => k_is); k_whole)
  | ((with_reducible refine' callWith_K ?k1 ?k2 ?_ ?k3 ?k4); (case k3 => exact rfl); (case k4 => exact rfl); (case k1 => with_reducible assumption); (case k2 => k_is); k_whole))))
local macro_rules | `(tactic| walk_at "eval Name") => `(tactic| (k_here; k_dflt (first
  | ((with_reducible refine' Mine.nameO_L ?F ?v ?_ ?a ?b ?d); (case b => rfl); (case F => k_asm); (case a => rfl); (case d => decide); (case v => rfl); k_whole)
  | ((with_reducible refine' Mine.nameO_K ?F ?X ?T ?e ?_ ?a ?b ?d); (case b => rfl); (case F => k_asm); (case X => k_asm); (case T => k_asm); (case a => rfl); (case d => decide); (case e => k_is); k_whole)
  | ((with_reducible refine' Mine.nameO_B ?F ?X ?T ?e ?v ?n ?_ ?a ?b ?d); (case b => rfl); (case F => k_asm); (case X => k_asm); (case T => k_asm); (case a => rfl); (case d => decide); (case e => k_is); (case v => boot_fast); (case n => decide); k_whole)
  | ((with_reducible refine' nameX_L ?F ?v ?_ ?a ?b); (case b => rfl); (case F => k_asm); (case a => rfl); (case v => rfl); k_whole)
  | ((with_reducible refine' nameX_K ?F ?X ?T ?e ?_ ?a ?b); (case b => rfl); (case F => k_asm); (case X => k_asm); (case T => k_asm); (case a => rfl); (case e => k_is); k_whole)
  | ((with_reducible refine' nameX_B ?F ?X ?T ?e ?v ?n ?_ ?a ?b); (case b => rfl); (case F => k_asm); (case X => k_asm); (case T => k_asm); (case a => rfl); (case e => k_is); (case v => boot_fast); (case n => decide); k_whole))))
local macro_rules | `(tactic| walk_at "ap") => `(tactic| first
  | exact List.forall_mem_nil _
  | assumption
  | exact Mine.allLt_ne (by tbn_find)
  | exact Mine.ap_lt (by assumption)
  | exact Mine.ap_lt2 (by assumption) (by assumption)
  | exact Mine.ap_lt2 (by assumption) (Mine.allLt_mem (by tbn_find))
  | exact Mine.ap_memLt (by assumption) (by intro q9 h9; k_mem)
  | exact Mine.off1_mem (by first | assumption | exact And.left (by assumption) | exact And.right (by assumption))
  | ((refine List.forall_mem_cons.mpr ⟨?_, ?_⟩); (focus (try dsimp only); first | assumption | k_ne | exact Ne.symm (by assumption) | exact Mine.ne_lt2 (by assumption) (by tbn_find) | exact Ne.symm (Mine.ne_memLt (by assumption) (by k_mem))); walk_at "ap")
  | ((refine List.forall_mem_append.mpr ⟨?_, ?_⟩) <;> walk_at "ap")
  | fail "ap: no order")
local macro_rules | `(tactic| walk_at "ord") => `(tactic| first
  | exact List.forall_mem_nil _
  | assumption
  | ((refine List.forall_mem_cons.mpr ⟨?_, ?_⟩); (focus walk_at "ap"); walk_at "ord")
  | exact Mine.aps (by assumption) (by intro q9 h9; k_mem)
  | exact Mine.aps2 (by assumption) (by k_mem) (by intro q9 h9; k_mem)
  | ((refine List.forall_mem_append.mpr ⟨?_, ?_⟩) <;> walk_at "ord")
  | fail "ord")
local macro_rules | `(tactic| walk_at "sub") => `(tactic| (intro q9 h9; simp only [List.mem_append, List.mem_cons, List.not_mem_nil, or_false, false_or, List.nil_append, List.cons_append] at h9 ⊢; first | exact h9 | grind))
local macro_rules | `(tactic| walk_at "eval ListComp") => `(tactic| (k_here; k_dflt (refine LCg.ListComp_U (F₀ := by k_asm) (by with_unfolding_all rfl) (by decide) (by rfl) (by decide) (by rfl) ?_)))
local macro_rules | `(tactic| walk_at "CompSrc") => `(tactic| (k_here; k_dflt (first
  | (refine LCg.CompSrc.ledger (by rfl) (by k_asm) (by k_asm) (by k_mem) (by first | size_fits | exact Nat.le_of_ble_eq_true rfl) ?_; intro g'; lcg_lit)
  | (refine LCg.CompSrc.range (by rfl) (by k_asm) (by k_asm) (by assumption) (by first | decide | rfl) (by first | rfl | decide) (by first | size_fits | exact Nat.le_of_ble_eq_true rfl) ?_; intro g'; lcg_lit))))
local macro_rules | `(tactic| walk_at "compareOp Eq ref ref") => `(tactic| (k_here; k_dflt ((first | (with_reducible refine' Mine.up_eq ?N ?he ?ok ?dp ?m1 ?m2 ?m3 ?m4 ?hu ?_) | (refine' Mine.up_eq ?N ?he ?ok ?dp ?m1 ?m2 ?m3 ?m4 ?hu ?_)); (case N => k_asm); (case he => (refine Mine.El.In.mono ?hs9 _ _ (by assumption); (case hs9 => (intro q9 h9; k_mem)))); (case ok => first | assumption | exact Or.inr (by assumption)); (case dp => omega); (case m1 => k_mem); (case m2 => k_mem); (case m3 => k_mem); (case m4 => k_mem); (case hu => k_units); k_whole)))
local macro_rules | `(tactic| walk_at "call ref") => `(tactic| (k_here; (show wpAny _ _ (call (Value.ref 466) _) _ _ _); k_dflt (first | (refine' Mine.new_turn ((by assumption : Mine.MadeSpec _ _) _ _ ?ok ?dp) ?B ?F ?X ?TG ?N ?sub ?T ?hk ?hd ?hu ?pre ?off ?hS ?_; (case B => k_asm); (case F => k_asm); (case X => k_asm); (case TG => k_asm); (case N => k_asm); (case sub => (intro q9 h9; k_mem)); (case T => k_asm); (case hk => first | exact rfl | assumption); (case pre => (refine Mine.El.In.mono ?hs9 _ _ (by assumption); (case hs9 => (intro q9 h9; k_mem)))); (case ok => first | assumption | exact Or.inr (by assumption)); (case dp => omega); (case hd => (unfold Mine.dM; k_room)); (case hu => (unfold Mine.uM; k_units)); (case off => first | assumption | (simp only [LCg.Off3, and_true]; assumption)); (case hS => exact fun _ => trivial); k_whole; (intro r' tl' ht' hoff' hp'); (try dsimp only)) | (refine Mine.hold ?_))))
local macro_rules | `(tactic| walk_at "subscriptTail") => `(tactic| (k_here; (with_reducible show wpAny _ _ (subscriptTail _ _ (Value.ref _) (Value.int _ _)) _ _ _); k_dflt (first | ((first | (with_reducible refine' Mine.item_led0 ?l ?_ ?hs) | (refine' Mine.item_led0 ?l ?_ ?hs)); (case l => exact News.isList (by k_asm) (by k_mem)); (case hs => with_unfolding_all rfl); k_whole) | ((first | (with_reducible refine' Mine.item_led1 ?l ?_ ?hs) | (refine' Mine.item_led1 ?l ?_ ?hs)); (case l => exact News.isList (by k_asm) (by k_mem)); (case hs => with_unfolding_all rfl); k_whole) | ((first | (with_reducible refine' Mine.item_led2 ?l ?_ ?hs) | (refine' Mine.item_led2 ?l ?_ ?hs)); (case l => exact News.isList (by k_asm) (by k_mem)); (case hs => with_unfolding_all rfl); k_whole))))
local macro_rules | `(tactic| walk_at "subscriptTail") => `(tactic| ((with_reducible show wpAny _ _ (subscriptTail _ _ _ (Value.int (0 + (Nat.cast _ : Int)) _)) _ _ _); k_dflt (first | refine Mine.sub_int (j := 0) (by decide) ?_ | refine Mine.sub_int (j := 1) (by decide) ?_ | refine Mine.sub_int (j := 2) (by decide) ?_)))
local macro_rules | `(tactic| walk_at "CompEnd") => `(tactic| (k_here; k_dflt (refine' Mine.compEnd_cut ?F ?N ?sub ?off ?hS ?_; (case F => k_asm); (case N => k_asm); (case sub => (intro q9 h9; k_mem)); (case off => first | assumption | (simp only [LCg.Off3, and_true]; assumption)); (case hS => trivial); k_whole)))
section
local macro_rules | `(tactic| walk_at "compareOp Eq ref") => `(tactic| (k_here; k_dflt (refine' Mine.eq_inst_str ?hu ?F ?X ?I ?hp ?c1 ?c2 ?c3 ?_; (case hu => k_units); (case F => k_asm); (case X => k_asm); (case I => exact Mine.instAt_of (News.get (by k_asm) (by k_mem)) (News.get (by k_asm) (by k_mem))); (case hp => rfl); (case c1 => exact Mine.ElCls.sub (by assumption)); (case c2 => exact Mine.ElCls.eq (by assumption)); (case c3 => exact Mine.ElCls.ob (by assumption)); k_whole)))
namespace Mine
theorem mkSeq (w : World) (l : Addr) : Calls w 10 100 (.ref 302) [.ref l] [] (fun _ => True) (fun _ _ tl r => SeqObj w tl l r) := by
  unfold Calls
  w_top off
  k_fill
  intro p loose mean mg mb dp un gd cn cs a ccd cl outer A₀ base h₀ L m news s Q E B F X TG N T hcs hd hu hoff hpre hret
  have hcode := TG.t1
  obtain ⟨_, _, _, _, _⟩ := cs; dsimp only at hcs; subst hcs
  simp only [List.nil_append] at N
  k_steps
  exact hret _ [] [(_, _), (_, _), (_, _), (_, _)] _ _ (by assumption) (by assumption) (by walk_at "ord") (by rfl)
      ⟨_, _, _, _, rfl, .tail _ (.tail _ (.head _)), .tail _ (.tail _ (.tail _ (.head _)))⟩
theorem mkPath (w : World) (l : Addr) (v : Value) (r : List Value) (n : Nat) : Calls w 10 100 (.ref 402) [.ref l] [] (fun news => (l, W.listOf (v :: r).toArray n) ∈ news ∧ IsElem w news v) (fun _ _ tl r => PathObj w tl l r) := by
  unfold Calls
  k_fill
  intro p loose mean mg mb dp un gd cn cs a ccd cl outer A₀ base h₀ L m news s Q E B F X TG N T hcs hd hu hoff hpre hret
  have hcode := TG.t1
  obtain ⟨_, _, _, _, _⟩ := cs; dsimp only at hcs; subst hcs
  obtain ⟨hl, b, C, d, es, n2, rfl, hb, hd2, hC⟩ := hpre
  simp only [List.nil_append] at N
  k_steps
  exact hret _ [] [(_, _), (_, _), (_, _), (_, _)] _ _ (by assumption) (by assumption) (by walk_at "ord") (by rfl)
      ⟨_, _, _, _, rfl, .tail _ (.tail _ (.head _)), .tail _ (.tail _ (.tail _ (.head _)))⟩
theorem mkBr (w : World) (q d : Addr) (es : List DictEntry) (n : Nat) : Calls w 10 100 (.ref 203) [.ref q] [] (fun news => (q, instObj 302 d) ∈ news ∧ (d, dictOf es n) ∈ news) (fun _ _ tl r => BrObj w tl q r) := by
  unfold Calls
  k_fill
  intro p loose mean mg mb dp un gd cn cs a ccd cl outer A₀ base h₀ L m news s Q E B F X TG N T hcs hd hu hoff hpre hret
  have hcode := TG.t1
  obtain ⟨_, _, _, _, _⟩ := cs; dsimp only at hcs; subst hcs
  obtain ⟨hq, hd2⟩ := hpre
  simp only [List.nil_append] at N
  k_steps
  exact hret _ [] [(_, _), (_, _), (_, _), (_, _)] _ _ (by assumption) (by assumption) (by walk_at "ord") (by rfl)
      ⟨_, _, _, _, rfl, .tail _ (.tail _ (.head _)), .tail _ (.tail _ (.tail _ (.head _)))⟩
theorem mkSt (w : World) (q d : Addr) (es : List DictEntry) (n : Nat) : Calls w 10 100 (.ref 352) [.ref q] [] (fun news => (q, instObj 203 d) ∈ news ∧ (d, dictOf es n) ∈ news) (fun _ _ tl r => StObj w tl q r) := by
  unfold Calls
  k_fill
  intro p loose mean mg mb dp un gd cn cs a ccd cl outer A₀ base h₀ L m news s Q E B F X TG N T hcs hd hu hoff hpre hret
  have hcode := TG.t1
  obtain ⟨_, _, _, _, _⟩ := cs; dsimp only at hcs; subst hcs
  obtain ⟨hq, hd2⟩ := hpre
  simp only [List.nil_append] at N
  k_steps
  exact hret _ [] [(_, _), (_, _), (_, _), (_, _)] _ _ (by assumption) (by assumption) (by walk_at "ord") (by rfl)
      ⟨_, _, _, _, rfl, .tail _ (.tail _ (.head _)), .tail _ (.tail _ (.tail _ (.head _)))⟩
end Mine
end
end
section
local macro_rules | `(tactic| k_all) => `(tactic| assumption)
local macro_rules | `(tactic| k_mem) => `(tactic| first
  | with_reducible assumption
  | exact List.Mem.head _
  | ((with_reducible refine List.mem_cons_of_mem _ ?_); k_mem)
  | ((with_reducible refine List.mem_append.mpr (Or.inr ?_)); k_mem)
  | ((with_reducible refine List.mem_append.mpr (Or.inl ?_)); k_mem))
local macro_rules | `(tactic| k_room) => `(tactic| ((try simp only [depth_under_make, depth_under_kw, depth_in1, depth_deeper, depth_caller]); (try dsimp only); omega))
local macro_rules | `(tactic| k_units) => `(tactic| ((try simp only [units_under_make, units_in1, units_deeper, Around.mark_units, units_caller]); (try dsimp only); omega))
local macro_rules | `(tactic| walk_at "subscriptTail") => `(tactic| (k_here; (with_reducible show wpAny _ _ (subscriptTail _ _ (Value.ref _) (Value.int _ _)) _ _ _); k_dflt ((show wpAny _ _ (subscriptTail _ _ (Value.ref 433) (Value.int _ _)) _ _ _); refine' Mine.menu_K Mine.IsWord ?F ?X ?l ?a ?b ?f ?c ?_ ?hs; (case hs => with_unfolding_all rfl); (case F => k_asm); (case X => k_asm); (case l => k_is); (case a => omega); (case b => exact Int.lt_of_lt_of_le (by assumption) (by decide)); (case f => decide); (case c => exact List.forall_mem_cons.mpr ⟨⟨_, _, rfl, by decide⟩, List.forall_mem_cons.mpr ⟨⟨_, _, rfl, by decide⟩, List.forall_mem_cons.mpr ⟨⟨_, _, rfl, by decide⟩, List.forall_mem_cons.mpr ⟨⟨_, _, rfl, by decide⟩, List.forall_mem_nil _⟩⟩⟩⟩); rintro _ ⟨wd', wt', hx', hw'⟩; subst hx')))
local macro_rules | `(tactic| walk_at "subscriptTail") => `(tactic| (k_here; (with_reducible show wpAny _ _ (subscriptTail _ _ (Value.ref _) (Value.int _ _)) _ _ _); k_dflt ((show wpAny _ _ (subscriptTail _ _ (Value.ref 434) (Value.int _ _)) _ _ _); refine' Mine.menu_K Mine.IsFixed ?F ?X ?l ?a ?b ?f ?c ?_ ?hs; (case hs => with_unfolding_all rfl); (case F => k_asm); (case X => k_asm); (case l => k_is); (case a => omega); (case b => exact Int.lt_of_lt_of_le (by assumption) (by decide)); (case f => decide); (case c => exact List.forall_mem_cons.mpr ⟨⟨_, _, rfl, by decide⟩, List.forall_mem_cons.mpr ⟨⟨_, _, rfl, by decide⟩, List.forall_mem_cons.mpr ⟨⟨_, _, rfl, by decide⟩, List.forall_mem_cons.mpr ⟨⟨_, _, rfl, by decide⟩, List.forall_mem_nil _⟩⟩⟩⟩); rintro _ ⟨wd', wt', hx', hw'⟩; subst hx')))
local macro_rules | `(tactic| walk_at "subscriptTail") => `(tactic| (k_here; (with_reducible show wpAny _ _ (subscriptTail _ _ (Value.ref _) (Value.int _ _)) _ _ _); k_dflt ((show wpAny _ _ (subscriptTail _ _ (Value.ref 435) (Value.int _ _)) _ _ _); refine' Mine.menu_K Mine.IsKind ?F ?X ?l ?a ?b ?f ?c ?_ ?hs; (case hs => with_unfolding_all rfl); (case F => k_asm); (case X => k_asm); (case l => k_is); (case a => omega); (case b => exact Int.lt_of_lt_of_le (by assumption) (by decide)); (case f => decide); (case c => exact List.forall_mem_cons.mpr ⟨⟨_, _, rfl, by decide⟩, List.forall_mem_cons.mpr ⟨⟨_, _, rfl, by decide⟩, List.forall_mem_nil _⟩⟩); rintro _ ⟨wd', wt', hx', hw'⟩; subst hx')))
local macro_rules | `(tactic| walk_at "enter") => `(tactic| ((case kA => exact rfl); (case kF => exact rfl); (case kK => first | exact rfl | assumption); (case k6 => k_is); (case k7 => k_is); (case k8 => k_room); (case k9 => exact BindsTo.of_eq rfl); (case c5 => decide); (case kB => exact locs rfl); (case c2 => exact rfl); (case c3 => exact rfl); (case c4 => exact rfl); k_whole))
local macro_rules | `(tactic| walk_at "begin") => `(tactic| ((try dsimp only); (try k_unmd); (try k_fold)))
local macro_rules | `(tactic| walk_at "enterC") => `(tactic| ((case kA => exact rfl); (case kF => exact rfl); (case kK => first | exact rfl | assumption); (case k6 => k_is); (case k7 => k_is); (case k8 => k_room); (case k9 => exact BindsTo.of_eq rfl); (case kB => exact rfl); (case kD => decide +kernel); (case c2 => exact rfl); (case c3 => exact rfl); (case c4 => exact rfl); k_whole))
local macro_rules | `(tactic| walk_at "ite") => `(tactic| first | (exfalso; omega) | (with_reducible refine Mine.if_pos' (by first | omega | decide | (simp only [beq_iff_eq, bne_iff_ne, ne_eq, decide_eq_true_eq, not_true_eq_false, not_false_eq_true]; done) | (simp only [beq_iff_eq, bne_iff_ne, ne_eq, decide_eq_true_eq]; omega)) ?_) | (with_reducible refine Mine.if_neg' (by first | omega | decide | (simp only [beq_iff_eq, bne_iff_ne, ne_eq, decide_eq_true_eq, not_true_eq_false, not_false_eq_true]; done) | (simp only [beq_iff_eq, bne_iff_ne, ne_eq, decide_eq_true_eq]; omega)) ?_) | ((with_reducible refine Mine.if_both ?_ ?_) <;> (intro hc'; (try simp only [beq_iff_eq, bne_iff_ne, ne_eq, decide_eq_true_eq, Bool.not_eq_true, beq_eq_false_iff_ne, bne_eq_false_iff_eq, decide_eq_false_iff_not, Decidable.not_not] at hc'))))
local macro_rules | `(tactic| walk_at "wpAt") => `(tactic| (ks_step "exec Expr"; k_dflt (refine ks_wpAt_Expr_any ?_)))
local macro_rules | `(tactic| walk_at "wpAt") => `(tactic| (ks_step "eval Call"; k_dflt (refine ks_wpAt_MethodCall ?_)))
local macro_rules | `(tactic| walk_at "callWith ref") => `(tactic| (k_here; k_dflt (first
  | ((with_reducible refine' callWith_K0 ?k1 ?k2 ?_); (case k1 => exact Frag.In.keeps (by with_reducible assumption) (Fr.keep (by with_reducible assumption))); (case k2 => k_is); k_whole)
  | ((with_reducible refine' callWith_K ?k1 ?k2 ?_ ?k3 ?k4); (case k3 => exact rfl); (case k4 => exact rfl); (case k1 => with_reducible assumption); (case k2 => k_is); k_whole))))
local macro_rules | `(tactic| walk_at "eval Name") => `(tactic| (k_here; k_dflt (first
  | ((with_reducible refine' Mine.nameO_L ?F ?v ?_ ?a ?b ?d); (case b => rfl); (case F => k_asm); (case a => rfl); (case d => decide); (case v => rfl); k_whole)
  | ((with_reducible refine' Mine.nameO_K ?F ?X ?T ?e ?_ ?a ?b ?d); (case b => rfl); (case F => k_asm); (case X => k_asm); (case T => k_asm); (case a => rfl); (case d => decide); (case e => k_is); k_whole)
  | ((with_reducible refine' Mine.nameO_B ?F ?X ?T ?e ?v ?n ?_ ?a ?b ?d); (case b => rfl); (case F => k_asm); (case X => k_asm); (case T => k_asm); (case a => rfl); (case d => decide); (case e => k_is); (case v => boot_fast); (case n => decide); k_whole)
  | ((with_reducible refine' nameX_L ?F ?v ?_ ?a ?b); (case b => rfl); (case F => k_asm); (case a => rfl); (case v => rfl); k_whole)
  | ((with_reducible refine' nameX_K ?F ?X ?T ?e ?_ ?a ?b); (case b => rfl); (case F => k_asm); (case X => k_asm); (case T => k_asm); (case a => rfl); (case e => k_is); k_whole)
  | ((with_reducible refine' nameX_B ?F ?X ?T ?e ?v ?n ?_ ?a ?b); (case b => rfl); (case F => k_asm); (case X => k_asm); (case T => k_asm); (case a => rfl); (case e => k_is); (case v => boot_fast); (case n => decide); k_whole))))
local macro_rules | `(tactic| walk_at "ap") => `(tactic| first
  | exact List.forall_mem_nil _
  | assumption
  | exact Mine.allLt_ne (by tbn_find)
  | exact Mine.ap_lt (by assumption)
  | exact Mine.ap_lt2 (by assumption) (by assumption)
  | exact Mine.ap_lt2 (by assumption) (Mine.allLt_mem (by tbn_find))
  | exact Mine.ap_memLt (by assumption) (by intro q9 h9; k_mem)
  | exact Mine.off1_mem (by first | assumption | exact And.left (by assumption) | exact And.right (by assumption))
  | ((refine List.forall_mem_cons.mpr ⟨?_, ?_⟩); (focus (try dsimp only); first | assumption | k_ne | exact Ne.symm (by assumption) | exact Mine.ne_lt2 (by assumption) (by tbn_find) | exact Ne.symm (Mine.ne_memLt (by assumption) (by k_mem))); walk_at "ap")
  | ((refine List.forall_mem_append.mpr ⟨?_, ?_⟩) <;> walk_at "ap")
  | fail "ap: no order")
local macro_rules | `(tactic| walk_at "ord") => `(tactic| first
  | exact List.forall_mem_nil _
  | assumption
  | ((refine List.forall_mem_cons.mpr ⟨?_, ?_⟩); (focus walk_at "ap"); walk_at "ord")
  | exact Mine.aps (by assumption) (by intro q9 h9; k_mem)
  | exact Mine.aps2 (by assumption) (by k_mem) (by intro q9 h9; k_mem)
  | ((refine List.forall_mem_append.mpr ⟨?_, ?_⟩) <;> walk_at "ord")
  | fail "ord")
local macro_rules | `(tactic| walk_at "sub") => `(tactic| (intro q9 h9; simp only [List.mem_append, List.mem_cons, List.not_mem_nil, or_false, false_or, List.nil_append, List.cons_append] at h9 ⊢; first | exact h9 | grind))
local macro_rules | `(tactic| walk_at "eval ListComp") => `(tactic| (k_here; k_dflt (refine LCg.ListComp_U (F₀ := by k_asm) (by with_unfolding_all rfl) (by decide) (by rfl) (by decide) (by rfl) ?_)))
local macro_rules | `(tactic| walk_at "CompSrc") => `(tactic| (k_here; k_dflt (first
  | (refine LCg.CompSrc.ledger (by rfl) (by k_asm) (by k_asm) (by k_mem) (by first | size_fits | exact Nat.le_of_ble_eq_true rfl) ?_; intro g'; lcg_lit)
  | (refine LCg.CompSrc.range (by rfl) (by k_asm) (by k_asm) (by assumption) (by first | decide | rfl) (by first | rfl | decide) (by first | size_fits | exact Nat.le_of_ble_eq_true rfl) ?_; intro g'; lcg_lit))))
local macro_rules | `(tactic| walk_at "compareOp Eq ref ref") => `(tactic| (k_here; k_dflt ((first | (with_reducible refine' Mine.up_eq ?N ?he ?ok ?dp ?m1 ?m2 ?m3 ?m4 ?hu ?_) | (refine' Mine.up_eq ?N ?he ?ok ?dp ?m1 ?m2 ?m3 ?m4 ?hu ?_)); (case N => k_asm); (case he => (refine Mine.El.In.mono ?hs9 _ _ (by assumption); (case hs9 => (intro q9 h9; k_mem)))); (case ok => first | assumption | exact Or.inr (by assumption)); (case dp => omega); (case m1 => k_mem); (case m2 => k_mem); (case m3 => k_mem); (case m4 => k_mem); (case hu => k_units); k_whole)))
local macro_rules | `(tactic| walk_at "call ref") => `(tactic| (k_here; (show wpAny _ _ (call (Value.ref 466) _) _ _ _); k_dflt (first | (refine' Mine.new_turn ((by assumption : Mine.MadeSpec _ _) _ _ ?ok ?dp) ?B ?F ?X ?TG ?N ?sub ?T ?hk ?hd ?hu ?pre ?off ?hS ?_; (case B => k_asm); (case F => k_asm); (case X => k_asm); (case TG => k_asm); (case N => k_asm); (case sub => (intro q9 h9; k_mem)); (case T => k_asm); (case hk => first | exact rfl | assumption); (case pre => (refine Mine.El.In.mono ?hs9 _ _ (by assumption); (case hs9 => (intro q9 h9; k_mem)))); (case ok => first | assumption | exact Or.inr (by assumption)); (case dp => omega); (case hd => (unfold Mine.dM; k_room)); (case hu => (unfold Mine.uM; k_units)); (case off => first | assumption | (simp only [LCg.Off3, and_true]; assumption)); (case hS => exact fun _ => trivial); k_whole; (intro r' tl' ht' hoff' hp'); (try dsimp only)) | (refine Mine.hold ?_))))
local macro_rules | `(tactic| walk_at "subscriptTail") => `(tactic| (k_here; (with_reducible show wpAny _ _ (subscriptTail _ _ (Value.ref _) (Value.int _ _)) _ _ _); k_dflt (first | ((first | (with_reducible refine' Mine.item_led0 ?l ?_ ?hs) | (refine' Mine.item_led0 ?l ?_ ?hs)); (case l => exact News.isList (by k_asm) (by k_mem)); (case hs => with_unfolding_all rfl); k_whole) | ((first | (with_reducible refine' Mine.item_led1 ?l ?_ ?hs) | (refine' Mine.item_led1 ?l ?_ ?hs)); (case l => exact News.isList (by k_asm) (by k_mem)); (case hs => with_unfolding_all rfl); k_whole) | ((first | (with_reducible refine' Mine.item_led2 ?l ?_ ?hs) | (refine' Mine.item_led2 ?l ?_ ?hs)); (case l => exact News.isList (by k_asm) (by k_mem)); (case hs => with_unfolding_all rfl); k_whole))))
local macro_rules | `(tactic| walk_at "subscriptTail") => `(tactic| ((with_reducible show wpAny _ _ (subscriptTail _ _ _ (Value.int (0 + (Nat.cast _ : Int)) _)) _ _ _); k_dflt (first | refine Mine.sub_int (j := 0) (by decide) ?_ | refine Mine.sub_int (j := 1) (by decide) ?_ | refine Mine.sub_int (j := 2) (by decide) ?_)))
local macro_rules | `(tactic| walk_at "CompEnd") => `(tactic| (k_here; k_dflt (refine' Mine.compEnd_cut ?F ?N ?sub ?off ?hS ?_; (case F => k_asm); (case N => k_asm); (case sub => (intro q9 h9; k_mem)); (case off => first | assumption | (simp only [LCg.Off3, and_true]; assumption)); (case hS => trivial); k_whole)))
local macro_rules | `(tactic| walk_at "neq") => `(tactic| ((try dsimp only); first | assumption | k_ne | exact Mine.ne_allLt (by first | assumption | exact And.left (by assumption) | exact (And.right (by assumption)) | tbn_find) (by k_mem) | exact Mine.ne_memLt (by assumption) (by k_mem)))
local macro_rules | `(tactic| walk_at "tabs") => `(tactic| first | assumption | (refine Mine.TabsG.keeps ?_ (Fr.keep (by assumption)); walk_at "tabs"))
local macro_rules | `(tactic| walk_at "call ref") => `(tactic| (k_here; (show wpAny _ _ (call (Value.ref 302) _) _ _ _); k_dflt ((first | (with_reducible refine' Mine.Calls.use0 (Mine.mkSeq _ _) ?B ?F ?X ?TG ?N ?T ?hk ?hd ?hu ?pre ?_) | (refine' Mine.Calls.use0 (Mine.mkSeq _ _) ?B ?F ?X ?TG ?N ?T ?hk ?hd ?hu ?pre ?_)); (case B => k_asm); (case F => k_asm); (case X => k_asm); (case TG => walk_at "tabs"); (case N => k_asm); (case T => k_asm); (case hk => first | exact rfl | assumption); (case hd => k_room); (case hu => k_units); (case pre => exact True.intro); k_whole; (rintro _ tl' h' tk' F' N' ht' ⟨a', d', t', n', hr', m1', m2'⟩); subst hr'; (try dsimp only))))
local macro_rules | `(tactic| walk_at "call ref") => `(tactic| (k_here; (show wpAny _ _ (call (Value.ref 402) _) _ _ _); k_dflt ((first | (with_reducible refine' Mine.Calls.use0 (Mine.mkPath _ _ _ _ _) ?B ?F ?X ?TG ?N ?T ?hk ?hd ?hu ?pre ?_) | (refine' Mine.Calls.use0 (Mine.mkPath _ _ _ _ _) ?B ?F ?X ?TG ?N ?T ?hk ?hd ?hu ?pre ?_)); (case B => k_asm); (case F => k_asm); (case X => k_asm); (case TG => walk_at "tabs"); (case N => k_asm); (case T => k_asm); (case hk => first | exact rfl | assumption); (case hd => k_room); (case hu => k_units); (case pre => exact ⟨by k_mem, by first | assumption | exact ⟨_, _, _, _, _, rfl, by k_mem, by k_mem, by first | assumption | exact Mine.elCls_dots _ | exact Mine.elCls_nav _ | exact Mine.elCls_par _⟩⟩); k_whole; (rintro _ tl' h' tk' F' N' ht' ⟨a', d', t', n', hr', m1', m2'⟩); subst hr'; (try dsimp only))))
local macro_rules | `(tactic| walk_at "call ref") => `(tactic| (k_here; (show wpAny _ _ (call (Value.ref 203) _) _ _ _); k_dflt ((first | (with_reducible refine' Mine.Calls.use0 (Mine.mkBr _ _ _ _ _) ?B ?F ?X ?TG ?N ?T ?hk ?hd ?hu ?pre ?_) | (refine' Mine.Calls.use0 (Mine.mkBr _ _ _ _ _) ?B ?F ?X ?TG ?N ?T ?hk ?hd ?hu ?pre ?_)); (case B => k_asm); (case F => k_asm); (case X => k_asm); (case TG => walk_at "tabs"); (case N => k_asm); (case T => k_asm); (case hk => first | exact rfl | assumption); (case hd => k_room); (case hu => k_units); (case pre => exact ⟨by k_mem, by k_mem⟩); k_whole; (rintro _ tl' h' tk' F' N' ht' ⟨a', d', t', n', hr', m1', m2'⟩); subst hr'; (try dsimp only))))
local macro_rules | `(tactic| walk_at "call ref") => `(tactic| (k_here; (show wpAny _ _ (call (Value.ref 352) _) _ _ _); k_dflt ((first | (with_reducible refine' Mine.Calls.use0 (Mine.mkSt _ _ _ _ _) ?B ?F ?X ?TG ?N ?T ?hk ?hd ?hu ?pre ?_) | (refine' Mine.Calls.use0 (Mine.mkSt _ _ _ _ _) ?B ?F ?X ?TG ?N ?T ?hk ?hd ?hu ?pre ?_)); (case B => k_asm); (case F => k_asm); (case X => k_asm); (case TG => walk_at "tabs"); (case N => k_asm); (case T => k_asm); (case hk => first | exact rfl | assumption); (case hd => k_room); (case hu => k_units); (case pre => exact ⟨by k_mem, by k_mem⟩); k_whole; (rintro _ tl' h' tk' F' N' ht' ⟨a', d', t', n', hr', m1', m2'⟩); subst hr'; (try dsimp only))))
local macro_rules | `(tactic| walk_at "offl") => `(tactic| first
  | exact List.forall_mem_nil _
  | assumption
  | exact Mine.offl_of (by assumption) (by k_mem)
  | exact Mine.ap_lt (by assumption)
  | exact Mine.allLt_ne (by tbn_find)
  | ((refine List.forall_mem_cons.mpr ⟨?_, ?_⟩); (focus walk_at "neq"); walk_at "offl")
  | ((refine List.forall_mem_append.mpr ⟨?_, ?_⟩) <;> walk_at "offl"))
local macro_rules | `(tactic| walk_at "front") => `(tactic| (repeat first | with_reducible exact Mine.Front.nil | with_reducible apply Mine.Front.cons | with_reducible apply Mine.Front.app))
local macro_rules | `(tactic| walk_at "del") => `(tactic| (repeat first | with_reducible exact Mine.Del.head | with_reducible apply Mine.Del.cons | with_reducible apply Mine.Del.app))
local macro_rules | `(tactic| walk_at "upd") => `(tactic| first
  | (with_reducible apply Upd.head; walk_at "offl")
  | ((with_reducible apply Upd.tail); (focus walk_at "neq"); walk_at "upd")
  | ((with_reducible apply Mine.upd_app); (focus walk_at "offl"); walk_at "upd"))
local macro_rules | `(tactic| k_upd) => `(tactic| walk_at "upd")
section
namespace Mine
theorem news_del {h₀ h : Heap} {L l : Addr} {o : Obj} {all rest : Led} (N : News h₀ L h all) (D : Del l o all rest) : News h₀ L h ((l, o) :: rest) := fun p hp => by
  rcases List.mem_cons.mp hp with rfl | hp
  · exact N _ D.mem
  · exact N p (D.sub p hp)
theorem mkUp (w : World) (l : Addr) (t0 : Tok) (r : List Value) (n : Nat) : Calls w 20 200 (.ref 402) [.ref l] [(l, W.listOf (.str "^" t0 :: r).toArray n)] (fun _ => True)
    (fun _ mu' tl rv => ∃ v n2, mu' = [(l, W.listOf (v :: r).toArray n2)] ∧ upEl.Made w tl v ∧ PathObj w tl l rv) := by
  unfold Calls
  w_top off
  k_fill
  intro p loose mean mg mb dp un gd cn cs a ccd cl outer A₀ base h₀ L m news s Q E B F X TG N T hcs hd hu hoff hpre hret
  have hcode := TG.t1
  obtain ⟨_, _, _, _, _⟩ := cs; dsimp only at hcs; subst hcs
  have hat : ∀ q ∈ news, q.1 ≠ l := fun q hq => hoff _ (.head _) q hq
  simp only [List.nil_append, List.cons_append] at N
  k_steps
  rename_i kF kN Tc kX
  replace kN := Mine.news_del (l := l) kN (by walk_at "del")
  refine' hret _ [(l, _)] _ _ _ kF (Mine.Front.fin ?f kN) ?ord (by rfl) ⟨_, _, rfl, ?made, ?path⟩
  case f => walk_at "front"
  case ord =>
    clear kF kN hret
    try simp only [Mine.allLt_append, AllLt] at *
    show ∀ p ∈ (_ : Mine.Led), Mine.Ap p.1 ((l, _) :: news)
    walk_at "ord"
  case path => exact ⟨_, _, _, _, rfl, by k_mem, by k_mem⟩
  case made =>
    simp only [El.Made, Ways.Made, Pth.Made]
    exact ⟨_, _, _, _, _, _, _, _, _, rfl, by k_mem, by k_mem, by k_mem, by k_mem, ⟨_, _, _, _, _, _, by k_mem, by k_mem, by k_mem, ⟨_, _, _, _, _, _, by k_mem, by k_mem, by k_mem, ⟨_, _, _, _, _, rfl, by k_mem, by k_mem⟩⟩⟩⟩
end Mine
end
end
section
local macro_rules | `(tactic| k_all) => `(tactic| assumption)
local macro_rules | `(tactic| k_mem) => `(tactic| first
  | with_reducible assumption
  | exact List.Mem.head _
  | ((with_reducible refine List.mem_cons_of_mem _ ?_); k_mem)
  | ((with_reducible refine List.mem_append.mpr (Or.inr ?_)); k_mem)
  | ((with_reducible refine List.mem_append.mpr (Or.inl ?_)); k_mem))
local macro_rules | `(tactic| k_room) => `(tactic| ((try simp only [depth_under_make, depth_under_kw, depth_in1, depth_deeper, depth_caller]); (try dsimp only); omega))
local macro_rules | `(tactic| k_units) => `(tactic| ((try simp only [units_under_make, units_in1, units_deeper, Around.mark_units, units_caller]); (try dsimp only); omega))
local macro_rules | `(tactic| walk_at "subscriptTail") => `(tactic| (k_here; (with_reducible show wpAny _ _ (subscriptTail _ _ (Value.ref _) (Value.int _ _)) _ _ _); k_dflt ((show wpAny _ _ (subscriptTail _ _ (Value.ref 433) (Value.int _ _)) _ _ _); refine' Mine.menu_K Mine.IsWord ?F ?X ?l ?a ?b ?f ?c ?_ ?hs; (case hs => with_unfolding_all rfl); (case F => k_asm); (case X => k_asm); (case l => k_is); (case a => omega); (case b => exact Int.lt_of_lt_of_le (by assumption) (by decide)); (case f => decide); (case c => exact List.forall_mem_cons.mpr ⟨⟨_, _, rfl, by decide⟩, List.forall_mem_cons.mpr ⟨⟨_, _, rfl, by decide⟩, List.forall_mem_cons.mpr ⟨⟨_, _, rfl, by decide⟩, List.forall_mem_cons.mpr ⟨⟨_, _, rfl, by decide⟩, List.forall_mem_nil _⟩⟩⟩⟩); rintro _ ⟨wd', wt', hx', hw'⟩; subst hx')))
local macro_rules | `(tactic| walk_at "subscriptTail") => `(tactic| (k_here; (with_reducible show wpAny _ _ (subscriptTail _ _ (Value.ref _) (Value.int _ _)) _ _ _); k_dflt ((show wpAny _ _ (subscriptTail _ _ (Value.ref 434) (Value.int _ _)) _ _ _); refine' Mine.menu_K Mine.IsFixed ?F ?X ?l ?a ?b ?f ?c ?_ ?hs; (case hs => with_unfolding_all rfl); (case F => k_asm); (case X => k_asm); (case l => k_is); (case a => omega); (case b => exact Int.lt_of_lt_of_le (by assumption) (by decide)); (case f => decide); (case c => exact List.forall_mem_cons.mpr ⟨⟨_, _, rfl, by decide⟩, List.forall_mem_cons.mpr ⟨⟨_, _, rfl, by decide⟩, List.forall_mem_cons.mpr ⟨⟨_, _, rfl, by decide⟩, List.forall_mem_cons.mpr ⟨⟨_, _, rfl, by decide⟩, List.forall_mem_nil _⟩⟩⟩⟩); rintro _ ⟨wd', wt', hx', hw'⟩; subst hx')))
local macro_rules | `(tactic| walk_at "subscriptTail") => `(tactic| (k_here; (with_reducible show wpAny _ _ (subscriptTail _ _ (Value.ref _) (Value.int _ _)) _ _ _); k_dflt ((show wpAny _ _ (subscriptTail _ _ (Value.ref 435) (Value.int _ _)) _ _ _); refine' Mine.menu_K Mine.IsKind ?F ?X ?l ?a ?b ?f ?c ?_ ?hs; (case hs => with_unfolding_all rfl); (case F => k_asm); (case X => k_asm); (case l => k_is); (case a => omega); (case b => exact Int.lt_of_lt_of_le (by assumption) (by decide)); (case f => decide); (case c => exact List.forall_mem_cons.mpr ⟨⟨_, _, rfl, by decide⟩, List.forall_mem_cons.mpr ⟨⟨_, _, rfl, by decide⟩, List.forall_mem_nil _⟩⟩); rintro _ ⟨wd', wt', hx', hw'⟩; subst hx')))
local macro_rules | `(tactic| walk_at "enter") => `(tactic| ((case kA => exact rfl); (case kF => exact rfl); (case kK => first | exact rfl | assumption); (case k6 => k_is); (case k7 => k_is); (case k8 => k_room); (case k9 => exact BindsTo.of_eq rfl); (case c5 => decide); (case kB => exact locs rfl); (case c2 => exact rfl); (case c3 => exact rfl); (case c4 => exact rfl); k_whole))
local macro_rules | `(tactic| walk_at "begin") => `(tactic| ((try dsimp only); (try k_unmd); (try k_fold)))
local macro_rules | `(tactic| walk_at "enterC") => `(tactic| ((case kA => exact rfl); (case kF => exact rfl); (case kK => first | exact rfl | assumption); (case k6 => k_is); (case k7 => k_is); (case k8 => k_room); (case k9 => exact BindsTo.of_eq rfl); (case kB => exact rfl); (case kD => decide +kernel); (case c2 => exact rfl); (case c3 => exact rfl); (case c4 => exact rfl); k_whole))
local macro_rules | `(tactic| walk_at "ite") => `(tactic| first | (exfalso; omega) | (with_reducible refine Mine.if_pos' (by first | omega | decide | (simp only [beq_iff_eq, bne_iff_ne, ne_eq, decide_eq_true_eq, not_true_eq_false, not_false_eq_true]; done) | (simp only [beq_iff_eq, bne_iff_ne, ne_eq, decide_eq_true_eq]; omega)) ?_) | (with_reducible refine Mine.if_neg' (by first | omega | decide | (simp only [beq_iff_eq, bne_iff_ne, ne_eq, decide_eq_true_eq, not_true_eq_false, not_false_eq_true]; done) | (simp only [beq_iff_eq, bne_iff_ne, ne_eq, decide_eq_true_eq]; omega)) ?_) | ((with_reducible refine Mine.if_both ?_ ?_) <;> (intro hc'; (try simp only [beq_iff_eq, bne_iff_ne, ne_eq, decide_eq_true_eq, Bool.not_eq_true, beq_eq_false_iff_ne, bne_eq_false_iff_eq, decide_eq_false_iff_not, Decidable.not_not] at hc'))))
local macro_rules | `(tactic| walk_at "wpAt") => `(tactic| (ks_step "exec Expr"; k_dflt (refine ks_wpAt_Expr_any ?_)))
local macro_rules | `(tactic| walk_at "wpAt") => `(tactic| (ks_step "eval Call"; k_dflt (refine ks_wpAt_MethodCall ?_)))
local macro_rules | `(tactic| walk_at "callWith ref") => `(tactic| (k_here; k_dflt (first
  | ((with_reducible refine' callWith_K0 ?k1 ?k2 ?_); (case k1 => exact Frag.In.keeps (by with_reducible assumption) (Fr.keep (by with_reducible assumption))); (case k2 => k_is); k_whole)
  | ((with_reducible refine' callWith_K ?k1 ?k2 ?_ ?k3 ?k4); (case k3 => exact rfl); (case k4 => exact rfl); (case k1 => with_reducible assumption); (case k2 => k_is); k_whole))))
local macro_rules | `(tactic| walk_at "eval Name") => `(tactic| (k_here; k_dflt (first
  | ((with_reducible refine' Mine.nameO_L ?F ?v ?_ ?a ?b ?d); (case b => rfl); (case F => k_asm); (case a => rfl); (case d => decide); (case v => rfl); k_whole)
  | ((with_reducible refine' Mine.nameO_K ?F ?X ?T ?e ?_ ?a ?b ?d); (case b => rfl); (case F => k_asm); (case X => k_asm); (case T => k_asm); (case a => rfl); (case d => decide); (case e => k_is); k_whole)
  | ((with_reducible refine' Mine.nameO_B ?F ?X ?T ?e ?v ?n ?_ ?a ?b ?d); (case b => rfl); (case F => k_asm); (case X => k_asm); (case T => k_asm); (case a => rfl); (case d => decide); (case e => k_is); (case v => boot_fast); (case n => decide); k_whole)
  | ((with_reducible refine' nameX_L ?F ?v ?_ ?a ?b); (case b => rfl); (case F => k_asm); (case a => rfl); (case v => rfl); k_whole)
  | ((with_reducible refine' nameX_K ?F ?X ?T ?e ?_ ?a ?b); (case b => rfl); (case F => k_asm); (case X => k_asm); (case T => k_asm); (case a => rfl); (case e => k_is); k_whole)
  | ((with_reducible refine' nameX_B ?F ?X ?T ?e ?v ?n ?_ ?a ?b); (case b => rfl); (case F => k_asm); (case X => k_asm); (case T => k_asm); (case a => rfl); (case e => k_is); (case v => boot_fast); (case n => decide); k_whole))))
section
namespace Mine
/-- what a turn of a folded comprehension leaves -/
def TurnR (ns : Led) (Post : Led → Value → Prop) (y : Value) (news' : Led) : Prop := ∃ tl, news' = tl ++ ns ∧ (∀ p ∈ tl, Ap p.1 ns) ∧ Post tl y
section
variable {prog : Program} {w : World} {A : Around} {E : Value → Shared → Prop} {s : Shared} {h₀ : Heap} {L : Addr} {m : Str → Option Value} {env : Env}
open PyProof.Rows.LCg in
theorem compRest_fold {elt : Expr} {x : Str} {scope : Scope} {cl : List (Str × Addr)} {S : Led → Prop} {P : Nat → Value → Prop} {Fin : List Value → Led → Prop} {n : Nat} {news : Led} (Post : Nat → Led → Value → Prop)
    (mono : ∀ i tl tl' y, (∀ p ∈ tl, p ∈ tl') → Post i tl y → Post i tl' y)
    (step : ∀ i v ns ys I oI C oC D m₂ h tk (E' : Value → Shared → Prop), i < n → (∀ p ∈ news, p ∈ ns) → P i v → NsObj oC m₂ → m₂ x = some v → Fr h₀ L h m → News h₀ L h ((I, oI) :: (C, oC) :: (D, lst ys) :: ns) → Off3 I C D ns → ((@Ne Nat I C) ∧ (@Ne Nat I D) ∧ (@Ne Nat C D)) →
      wpAny (model prog w) A (eval elt (compEnvC scope cl C env)) (CompEnd h₀ L m { s with heap := h, toks := tk } I oI C oC D (lst ys) S (TurnR ns (Post i))) E' { s with heap := h, toks := tk })
    (fin : ∀ ys tl, ys.length = n → (∀ (i : Nat) y, ys[i]? = some y → Post i tl y) → (∀ p ∈ tl, Ap p.1 news) → Fin ys (tl ++ news)) :
    CompRest prog w A h₀ L m env elt x scope cl s S P Fin n 0 [] news := by
  suffices H : ∀ k i ys tl, i + k = n → ys.length = i → (∀ (j : Nat) y, ys[j]? = some y → Post j tl y) → (∀ p ∈ tl, Ap p.1 news) → CompRest prog w A h₀ L m env elt x scope cl s S P Fin k i ys (tl ++ news) by
    exact H n 0 [] [] (Nat.zero_add n) rfl (fun j y h => by cases h) (List.forall_mem_nil _)
  intro k
  induction k with
  | zero =>
    intro i ys tl hi hl hp ha
    exact fin ys tl (by omega) hp ha
  | succ k ih =>
    intro i ys tl hi hl hp ha v I oI C oC D m₂ h tk E' hPv hC hm F N off ne
    refine wpAny_mono (step i v (tl ++ news) ys I oI C oC D m₂ h tk E' (by omega) (fun p hp => List.mem_append.mpr (.inr hp)) hPv hC hm F N off ne) (fun y s' hy => ?_) fun _ _ e => e
    obtain ⟨h', tk', news', hs, F', N', off', hS, tl2, rfl, ha2, hp2⟩ := hy
    refine ⟨h', tk', _, hs, F', N', off', hS, ?_⟩
    rw [← List.append_assoc]
    refine ih (i + 1) (ys ++ [y]) (tl2 ++ tl) (by omega) (by rw [List.length_append, List.length_singleton, hl]) (fun j z hz => ?_) (List.forall_mem_append.mpr ⟨fun p hp q hq => ha2 p hp q (List.mem_append.mpr (.inr hq)), ha⟩)
    by_cases hj : j < ys.length
    · rw [List.getElem?_append_left hj] at hz
      exact mono j tl _ z (fun p hp => List.mem_append.mpr (.inr hp)) (hp j z hz)
    · obtain rfl : j = ys.length := by
        have := (List.getElem?_eq_some_iff.mp hz).1
        rw [List.length_append, List.length_singleton] at this
        omega
      rw [List.getElem?_concat_length] at hz
      cases hz
      rw [hl]
      exact mono i tl2 _ y (fun p hp => List.mem_append.mpr (.inl hp)) hp2
def CellTurned (s : Shared) (h₀ : Heap) (L : Addr) (m : Str → Option Value) (own ns : Led) (Post : Led → Value → Prop) (y : Value) (s₂ : Shared) : Prop :=
  ∃ h' tk' tl, s₂ = { s with heap := h', toks := tk' } ∧ Fr h₀ L h' m ∧ News h₀ L h' (tl ++ (own ++ ns)) ∧ (∀ p ∈ tl, Ap p.1 (own ++ ns)) ∧ Post tl y
theorem cellRest_fold {elt : Expr} {x : Str} {scope : Scope} {cl : List (Str × Addr)} {ax : Addr} {oA : Obj} {its : Array Value} {Fin : List Value → Led → Prop} {news : Led} (Post : Nat → Led → Value → Prop)
    (mono : ∀ i tl tl' y, (∀ p ∈ tl, p ∈ tl') → Post i tl y → Post i tl' y) (src : (ax, oA) ∈ news)
    (step : ∀ i v ns ys I oI C oC D X oX h tk (E' : Value → Shared → Prop), (∀ p ∈ news, p ∈ ns) → its[i]? = some v → oX.data = .cell (some v) → Fr h₀ L h m → News h₀ L h ((I, oI) :: (C, oC) :: (D, LCg.lst ys) :: (X, oX) :: ns) → Off4 I C D X ns → I < D ∧ D < C ∧ C < X →
      wpAny (model prog w) A (eval elt (compEnvC scope ((x, X) :: cl) C env)) (CellTurned s h₀ L m [(I, oI), (C, oC), (D, LCg.lst ys), (X, oX)] ns (Post i)) E' { s with heap := h, toks := tk })
    (fin : ∀ ys tl, ys.length = its.size → (∀ (i : Nat) y, ys[i]? = some y → Post i tl y) → (∀ p ∈ tl, Ap p.1 news) → Fin ys (tl ++ news)) :
    CellRest prog w A h₀ L m env elt x scope cl s ax oA its Fin its.size 0 [] news := by
  suffices H : ∀ k i ys tl, i + k = its.size → ys.length = i → (∀ (j : Nat) y, ys[j]? = some y → Post j tl y) → (∀ p ∈ tl, Ap p.1 news) → CellRest prog w A h₀ L m env elt x scope cl s ax oA its Fin k i ys (tl ++ news) by
    exact H _ 0 [] [] (Nat.zero_add _) rfl (fun j y h => by cases h) (List.forall_mem_nil _)
  intro k
  induction k with
  | zero =>
    intro i ys tl hi hl hp ha
    exact fin ys tl (by omega) hp ha
  | succ k ih =>
    intro i ys tl hi hl hp ha v I oI C oC D X oX h tk E' hv hX F N off lt
    refine wpAny_mono (step i v (tl ++ news) ys I oI C oC D X oX h tk E' (fun p hp => List.mem_append.mpr (.inr hp)) hv hX F N off lt) (fun y s' hy => ?_) fun _ _ e => e
    obtain ⟨h', tk', tl2, rfl, F', N', ha2, hp2⟩ := hy
    refine ⟨h', tk', tl2 ++ (tl ++ news), rfl, F', fun p hp => N' p ?_, fun p hp => ?_, List.mem_append.mpr (.inr (List.mem_append.mpr (.inr src))), ?_⟩
    · simp only [List.mem_append, List.mem_cons, List.not_mem_nil, or_false] at hp ⊢
      rcases hp with h | h | h | h | h | h | h <;> simp only [h, true_or, or_true]
    · rcases List.mem_append.mp hp with hp | hp
      · have z := ha2 p hp
        exact ⟨Ne.symm (z (I, oI) (.head _)), Ne.symm (z (C, oC) (.tail _ (.head _))), Ne.symm (z (D, LCg.lst ys) (.tail _ (.tail _ (.head _)))), Ne.symm (z (X, oX) (.tail _ (.tail _ (.tail _ (.head _)))))⟩
      · exact off p hp
    · rw [← List.append_assoc]
      refine ih (i + 1) (ys ++ [y]) (tl2 ++ tl) (by omega) (by rw [List.length_append, List.length_singleton, hl]) (fun j z hz => ?_) (List.forall_mem_append.mpr ⟨fun p hp q hq => ha2 p hp q (List.mem_append.mpr (.inr (List.mem_append.mpr (.inr hq)))), ha⟩)
      by_cases hj : j < ys.length
      · rw [List.getElem?_append_left hj] at hz
        exact mono j tl _ z (fun p hp => List.mem_append.mpr (.inr hp)) (hp j z hz)
      · obtain rfl : j = ys.length := by
          have := (List.getElem?_eq_some_iff.mp hz).1
          rw [List.length_append, List.length_singleton] at this
          omega
        rw [List.getElem?_concat_length] at hz
        cases hz
        rw [hl]
        exact mono i tl2 _ y (fun p hp => List.mem_append.mpr (.inl hp)) hp2
theorem item_ledI {Q : Value → Shared → Prop} {value slice : PySem.Expr} {l : Addr} {its : List Value} {i : Nat} {k : Int} {u : Tok} {v : Value} (hl : s.heap.IsList l its.toArray) (hk : k = (i : Int)) (hi : i < 100) (e : its[i]? = some v) (h : Q v s)
    (hs : subscripted slice false (.ref l) (.int k u) = operate [.ref l, .int k u] (getItem (.ref l) (.int k u))) : wpAny (model prog w) A (subscriptTail value slice (.ref l) (.int k u)) Q E s := by
  subst hk
  exact tail_any hl.typeIs slot_list_getitem.lookup (wpAny_getItem_list hl (Int.natCast_nonneg i) (by omega) (by simpa using e) h) hs
end
/-- a path's elements, with their values -/
def Pth.els : Pth → List El
  | .one a => [a]
  | .two a b => [a, b]
  | .thr a b c => [a, b, c]
def Ways.pths : Ways → List Pth
  | .one p => [p]
  | .two p q => [p, q]
theorem Pth.els_len (p : Pth) : 1 ≤ p.els.length ∧ p.els.length ≤ 3 := by cases p <;> exact ⟨Nat.le_of_ble_eq_true rfl, Nat.le_of_ble_eq_true rfl⟩
theorem Ways.pths_len (p : Ways) : 1 ≤ p.pths.length ∧ p.pths.length ≤ 2 := by cases p <;> exact ⟨Nat.le_of_ble_eq_true rfl, Nat.le_of_ble_eq_true rfl⟩
theorem Pth.In.list {P : Led} {p : Pth} {a : Addr} (h : p.In P a) : ∃ (n : Nat) (us : List Value), (a, W.listOf us.toArray n) ∈ P ∧ us.length = p.els.length ∧ ∀ (i : Nat) u, us[i]? = some u → ∃ e, p.els[i]? = some e ∧ e.In P u := by
  cases p with
  | one x =>
    obtain ⟨n, u, h1, h2⟩ := h
    refine ⟨n, [u], h1, rfl, fun i v hv => ?_⟩
    match i, hv with
    | 0, hv => cases hv; exact ⟨x, rfl, h2⟩
  | two x y =>
    obtain ⟨n, u, v, h1, h2, h3⟩ := h
    refine ⟨n, [u, v], h1, rfl, fun i v hv => ?_⟩
    match i, hv with
    | 0, hv => cases hv; exact ⟨x, rfl, h2⟩
    | 1, hv => cases hv; exact ⟨y, rfl, h3⟩
  | thr x y z =>
    obtain ⟨n, u, v, r, h1, h2, h3, h4⟩ := h
    refine ⟨n, [u, v, r], h1, rfl, fun i v hv => ?_⟩
    match i, hv with
    | 0, hv => cases hv; exact ⟨x, rfl, h2⟩
    | 1, hv => cases hv; exact ⟨y, rfl, h3⟩
    | 2, hv => cases hv; exact ⟨z, rfl, h4⟩
theorem Ways.In.list {P : Led} {p : Ways} {a : Addr} (h : p.In P a) : ∃ (n : Nat) (us : List Value), (a, W.listOf us.toArray n) ∈ P ∧ us.length = p.pths.length ∧ ∀ (i : Nat) u, us[i]? = some u → ∃ e b, p.pths[i]? = some e ∧ u = .ref b ∧ e.In P b := by
  cases p with
  | one x =>
    obtain ⟨n, u, h1, h2⟩ := h
    refine ⟨n, [.ref u], h1, rfl, fun i v hv => ?_⟩
    match i, hv with
    | 0, hv => cases hv; exact ⟨x, u, rfl, rfl, h2⟩
  | two x y =>
    obtain ⟨n, u, v, h1, h2, h3⟩ := h
    refine ⟨n, [.ref u, .ref v], h1, rfl, fun i w hv => ?_⟩
    match i, hv with
    | 0, hv => cases hv; exact ⟨x, u, rfl, rfl, h2⟩
    | 1, hv => cases hv; exact ⟨y, v, rfl, rfl, h3⟩
theorem Pth.ok_el {p : Pth} (h : p.ok) {i : Nat} {e : El} (he : p.els[i]? = some e) : e.okd := by
  cases p with
  | one x => match i, he with
    | 0, he => cases he; exact h
  | two x y => match i, he with
    | 0, he => cases he; exact h.1
    | 1, he => cases he; exact .inr h.2
  | thr x y z => match i, he with
    | 0, he => cases he; exact h.1
    | 1, he => cases he; exact .inr h.2.1
    | 2, he => cases he; exact .inr h.2.2
theorem Pth.dep_el {p : Pth} {i : Nat} {e : El} (he : p.els[i]? = some e) : e.dep ≤ p.dep := by
  cases p with
  | one x => match i, he with
    | 0, he => cases he; exact Nat.le_refl _
  | two x y => match i, he with
    | 0, he => cases he; simp only [Pth.dep]; omega
    | 1, he => cases he; simp only [Pth.dep]; omega
  | thr x y z => match i, he with
    | 0, he => cases he; simp only [Pth.dep]; omega
    | 1, he => cases he; simp only [Pth.dep]; omega
    | 2, he => cases he; simp only [Pth.dep]; omega
theorem Ways.ok_el {p : Ways} (h : p.ok) {i : Nat} {e : Pth} (he : p.pths[i]? = some e) : e.ok := by
  cases p with
  | one x => match i, he with
    | 0, he => cases he; exact h
  | two x y => match i, he with
    | 0, he => cases he; exact h.1
    | 1, he => cases he; exact h.2
theorem Ways.dep_el {p : Ways} {i : Nat} {e : Pth} (he : p.pths[i]? = some e) : e.dep ≤ p.dep := by
  cases p with
  | one x => match i, he with
    | 0, he => cases he; exact Nat.le_refl _
  | two x y => match i, he with
    | 0, he => cases he; simp only [Ways.dep]; omega
    | 1, he => cases he; simp only [Ways.dep]; omega
end Mine
namespace Mine
theorem range_size (n : Nat) : Builtin.Range.rangeSize 0 (n : Int) 1 = (n : Int) := by
  unfold Builtin.Range.rangeSize
  simp only [Int.reduceLT, gt_iff_lt, if_true, Int.ediv_one]
  split <;> omega
theorem range_small (n : Nat) (h : n ≤ 100) : Builtin.Range.small 0 (n : Int) 1 = true := small_one (by decide) (by decide) (by omega) (by omega)
end Mine
namespace Mine
theorem Pth.made_of {w : World} {P : Led} {p : Pth} {l r : Addr} {us : List Value} {n : Nat} (ho : PathObj w P l (.ref r)) (hl : (l, W.listOf us.toArray n) ∈ P) (hlen : us.length = p.els.length)
    (hm : ∀ (i : Nat) u, us[i]? = some u → ∃ e, p.els[i]? = some e ∧ e.Made w P u) : p.Made w P r := by
  obtain ⟨a, d, t, k, ha, h1, h2⟩ := ho
  obtain rfl := Value.ref.inj ha
  cases p with
  | one x =>
    match us, hlen with
    | [u], _ =>
      obtain ⟨e, he, h3⟩ := hm 0 u rfl
      cases he
      exact ⟨d, t, k, l, n, u, h1, h2, hl, h3⟩
  | two x y =>
    match us, hlen with
    | [u, v], _ =>
      obtain ⟨e, he, h3⟩ := hm 0 u rfl
      cases he
      obtain ⟨e, he, h4⟩ := hm 1 v rfl
      cases he
      exact ⟨d, t, k, l, n, u, v, h1, h2, hl, h3, h4⟩
  | thr x y z =>
    match us, hlen with
    | [u, v, q], _ =>
      obtain ⟨e, he, h3⟩ := hm 0 u rfl
      cases he
      obtain ⟨e, he, h4⟩ := hm 1 v rfl
      cases he
      obtain ⟨e, he, h5⟩ := hm 2 q rfl
      cases he
      exact ⟨d, t, k, l, n, u, v, q, h1, h2, hl, h3, h4, h5⟩
theorem Ways.made_of {w : World} {P : Led} {p : Ways} {l r : Addr} {us : List Value} {n : Nat} (ho : SeqObj w P l (.ref r)) (hl : (l, W.listOf us.toArray n) ∈ P) (hlen : us.length = p.pths.length)
    (hm : ∀ (i : Nat) u, us[i]? = some u → ∃ e b, p.pths[i]? = some e ∧ u = .ref b ∧ e.Made w P b) : p.Made w P r := by
  obtain ⟨a, d, t, k, ha, h1, h2⟩ := ho
  obtain rfl := Value.ref.inj ha
  cases p with
  | one x =>
    match us, hlen with
    | [u], _ =>
      obtain ⟨e, b, he, rfl, h3⟩ := hm 0 u rfl
      cases he
      exact ⟨d, t, k, l, n, b, h1, h2, hl, h3⟩
  | two x y =>
    match us, hlen with
    | [u, v], _ =>
      obtain ⟨e, b, he, rfl, h3⟩ := hm 0 u rfl
      cases he
      obtain ⟨e, c, he, rfl, h4⟩ := hm 1 v rfl
      cases he
      exact ⟨d, t, k, l, n, b, c, h1, h2, hl, h3, h4⟩
mutual
theorem El.Made.mono {w : World} {P P' : Led} (k : ∀ p ∈ P, p ∈ P') : ∀ (e : El) (v : Value), e.Made w P v → e.Made w P' v
  | .nav x c f, v => by simp only [El.Made]; rintro ⟨a, d, t1, t2, t3, t4, t5, n, fv, ev, h1, h2, h3, h4⟩; exact ⟨a, d, t1, t2, t3, t4, t5, n, fv, ev, h1, k _ h2, k _ h3, h4⟩
  | .par x, v => by simp only [El.Made]; rintro ⟨a, d, t1, t2, n, h1, h2, h3⟩; exact ⟨a, d, t1, t2, n, h1, k _ h2, k _ h3⟩
  | .dots x, v => by simp only [El.Made]; rintro ⟨a, d, t1, t2, n, h1, h2, h3⟩; exact ⟨a, d, t1, t2, n, h1, k _ h2, k _ h3⟩
  | .br ws, v => by simp only [El.Made]; rintro ⟨a, d, t1, n, q, h1, h2, h3, h4⟩; exact ⟨a, d, t1, n, q, h1, k _ h2, k _ h3, Ways.Made.mono k ws q h4⟩
  | .st ws, v => by simp only [El.Made]; rintro ⟨a, d, t1, n, b, d2, t2, n2, q, h1, h2, h3, h4, h5, h6⟩; exact ⟨a, d, t1, n, b, d2, t2, n2, q, h1, k _ h2, k _ h3, k _ h4, k _ h5, Ways.Made.mono k ws q h6⟩
theorem Ways.Made.mono {w : World} {P P' : Led} (k : ∀ p ∈ P, p ∈ P') : ∀ (e : Ways) (a : Addr), e.Made w P a → e.Made w P' a
  | .one p, a => by simp only [Ways.Made]; rintro ⟨d, t, n, l, c, p', h1, h2, h3, h4⟩; exact ⟨d, t, n, l, c, p', k _ h1, k _ h2, k _ h3, Pth.Made.mono k p p' h4⟩
  | .two p q, a => by simp only [Ways.Made]; rintro ⟨d, t, n, l, c, p', q', h1, h2, h3, h4, h5⟩; exact ⟨d, t, n, l, c, p', q', k _ h1, k _ h2, k _ h3, Pth.Made.mono k p p' h4, Pth.Made.mono k q q' h5⟩
theorem Pth.Made.mono {w : World} {P P' : Led} (k : ∀ p ∈ P, p ∈ P') : ∀ (e : Pth) (a : Addr), e.Made w P a → e.Made w P' a
  | .one x, a => by simp only [Pth.Made]; rintro ⟨d, t, n, l, c, u, h1, h2, h3, h4⟩; exact ⟨d, t, n, l, c, u, k _ h1, k _ h2, k _ h3, El.Made.mono k x u h4⟩
  | .two x y, a => by simp only [Pth.Made]; rintro ⟨d, t, n, l, c, u, v, h1, h2, h3, h4, h5⟩; exact ⟨d, t, n, l, c, u, v, k _ h1, k _ h2, k _ h3, El.Made.mono k x u h4, El.Made.mono k y v h5⟩
  | .thr x y z, a => by simp only [Pth.Made]; rintro ⟨d, t, n, l, c, u, v, r, h1, h2, h3, h4, h5, h6⟩; exact ⟨d, t, n, l, c, u, v, r, k _ h1, k _ h2, k _ h3, El.Made.mono k x u h4, El.Made.mono k y v h5, El.Made.mono k z r h6⟩
end
end Mine
end
end
section
local macro_rules | `(tactic| k_all) => `(tactic| assumption)
local macro_rules | `(tactic| k_mem) => `(tactic| first
  | with_reducible assumption
  | exact List.Mem.head _
  | ((with_reducible refine List.mem_cons_of_mem _ ?_); k_mem)
  | ((with_reducible refine List.mem_append.mpr (Or.inr ?_)); k_mem)
  | ((with_reducible refine List.mem_append.mpr (Or.inl ?_)); k_mem))
local macro_rules | `(tactic| k_room) => `(tactic| ((try simp only [depth_under_make, depth_under_kw, depth_in1, depth_deeper, depth_caller]); (try dsimp only); omega))
local macro_rules | `(tactic| k_units) => `(tactic| ((try simp only [units_under_make, units_in1, units_deeper, Around.mark_units, units_caller]); (try dsimp only); omega))
local macro_rules | `(tactic| walk_at "subscriptTail") => `(tactic| (k_here; (with_reducible show wpAny _ _ (subscriptTail _ _ (Value.ref _) (Value.int _ _)) _ _ _); k_dflt ((show wpAny _ _ (subscriptTail _ _ (Value.ref 433) (Value.int _ _)) _ _ _); refine' Mine.menu_K Mine.IsWord ?F ?X ?l ?a ?b ?f ?c ?_ ?hs; (case hs => with_unfolding_all rfl); (case F => k_asm); (case X => k_asm); (case l => k_is); (case a => omega); (case b => exact Int.lt_of_lt_of_le (by assumption) (by decide)); (case f => decide); (case c => exact List.forall_mem_cons.mpr ⟨⟨_, _, rfl, by decide⟩, List.forall_mem_cons.mpr ⟨⟨_, _, rfl, by decide⟩, List.forall_mem_cons.mpr ⟨⟨_, _, rfl, by decide⟩, List.forall_mem_cons.mpr ⟨⟨_, _, rfl, by decide⟩, List.forall_mem_nil _⟩⟩⟩⟩); rintro _ ⟨wd', wt', hx', hw'⟩; subst hx')))
local macro_rules | `(tactic| walk_at "subscriptTail") => `(tactic| (k_here; (with_reducible show wpAny _ _ (subscriptTail _ _ (Value.ref _) (Value.int _ _)) _ _ _); k_dflt ((show wpAny _ _ (subscriptTail _ _ (Value.ref 434) (Value.int _ _)) _ _ _); refine' Mine.menu_K Mine.IsFixed ?F ?X ?l ?a ?b ?f ?c ?_ ?hs; (case hs => with_unfolding_all rfl); (case F => k_asm); (case X => k_asm); (case l => k_is); (case a => omega); (case b => exact Int.lt_of_lt_of_le (by assumption) (by decide)); (case f => decide); (case c => exact List.forall_mem_cons.mpr ⟨⟨_, _, rfl, by decide⟩, List.forall_mem_cons.mpr ⟨⟨_, _, rfl, by decide⟩, List.forall_mem_cons.mpr ⟨⟨_, _, rfl, by decide⟩, List.forall_mem_cons.mpr ⟨⟨_, _, rfl, by decide⟩, List.forall_mem_nil _⟩⟩⟩⟩); rintro _ ⟨wd', wt', hx', hw'⟩; subst hx')))
local macro_rules | `(tactic| walk_at "subscriptTail") => `(tactic| (k_here; (with_reducible show wpAny _ _ (subscriptTail _ _ (Value.ref _) (Value.int _ _)) _ _ _); k_dflt ((show wpAny _ _ (subscriptTail _ _ (Value.ref 435) (Value.int _ _)) _ _ _); refine' Mine.menu_K Mine.IsKind ?F ?X ?l ?a ?b ?f ?c ?_ ?hs; (case hs => with_unfolding_all rfl); (case F => k_asm); (case X => k_asm); (case l => k_is); (case a => omega); (case b => exact Int.lt_of_lt_of_le (by assumption) (by decide)); (case f => decide); (case c => exact List.forall_mem_cons.mpr ⟨⟨_, _, rfl, by decide⟩, List.forall_mem_cons.mpr ⟨⟨_, _, rfl, by decide⟩, List.forall_mem_nil _⟩⟩); rintro _ ⟨wd', wt', hx', hw'⟩; subst hx')))
local macro_rules | `(tactic| walk_at "enter") => `(tactic| ((case kA => exact rfl); (case kF => exact rfl); (case kK => first | exact rfl | assumption); (case k6 => k_is); (case k7 => k_is); (case k8 => k_room); (case k9 => exact BindsTo.of_eq rfl); (case c5 => decide); (case kB => exact locs rfl); (case c2 => exact rfl); (case c3 => exact rfl); (case c4 => exact rfl); k_whole))
local macro_rules | `(tactic| walk_at "begin") => `(tactic| ((try dsimp only); (try k_unmd); (try k_fold)))
local macro_rules | `(tactic| walk_at "enterC") => `(tactic| ((case kA => exact rfl); (case kF => exact rfl); (case kK => first | exact rfl | assumption); (case k6 => k_is); (case k7 => k_is); (case k8 => k_room); (case k9 => exact BindsTo.of_eq rfl); (case kB => exact rfl); (case kD => decide +kernel); (case c2 => exact rfl); (case c3 => exact rfl); (case c4 => exact rfl); k_whole))
local macro_rules | `(tactic| walk_at "ite") => `(tactic| first | (exfalso; omega) | (with_reducible refine Mine.if_pos' (by first | omega | decide | (simp only [beq_iff_eq, bne_iff_ne, ne_eq, decide_eq_true_eq, not_true_eq_false, not_false_eq_true]; done) | (simp only [beq_iff_eq, bne_iff_ne, ne_eq, decide_eq_true_eq]; omega)) ?_) | (with_reducible refine Mine.if_neg' (by first | omega | decide | (simp only [beq_iff_eq, bne_iff_ne, ne_eq, decide_eq_true_eq, not_true_eq_false, not_false_eq_true]; done) | (simp only [beq_iff_eq, bne_iff_ne, ne_eq, decide_eq_true_eq]; omega)) ?_) | ((with_reducible refine Mine.if_both ?_ ?_) <;> (intro hc'; (try simp only [beq_iff_eq, bne_iff_ne, ne_eq, decide_eq_true_eq, Bool.not_eq_true, beq_eq_false_iff_ne, bne_eq_false_iff_eq, decide_eq_false_iff_not, Decidable.not_not] at hc'))))
local macro_rules | `(tactic| walk_at "wpAt") => `(tactic| (ks_step "exec Expr"; k_dflt (refine ks_wpAt_Expr_any ?_)))
local macro_rules | `(tactic| walk_at "wpAt") => `(tactic| (ks_step "eval Call"; k_dflt (refine ks_wpAt_MethodCall ?_)))
local macro_rules | `(tactic| walk_at "callWith ref") => `(tactic| (k_here; k_dflt (first
  | ((with_reducible refine' callWith_K0 ?k1 ?k2 ?_); (case k1 => exact Frag.In.keeps (by with_reducible assumption) (Fr.keep (by with_reducible assumption))); (case k2 => k_is); k_whole)
  | ((with_reducible refine' callWith_K ?k1 ?k2 ?_ ?k3 ?k4); (case k3 => exact rfl); (case k4 => exact rfl); (case k1 => with_reducible assumption); (case k2 => k_is); k_whole))))
local macro_rules | `(tactic| walk_at "eval Name") => `(tactic| (k_here; k_dflt (first
  | ((with_reducible refine' Mine.nameO_L ?F ?v ?_ ?a ?b ?d); (case b => rfl); (case F => k_asm); (case a => rfl); (case d => decide); (case v => rfl); k_whole)
  | ((with_reducible refine' Mine.nameO_K ?F ?X ?T ?e ?_ ?a ?b ?d); (case b => rfl); (case F => k_asm); (case X => k_asm); (case T => k_asm); (case a => rfl); (case d => decide); (case e => k_is); k_whole)
  | ((with_reducible refine' Mine.nameO_B ?F ?X ?T ?e ?v ?n ?_ ?a ?b ?d); (case b => rfl); (case F => k_asm); (case X => k_asm); (case T => k_asm); (case a => rfl); (case d => decide); (case e => k_is); (case v => boot_fast); (case n => decide); k_whole)
  | ((with_reducible refine' nameX_L ?F ?v ?_ ?a ?b); (case b => rfl); (case F => k_asm); (case a => rfl); (case v => rfl); k_whole)
  | ((with_reducible refine' nameX_K ?F ?X ?T ?e ?_ ?a ?b); (case b => rfl); (case F => k_asm); (case X => k_asm); (case T => k_asm); (case a => rfl); (case e => k_is); k_whole)
  | ((with_reducible refine' nameX_B ?F ?X ?T ?e ?v ?n ?_ ?a ?b); (case b => rfl); (case F => k_asm); (case X => k_asm); (case T => k_asm); (case a => rfl); (case e => k_is); (case v => boot_fast); (case n => decide); k_whole))))
local macro_rules | `(tactic| walk_at "ap") => `(tactic| first
  | exact List.forall_mem_nil _
  | assumption
  | exact Mine.allLt_ne (by tbn_find)
  | exact Mine.ap_lt (by assumption)
  | exact Mine.ap_lt2 (by assumption) (by assumption)
  | exact Mine.ap_lt2 (by assumption) (Mine.allLt_mem (by tbn_find))
  | exact Mine.ap_memLt (by assumption) (by intro q9 h9; k_mem)
  | exact Mine.off1_mem (by first | assumption | exact And.left (by assumption) | exact And.right (by assumption))
  | ((refine List.forall_mem_cons.mpr ⟨?_, ?_⟩); (focus (try dsimp only); first | assumption | k_ne | exact Ne.symm (by assumption) | exact Mine.ne_lt2 (by assumption) (by tbn_find) | exact Ne.symm (Mine.ne_memLt (by assumption) (by k_mem))); walk_at "ap")
  | ((refine List.forall_mem_append.mpr ⟨?_, ?_⟩) <;> walk_at "ap")
  | fail "ap: no order")
local macro_rules | `(tactic| walk_at "ord") => `(tactic| first
  | exact List.forall_mem_nil _
  | assumption
  | ((refine List.forall_mem_cons.mpr ⟨?_, ?_⟩); (focus walk_at "ap"); walk_at "ord")
  | exact Mine.aps (by assumption) (by intro q9 h9; k_mem)
  | exact Mine.aps2 (by assumption) (by k_mem) (by intro q9 h9; k_mem)
  | ((refine List.forall_mem_append.mpr ⟨?_, ?_⟩) <;> walk_at "ord")
  | fail "ord")
local macro_rules | `(tactic| walk_at "sub") => `(tactic| (intro q9 h9; simp only [List.mem_append, List.mem_cons, List.not_mem_nil, or_false, false_or, List.nil_append, List.cons_append] at h9 ⊢; first | exact h9 | grind))
local macro_rules | `(tactic| walk_at "eval ListComp") => `(tactic| (k_here; k_dflt (refine LCg.ListComp_U (F₀ := by k_asm) (by with_unfolding_all rfl) (by decide) (by rfl) (by decide) (by rfl) ?_)))
local macro_rules | `(tactic| walk_at "CompSrc") => `(tactic| (k_here; k_dflt (first
  | (refine LCg.CompSrc.ledger (by rfl) (by k_asm) (by k_asm) (by k_mem) (by first | size_fits | exact Nat.le_of_ble_eq_true rfl) ?_; intro g'; lcg_lit)
  | (refine LCg.CompSrc.range (by rfl) (by k_asm) (by k_asm) (by assumption) (by first | decide | rfl) (by first | rfl | decide) (by first | size_fits | exact Nat.le_of_ble_eq_true rfl) ?_; intro g'; lcg_lit))))
local macro_rules | `(tactic| walk_at "compareOp Eq ref ref") => `(tactic| (k_here; k_dflt ((first | (with_reducible refine' Mine.up_eq ?N ?he ?ok ?dp ?m1 ?m2 ?m3 ?m4 ?hu ?_) | (refine' Mine.up_eq ?N ?he ?ok ?dp ?m1 ?m2 ?m3 ?m4 ?hu ?_)); (case N => k_asm); (case he => (refine Mine.El.In.mono ?hs9 _ _ (by assumption); (case hs9 => (intro q9 h9; k_mem)))); (case ok => first | assumption | exact Or.inr (by assumption)); (case dp => omega); (case m1 => k_mem); (case m2 => k_mem); (case m3 => k_mem); (case m4 => k_mem); (case hu => k_units); k_whole)))
local macro_rules | `(tactic| walk_at "call ref") => `(tactic| (k_here; (show wpAny _ _ (call (Value.ref 466) _) _ _ _); k_dflt (first | (refine' Mine.new_turn ((by assumption : Mine.MadeSpec _ _) _ _ ?ok ?dp) ?B ?F ?X ?TG ?N ?sub ?T ?hk ?hd ?hu ?pre ?off ?hS ?_; (case B => k_asm); (case F => k_asm); (case X => k_asm); (case TG => k_asm); (case N => k_asm); (case sub => (intro q9 h9; k_mem)); (case T => k_asm); (case hk => first | exact rfl | assumption); (case pre => (refine Mine.El.In.mono ?hs9 _ _ (by assumption); (case hs9 => (intro q9 h9; k_mem)))); (case ok => first | assumption | exact Or.inr (by assumption)); (case dp => omega); (case hd => (unfold Mine.dM; k_room)); (case hu => (unfold Mine.uM; k_units)); (case off => first | assumption | (simp only [LCg.Off3, and_true]; assumption)); (case hS => exact fun _ => trivial); k_whole; (intro r' tl' ht' hoff' hp'); (try dsimp only)) | (refine Mine.hold ?_))))
local macro_rules | `(tactic| walk_at "subscriptTail") => `(tactic| (k_here; (with_reducible show wpAny _ _ (subscriptTail _ _ (Value.ref _) (Value.int _ _)) _ _ _); k_dflt (first | ((first | (with_reducible refine' Mine.item_led0 ?l ?_ ?hs) | (refine' Mine.item_led0 ?l ?_ ?hs)); (case l => exact News.isList (by k_asm) (by k_mem)); (case hs => with_unfolding_all rfl); k_whole) | ((first | (with_reducible refine' Mine.item_led1 ?l ?_ ?hs) | (refine' Mine.item_led1 ?l ?_ ?hs)); (case l => exact News.isList (by k_asm) (by k_mem)); (case hs => with_unfolding_all rfl); k_whole) | ((first | (with_reducible refine' Mine.item_led2 ?l ?_ ?hs) | (refine' Mine.item_led2 ?l ?_ ?hs)); (case l => exact News.isList (by k_asm) (by k_mem)); (case hs => with_unfolding_all rfl); k_whole))))
local macro_rules | `(tactic| walk_at "subscriptTail") => `(tactic| ((with_reducible show wpAny _ _ (subscriptTail _ _ _ (Value.int (0 + (Nat.cast _ : Int)) _)) _ _ _); k_dflt (first | refine Mine.sub_int (j := 0) (by decide) ?_ | refine Mine.sub_int (j := 1) (by decide) ?_ | refine Mine.sub_int (j := 2) (by decide) ?_)))
local macro_rules | `(tactic| walk_at "CompEnd") => `(tactic| (k_here; k_dflt (refine' Mine.compEnd_cut ?F ?N ?sub ?off ?hS ?_; (case F => k_asm); (case N => k_asm); (case sub => (intro q9 h9; k_mem)); (case off => first | assumption | (simp only [LCg.Off3, and_true]; assumption)); (case hS => trivial); k_whole)))
local macro_rules | `(tactic| walk_at "neq") => `(tactic| ((try dsimp only); first | assumption | k_ne | exact Mine.ne_allLt (by first | assumption | exact And.left (by assumption) | exact (And.right (by assumption)) | tbn_find) (by k_mem) | exact Mine.ne_memLt (by assumption) (by k_mem)))
local macro_rules | `(tactic| walk_at "tabs") => `(tactic| first | assumption | (refine Mine.TabsG.keeps ?_ (Fr.keep (by assumption)); walk_at "tabs"))
local macro_rules | `(tactic| walk_at "call ref") => `(tactic| (k_here; (show wpAny _ _ (call (Value.ref 302) _) _ _ _); k_dflt ((first | (with_reducible refine' Mine.Calls.use0 (Mine.mkSeq _ _) ?B ?F ?X ?TG ?N ?T ?hk ?hd ?hu ?pre ?_) | (refine' Mine.Calls.use0 (Mine.mkSeq _ _) ?B ?F ?X ?TG ?N ?T ?hk ?hd ?hu ?pre ?_)); (case B => k_asm); (case F => k_asm); (case X => k_asm); (case TG => walk_at "tabs"); (case N => k_asm); (case T => k_asm); (case hk => first | exact rfl | assumption); (case hd => k_room); (case hu => k_units); (case pre => exact True.intro); k_whole; (rintro _ tl' h' tk' F' N' ht' ⟨a', d', t', n', hr', m1', m2'⟩); subst hr'; (try dsimp only))))
local macro_rules | `(tactic| walk_at "call ref") => `(tactic| (k_here; (show wpAny _ _ (call (Value.ref 402) _) _ _ _); k_dflt ((first | (with_reducible refine' Mine.Calls.use0 (Mine.mkPath _ _ _ _ _) ?B ?F ?X ?TG ?N ?T ?hk ?hd ?hu ?pre ?_) | (refine' Mine.Calls.use0 (Mine.mkPath _ _ _ _ _) ?B ?F ?X ?TG ?N ?T ?hk ?hd ?hu ?pre ?_)); (case B => k_asm); (case F => k_asm); (case X => k_asm); (case TG => walk_at "tabs"); (case N => k_asm); (case T => k_asm); (case hk => first | exact rfl | assumption); (case hd => k_room); (case hu => k_units); (case pre => exact ⟨by k_mem, by first | assumption | exact ⟨_, _, _, _, _, rfl, by k_mem, by k_mem, by first | assumption | exact Mine.elCls_dots _ | exact Mine.elCls_nav _ | exact Mine.elCls_par _⟩⟩); k_whole; (rintro _ tl' h' tk' F' N' ht' ⟨a', d', t', n', hr', m1', m2'⟩); subst hr'; (try dsimp only))))
local macro_rules | `(tactic| walk_at "call ref") => `(tactic| (k_here; (show wpAny _ _ (call (Value.ref 203) _) _ _ _); k_dflt ((first | (with_reducible refine' Mine.Calls.use0 (Mine.mkBr _ _ _ _ _) ?B ?F ?X ?TG ?N ?T ?hk ?hd ?hu ?pre ?_) | (refine' Mine.Calls.use0 (Mine.mkBr _ _ _ _ _) ?B ?F ?X ?TG ?N ?T ?hk ?hd ?hu ?pre ?_)); (case B => k_asm); (case F => k_asm); (case X => k_asm); (case TG => walk_at "tabs"); (case N => k_asm); (case T => k_asm); (case hk => first | exact rfl | assumption); (case hd => k_room); (case hu => k_units); (case pre => exact ⟨by k_mem, by k_mem⟩); k_whole; (rintro _ tl' h' tk' F' N' ht' ⟨a', d', t', n', hr', m1', m2'⟩); subst hr'; (try dsimp only))))
local macro_rules | `(tactic| walk_at "call ref") => `(tactic| (k_here; (show wpAny _ _ (call (Value.ref 352) _) _ _ _); k_dflt ((first | (with_reducible refine' Mine.Calls.use0 (Mine.mkSt _ _ _ _ _) ?B ?F ?X ?TG ?N ?T ?hk ?hd ?hu ?pre ?_) | (refine' Mine.Calls.use0 (Mine.mkSt _ _ _ _ _) ?B ?F ?X ?TG ?N ?T ?hk ?hd ?hu ?pre ?_)); (case B => k_asm); (case F => k_asm); (case X => k_asm); (case TG => walk_at "tabs"); (case N => k_asm); (case T => k_asm); (case hk => first | exact rfl | assumption); (case hd => k_room); (case hu => k_units); (case pre => exact ⟨by k_mem, by k_mem⟩); k_whole; (rintro _ tl' h' tk' F' N' ht' ⟨a', d', t', n', hr', m1', m2'⟩); subst hr'; (try dsimp only))))
local macro_rules | `(tactic| walk_at "offl") => `(tactic| first
  | exact List.forall_mem_nil _
  | assumption
  | exact Mine.offl_of (by assumption) (by k_mem)
  | exact Mine.ap_lt (by assumption)
  | exact Mine.allLt_ne (by tbn_find)
  | ((refine List.forall_mem_cons.mpr ⟨?_, ?_⟩); (focus walk_at "neq"); walk_at "offl")
  | ((refine List.forall_mem_append.mpr ⟨?_, ?_⟩) <;> walk_at "offl"))
local macro_rules | `(tactic| walk_at "front") => `(tactic| (repeat first | with_reducible exact Mine.Front.nil | with_reducible apply Mine.Front.cons | with_reducible apply Mine.Front.app))
local macro_rules | `(tactic| walk_at "del") => `(tactic| (repeat first | with_reducible exact Mine.Del.head | with_reducible apply Mine.Del.cons | with_reducible apply Mine.Del.app))
local macro_rules | `(tactic| walk_at "upd") => `(tactic| first
  | (with_reducible apply Upd.head; walk_at "offl")
  | ((with_reducible apply Upd.tail); (focus walk_at "neq"); walk_at "upd")
  | ((with_reducible apply Mine.upd_app); (focus walk_at "offl"); walk_at "upd"))
local macro_rules | `(tactic| k_upd) => `(tactic| walk_at "upd")
section
local macro_rules | `(tactic| walk_at "subscriptTail") => `(tactic| (k_here; (with_reducible show wpAny _ _ (subscriptTail _ _ (Value.ref _) (Value.int _ _)) _ _ _); k_dflt (first | (refine' Mine.item_ledI ?l ?k ?i (by assumption) ?_ ?hs; (case l => exact News.isList (by k_asm) (by k_mem)); (case k => exact Int.zero_add _); (case i => omega); (case hs => with_unfolding_all rfl); k_whole) | (refine Mine.hold ?_))))
local macro_rules | `(tactic| walk_at "call builtin:len") => `(tactic| (k_here; (with_reducible show wpAny _ _ (call (Value.builtin "len") [Value.ref _]) _ _ _); k_dflt (refine' len_list ?l ?z ?_; (case l => exact News.isList (by k_asm) (by k_mem)); (case z => (rw [List.size_toArray]; omega)); k_whole)))
local macro_rules | `(tactic| walk_at "call ref") => `(tactic| (k_here; (show wpAny _ _ (call (Value.ref 402) _) _ _ _); (refine Mine.hold ?_)))
local macro_rules | `(tactic| walk_at "CompSrc") => `(tactic| (refine Mine.hold ?_))
namespace Mine
theorem seq_of (w : World) (n : Nat) (hn : n ≤ 16) (Hm : MadeSpec w n) : SeqSpec w n := by
  unfold SeqSpec
  intro e l hok hdep
  unfold Calls
  w_top off
  k_fill
  intro p loose mean mg mb dp un gd cn cs a ccd cl outer A₀ base h₀ L m news s Q E B F X TG N T hcs hd hu hoff hpre hret
  have hd' : dp + (60 * n + 50) < recursionLimit := hd
  have hu' : un + (400 * n + 400) < cLine := hu
  have hcode := TG.t1
  simp only [List.nil_append] at N
  refine wpAny_call ?_
  k_dflt (refine' code_def (binds := [("paths", .ref l)]) B F X N T ?kA ?kF ?kK ?k6 ?k7 ?k8 ?k9 ?kB ?_ ?c2 ?c3 ?c4 ?c5)
  walk_at "enter"
  intro g' L' h' FG' F' N' B' X' T'
  have TG' := TG.keeps FG'.keep
  have hcode' := TG'.t1
  walk_at "begin"
  obtain ⟨nl, its, hl, hlen, hits⟩ := Ways.In.list hpre
  have hplen := e.pths_len
  k_steps
  k_dflt (refine Mine.ListComp_cell F' (by with_unfolding_all rfl) (fun _ => rfl) (fun _ => rfl) rfl (by decide) rfl ?_)
  k_steps
  unfold CellSrc
  refine ⟨_, _, _, _, rfl, rfl, by k_asm, by k_asm, hl, ?_, fun g1 => ?_⟩
  · show its.toArray.size ≤ sizeLine
    rw [List.size_toArray]
    exact Nat.le_trans (by omega : its.length ≤ 2) (Nat.le_of_ble_eq_true rfl)
  refine Mine.cellRest_fold (fun i tl y => ∃ p r, e.pths[i]? = some p ∧ y = .ref r ∧ p.Made w tl r) ?mono hl ?step ?fin
  case mono => exact fun i tl tl' y hs ⟨p, r, h1, h2, h3⟩ => ⟨p, r, h1, h2, Pth.Made.mono hs _ _ h3⟩
  case step =>
    intro i v ns ys I oI C oC D XX oX hh tk E' hsub hv hX F1 N1 off1 lt1
    obtain ⟨p1, a1, hp1, rfl, hin⟩ := hits i v (by simpa using hv)
    obtain ⟨n1, us, hl1, hlen1, hus⟩ := Pth.In.list hin
    have hok1 := Ways.ok_el hok hp1
    have hdep1 := Ways.dep_el hp1
    have hplen1 := p1.els_len
    have hl1' := hsub _ hl1
    clear F N F' N' hpre hl
    k_steps
    unfold Hold
    refine LCg.CompSrc.range (n := us.length) (by rfl) (by k_asm) (by k_asm) (by assumption) (range_small _ (by omega)) (range_size _) (Nat.le_trans (by omega : us.length ≤ 100) (Nat.le_of_ble_eq_true rfl)) (fun g2 => ?_)
    refine Mine.compRest_fold (fun i tl y => ∃ e, p1.els[i]? = some e ∧ ((i = 0 ∧ e.isUp = true ∧ ∃ t, y = .str "^" t) ∨ (¬ (i = 0 ∧ e.isUp = true) ∧ e.Made w tl y))) ?mono2 ?step2 ?fin2
    case mono2 => exact fun i tl tl' y hs ⟨e, h1, h2⟩ => ⟨e, h1, h2.imp id fun h3 => ⟨h3.1, El.Made.mono hs _ _ h3.2⟩⟩
    case step2 =>
      intro j v ns2 ys2 I2 oI2 C2 oC2 D2 m2 h2 tk2 E2 hj hsub2 hP hC2 hm2 F2 N2 off2 ne2
      obtain ⟨u, hu1⟩ : ∃ u, us[j]? = some u := ⟨_, List.getElem?_eq_getElem hj⟩
      obtain ⟨e1, he1, hin1⟩ := hus j u hu1
      have hok2 := Pth.ok_el hok1 he1
      have hdep2 := Pth.dep_el he1
      obtain ⟨b1, rfl⟩ := hin1.ref
      obtain ⟨t9, rfl⟩ := hP
      have hsub3 : ∀ q ∈ ns, q ∈ ns2 := fun q hq => hsub2 q (.tail _ (.tail _ (.tail _ (.tail _ hq))))
      have hl2 := hsub3 _ hl1'
      have mX2 : (XX, oX) ∈ ns2 := hsub2 _ (.tail _ (.tail _ (.tail _ (.head _))))
      have hin2 : e1.In ns2 (.ref b1) := El.In.mono (fun q hq => hsub3 q (hsub q hq)) _ _ hin1
      clear hin1 hl1' hin
      k_steps
      · exact ⟨[], rfl, List.forall_mem_nil _, e1, he1, .inl ⟨by omega, by assumption, _, rfl⟩⟩
      · rename_i r' tl' ht' hoff' hp'
        exact ⟨tl', rfl, aps ht' (fun q hq => .tail _ (.tail _ (.tail _ hq))), e1, he1, .inr ⟨fun h => by first | exact absurd h.2 (by assumption) | exact Bool.noConfusion (h.2.symm.trans (by assumption)), hp'⟩⟩
      · rename_i r' tl' ht' hoff' hp'
        exact ⟨tl', rfl, aps ht' (fun q hq => .tail _ (.tail _ (.tail _ hq))), e1, he1, .inr ⟨fun h => by omega, hp'⟩⟩
    case fin2 =>
      intro ys3 tl3 hlen3 hpost3 hap3 D3 h3 tk3 F3 N3 o3
      obtain ⟨y0, r0, rfl⟩ : ∃ y0 r0, ys3 = y0 :: r0 := by
        cases ys3 with
        | nil => simp only [List.length_nil] at hlen3; omega
        | cons a b => exact ⟨a, b, rfl⟩
      obtain ⟨e0, he0, hcase⟩ := hpost3 0 y0 rfl
      have o3' := off1_mem o3
      rcases hcase with ⟨_, hup, t0, rfl⟩ | ⟨hnup, hmade⟩
      · k_steps
        unfold Hold
        refine Calls.use (Mine.mkUp w D3 t0 r0 _) (tl3 ++ ((I, oI) :: (C, oC) :: (D, LCg.lst ys) :: (XX, oX) :: ns)) (by k_asm) F3 X' TG' N3 T' rfl (by k_room) (by k_units) (fun q hq => hq) (Mine.off1 o3') trivial ?_
        rintro r mu' tl h4 tk4 F4 N4 hap4 hmu4 ⟨v, n2, rfl, hv, hpo⟩
        obtain ⟨pa, d4, t4, n4, rfl, ho1, ho2⟩ := hpo
        have e0' := El.isUp_eq hup
        subst e0'
        refine ⟨h4, tk4, tl ++ ([(D3, W.listOf (v :: r0).toArray n2)] ++ tl3), rfl, F4, by simpa only [List.append_assoc, List.cons_append, List.nil_append] using N4, ?_, p1, pa, hp1, rfl, ?_⟩
        · refine List.forall_mem_append.mpr ⟨fun q hq z hz => hap4 q hq z (List.mem_append.mpr (.inr (List.mem_append.mpr (.inr hz)))), List.forall_mem_append.mpr ⟨List.forall_mem_cons.mpr ⟨fun z hz => o3' z (List.mem_append.mpr (.inr hz)), List.forall_mem_nil _⟩, hap3⟩⟩
        · refine Pth.made_of (l := D3) (us := v :: r0) (n := n2) ⟨pa, d4, t4, n4, rfl, List.mem_append.mpr (.inl ho1), List.mem_append.mpr (.inl ho2)⟩ (List.mem_append.mpr (.inr (.head _))) (by rw [← hlen1, ← hlen3]; rfl) fun i u hu => ?_
          cases i with
          | zero =>
            cases hu
            exact ⟨_, he0, El.Made.mono (fun q hq => List.mem_append.mpr (.inl hq)) _ _ hv⟩
          | succ i =>
            obtain ⟨e4, he4, h5⟩ := hpost3 (i + 1) u hu
            rcases h5 with ⟨h5, _⟩ | ⟨_, h5⟩
            · exact absurd h5 (Nat.succ_ne_zero _)
            · exact ⟨e4, he4, El.Made.mono (fun q hq => List.mem_append.mpr (.inr (List.mem_append.mpr (.inr hq)))) _ _ h5⟩
      · k_steps
        unfold Hold
        refine Calls.use0 (Mine.mkPath w D3 y0 r0 _) (by k_asm) F3 X' TG' N3 T' rfl (by k_room) (by k_units) ⟨.head _, (El.Made.mono (fun q hq => List.mem_cons_of_mem _ (List.mem_append.mpr (.inl hq))) _ _ hmade).isElem⟩ ?_
        rintro r tl h4 tk4 F4 N4 hap4 hpo
        obtain ⟨pa, d4, t4, n4, rfl, ho1, ho2⟩ := hpo
        refine ⟨h4, tk4, tl ++ ([(D3, LCg.lst (y0 :: r0))] ++ tl3), rfl, F4, by simpa only [List.append_assoc, List.cons_append, List.nil_append] using N4, ?_, p1, pa, hp1, rfl, ?_⟩
        · refine List.forall_mem_append.mpr ⟨fun q hq z hz => hap4 q hq z (.tail _ (List.mem_append.mpr (.inr hz))), List.forall_mem_append.mpr ⟨List.forall_mem_cons.mpr ⟨fun z hz => o3' z (List.mem_append.mpr (.inr hz)), List.forall_mem_nil _⟩, hap3⟩⟩
        · refine Pth.made_of (l := D3) (us := y0 :: r0) ⟨pa, d4, t4, n4, rfl, List.mem_append.mpr (.inl ho1), List.mem_append.mpr (.inl ho2)⟩ (List.mem_append.mpr (.inr (.head _))) (by rw [← hlen1, ← hlen3]) fun i u hu => ?_
          cases i with
          | zero =>
            cases hu
            exact ⟨e0, he0, El.Made.mono (fun q hq => List.mem_append.mpr (.inr (List.mem_append.mpr (.inr hq)))) _ _ hmade⟩
          | succ i =>
            obtain ⟨e4, he4, h5⟩ := hpost3 (i + 1) u hu
            rcases h5 with ⟨h5, _⟩ | ⟨_, h5⟩
            · exact absurd h5 (Nat.succ_ne_zero _)
            · exact ⟨e4, he4, El.Made.mono (fun q hq => List.mem_append.mpr (.inr (List.mem_append.mpr (.inr hq)))) _ _ h5⟩
  case fin =>
    intro ys tl hyl hpost hap D hh tk F9 N9 o9
    k_steps
    rename_i tl' h' tk' F' N' ht' a' d' t' n' m1' m2' kF kN Tc kX
    have o9' := off1_mem o9
    refine hret _ [] (tl' ++ ([(D, LCg.lst ys)] ++ tl)) _ _ kF (by simpa only [List.append_assoc, List.cons_append, List.nil_append] using kN) ?_ rfl ⟨a', rfl, ?_⟩
    · exact List.forall_mem_append.mpr ⟨fun q hq z hz => ht' q hq z (.tail _ (List.mem_append.mpr (.inr hz))), List.forall_mem_append.mpr ⟨List.forall_mem_cons.mpr ⟨fun z hz => o9' z (List.mem_append.mpr (.inr hz)), List.forall_mem_nil _⟩, hap⟩⟩
    · refine Ways.made_of (l := D) (us := ys) ⟨a', d', t', n', rfl, List.mem_append.mpr (.inl m1'), List.mem_append.mpr (.inl m2')⟩ (List.mem_append.mpr (.inr (.head _))) (by rw [← hlen, hyl, List.size_toArray]) fun i u hu => ?_
      obtain ⟨p, r, h1, rfl, h2⟩ := hpost i u hu
      exact ⟨p, r, h1, rfl, Pth.Made.mono (fun q hq => List.mem_append.mpr (.inr (List.mem_append.mpr (.inr hq)))) _ _ h2⟩
end Mine
end
section
local macro_rules | `(tactic| walk_at "call builtin:isinstance") => `(tactic| (k_here; (with_reducible show wpAny _ _ (call _ [Value.ref _, Value.ref _]) _ _ _); k_dflt ((first | (with_reducible refine' kin_callC ?k1 ?k2 ?k3 ?k4 ?k5 ?k6 ?k7 ?k8 ?k9 ?_) | (refine' kin_callC ?k1 ?k2 ?k3 ?k4 ?k5 ?k6 ?k7 ?k8 ?k9 ?_)); (case k3 => kin_no); (case k1 => k_in); (case k2 => k_inst); (case k4 => k_is); (case k5 => k_is); (case k6 => k_is); (case k7 => k_is); (case k8 => k_is); (case k9 => k_is); k_whole)))
namespace Mine
def StChain (w : World) (P : Led) (b : Addr) (r : Value) : Prop := ∃ a d t n b2 d2 t2 n2 sq d3 t3 n3 l3 k3 pa d4 t4 n4 l4 k4, r = .ref a ∧ (a, instObj 352 d) ∈ P ∧ (d, dictOf [ent w "path_element" t (.ref b2)] n) ∈ P ∧ (b2, instObj 203 d2) ∈ P ∧ (d2, dictOf [ent w "seq" t2 (.ref sq)] n2) ∈ P ∧
  (sq, instObj 302 d3) ∈ P ∧ (d3, dictOf [ent w "paths" t3 (.ref l3)] n3) ∈ P ∧ (l3, W.listOf [Value.ref pa].toArray k3) ∈ P ∧ (pa, instObj 402 d4) ∈ P ∧ (d4, dictOf [ent w "path_elements" t4 (.ref l4)] n4) ∈ P ∧ (l4, W.listOf [Value.ref b].toArray k4) ∈ P
theorem mkStN (w : World) (b d : Addr) (es : List DictEntry) (n : Nat) : Calls w 20 200 (.ref 352) [.ref b] [] (fun news => (b, instObj 153 d) ∈ news ∧ (d, dictOf es n) ∈ news) (fun _ _ tl r => StChain w tl b r) := by
  unfold Calls
  w_top off
  k_fill
  intro p loose mean mg mb dp un gd cn cs a ccd cl outer A₀ base h₀ L m news s Q E B F X TG N T hcs hd hu hoff hpre hret
  have hcode := TG.t1
  obtain ⟨_, _, _, _, _⟩ := cs; dsimp only at hcs; subst hcs
  obtain ⟨hb, hd2⟩ := hpre
  simp only [List.nil_append] at N
  k_steps
  rename_i kF kN Tc kX
  refine' hret _ [] _ _ _ kF (Mine.Front.fin0 ?f kN) ?ord (by rfl) ?chain
  case f => walk_at "front"
  case ord =>
    show ∀ p ∈ (_ : Mine.Led), Mine.Ap p.1 news
    walk_at "ord"
  case chain => exact ⟨_, _, _, _, _, _, _, _, _, _, _, _, _, _, _, _, _, _, _, _, rfl, by k_mem, by k_mem, by k_mem, by k_mem, by k_mem, by k_mem, by k_mem, by k_mem, by k_mem, by k_mem⟩
theorem mkStP (w : World) (b d : Addr) (es : List DictEntry) (n : Nat) : Calls w 20 200 (.ref 352) [.ref b] [] (fun news => (b, instObj 104 d) ∈ news ∧ (d, dictOf es n) ∈ news) (fun _ _ tl r => StChain w tl b r) := by
  unfold Calls
  k_fill
  intro p loose mean mg mb dp un gd cn cs a ccd cl outer A₀ base h₀ L m news s Q E B F X TG N T hcs hd hu hoff hpre hret
  have hcode := TG.t1
  obtain ⟨_, _, _, _, _⟩ := cs; dsimp only at hcs; subst hcs
  obtain ⟨hb, hd2⟩ := hpre
  simp only [List.nil_append] at N
  k_steps
  rename_i kF kN Tc kX
  refine' hret _ [] _ _ _ kF (Mine.Front.fin0 ?f kN) ?ord (by rfl) ?chain
  case f => walk_at "front"
  case ord =>
    show ∀ p ∈ (_ : Mine.Led), Mine.Ap p.1 news
    walk_at "ord"
  case chain => exact ⟨_, _, _, _, _, _, _, _, _, _, _, _, _, _, _, _, _, _, _, _, rfl, by k_mem, by k_mem, by k_mem, by k_mem, by k_mem, by k_mem, by k_mem, by k_mem, by k_mem, by k_mem⟩
end Mine
end
section
local macro_rules | `(tactic| walk_at "seqcall") => `(tactic| (unfold Mine.Hold; refine' Mine.Calls.use0 ((by assumption : Mine.SeqSpec _ _) _ _ ?ok ?dp) ?B ?F ?X ?TG ?N ?T ?hk ?hd ?hu ?pre ?_; (case B => k_asm); (case F => k_asm); (case X => k_asm); (case TG => walk_at "tabs"); (case N => k_asm); (case T => k_asm); (case hk => first | exact rfl | assumption); (case pre => (refine Mine.Ways.In.mono ?hs9 _ _ (by assumption); (case hs9 => (intro q9 h9; k_mem)))); (case ok => assumption); (case dp => omega); (case hd => (unfold Mine.dS; k_room)); (case hu => (unfold Mine.uS; k_units))))
local macro_rules | `(tactic| walk_at "stcall") => `(tactic| (unfold Mine.Hold; first | (refine' Mine.Calls.use0 (Mine.mkStN _ _ _ _ _) ?B ?F ?X ?TG ?N ?T ?hk ?hd ?hu ?pre ?_; (case B => k_asm); (case F => k_asm); (case X => k_asm); (case TG => walk_at "tabs"); (case N => k_asm); (case T => k_asm); (case hk => first | exact rfl | assumption); (case hd => k_room); (case hu => k_units); (case pre => exact ⟨by k_mem, by k_mem⟩); k_whole) | (refine' Mine.Calls.use0 (Mine.mkStP _ _ _ _ _) ?B ?F ?X ?TG ?N ?T ?hk ?hd ?hu ?pre ?_; (case B => k_asm); (case F => k_asm); (case X => k_asm); (case TG => walk_at "tabs"); (case N => k_asm); (case T => k_asm); (case hk => first | exact rfl | assumption); (case hd => k_room); (case hu => k_units); (case pre => exact ⟨by k_mem, by k_mem⟩); k_whole)))
local macro_rules | `(tactic| walk_at "subscriptTail") => `(tactic| (k_here; (with_reducible show wpAny _ _ (subscriptTail _ _ (Value.ref _) (Value.int _ _)) _ _ _); k_dflt (refine' item_tupleT ?t ?a ?b ?c ?d ?_; (case t => exact News.isTup (by k_asm) (by first | (with_reducible assumption) | (refine List.mem_cons_of_mem _ ?_; with_reducible assumption) | (refine List.mem_cons_of_mem _ (List.mem_cons_of_mem _ ?_); with_reducible assumption))); (case a => decide); (case b => decide); (case c => rfl); (case d => rfl); k_whole)))
local macro_rules | `(tactic| walk_at "call ref") => `(tactic| (k_here; (show wpAny _ _ (call (Value.ref 471) _) _ _ _); (refine Mine.hold ?_)))
local macro_rules | `(tactic| walk_at "call ref") => `(tactic| (k_here; (show wpAny _ _ (call (Value.ref 466) _) _ _ _); (refine Mine.hold ?_)))
local macro_rules | `(tactic| walk_at "call ref") => `(tactic| (k_here; (show wpAny _ _ (call (Value.ref 352) _) _ _ _); (refine Mine.hold ?_)))
namespace Mine
theorem Ways.Made.obj {w : World} {P : Led} {ws : Ways} {a : Addr} (h : ws.Made w P a) : ∃ d es n, (a, instObj 302 d) ∈ P ∧ (d, dictOf es n) ∈ P := by
  cases ws with
  | one p => simp only [Ways.Made] at h; obtain ⟨d, t, n, l, k, p', h1, h2, _⟩ := h; exact ⟨d, _, n, h1, h2⟩
  | two p q => simp only [Ways.Made] at h; obtain ⟨d, t, n, l, k, p', q', h1, h2, _⟩ := h; exact ⟨d, _, n, h1, h2⟩
theorem Calls.weaken {w : World} {d u d' u' : Nat} {f : Value} {vs : List Value} {mu : Led} {Pre : Led → Prop} {Post : Led → Led → Led → Value → Prop} (C : Calls w d u f vs mu Pre Post) (hd : d ≤ d') (hu : u ≤ u') : Calls w d' u' f vs mu Pre Post := by
  intro p loose mean mg mb dp un gd cn cs a ccd cl outer A₀ base h₀ L m news s Q E B F X TG N T hk h1 h2
  exact C p loose mean mg mb dp un gd cn cs a ccd cl outer A₀ base h₀ L m news s Q E B F X TG N T hk (by omega) (by omega)
set_option maxHeartbeats 3000000 in
theorem made_br (w : World) (n : Nat) (H0 : MadeSpec w 0) (Hs : SeqSpec w n) : ∀ (v : Value) (ws : Ways), (.br ws : El).okd → (.br ws : El).dep ≤ n + 1 →
  Calls w (dM (n + 1)) (uM (n + 1)) (.ref 466) [v] [] (fun news => (.br ws : El).In news v) (fun _ _ tl r => (.br ws : El).Made w tl r) := by
  intro v ws hok hdep
  unfold Calls
  w_top off
  k_fill
  intro p loose mean mg mb dp un gd cn cs a ccd cl outer A₀ base h₀ L m news s Q E B F X TG N T hcs hd hu hoff hpre hret
  have hd' : dp + (60 * (n + 1) + 20) < recursionLimit := hd
  have hu' : un + (400 * (n + 1) + 250) < cLine := hu
  have hcode := TG.t1
  simp only [List.nil_append] at N
  obtain ⟨e0, rfl⟩ := hpre.ref
  refine wpAny_call ?_
  k_dflt (refine' code_def (binds := [("e", .ref e0)]) B F X N T ?kA ?kF ?kK ?k6 ?k7 ?k8 ?k9 ?kB ?_ ?c2 ?c3 ?c4 ?c5)
  walk_at "enter"
  intro g' L' h' FG' F' N' B' X' T'
  have TG' := TG.keeps FG'.keep
  have hcode' := TG'.t1
  walk_at "begin"
  obtain ⟨a, t1, l, ha, hm, hin⟩ := hpre
  obtain rfl := Value.ref.inj ha
  have hokw : (ws : Ways).ok := by rcases hok with h | h; exact absurd h id; exact h
  simp only [El.dep] at hdep
  clear hok
  k_steps
  walk_at "seqcall"
  rintro _ tl' h' tk' F' N' ht' ⟨a', hr', hm'⟩
  subst hr'
  obtain ⟨d9', es9', n9', m19', m29'⟩ := Mine.Ways.Made.obj hm'
  k_steps
  rename_i tlb h6 tk6 F6 N6 htb ab db tb nb mb1 mb2 kF kN Tc kX
  exact hret _ [] (tlb ++ tl') _ _ kF (by simpa only [List.append_assoc, List.nil_append] using kN) (List.forall_mem_append.mpr ⟨aps htb (fun q hq => List.mem_append.mpr (.inr hq)), ht'⟩) rfl
    ⟨ab, db, tb, nb, a', rfl, List.mem_append.mpr (.inl mb1), List.mem_append.mpr (.inl mb2), Ways.Made.mono (fun q hq => List.mem_append.mpr (.inr hq)) _ _ hm'⟩
set_option maxHeartbeats 3000000 in
theorem made_st2 (w : World) (n : Nat) (H0 : MadeSpec w 0) (Hs : SeqSpec w n) : ∀ (v : Value) (p1 : Pth) (p2 : Pth), (.st (.two p1 p2) : El).okd → (.st (.two p1 p2) : El).dep ≤ n + 1 →
  Calls w (dM (n + 1)) (uM (n + 1)) (.ref 466) [v] [] (fun news => (.st (.two p1 p2) : El).In news v) (fun _ _ tl r => (.st (.two p1 p2) : El).Made w tl r) := by
  intro v p1 p2 hok hdep
  unfold Calls
  k_fill
  intro p loose mean mg mb dp un gd cn cs a ccd cl outer A₀ base h₀ L m news s Q E B F X TG N T hcs hd hu hoff hpre hret
  have hd' : dp + (60 * (n + 1) + 20) < recursionLimit := hd
  have hu' : un + (400 * (n + 1) + 250) < cLine := hu
  have hcode := TG.t1
  simp only [List.nil_append] at N
  obtain ⟨e0, rfl⟩ := hpre.ref
  refine wpAny_call ?_
  k_dflt (refine' code_def (binds := [("e", .ref e0)]) B F X N T ?kA ?kF ?kK ?k6 ?k7 ?k8 ?k9 ?kB ?_ ?c2 ?c3 ?c4 ?c5)
  walk_at "enter"
  intro g' L' h' FG' F' N' B' X' T'
  have TG' := TG.keeps FG'.keep
  have hcode' := TG'.t1
  walk_at "begin"
  obtain ⟨a, t1, l, ha, hm, hin⟩ := hpre
  obtain rfl := Value.ref.inj ha
  have hokw : (.two p1 p2 : Ways).ok := by rcases hok with h | h; exact absurd h id; exact h
  simp only [El.dep] at hdep
  clear hok
  have hin0 := hin
  obtain ⟨nl, a1, a2, hl, hp1, hp2⟩ := hin
  k_steps
  walk_at "seqcall"
  rintro _ tl' h' tk' F' N' ht' ⟨a', hr', hm'⟩
  subst hr'
  obtain ⟨d9', es9', n9', m19', m29'⟩ := Mine.Ways.Made.obj hm'
  k_steps
  unfold Hold
  refine' Mine.Calls.use0 (Mine.mkSt _ _ _ _ _) ?B ?F ?X ?TG ?N ?T ?hk ?hd ?hu ?pre ?_
  case B => k_asm
  case F => k_asm
  case X => k_asm
  case TG => walk_at "tabs"
  case N => k_asm
  case T => k_asm
  case hk => first | exact rfl | assumption
  case hd => k_room
  case hu => k_units
  case pre => exact ⟨by k_mem, by k_mem⟩
  rintro _ tlc h7 tk7 F7 N7 htc ⟨ac, dc, tc, nc, hrc, mc1, mc2⟩
  subst hrc
  k_steps
  rename_i tlb h6 tk6 F6 N6 htb ab db tb nb mb1 mb2 kF kN Tc kX
  exact hret _ [] (tlc ++ (tlb ++ tl')) _ _ kF (Mine.news_sub kN (by walk_at "sub")) (List.forall_mem_append.mpr ⟨aps htc (by walk_at "sub"), List.forall_mem_append.mpr ⟨aps htb (by walk_at "sub"), aps ht' (by walk_at "sub")⟩⟩) rfl
    ⟨ac, dc, tc, nc, ab, db, tb, nb, a', rfl, List.mem_append.mpr (.inl mc1), List.mem_append.mpr (.inl mc2), List.mem_append.mpr (.inr (List.mem_append.mpr (.inl mb1))), List.mem_append.mpr (.inr (List.mem_append.mpr (.inl mb2))), Ways.Made.mono (fun q hq => List.mem_append.mpr (.inr (List.mem_append.mpr (.inr hq)))) _ _ hm'⟩
set_option maxHeartbeats 3000000 in
theorem made_st12 (w : World) (n : Nat) (H0 : MadeSpec w 0) (Hs : SeqSpec w n) : ∀ (v : Value) (x : El) (y : El), (.st (.one (.two x y)) : El).okd → (.st (.one (.two x y)) : El).dep ≤ n + 1 →
  Calls w (dM (n + 1)) (uM (n + 1)) (.ref 466) [v] [] (fun news => (.st (.one (.two x y)) : El).In news v) (fun _ _ tl r => (.st (.one (.two x y)) : El).Made w tl r) := by
  intro v x y hok hdep
  unfold Calls
  k_fill
  intro p loose mean mg mb dp un gd cn cs a ccd cl outer A₀ base h₀ L m news s Q E B F X TG N T hcs hd hu hoff hpre hret
  have hd' : dp + (60 * (n + 1) + 20) < recursionLimit := hd
  have hu' : un + (400 * (n + 1) + 250) < cLine := hu
  have hcode := TG.t1
  simp only [List.nil_append] at N
  obtain ⟨e0, rfl⟩ := hpre.ref
  refine wpAny_call ?_
  k_dflt (refine' code_def (binds := [("e", .ref e0)]) B F X N T ?kA ?kF ?kK ?k6 ?k7 ?k8 ?k9 ?kB ?_ ?c2 ?c3 ?c4 ?c5)
  walk_at "enter"
  intro g' L' h' FG' F' N' B' X' T'
  have TG' := TG.keeps FG'.keep
  have hcode' := TG'.t1
  walk_at "begin"
  obtain ⟨a, t1, l, ha, hm, hin⟩ := hpre
  obtain rfl := Value.ref.inj ha
  have hokw : (.one (.two x y) : Ways).ok := by rcases hok with h | h; exact absurd h id; exact h
  simp only [El.dep] at hdep
  clear hok
  have hin0 := hin
  obtain ⟨nl, a1, hl, n1, u, v, hl1, hx, hy⟩ := hin
  k_steps
  walk_at "seqcall"
  rintro _ tl' h' tk' F' N' ht' ⟨a', hr', hm'⟩
  subst hr'
  obtain ⟨d9', es9', n9', m19', m29'⟩ := Mine.Ways.Made.obj hm'
  k_steps
  unfold Hold
  refine' Mine.Calls.use0 (Mine.mkSt _ _ _ _ _) ?B ?F ?X ?TG ?N ?T ?hk ?hd ?hu ?pre ?_
  case B => k_asm
  case F => k_asm
  case X => k_asm
  case TG => walk_at "tabs"
  case N => k_asm
  case T => k_asm
  case hk => first | exact rfl | assumption
  case hd => k_room
  case hu => k_units
  case pre => exact ⟨by k_mem, by k_mem⟩
  rintro _ tlc h7 tk7 F7 N7 htc ⟨ac, dc, tc, nc, hrc, mc1, mc2⟩
  subst hrc
  k_steps
  rename_i tlb h6 tk6 F6 N6 htb ab db tb nb mb1 mb2 kF kN Tc kX
  exact hret _ [] (tlc ++ (tlb ++ tl')) _ _ kF (Mine.news_sub kN (by walk_at "sub")) (List.forall_mem_append.mpr ⟨aps htc (by walk_at "sub"), List.forall_mem_append.mpr ⟨aps htb (by walk_at "sub"), aps ht' (by walk_at "sub")⟩⟩) rfl
    ⟨ac, dc, tc, nc, ab, db, tb, nb, a', rfl, List.mem_append.mpr (.inl mc1), List.mem_append.mpr (.inl mc2), List.mem_append.mpr (.inr (List.mem_append.mpr (.inl mb1))), List.mem_append.mpr (.inr (List.mem_append.mpr (.inl mb2))), Ways.Made.mono (fun q hq => List.mem_append.mpr (.inr (List.mem_append.mpr (.inr hq)))) _ _ hm'⟩
set_option maxHeartbeats 3000000 in
theorem made_st13 (w : World) (n : Nat) (H0 : MadeSpec w 0) (Hs : SeqSpec w n) : ∀ (v : Value) (x : El) (y : El) (z : El), (.st (.one (.thr x y z)) : El).okd → (.st (.one (.thr x y z)) : El).dep ≤ n + 1 →
  Calls w (dM (n + 1)) (uM (n + 1)) (.ref 466) [v] [] (fun news => (.st (.one (.thr x y z)) : El).In news v) (fun _ _ tl r => (.st (.one (.thr x y z)) : El).Made w tl r) := by
  intro v x y z hok hdep
  unfold Calls
  k_fill
  intro p loose mean mg mb dp un gd cn cs a ccd cl outer A₀ base h₀ L m news s Q E B F X TG N T hcs hd hu hoff hpre hret
  have hd' : dp + (60 * (n + 1) + 20) < recursionLimit := hd
  have hu' : un + (400 * (n + 1) + 250) < cLine := hu
  have hcode := TG.t1
  simp only [List.nil_append] at N
  obtain ⟨e0, rfl⟩ := hpre.ref
  refine wpAny_call ?_
  k_dflt (refine' code_def (binds := [("e", .ref e0)]) B F X N T ?kA ?kF ?kK ?k6 ?k7 ?k8 ?k9 ?kB ?_ ?c2 ?c3 ?c4 ?c5)
  walk_at "enter"
  intro g' L' h' FG' F' N' B' X' T'
  have TG' := TG.keeps FG'.keep
  have hcode' := TG'.t1
  walk_at "begin"
  obtain ⟨a, t1, l, ha, hm, hin⟩ := hpre
  obtain rfl := Value.ref.inj ha
  have hokw : (.one (.thr x y z) : Ways).ok := by rcases hok with h | h; exact absurd h id; exact h
  simp only [El.dep] at hdep
  clear hok
  have hin0 := hin
  obtain ⟨nl, a1, hl, n1, u, v, r, hl1, hx, hy, hz⟩ := hin
  k_steps
  walk_at "seqcall"
  rintro _ tl' h' tk' F' N' ht' ⟨a', hr', hm'⟩
  subst hr'
  obtain ⟨d9', es9', n9', m19', m29'⟩ := Mine.Ways.Made.obj hm'
  k_steps
  unfold Hold
  refine' Mine.Calls.use0 (Mine.mkSt _ _ _ _ _) ?B ?F ?X ?TG ?N ?T ?hk ?hd ?hu ?pre ?_
  case B => k_asm
  case F => k_asm
  case X => k_asm
  case TG => walk_at "tabs"
  case N => k_asm
  case T => k_asm
  case hk => first | exact rfl | assumption
  case hd => k_room
  case hu => k_units
  case pre => exact ⟨by k_mem, by k_mem⟩
  rintro _ tlc h7 tk7 F7 N7 htc ⟨ac, dc, tc, nc, hrc, mc1, mc2⟩
  subst hrc
  k_steps
  rename_i tlb h6 tk6 F6 N6 htb ab db tb nb mb1 mb2 kF kN Tc kX
  exact hret _ [] (tlc ++ (tlb ++ tl')) _ _ kF (Mine.news_sub kN (by walk_at "sub")) (List.forall_mem_append.mpr ⟨aps htc (by walk_at "sub"), List.forall_mem_append.mpr ⟨aps htb (by walk_at "sub"), aps ht' (by walk_at "sub")⟩⟩) rfl
    ⟨ac, dc, tc, nc, ab, db, tb, nb, a', rfl, List.mem_append.mpr (.inl mc1), List.mem_append.mpr (.inl mc2), List.mem_append.mpr (.inr (List.mem_append.mpr (.inl mb1))), List.mem_append.mpr (.inr (List.mem_append.mpr (.inl mb2))), Ways.Made.mono (fun q hq => List.mem_append.mpr (.inr (List.mem_append.mpr (.inr hq)))) _ _ hm'⟩
set_option maxHeartbeats 3000000 in
theorem made_std (w : World) (n : Nat) (H0 : MadeSpec w 0) (Hs : SeqSpec w n) : ∀ (v : Value) (k : Nat), (.st (.one (.one (.dots k))) : El).okd → (.st (.one (.one (.dots k))) : El).dep ≤ n + 1 →
  Calls w (dM (n + 1)) (uM (n + 1)) (.ref 466) [v] [] (fun news => (.st (.one (.one (.dots k))) : El).In news v) (fun _ _ tl r => (.st (.one (.one (.dots k))) : El).Made w tl r) := by
  intro v k hok hdep
  unfold Calls
  k_fill
  intro p loose mean mg mb dp un gd cn cs a ccd cl outer A₀ base h₀ L m news s Q E B F X TG N T hcs hd hu hoff hpre hret
  have hd' : dp + (60 * (n + 1) + 20) < recursionLimit := hd
  have hu' : un + (400 * (n + 1) + 250) < cLine := hu
  have hcode := TG.t1
  simp only [List.nil_append] at N
  obtain ⟨e0, rfl⟩ := hpre.ref
  refine wpAny_call ?_
  k_dflt (refine' code_def (binds := [("e", .ref e0)]) B F X N T ?kA ?kF ?kK ?k6 ?k7 ?k8 ?k9 ?kB ?_ ?c2 ?c3 ?c4 ?c5)
  walk_at "enter"
  intro g' L' h' FG' F' N' B' X' T'
  have TG' := TG.keeps FG'.keep
  have hcode' := TG'.t1
  walk_at "begin"
  obtain ⟨a, t1, l, ha, hm, hin⟩ := hpre
  obtain rfl := Value.ref.inj ha
  have hokw : (.one (.one (.dots k)) : Ways).ok := by rcases hok with h | h; exact absurd h id; exact h
  simp only [El.dep] at hdep
  clear hok
  have hin0 := hin
  obtain ⟨nl, a1, hl, n1, u, hl1, hx⟩ := hin
  have hx0 := hx
  simp only [El.In] at hx
  obtain ⟨ax, t2, t3, rfl, hmx⟩ := hx
  k_steps
  walk_at "seqcall"
  rintro _ tl' h' tk' F' N' ht' ⟨a', hr', hm'⟩
  subst hr'
  obtain ⟨d9', es9', n9', m19', m29'⟩ := Mine.Ways.Made.obj hm'
  k_steps
  unfold Hold
  refine' Mine.Calls.use0 (Mine.mkSt _ _ _ _ _) ?B ?F ?X ?TG ?N ?T ?hk ?hd ?hu ?pre ?_
  case B => k_asm
  case F => k_asm
  case X => k_asm
  case TG => walk_at "tabs"
  case N => k_asm
  case T => k_asm
  case hk => first | exact rfl | assumption
  case hd => k_room
  case hu => k_units
  case pre => exact ⟨by k_mem, by k_mem⟩
  rintro _ tlc h7 tk7 F7 N7 htc ⟨ac, dc, tc, nc, hrc, mc1, mc2⟩
  subst hrc
  k_steps
  rename_i tlb h6 tk6 F6 N6 htb ab db tb nb mb1 mb2 kF kN Tc kX
  exact hret _ [] (tlc ++ (tlb ++ tl')) _ _ kF (Mine.news_sub kN (by walk_at "sub")) (List.forall_mem_append.mpr ⟨aps htc (by walk_at "sub"), List.forall_mem_append.mpr ⟨aps htb (by walk_at "sub"), aps ht' (by walk_at "sub")⟩⟩) rfl
    ⟨ac, dc, tc, nc, ab, db, tb, nb, a', rfl, List.mem_append.mpr (.inl mc1), List.mem_append.mpr (.inl mc2), List.mem_append.mpr (.inr (List.mem_append.mpr (.inl mb1))), List.mem_append.mpr (.inr (List.mem_append.mpr (.inl mb2))), Ways.Made.mono (fun q hq => List.mem_append.mpr (.inr (List.mem_append.mpr (.inr hq)))) _ _ hm'⟩
set_option maxHeartbeats 3000000 in
theorem made_stb (w : World) (n : Nat) (H0 : MadeSpec w 0) (Hs : SeqSpec w n) : ∀ (v : Value) (ws2 : Ways), (.st (.one (.one (.br ws2))) : El).okd → (.st (.one (.one (.br ws2))) : El).dep ≤ n + 1 →
  Calls w (dM (n + 1)) (uM (n + 1)) (.ref 466) [v] [] (fun news => (.st (.one (.one (.br ws2))) : El).In news v) (fun _ _ tl r => (.st (.one (.one (.br ws2))) : El).Made w tl r) := by
  intro v ws2 hok hdep
  unfold Calls
  k_fill
  intro p loose mean mg mb dp un gd cn cs a ccd cl outer A₀ base h₀ L m news s Q E B F X TG N T hcs hd hu hoff hpre hret
  have hd' : dp + (60 * (n + 1) + 20) < recursionLimit := hd
  have hu' : un + (400 * (n + 1) + 250) < cLine := hu
  have hcode := TG.t1
  simp only [List.nil_append] at N
  obtain ⟨e0, rfl⟩ := hpre.ref
  refine wpAny_call ?_
  k_dflt (refine' code_def (binds := [("e", .ref e0)]) B F X N T ?kA ?kF ?kK ?k6 ?k7 ?k8 ?k9 ?kB ?_ ?c2 ?c3 ?c4 ?c5)
  walk_at "enter"
  intro g' L' h' FG' F' N' B' X' T'
  have TG' := TG.keeps FG'.keep
  have hcode' := TG'.t1
  walk_at "begin"
  obtain ⟨a, t1, l, ha, hm, hin⟩ := hpre
  obtain rfl := Value.ref.inj ha
  have hokw : (.one (.one (.br ws2)) : Ways).ok := by rcases hok with h | h; exact absurd h id; exact h
  simp only [El.dep] at hdep
  clear hok
  have hin0 := hin
  obtain ⟨nl, a1, hl, n1, u, hl1, hx⟩ := hin
  have hx0 := hx
  simp only [El.In] at hx
  obtain ⟨ax, t2, l2, rfl, hmx, hinx⟩ := hx
  k_steps
  walk_at "seqcall"
  rintro _ tl' h' tk' F' N' ht' ⟨a', hr', hm'⟩
  subst hr'
  obtain ⟨d9', es9', n9', m19', m29'⟩ := Mine.Ways.Made.obj hm'
  k_steps
  unfold Hold
  refine' Mine.Calls.use0 (Mine.mkSt _ _ _ _ _) ?B ?F ?X ?TG ?N ?T ?hk ?hd ?hu ?pre ?_
  case B => k_asm
  case F => k_asm
  case X => k_asm
  case TG => walk_at "tabs"
  case N => k_asm
  case T => k_asm
  case hk => first | exact rfl | assumption
  case hd => k_room
  case hu => k_units
  case pre => exact ⟨by k_mem, by k_mem⟩
  rintro _ tlc h7 tk7 F7 N7 htc ⟨ac, dc, tc, nc, hrc, mc1, mc2⟩
  subst hrc
  k_steps
  rename_i tlb h6 tk6 F6 N6 htb ab db tb nb mb1 mb2 kF kN Tc kX
  exact hret _ [] (tlc ++ (tlb ++ tl')) _ _ kF (Mine.news_sub kN (by walk_at "sub")) (List.forall_mem_append.mpr ⟨aps htc (by walk_at "sub"), List.forall_mem_append.mpr ⟨aps htb (by walk_at "sub"), aps ht' (by walk_at "sub")⟩⟩) rfl
    ⟨ac, dc, tc, nc, ab, db, tb, nb, a', rfl, List.mem_append.mpr (.inl mc1), List.mem_append.mpr (.inl mc2), List.mem_append.mpr (.inr (List.mem_append.mpr (.inl mb1))), List.mem_append.mpr (.inr (List.mem_append.mpr (.inl mb2))), Ways.Made.mono (fun q hq => List.mem_append.mpr (.inr (List.mem_append.mpr (.inr hq)))) _ _ hm'⟩
set_option maxHeartbeats 3000000 in
theorem made_sts (w : World) (n : Nat) (H0 : MadeSpec w 0) (Hs : SeqSpec w n) : ∀ (v : Value) (ws2 : Ways), (.st (.one (.one (.st ws2))) : El).okd → (.st (.one (.one (.st ws2))) : El).dep ≤ n + 1 →
  Calls w (dM (n + 1)) (uM (n + 1)) (.ref 466) [v] [] (fun news => (.st (.one (.one (.st ws2))) : El).In news v) (fun _ _ tl r => (.st (.one (.one (.st ws2))) : El).Made w tl r) := by
  intro v ws2 hok hdep
  unfold Calls
  k_fill
  intro p loose mean mg mb dp un gd cn cs a ccd cl outer A₀ base h₀ L m news s Q E B F X TG N T hcs hd hu hoff hpre hret
  have hd' : dp + (60 * (n + 1) + 20) < recursionLimit := hd
  have hu' : un + (400 * (n + 1) + 250) < cLine := hu
  have hcode := TG.t1
  simp only [List.nil_append] at N
  obtain ⟨e0, rfl⟩ := hpre.ref
  refine wpAny_call ?_
  k_dflt (refine' code_def (binds := [("e", .ref e0)]) B F X N T ?kA ?kF ?kK ?k6 ?k7 ?k8 ?k9 ?kB ?_ ?c2 ?c3 ?c4 ?c5)
  walk_at "enter"
  intro g' L' h' FG' F' N' B' X' T'
  have TG' := TG.keeps FG'.keep
  have hcode' := TG'.t1
  walk_at "begin"
  obtain ⟨a, t1, l, ha, hm, hin⟩ := hpre
  obtain rfl := Value.ref.inj ha
  have hokw : (.one (.one (.st ws2)) : Ways).ok := by rcases hok with h | h; exact absurd h id; exact h
  simp only [El.dep] at hdep
  clear hok
  have hin0 := hin
  obtain ⟨nl, a1, hl, n1, u, hl1, hx⟩ := hin
  have hx0 := hx
  simp only [El.In] at hx
  obtain ⟨ax, t2, l2, rfl, hmx, hinx⟩ := hx
  k_steps
  walk_at "seqcall"
  rintro _ tl' h' tk' F' N' ht' ⟨a', hr', hm'⟩
  subst hr'
  obtain ⟨d9', es9', n9', m19', m29'⟩ := Mine.Ways.Made.obj hm'
  k_steps
  unfold Hold
  refine' Mine.Calls.use0 (Mine.mkSt _ _ _ _ _) ?B ?F ?X ?TG ?N ?T ?hk ?hd ?hu ?pre ?_
  case B => k_asm
  case F => k_asm
  case X => k_asm
  case TG => walk_at "tabs"
  case N => k_asm
  case T => k_asm
  case hk => first | exact rfl | assumption
  case hd => k_room
  case hu => k_units
  case pre => exact ⟨by k_mem, by k_mem⟩
  rintro _ tlc h7 tk7 F7 N7 htc ⟨ac, dc, tc, nc, hrc, mc1, mc2⟩
  subst hrc
  k_steps
  rename_i tlb h6 tk6 F6 N6 htb ab db tb nb mb1 mb2 kF kN Tc kX
  exact hret _ [] (tlc ++ (tlb ++ tl')) _ _ kF (Mine.news_sub kN (by walk_at "sub")) (List.forall_mem_append.mpr ⟨aps htc (by walk_at "sub"), List.forall_mem_append.mpr ⟨aps htb (by walk_at "sub"), aps ht' (by walk_at "sub")⟩⟩) rfl
    ⟨ac, dc, tc, nc, ab, db, tb, nb, a', rfl, List.mem_append.mpr (.inl mc1), List.mem_append.mpr (.inl mc2), List.mem_append.mpr (.inr (List.mem_append.mpr (.inl mb1))), List.mem_append.mpr (.inr (List.mem_append.mpr (.inl mb2))), Ways.Made.mono (fun q hq => List.mem_append.mpr (.inr (List.mem_append.mpr (.inr hq)))) _ _ hm'⟩
set_option maxHeartbeats 3000000 in
theorem made_stn (w : World) (n : Nat) (H0 : MadeSpec w 0) (Hs : SeqSpec w n) : ∀ (v : Value) (x : Str) (c : Bool) (f : Option Str), (.st (.one (.one (.nav x c f))) : El).okd → (.st (.one (.one (.nav x c f))) : El).dep ≤ n + 1 →
  Calls w (dM (n + 1)) (uM (n + 1)) (.ref 466) [v] [] (fun news => (.st (.one (.one (.nav x c f))) : El).In news v) (fun _ _ tl r => (.st (.one (.one (.nav x c f))) : El).Made w tl r) := by
  intro v x c f hok hdep
  unfold Calls
  k_fill
  intro p loose mean mg mb dp un gd cn cs a ccd cl outer A₀ base h₀ L m news s Q E B F X TG N T hcs hd hu hoff hpre hret
  have hd' : dp + (60 * (n + 1) + 20) < recursionLimit := hd
  have hu' : un + (400 * (n + 1) + 250) < cLine := hu
  have hcode := TG.t1
  simp only [List.nil_append] at N
  obtain ⟨e0, rfl⟩ := hpre.ref
  refine wpAny_call ?_
  k_dflt (refine' code_def (binds := [("e", .ref e0)]) B F X N T ?kA ?kF ?kK ?k6 ?k7 ?k8 ?k9 ?kB ?_ ?c2 ?c3 ?c4 ?c5)
  walk_at "enter"
  intro g' L' h' FG' F' N' B' X' T'
  have TG' := TG.keeps FG'.keep
  have hcode' := TG'.t1
  walk_at "begin"
  obtain ⟨a, t1, l, ha, hm, hin⟩ := hpre
  obtain rfl := Value.ref.inj ha
  have hokw : (.one (.one (.nav x c f)) : Ways).ok := by rcases hok with h | h; exact absurd h id; exact h
  simp only [El.dep] at hdep
  clear hok
  have hin0 := hin
  obtain ⟨nl, a1, hl, n1, u, hl1, hx⟩ := hin
  have hx0 := hx
  simp only [El.In] at hx
  obtain ⟨ax, t2, t3, fv, rfl, hmx, hf⟩ := hx
  k_steps
  unfold Hold
  refine' Mine.Calls.use0 (H0 (.nav x c f) _ (Or.inr (by have := hokw; exact (this.resolve_left id))) (Nat.le_refl 0)) ?B ?F ?X ?TG ?N ?T ?hk ?hd ?hu ?pre ?_
  case B => k_asm
  case F => k_asm
  case X => k_asm
  case TG => walk_at "tabs"
  case N => k_asm
  case T => k_asm
  case hk => first | exact rfl | assumption
  case hd => (unfold Mine.dM; k_room)
  case hu => (unfold Mine.uM; k_units)
  case pre => exact El.In.mono (by intro q hq; k_mem) _ _ hx0
  rintro _ tl' h' tk' F' N' ht' hm'
  have hm2 := hm'
  simp only [El.Made] at hm2
  obtain ⟨a', d', t1', t2', t3', t4', t5', n', fv', ev', rfl, m1', m2', hf'⟩ := hm2
  k_steps
  unfold Hold
  refine' Mine.Calls.use0 (Mine.mkStN _ _ _ _ _) ?B ?F ?X ?TG ?N ?T ?hk ?hd ?hu ?pre ?_
  case B => k_asm
  case F => k_asm
  case X => k_asm
  case TG => walk_at "tabs"
  case N => k_asm
  case T => k_asm
  case hk => first | exact rfl | assumption
  case hd => k_room
  case hu => k_units
  case pre => exact ⟨by k_mem, by k_mem⟩
  rintro _ tlc h7 tk7 F7 N7 htc ⟨ac, d1, u1, n1', b2, d2, u2, n2', sq, d3, u3, n3', l3, k3, pa, d4, u4, n4', l4, k4, hrc, c1, c2, c3, c4, c5, c6, c7, c8, c9, c10⟩
  subst hrc
  k_steps
  rename_i kF kN Tc kX
  refine hret _ [] (tlc ++ tl') _ _ kF (Mine.news_sub kN (by walk_at "sub")) (List.forall_mem_append.mpr ⟨aps htc (by walk_at "sub"), aps ht' (by walk_at "sub")⟩) rfl ?_
  have q : ∀ z ∈ tlc, z ∈ tlc ++ tl' := fun z hz => List.mem_append.mpr (.inl hz)
  exact ⟨ac, d1, u1, n1', b2, d2, u2, n2', sq, rfl, q _ c1, q _ c2, q _ c3, q _ c4, d3, u3, n3', l3, k3, pa, q _ c5, q _ c6, q _ c7, d4, u4, n4', l4, k4, _, q _ c8, q _ c9, q _ c10, El.Made.mono (fun z hz => List.mem_append.mpr (.inr hz)) _ _ hm'⟩
set_option maxHeartbeats 3000000 in
theorem made_stp (w : World) (n : Nat) (H0 : MadeSpec w 0) (Hs : SeqSpec w n) : ∀ (v : Value) (k : Str), (.st (.one (.one (.par k))) : El).okd → (.st (.one (.one (.par k))) : El).dep ≤ n + 1 →
  Calls w (dM (n + 1)) (uM (n + 1)) (.ref 466) [v] [] (fun news => (.st (.one (.one (.par k))) : El).In news v) (fun _ _ tl r => (.st (.one (.one (.par k))) : El).Made w tl r) := by
  intro v k hok hdep
  unfold Calls
  k_fill
  intro p loose mean mg mb dp un gd cn cs a ccd cl outer A₀ base h₀ L m news s Q E B F X TG N T hcs hd hu hoff hpre hret
  have hd' : dp + (60 * (n + 1) + 20) < recursionLimit := hd
  have hu' : un + (400 * (n + 1) + 250) < cLine := hu
  have hcode := TG.t1
  simp only [List.nil_append] at N
  obtain ⟨e0, rfl⟩ := hpre.ref
  refine wpAny_call ?_
  k_dflt (refine' code_def (binds := [("e", .ref e0)]) B F X N T ?kA ?kF ?kK ?k6 ?k7 ?k8 ?k9 ?kB ?_ ?c2 ?c3 ?c4 ?c5)
  walk_at "enter"
  intro g' L' h' FG' F' N' B' X' T'
  have TG' := TG.keeps FG'.keep
  have hcode' := TG'.t1
  walk_at "begin"
  obtain ⟨a, t1, l, ha, hm, hin⟩ := hpre
  obtain rfl := Value.ref.inj ha
  have hokw : (.one (.one (.par k)) : Ways).ok := by rcases hok with h | h; exact absurd h id; exact h
  simp only [El.dep] at hdep
  clear hok
  have hin0 := hin
  obtain ⟨nl, a1, hl, n1, u, hl1, hx⟩ := hin
  have hx0 := hx
  simp only [El.In] at hx
  obtain ⟨ax, t2, t3, rfl, hmx⟩ := hx
  k_steps
  unfold Hold
  refine' Mine.Calls.use0 (H0 (.par k) _ (Or.inr (by have := hokw; exact (this.resolve_left id))) (Nat.le_refl 0)) ?B ?F ?X ?TG ?N ?T ?hk ?hd ?hu ?pre ?_
  case B => k_asm
  case F => k_asm
  case X => k_asm
  case TG => walk_at "tabs"
  case N => k_asm
  case T => k_asm
  case hk => first | exact rfl | assumption
  case hd => (unfold Mine.dM; k_room)
  case hu => (unfold Mine.uM; k_units)
  case pre => exact El.In.mono (by intro q hq; k_mem) _ _ hx0
  rintro _ tl' h' tk' F' N' ht' hm'
  have hm2 := hm'
  simp only [El.Made] at hm2
  obtain ⟨a', d', t1', t2', n', rfl, m1', m2'⟩ := hm2
  k_steps
  unfold Hold
  refine' Mine.Calls.use0 (Mine.mkStP _ _ _ _ _) ?B ?F ?X ?TG ?N ?T ?hk ?hd ?hu ?pre ?_
  case B => k_asm
  case F => k_asm
  case X => k_asm
  case TG => walk_at "tabs"
  case N => k_asm
  case T => k_asm
  case hk => first | exact rfl | assumption
  case hd => k_room
  case hu => k_units
  case pre => exact ⟨by k_mem, by k_mem⟩
  rintro _ tlc h7 tk7 F7 N7 htc ⟨ac, d1, u1, n1', b2, d2, u2, n2', sq, d3, u3, n3', l3, k3, pa, d4, u4, n4', l4, k4, hrc, c1, c2, c3, c4, c5, c6, c7, c8, c9, c10⟩
  subst hrc
  k_steps
  rename_i kF kN Tc kX
  refine hret _ [] (tlc ++ tl') _ _ kF (Mine.news_sub kN (by walk_at "sub")) (List.forall_mem_append.mpr ⟨aps htc (by walk_at "sub"), aps ht' (by walk_at "sub")⟩) rfl ?_
  have q : ∀ z ∈ tlc, z ∈ tlc ++ tl' := fun z hz => List.mem_append.mpr (.inl hz)
  exact ⟨ac, d1, u1, n1', b2, d2, u2, n2', sq, rfl, q _ c1, q _ c2, q _ c3, q _ c4, d3, u3, n3', l3, k3, pa, q _ c5, q _ c6, q _ c7, d4, u4, n4', l4, k4, _, q _ c8, q _ c9, q _ c10, El.Made.mono (fun z hz => List.mem_append.mpr (.inr hz)) _ _ hm'⟩
theorem made_succ (w : World) (n : Nat) (H0 : MadeSpec w 0) (Hs : SeqSpec w n) : MadeSpec w (n + 1) := by
  intro e v hok hdep
  cases e with
  | nav x c f => exact (H0 _ v hok (Nat.zero_le _)).weaken (by unfold dM; omega) (by unfold uM; omega)
  | par k => exact (H0 _ v hok (Nat.zero_le _)).weaken (by unfold dM; omega) (by unfold uM; omega)
  | dots k => exact (H0 _ v hok (Nat.zero_le _)).weaken (by unfold dM; omega) (by unfold uM; omega)
  | br ws => exact made_br w n H0 Hs v ws hok hdep
  | st ws =>
    cases ws with
    | two p q => exact made_st2 w n H0 Hs v p q hok hdep
    | one p1 =>
      cases p1 with
      | two x y => exact made_st12 w n H0 Hs v x y hok hdep
      | thr x y z => exact made_st13 w n H0 Hs v x y z hok hdep
      | one x =>
        cases x with
        | nav x c f => exact made_stn w n H0 Hs v x c f hok hdep
        | par k => exact made_stp w n H0 Hs v k hok hdep
        | dots k => exact made_std w n H0 Hs v k hok hdep
        | br ws2 => exact made_stb w n H0 Hs v ws2 hok hdep
        | st ws2 => exact made_sts w n H0 Hs v ws2 hok hdep
end Mine
end
section
namespace Mine
open PySem.Builtin PySem.Builtin.ObjectAttr
theorem kind_hasattr : builtinKind "hasattr" = none := by decide +kernel
theorem plain_hasattr : plainId "hasattr" = true := by decide +kernel
theorem entry_hasattr : entryFor table "hasattr" = some Builtin.«hasattr» := entryFor_of_tree (by kernel_rfl)
theorem args_hasattr (a b : Value) : argsOk "hasattr" ⟨[a, b], []⟩ := by unfold argsOk; kernel_rfl
section
variable {prog : Program} {w : World} {A : Around} {E : Value → Shared → Prop} {s : Shared} {K : Frag} {x C L : Addr} {ox : Obj} {name : Str} {h₀ : Heap} {m : Str → Option Value} {es : List DictEntry} {n : Nat} {Q : Value → Shared → Prop} {t : Tok}
/-- hasattr of an object of an own class, up to the look-up -/
theorem has_open (X : K.In s.heap) (I : InstAt s.heap x ox C (some (dictOf es n))) (hmod : subIn K (.ref C) (.type "module") = some false)
    (h : wpAny (model prog w) A.in1 (getAttrBy? (.ref x) (.str name t)) (fun r s' => Q (.bool r.isSome) s') E s) : wpAny (model prog w) A (call (.builtin "hasattr") [.ref x, .str name t]) Q E s := by
  refine Calls.call_function_entry kind_hasattr plain_hasattr entry_hasattr (args_hasattr _ _) ?_
  unfold Builtin.«hasattr»
  refine wpAny_bind (wpAny_of_eq (a := [.ref x, .str name t]) (by first | rfl | kernel_rfl) ?_)
  dsimp only
  refine wpAny_bind (wpAny_of_eq (a := ()) (by first | rfl | kernel_rfl) ?_)
  obtain ⟨hh, g, d, tk, os⟩ := s
  have L0 := I.type (M := model prog w)
  have L1 := looks_subIn (M := model prog w) X hmod
  rw [if_neg (by intro q; exact absurd (beq_iff_eq.mp q) (by intro q; cases q))]
  refine wpAny_bind (L0.at ?_)
  dsimp only
  k_delta "optionalOnAModule"
  refine wpAny_bind (wpAny_bind (wpAny_of_eq (a := some name) (by first | rfl | kernel_rfl) ?_))
  dsimp only
  refine wpAny_bind ((L0.andThen L1 : Looks _ _ (isInstance _ _) _).at ?_)
  simp only [Bool.not_false, if_true]
  refine wpAny_pure ?_
  rw [if_neg (by decide)]
  refine wpAny_bind (wpAny_mono h (fun r s' hq => ?_) fun _ _ e => e)
  rw [if_neg (by intro q; exact absurd (Bool.and_eq_true_iff.mp q).2 (by decide))]
  exact wpAny_pure ⟨_, rfl, hq⟩
/-- a look-up that hits, with no note on a miss -/
theorem by_hit {v : Value} (X : K.In s.heap) (I : InstAt s.heap x ox C (some (dictOf es n))) (hg : plainGet K C name = true) (hh : hasDictIn K C = true) (ha : findIn K (.ref C) name = some none) (hl : getL name es = some (some v)) (hv : handedIn v = true)
    {Q : Option Value → Shared → Prop} (h : Q (some v) s) : wpAny (model prog w) A (getAttrBy? (.ref x) (.str name t)) Q E s := by
  obtain ⟨hh', g, d, tk, os⟩ := s
  have L0 := I.type (M := model prog w)
  have L1 := looks_findIn (M := model prog w) X (plainGet_of hg).1
  have L2 := looks_find (M := model prog w) X I (findObj_own (v := v) hh ha (by rfl) (by show lookIn name (dictOf es n) = _; rw [lookIn_dict, hl]))
  unfold getAttrBy? getAttrBy
  refine wpAny_bind (wpAny_attempt (wpAny_holding (wpAny_bind (L0.at (wpAny_bind (L1.at ?_))))))
  show wpAny _ _ (getAttrEveryday _ _ _) _ _ _
  refine wpAny_bind (wpAny_onRaise (wpAny_runValue (codeAny_builtin F.plainObj_entry_getattr_hooked ?_)))
  refine wpAny_bind (wpAny_pure (wpAny_bind (L0.at (wpAny_bind (L2.at ?_)))))
  refine wpAny_pure ?_
  show wpAny _ _ (handedOut v) _ _ _
  rw [handedOut_of hv]; exact wpAny_pure (wpAny_pure h)
theorem findObj_miss (hh : hasDictIn K C = true) (ha : findIn K (.ref C) name = some none) (hc : copiedNames.contains name = false) (hl : getL name es = some none) : findObj K C (some (dictOf es n)) name = some .missing := by
  obtain ⟨cd, hc', hd⟩ := any_some hh
  unfold findObj
  have ho : W.ownOf cd (some (dictOf es n)) name = some none := by unfold W.ownOf; rw [if_pos hd]; exact hl
  rw [hc', Option.bind_some, ha, Option.bind_some]
  simp only [Option.bind_some, ho, hc, Bool.false_and, Bool.false_eq_true, if_false]
theorem by_miss (X : K.In s.heap) (I : InstAt s.heap x ox C (some (dictOf es n))) (hg : plainGet K C name = true) (hh : hasDictIn K C = true) (ha : findIn K (.ref C) name = some none) (hl : getL name es = some none) (hc : copiedNames.contains name = false)
    (hnm : ∃ cd, clsIn K C = some cd ∧ cd.name.cps.foldl (fun k c => k + (Str.utf8Of c).length) 0 ≤ 100 ∧ cd.name.toString.length ≤ 100) (hlen : name.length ≤ 100) (hA : A.handled = none)
    {Q : Option Value → Shared → Prop} (h : ∀ h' tk, (∀ b o, s.heap.get? b = some o → h'.get? b = some o) → Q none { s with heap := h', toks := tk }) : wpAny (model prog w) A (getAttrBy? (.ref x) (.str name t)) Q E s := by
  obtain ⟨hh', g, d, tk, os⟩ := s
  have L0 := I.type (M := model prog w)
  have L1 := looks_findIn (M := model prog w) X (plainGet_of hg).1
  have L2 := looks_find (M := model prog w) X I (findObj_miss (n := n) hh ha hc hl)
  have L3 := looks_findIn (M := model prog w) X (plainGet_of hg).2
  obtain ⟨cd, hcd, hn1, hn2⟩ := hnm
  have L4 := looks_clsIn (M := model prog w) X hcd
  unfold getAttrBy? getAttrBy
  refine wpAny_bind (wpAny_attempt (wpAny_holding (wpAny_bind (L0.at (wpAny_bind (L1.at ?_))))))
  show wpAny _ _ (getAttrEveryday _ _ _) _ _ _
  refine wpAny_bind (wpAny_onRaise (wpAny_runValue (codeAny_builtin F.plainObj_entry_getattr_hooked ?_)))
  refine wpAny_bind (wpAny_pure (wpAny_bind (L0.at (wpAny_bind (L2.at ?_)))))
  refine wpAny_bind (L3.at ?_)
  show wpAny _ _ (noSuchAttribute _ _) _ _ _
  unfold noSuchAttribute typeNameOfCut
  refine wpAny_bind (wpAny_bind ?_)
  unfold shownTypeOf
  refine wpAny_bind (L0.at ?_)
  rw [if_neg (by intro q; exact absurd (beq_iff_eq.mp q) (by intro q; cases q))]
  refine wpAny_pure ?_
  unfold typeNameCut
  refine wpAny_bind (L4.at ?_)
  rw [if_pos hn1]
  refine wpAny_pure ?_
  refine wpAny_raiseAttrError hA (fun h' tk' e hx => ?_) ?_
  · refine wpAny_pure ?_
    obtain ⟨tt, u, he⟩ := hx.there
    dsimp only
    have LE : Looks (model prog w) h' (isInstance (.ref e) (.type "AttributeError")) true := (((Looks.ld (part := none) he).andThen .now : Looks _ _ (typeOf (.ref e)) _)).andThen (Looks.of_pure sub_AttributeError)
    refine wpAny_bind (LE.at ?_)
    rw [if_pos rfl]
    exact wpAny_pure (h _ _ hx.keeps)
  · rw [strLen_append, strLen_append, PySem.ofString_length, PySem.ofString_length, String.length_append, String.length_append]
    exact Nat.le_trans (by show _ ≤ 300; change 1 + cd.name.toString.length + 27 + name.length + 1 ≤ 300; omega) (Nat.le_of_ble_eq_true rfl)
theorem has_hit {v : Value} (X : K.In s.heap) (I : InstAt s.heap x ox C (some (dictOf es n))) (hmod : subIn K (.ref C) (.type "module") = some false) (hg : plainGet K C name = true) (hh : hasDictIn K C = true) (ha : findIn K (.ref C) name = some none)
    (hl : getL name es = some (some v)) (hv : handedIn v = true) (h : Q (.bool true) s) : wpAny (model prog w) A (call (.builtin "hasattr") [.ref x, .str name t]) Q E s :=
  has_open X I hmod (by_hit X I hg hh ha hl hv h)
theorem has_miss (X : K.In s.heap) (I : InstAt s.heap x ox C (some (dictOf es n))) (hmod : subIn K (.ref C) (.type "module") = some false) (hg : plainGet K C name = true) (hh : hasDictIn K C = true) (ha : findIn K (.ref C) name = some none)
    (hl : getL name es = some none) (hc : copiedNames.contains name = false)
    (hnm : ∃ cd, clsIn K C = some cd ∧ cd.name.cps.foldl (fun k c => k + (Str.utf8Of c).length) 0 ≤ 100 ∧ cd.name.toString.length ≤ 100) (hlen : name.length ≤ 100) (hA : A.handled = none)
    (h : ∀ h' tk, (∀ b o, s.heap.get? b = some o → h'.get? b = some o) → Q (.bool false) { s with heap := h', toks := tk }) : wpAny (model prog w) A (call (.builtin "hasattr") [.ref x, .str name t]) Q E s :=
  has_open X I hmod (by_miss (A := A.in1) X I hg hh ha hl hc hnm hlen hA h)
end
end Mine
end
section
namespace Mine
def PARTS : List Str := ["seq", "paths", "path_element", "path_elements"]
/-- what prepare_tree asks of a node's class -/
structure PC (w : World) (C : Addr) (nav : Bool) : Prop where
  base : isIn (hd.heap_39 w.params) (.ref C) 53 = true
  nav1 : nav = true → isIn (hd.heap_39 w.params) (.ref C) 153 = true
  nav0 : nav = false → kin_not (hd.heap_39 w.params) C 153 = true
  hg : plainGet (hd.heap_39 w.params) C "" = true
  hh : hasDictIn (hd.heap_39 w.params) C = true
  hcl : findIn (hd.heap_39 w.params) (.ref C) "__class__" = some (some (.builtin "object.__class__"))
  hn : specialIn (hd.heap_39 w.params) (.builtin "object.__class__") "__get__" = some (some (.builtin "getset_descriptor.__get__"))
  htk : takesIn (hd.heap_39 w.params) (.builtin "object.__class__") = some true
  hm : mroIn (hd.heap_39 w.params) C (.type "object") = some true
  notL : kin_notT (hd.heap_39 w.params) C "list" = true
  hmod : subIn (hd.heap_39 w.params) (.ref C) (.type "module") = some false
  miss : ∀ x ∈ PARTS, findIn (hd.heap_39 w.params) (.ref C) x = some none
  nm : ∃ cd, clsIn (hd.heap_39 w.params) C = some cd ∧ cd.name.cps.foldl (fun k c => k + (Str.utf8Of c).length) 0 ≤ 100 ∧ cd.name.toString.length ≤ 100
theorem pc_nav' : ∀ (w : World), PySem.Challenge.rw_wx0015_01.row.prog = PySem.Challenge.rw_wx0015_01.row.prog → hd.heap_39 w.params = hd.heap_39 w.params → PC w 153 true := by
  w_top off
  k_fill
  intro w _ _
  refine ⟨by k_is, (fun _ => by k_is), (fun h => nomatch h), by k_is, by k_is, by k_is, by k_is, by k_is, by k_is, by kin_no, by k_is, ?_, ⟨_, rfl, by decide, by decide⟩⟩
  intro x hx
  simp only [PARTS, List.mem_cons, List.not_mem_nil, or_false] at hx
  rcases hx with rfl | rfl | rfl | rfl
  · k_is
  · k_is
  · k_is
  · k_is
theorem pc_nav (w : World) : PC w 153 true := pc_nav' w rfl rfl
theorem pc_par' : ∀ (w : World), PySem.Challenge.rw_wx0015_01.row.prog = PySem.Challenge.rw_wx0015_01.row.prog → hd.heap_39 w.params = hd.heap_39 w.params → PC w 104 false := by
  k_fill
  intro w _ _
  refine ⟨by k_is, (fun h => nomatch h), (fun _ => by kin_no), by k_is, by k_is, by k_is, by k_is, by k_is, by k_is, by kin_no, by k_is, ?_, ⟨_, rfl, by decide, by decide⟩⟩
  intro x hx
  simp only [PARTS, List.mem_cons, List.not_mem_nil, or_false] at hx
  rcases hx with rfl | rfl | rfl | rfl
  · k_is
  · k_is
  · k_is
  · k_is
theorem pc_par (w : World) : PC w 104 false := pc_par' w rfl rfl
theorem pc_dots' : ∀ (w : World), PySem.Challenge.rw_wx0015_01.row.prog = PySem.Challenge.rw_wx0015_01.row.prog → hd.heap_39 w.params = hd.heap_39 w.params → PC w 252 false := by
  k_fill
  intro w _ _
  refine ⟨by k_is, (fun h => nomatch h), (fun _ => by kin_no), by k_is, by k_is, by k_is, by k_is, by k_is, by k_is, by kin_no, by k_is, ?_, ⟨_, rfl, by decide, by decide⟩⟩
  intro x hx
  simp only [PARTS, List.mem_cons, List.not_mem_nil, or_false] at hx
  rcases hx with rfl | rfl | rfl | rfl
  · k_is
  · k_is
  · k_is
  · k_is
theorem pc_dots (w : World) : PC w 252 false := pc_dots' w rfl rfl
theorem pc_br' : ∀ (w : World), PySem.Challenge.rw_wx0015_01.row.prog = PySem.Challenge.rw_wx0015_01.row.prog → hd.heap_39 w.params = hd.heap_39 w.params → PC w 203 false := by
  k_fill
  intro w _ _
  refine ⟨by k_is, (fun h => nomatch h), (fun _ => by kin_no), by k_is, by k_is, by k_is, by k_is, by k_is, by k_is, by kin_no, by k_is, ?_, ⟨_, rfl, by decide, by decide⟩⟩
  intro x hx
  simp only [PARTS, List.mem_cons, List.not_mem_nil, or_false] at hx
  rcases hx with rfl | rfl | rfl | rfl
  · k_is
  · k_is
  · k_is
  · k_is
theorem pc_br (w : World) : PC w 203 false := pc_br' w rfl rfl
theorem pc_seq' : ∀ (w : World), PySem.Challenge.rw_wx0015_01.row.prog = PySem.Challenge.rw_wx0015_01.row.prog → hd.heap_39 w.params = hd.heap_39 w.params → PC w 302 false := by
  k_fill
  intro w _ _
  refine ⟨by k_is, (fun h => nomatch h), (fun _ => by kin_no), by k_is, by k_is, by k_is, by k_is, by k_is, by k_is, by kin_no, by k_is, ?_, ⟨_, rfl, by decide, by decide⟩⟩
  intro x hx
  simp only [PARTS, List.mem_cons, List.not_mem_nil, or_false] at hx
  rcases hx with rfl | rfl | rfl | rfl
  · k_is
  · k_is
  · k_is
  · k_is
theorem pc_seq (w : World) : PC w 302 false := pc_seq' w rfl rfl
theorem pc_st' : ∀ (w : World), PySem.Challenge.rw_wx0015_01.row.prog = PySem.Challenge.rw_wx0015_01.row.prog → hd.heap_39 w.params = hd.heap_39 w.params → PC w 352 false := by
  k_fill
  intro w _ _
  refine ⟨by k_is, (fun h => nomatch h), (fun _ => by kin_no), by k_is, by k_is, by k_is, by k_is, by k_is, by k_is, by kin_no, by k_is, ?_, ⟨_, rfl, by decide, by decide⟩⟩
  intro x hx
  simp only [PARTS, List.mem_cons, List.not_mem_nil, or_false] at hx
  rcases hx with rfl | rfl | rfl | rfl
  · k_is
  · k_is
  · k_is
  · k_is
theorem pc_st (w : World) : PC w 352 false := pc_st' w rfl rfl
theorem pc_path' : ∀ (w : World), PySem.Challenge.rw_wx0015_01.row.prog = PySem.Challenge.rw_wx0015_01.row.prog → hd.heap_39 w.params = hd.heap_39 w.params → PC w 402 false := by
  k_fill
  intro w _ _
  refine ⟨by k_is, (fun h => nomatch h), (fun _ => by kin_no), by k_is, by k_is, by k_is, by k_is, by k_is, by k_is, by kin_no, by k_is, ?_, ⟨_, rfl, by decide, by decide⟩⟩
  intro x hx
  simp only [PARTS, List.mem_cons, List.not_mem_nil, or_false] at hx
  rcases hx with rfl | rfl | rfl | rfl
  · k_is
  · k_is
  · k_is
  · k_is
theorem pc_path (w : World) : PC w 402 false := pc_path' w rfl rfl
end Mine
namespace Mine
theorem nd_nav' : ∀ (w : World), PySem.Challenge.rw_wx0015_01.row.prog = PySem.Challenge.rw_wx0015_01.row.prog → kin_not (hd.heap_39 w.params) 153 252 = true ∧ kin_not (hd.heap_39 w.params) 104 252 = true ∧ kin_not (hd.heap_39 w.params) 203 252 = true ∧ kin_not (hd.heap_39 w.params) 352 252 = true ∧ isIn (hd.heap_39 w.params) (.ref 252) 252 = true := by
  k_fill
  intro w _
  exact ⟨by kin_no, by kin_no, by kin_no, by kin_no, by k_is⟩
theorem nd_all (w : World) : kin_not (hd.heap_39 w.params) 153 252 = true ∧ kin_not (hd.heap_39 w.params) 104 252 = true ∧ kin_not (hd.heap_39 w.params) 203 252 = true ∧ kin_not (hd.heap_39 w.params) 352 252 = true ∧ isIn (hd.heap_39 w.params) (.ref 252) 252 = true := nd_nav' w rfl
end Mine
end
section
namespace Mine
section
variable {prog : Program} {w : World} {A₀ A : Around} {s : Shared} {base h₀ : Heap} {outer : List Env} {L : Addr} {m : Str → Option Value} {env : Env} {news : Led} {K : Frag}
  {R : Result → Shared → Prop} {name qual : Str} {params : Arguments} {body : List Stmt} {scope : Scope} {doc pm ctv : Value} {f c' : Addr} {args : Args} {cl : List (Str × Addr)}
  {mg mb : Str → Option Value} {p : Program} {loose : List Str} {mean : ExcName → Option Value}
/-- the call of a nested function whose one parameter is a cell -/
theorem code_nestC {x : Str} {v : Value} (B : Below A₀ base outer h₀) (F : Fr h₀ L s.heap m) (X₀ : K.In h₀) (N : News h₀ L s.heap news) (T : Top p loose mean mg mb h₀) (hA : A.frames = some (env :: outer)) (hf : env.frame = some L) (hke : env.scope.kind = .function)
    (ho : (f, fnMade name qual params body scope cl doc pm c' ctv) ∈ news) (hcd : s.heap.CodeRec (.ref c') qual) (hroom : A.depth < recursionLimit)
    (hbind : BindsTo s (fnX name qual params body scope cl .none .none doc pm none (.ref c') ctv) args [(x, v)])
    (h : ∀ g L' h₁ tk oC, Fr h₀ L g m → Fr g L' h₁ (fun _ => none) → News g L' h₁ ((L' + 1, oC) :: news) → oC.data = .cell (some v) → Below A base (env :: outer) g → K.In g → Top p loose mean mg mb g → (∀ p ∈ news, p.1 < L') →
      wpAny (model prog w) (A.deeper (envX qual scope L' f (.ref c') ((x, L' + 1) :: cl))) (execs body (envX qual scope L' f (.ref c') ((x, L' + 1) :: cl)))
        (fun fl s' => LeaveK h₀ L m g R (match fl with | .ret v => v | _ => .none) s')
        (fun e s' => wpAny (model prog w) (A.deeper (envX qual scope L' f (.ref c') ((x, L' + 1) :: cl))) (leaving (envX qual scope L' f (.ref c') ((x, L' + 1) :: cl)) e) (fun _ s'' => R (.error e) s'') (fun e' s'' => R (.error e') s'') s')
        { s with heap := h₁, toks := tk })
    (hcf : ∀ n, cellsFrom n scope.names cl = (x, n) :: cl) (hpc : ∀ h, pushCells h scope.names = h.push { cls := .type "cell", data := .cell none }) (hkx : scope.names.lookup x = some .cell)
    (hco : scope.isCoroutine = false) (hgen : scope.isGenerator = false) (hk : scope.kind = .function) : codeAny (model prog w) A (.call (.ref f) args) R s := by
  obtain ⟨FG, BG, st, lv⟩ := groundX (R := R) B F N hA hf hke
  have hlim : h₀.NoLimit := T.nolimit
  refine codeAny_call_function hroom (N _ ho).1 rfl hco hgen rfl hcd (hbind _ _ _ _ ?_)
  show wpAny _ A.in1 (newFunctionEnv scope mainGlobals cl [(x, v)] (qual ++ ".<locals>.") (some f) (.ref c') none builtinsNs) _ _ s
  simp only [newFunctionEnv, Option.isSome_none, Bool.false_eq_true, if_false]
  refine wpAny_bind (wpAny_alloc ?_)
  refine wpAny_bind (wpAny_layCells _ (fun name kind cells => by cases hkc : kind == NameKind.cell <;> simp [hkc]) _ _ _ _ ?_)
  rw [hcf, hpc]
  rw [show ({ s with heap := s.heap.push { cls := .type "frame", data := .dict #[] } } : Shared).heap.objs.size = s.heap.objs.size + 1 from Heap.size_push ..]
  dsimp only
  have hc0 : ((s.heap.push { cls := .type "frame", data := .dict #[] }).push { cls := .type "cell", data := .cell none }).IsCell (s.heap.objs.size + 1) none := by
    have := Heap.get?_push_size (s.heap.push { cls := .type "frame", data := .dict #[] }) (o := { cls := .type "cell", data := .cell none }) rfl
    rw [Heap.size_push] at this
    exact ⟨_, this, rfl⟩
  rw [List.forIn_cons]
  refine wpAny_bind (wpAny_bind (wpAny_bind (wpAny_storeName_cell hk (by show scope.names.lookup x = _; exact hkx) (by show List.lookup x ((x, s.heap.objs.size + 1) :: cl) = _; rw [List.lookup_cons, beq_self_eq_true]) hc0 fun h' hc' hs' => wpAny_pure ?_)))
  dsimp only
  rw [List.forIn_nil]
  have hk₁ : ∀ b o, s.heap.get? b = some o → h'.get? b = some o := fun b o e => hs'.extBut b o (Nat.ne_of_lt (Nat.lt_succ_of_lt (Heap.lt_size e))) (Heap.get?_push_of_some _ (Heap.get?_push_of_some _ e))
  obtain ⟨oC, hoC, hdC⟩ := hc'
  have hns : h'.Ns s.heap.objs.size fun _ => none := ((Heap.Ns.new s.heap (.type "frame")).keeps fun b o e => Heap.get?_push_of_some _ e).sameBut hs' (Nat.ne_of_lt (Nat.lt_succ_self _))
  refine wpAny_pure (wpAny_pure ⟨(hlim.keeps F.keep).keeps hk₁, codeAny_func ?_⟩)
  refine wpAny_mono (h _ s.heap.objs.size h' _ oC FG ⟨hns, fun b o e => hk₁ b o (of_hideAll _ e), Nat.le_of_eq (hideAll_size _ _)⟩ (fun p hp => ?_) hdC BG (X₀.keeps st) (T.keeps st) (fun p hp => Heap.lt_size (N p hp).1)) (fun fl s' hl => lv _ _ hl) fun _ _ y => y
  rcases List.mem_cons.mp hp with rfl | hp
  · refine ⟨hoC, Nat.ne_of_gt (Nat.lt_succ_self _), ?_⟩
    cases q : (hideAll s.heap (news.map (·.1))).get? (s.heap.objs.size + 1) with
    | none => rfl
    | some o => exact absurd (Heap.lt_size (of_hideAll _ q)) (Nat.not_lt.mpr (Nat.le_succ _))
  · exact ⟨hk₁ _ _ (N p hp).1, Nat.ne_of_lt (Heap.lt_size (N p hp).1), hideAll_none _ (List.mem_map_of_mem hp)⟩
end
end Mine
end
section
namespace Mine
/-- a navigation's dict, its expression turned -/
def NavD (w : World) (o o' : Obj) : Prop := ∃ t1 t2 t3 t4 v1 v2 v3 ev ev' n n', o = dictOf [ent w "name" t1 v1, ent w "consume_name" t2 v2, ent w "fixed_name" t3 v3, ent w "rrel_expression" t4 ev] n ∧
  o' = dictOf [ent w "name" t1 v1, ent w "consume_name" t2 v2, ent w "fixed_name" t3 v3, ent w "rrel_expression" t4 ev'] n'
def notNav (o : Obj) : Bool := (match o.data with
  | .dict es _ => es.size != 4 || (match es[0]? with | some e => !e.key.isStr "name" | none => true)
  | _ => true) || decide (o.cls ≠ .type "dict")
theorem notNav.no {w : World} {o o' : Obj} (h : notNav o = true) : ¬ NavD w o o' := by
  rintro ⟨t1, t2, t3, t4, v1, v2, v3, ev, ev', n, n', rfl, -⟩
  exact absurd h (by simp [notNav, dictOf, ent, Value.isStr])
theorem nn_iter {o : Obj} (h : o.cls = .type "list_iterator") : notNav o = true := by
  unfold notNav; rw [h]; rw [Bool.or_eq_true]; exact .inr (by decide)
theorem nn_forall {l : Led} : (∀ p ∈ l, notNav p.2 = true) ↔ l.all (fun p => notNav p.2) = true := List.all_eq_true.symm
theorem NavD.trans {w : World} {a b c : Obj} (h : NavD w a b) (k : NavD w b c) : NavD w a c := by
  obtain ⟨t1, t2, t3, t4, v1, v2, v3, ev, ev', n, n', rfl, rfl⟩ := h
  obtain ⟨s1, s2, s3, s4, u1, u2, u3, e1, e2, m, m', h1, rfl⟩ := k
  simp only [dictOf, ent, Obj.mk.injEq, Data.dict.injEq, List.toArray_inj, Array.mk.injEq, List.cons.injEq, DictEntry.mk.injEq, Value.str.injEq, true_and, and_true] at h1
  obtain ⟨⟨⟨rfl, rfl⟩, ⟨rfl, rfl⟩, ⟨rfl, rfl⟩, rfl, rfl⟩, rfl⟩ := h1
  exact ⟨_, _, _, _, _, _, _, ev, e2, n, m', rfl, rfl⟩
def Turned (w : World) (l l' : Led) : Prop := ∃ g : Addr × Obj → Addr × Obj, l' = l.map g ∧ ∀ p ∈ l, g p = p ∨ ∃ o', NavD w p.2 o' ∧ g p = (p.1, o')
theorem Turned.refl (w : World) (l : Led) : Turned w l l := ⟨id, (List.map_id l).symm, fun _ _ => .inl rfl⟩
theorem Turned.trans {w : World} {a b c : Led} (h : Turned w a b) (k : Turned w b c) : Turned w a c := by
  obtain ⟨g, rfl, hg⟩ := h
  obtain ⟨g', rfl, hg'⟩ := k
  refine ⟨fun p => g' (g p), by rw [List.map_map]; rfl, fun p hp => ?_⟩
  have h2 := hg' (g p) (List.mem_map_of_mem hp)
  dsimp only
  rcases hg p hp with h1 | ⟨o1, n1, h1⟩
  · rw [h1] at h2 ⊢; exact h2
  · rcases h2 with h2 | ⟨o2, n2, h2⟩
    · exact .inr ⟨o1, n1, h2.trans h1⟩
    · rw [h1] at n2 h2
      exact .inr ⟨o2, n1.trans n2, by rw [h1]; exact h2⟩
theorem Turned.split {w : World} {x y z : Led} (h : Turned w (x ++ y) z) : ∃ x' y', z = x' ++ y' ∧ Turned w x x' ∧ Turned w y y' := by
  obtain ⟨g, rfl, hg⟩ := h
  exact ⟨x.map g, y.map g, List.map_append, ⟨g, rfl, fun p hp => hg p (List.mem_append.mpr (.inl hp))⟩, ⟨g, rfl, fun p hp => hg p (List.mem_append.mpr (.inr hp))⟩⟩
theorem Turned.stay {w : World} {x x' : Led} (h : Turned w x x') (k : ∀ p ∈ x, notNav p.2 = true) : x' = x := by
  obtain ⟨g, rfl, hg⟩ := h
  have : ∀ p ∈ x, g p = id p := fun p hp => by
    rcases hg p hp with h | ⟨o', n, _⟩
    · exact h
    · exact absurd n (notNav.no (k p hp))
  rw [List.map_congr_left this, List.map_id]
theorem Turned.own {w : World} {x y z : Led} (h : Turned w (x ++ y) z) (k : ∀ p ∈ x, notNav p.2 = true) : ∃ y', z = x ++ y' ∧ Turned w y y' := by
  obtain ⟨x', y', rfl, hx, hy⟩ := h.split
  obtain rfl := hx.stay k
  exact ⟨y', rfl, hy⟩
theorem Turned.mem {w : World} {l l' : Led} (h : Turned w l l') {p : Addr × Obj} (hp : p ∈ l) (k : notNav p.2 = true) : p ∈ l' := by
  obtain ⟨g, rfl, hg⟩ := h
  rcases hg p hp with h | ⟨o', n, _⟩
  · exact h ▸ List.mem_map_of_mem hp
  · exact absurd n (notNav.no k)
theorem Turned.nav {w : World} {l l' : Led} (h : Turned w l l') {d : Addr} {t1 t2 t3 t4 : Tok} {v1 v2 v3 ev : Value} {n : Nat}
    (hp : (d, dictOf [ent w "name" t1 v1, ent w "consume_name" t2 v2, ent w "fixed_name" t3 v3, ent w "rrel_expression" t4 ev] n) ∈ l) :
    ∃ ev' n', (d, dictOf [ent w "name" t1 v1, ent w "consume_name" t2 v2, ent w "fixed_name" t3 v3, ent w "rrel_expression" t4 ev'] n') ∈ l' := by
  obtain ⟨g, rfl, hg⟩ := h
  rcases hg _ hp with h | ⟨o', ⟨s1, s2, s3, s4, u1, u2, u3, e1, e2, m, m', h1, rfl⟩, h⟩
  · exact ⟨ev, n, h ▸ List.mem_map_of_mem hp⟩
  · simp only [dictOf, ent, Obj.mk.injEq, Data.dict.injEq, List.toArray_inj, Array.mk.injEq, List.cons.injEq, DictEntry.mk.injEq, Value.str.injEq, true_and, and_true] at h1
    obtain ⟨⟨⟨rfl, rfl⟩, ⟨rfl, rfl⟩, ⟨rfl, rfl⟩, rfl, rfl⟩, rfl⟩ := h1
    exact ⟨e2, m', h ▸ List.mem_map_of_mem hp⟩
theorem Turned.dict {w : World} {l l' : Led} (h : Turned w l l') {d : Addr} {es : List DictEntry} {n : Nat} (hp : (d, dictOf es n) ∈ l) : ∃ es' n', (d, dictOf es' n') ∈ l' := by
  obtain ⟨g, rfl, hg⟩ := h
  have z := List.mem_map_of_mem (f := g) hp
  rcases hg _ hp with h | ⟨o', ⟨s1, s2, s3, s4, u1, u2, u3, e1, e2, m, m', h1, rfl⟩, h⟩
  · rw [h] at z; exact ⟨_, _, z⟩
  · rw [h] at z; exact ⟨_, _, z⟩
theorem Turned.ap {w : World} {l l' : Led} (h : Turned w l l') {a : Addr} (k : Ap a l) : Ap a l' := by
  obtain ⟨g, rfl, hg⟩ := h
  intro q hq
  obtain ⟨p, hp, rfl⟩ := List.mem_map.mp hq
  rcases hg p hp with h | ⟨o', _, h⟩
  · rw [h]; exact k p hp
  · rw [h]; exact k p hp
theorem Turned.allLt {w : World} {l l' : Led} (h : Turned w l l') {a : Addr} (k : AllLt a l) : AllLt a l' := by
  obtain ⟨g, rfl, hg⟩ := h
  refine allLt_of fun q hq => ?_
  obtain ⟨p, hp, rfl⟩ := List.mem_map.mp hq
  rcases hg p hp with h | ⟨o', _, h⟩
  · rw [h]; exact allLt_mem k p hp
  · rw [h]; exact allLt_mem k p hp
theorem nn_inst (C d : Addr) : notNav (instObj C d) = true := rfl
theorem nn_list (a : Array Value) (n : Nat) : notNav (W.listOf a n) = true := rfl
theorem nn_tup (vs : List Value) : notNav (tupOf vs) = true := rfl
theorem nn_d1 (e : DictEntry) (n : Nat) : notNav (dictOf [e] n) = true := rfl
mutual
theorem El.Made.turn {w : World} {P P' : Led} (k : Turned w P P') : ∀ (e : El) (v : Value), e.Made w P v → e.Made w P' v
  | .nav x c f, v => by
    simp only [El.Made]
    rintro ⟨a, d, t1, t2, t3, t4, t5, n, fv, ev, h1, h2, h3, h4⟩
    obtain ⟨ev', n', h5⟩ := k.nav h3
    exact ⟨a, d, t1, t2, t3, t4, t5, n', fv, ev', h1, k.mem h2 rfl, h5, h4⟩
  | .par x, v => by simp only [El.Made]; rintro ⟨a, d, t1, t2, n, h1, h2, h3⟩; exact ⟨a, d, t1, t2, n, h1, k.mem h2 rfl, k.mem h3 rfl⟩
  | .dots x, v => by simp only [El.Made]; rintro ⟨a, d, t1, t2, n, h1, h2, h3⟩; exact ⟨a, d, t1, t2, n, h1, k.mem h2 rfl, k.mem h3 rfl⟩
  | .br ws, v => by simp only [El.Made]; rintro ⟨a, d, t1, n, q, h1, h2, h3, h4⟩; exact ⟨a, d, t1, n, q, h1, k.mem h2 rfl, k.mem h3 rfl, Ways.Made.turn k ws q h4⟩
  | .st ws, v => by simp only [El.Made]; rintro ⟨a, d, t1, n, b, d2, t2, n2, q, h1, h2, h3, h4, h5, h6⟩; exact ⟨a, d, t1, n, b, d2, t2, n2, q, h1, k.mem h2 rfl, k.mem h3 rfl, k.mem h4 rfl, k.mem h5 rfl, Ways.Made.turn k ws q h6⟩
theorem Ways.Made.turn {w : World} {P P' : Led} (k : Turned w P P') : ∀ (e : Ways) (a : Addr), e.Made w P a → e.Made w P' a
  | .one p, a => by simp only [Ways.Made]; rintro ⟨d, t, n, l, c, p', h1, h2, h3, h4⟩; exact ⟨d, t, n, l, c, p', k.mem h1 rfl, k.mem h2 rfl, k.mem h3 rfl, Pth.Made.turn k p p' h4⟩
  | .two p q, a => by simp only [Ways.Made]; rintro ⟨d, t, n, l, c, p', q', h1, h2, h3, h4, h5⟩; exact ⟨d, t, n, l, c, p', q', k.mem h1 rfl, k.mem h2 rfl, k.mem h3 rfl, Pth.Made.turn k p p' h4, Pth.Made.turn k q q' h5⟩
theorem Pth.Made.turn {w : World} {P P' : Led} (k : Turned w P P') : ∀ (e : Pth) (a : Addr), e.Made w P a → e.Made w P' a
  | .one x, a => by simp only [Pth.Made]; rintro ⟨d, t, n, l, c, u, h1, h2, h3, h4⟩; exact ⟨d, t, n, l, c, u, k.mem h1 rfl, k.mem h2 rfl, k.mem h3 rfl, El.Made.turn k x u h4⟩
  | .two x y, a => by simp only [Pth.Made]; rintro ⟨d, t, n, l, c, u, v, h1, h2, h3, h4, h5⟩; exact ⟨d, t, n, l, c, u, v, k.mem h1 rfl, k.mem h2 rfl, k.mem h3 rfl, El.Made.turn k x u h4, El.Made.turn k y v h5⟩
  | .thr x y z, a => by simp only [Pth.Made]; rintro ⟨d, t, n, l, c, u, v, r, h1, h2, h3, h4, h5, h6⟩; exact ⟨d, t, n, l, c, u, v, r, k.mem h1 rfl, k.mem h2 rfl, k.mem h3 rfl, El.Made.turn k x u h4, El.Made.turn k y v h5, El.Made.turn k z r h6⟩
end
mutual
theorem El.In.turn {w : World} {P P' : Led} (k : Turned w P P') : ∀ (e : El) (v : Value), e.In P v → e.In P' v
  | .nav w c f, v => by simp only [El.In]; rintro ⟨a, t1, t2, fv, h1, h2, h3⟩; exact ⟨a, t1, t2, fv, h1, k.mem h2 rfl, h3⟩
  | .par x, v => by simp only [El.In]; rintro ⟨a, t1, t2, h1, h2⟩; exact ⟨a, t1, t2, h1, k.mem h2 rfl⟩
  | .dots x, v => by simp only [El.In]; rintro ⟨a, t1, t2, h1, h2⟩; exact ⟨a, t1, t2, h1, k.mem h2 rfl⟩
  | .br ws, v => by simp only [El.In]; rintro ⟨a, t1, l, h1, h2, h3⟩; exact ⟨a, t1, l, h1, k.mem h2 rfl, Ways.In.turn k ws l h3⟩
  | .st ws, v => by simp only [El.In]; rintro ⟨a, t1, l, h1, h2, h3⟩; exact ⟨a, t1, l, h1, k.mem h2 rfl, Ways.In.turn k ws l h3⟩
theorem Ways.In.turn {w : World} {P P' : Led} (k : Turned w P P') : ∀ (e : Ways) (l : Addr), e.In P l → e.In P' l
  | .one p, l => by simp only [Ways.In]; rintro ⟨n, a, h1, h2⟩; exact ⟨n, a, k.mem h1 rfl, Pth.In.turn k p a h2⟩
  | .two p q, l => by simp only [Ways.In]; rintro ⟨n, a, b, h1, h2, h3⟩; exact ⟨n, a, b, k.mem h1 rfl, Pth.In.turn k p a h2, Pth.In.turn k q b h3⟩
theorem Pth.In.turn {w : World} {P P' : Led} (k : Turned w P P') : ∀ (e : Pth) (l : Addr), e.In P l → e.In P' l
  | .one x, l => by simp only [Pth.In]; rintro ⟨n, u, h1, h2⟩; exact ⟨n, u, k.mem h1 rfl, El.In.turn k x u h2⟩
  | .two x y, l => by simp only [Pth.In]; rintro ⟨n, u, v, h1, h2, h3⟩; exact ⟨n, u, v, k.mem h1 rfl, El.In.turn k x u h2, El.In.turn k y v h3⟩
  | .thr x y z, l => by simp only [Pth.In]; rintro ⟨n, u, v, r, h1, h2, h3, h4⟩; exact ⟨n, u, v, r, k.mem h1 rfl, El.In.turn k x u h2, El.In.turn k y v h3, El.In.turn k z r h4⟩
end
theorem led_split3 {h₀ h : Heap} {L : Addr} {a b c : Addr × Obj} {news : Led} (N : News h₀ L h (a :: b :: c :: news)) : ∃ x : Led, x = [a, b, c] ∧ News h₀ L h (x ++ news) := ⟨_, rfl, N⟩
def CallsT (w : World) (dN uN : Nat) (f : Value) (vs : List Value) (Pre : Led → Prop) : Prop :=
  ∀ (p : Program) (loose : List Str) (mean : ExcName → Option Value) (mg mb : Str → Option Value) (dp un : Nat) (gd : Option (List Code)) (cn : Str) (cs : Scope) (a : Addr) (ccd : Value) (cl : List (Str × Addr)) (outer : List Env)
    (A₀ : Around) (base h₀ : Heap) (L : Addr) (m : Str → Option Value) (news : Led) (s : Shared) (Q E : Value → Shared → Prop),
    Below A₀ base outer h₀ → Fr h₀ L s.heap m → (hd.heap_39 w.params).In h₀ → TabsG h₀ → News h₀ L s.heap news → Top p loose mean mg mb h₀ → cs.kind = .function →
    dp + dN < recursionLimit → un + uN < cLine → Pre news →
    (∀ news' h' tk', Fr h₀ L h' m → News h₀ L h' news' → Turned w news news' → Q .none { s with heap := h', toks := tk' }) →
    wpAny (model PySem.Challenge.rw_wx0015_01.row.prog w) (ktrTop dp un gd cn cs L a ccd cl outer) (call f vs) Q E s
theorem CallsT.use {w : World} {dN uN : Nat} {f : Value} {vs : List Value} {Pre : Led → Prop} (C : CallsT w dN uN f vs Pre)
    {p : Program} {loose : List Str} {mean : ExcName → Option Value} {mg mb : Str → Option Value} {dp un : Nat} {gd : Option (List Code)} {cn : Str} {cs : Scope} {a : Addr} {ccd : Value} {cl : List (Str × Addr)} {outer : List Env}
    {A₀ : Around} {base h₀ : Heap} {L : Addr} {m : Str → Option Value} {all : Led} {s : Shared} {Q E : Value → Shared → Prop}
    (B : Below A₀ base outer h₀) (F : Fr h₀ L s.heap m) (X : (hd.heap_39 w.params).In h₀) (TG : TabsG h₀) (N : News h₀ L s.heap all) (T : Top p loose mean mg mb h₀) (hk : cs.kind = .function)
    (hd : dp + dN < recursionLimit) (hu : un + uN < cLine) (pre : Pre all)
    (ret : ∀ all' h' tk', Fr h₀ L h' m → News h₀ L h' all' → Turned w all all' → Q .none { s with heap := h', toks := tk' }) :
    wpAny (model PySem.Challenge.rw_wx0015_01.row.prog w) (ktrTop dp un gd cn cs L a ccd cl outer) (call f vs) Q E s :=
  C _ _ _ _ _ _ _ _ _ _ _ _ _ _ _ _ _ _ _ _ _ _ _ B F X TG N T hk hd hu pre ret
/-- prepare_tree's text -/
def clsIn' (n : String) (b : List Stmt) : Option (List Stmt) := b.findSome? fun st => match st with
  | .ClassDef m _ _ b _ _ _ _ _ _ _ => if m == Str.ofString n then some b else none
  | _ => none
def prepParts : Arguments × List Stmt × Scope := ((((clsIn' "RRELExpression" PySem.Challenge.pw_wx0015_01.main.body).bind fun b => defIn "__init__" b).bind fun x => defIn "prepare_tree" x.2.1).getD (noArgs, [], default))
abbrev prepObj (qual : Str) (cP cS : Addr) (doc pm : Value) (c' : Addr) (ctv : Value) : Obj :=
  fnMade "prepare_tree" qual prepParts.1 prepParts.2.1 prepParts.2.2 [("self", cS), ("prepare_tree", cP)] doc pm c' ctv
def PrepFix (P : Led) (pt : Addr) : Prop := ∃ (cP cS c' sf : Addr) (oP oS oc : Obj) (vs : Array Value) (t : Tok) (doc pm ctv : Value) (qual : Str),
  (pt, prepObj qual cP cS doc pm c' ctv) ∈ P ∧ (cP, oP) ∈ P ∧ (cS, oS) ∈ P ∧ (c', oc) ∈ P ∧ oP.data = .cell (some (.ref pt)) ∧ oS.data = .cell (some (.ref sf)) ∧ oc.data = .fields vs ∧ vs[1]? = some (.str qual t)
theorem nn_cell {o : Obj} {v : Option Value} (h : o.data = .cell v) : notNav o = true := by unfold notNav; rw [h]; rfl
theorem nn_fields {o : Obj} {v : Array Value} (h : o.data = .fields v) : notNav o = true := by unfold notNav; rw [h]; rfl
theorem PrepFix.turn {w : World} {P P' : Led} {pt : Addr} (h : PrepFix P pt) (k : Turned w P P') : PrepFix P' pt := by
  obtain ⟨cP, cS, c', sf, oP, oS, oc, vs, t, doc, pm, ctv, qual, h1, h2, h3, h4, h5, h6, h7, h8⟩ := h
  exact ⟨cP, cS, c', sf, oP, oS, oc, vs, t, doc, pm, ctv, qual, k.mem h1 rfl, k.mem h2 (nn_cell h5), k.mem h3 (nn_cell h6), k.mem h4 (nn_fields h7), h5, h6, h7, h8⟩
theorem PrepFix.mono {P P' : Led} {pt : Addr} (h : PrepFix P pt) (k : ∀ p ∈ P, p ∈ P') : PrepFix P' pt := by
  obtain ⟨cP, cS, c', sf, oP, oS, oc, vs, t, doc, pm, ctv, qual, h1, h2, h3, h4, h5, h6, h7, h8⟩ := h
  exact ⟨cP, cS, c', sf, oP, oS, oc, vs, t, doc, pm, ctv, qual, k _ h1, k _ h2, k _ h3, k _ h4, h5, h6, h7, h8⟩
/-- a node as prepare_tree sees it, its height at most k -/
inductive Nd (w : World) (P : Led) : Nat → Value → Prop
  | nav {k : Nat} {a d : Addr} {t1 t2 t3 t4 : Tok} {v1 v2 v3 ev : Value} {n : Nat} : (a, instObj 153 d) ∈ P → (d, dictOf [ent w "name" t1 v1, ent w "consume_name" t2 v2, ent w "fixed_name" t3 v3, ent w "rrel_expression" t4 ev] n) ∈ P → Nd w P (k + 1) (.ref a)
  | leaf {k : Nat} {a C d : Addr} {x : Str} {t : Tok} {v : Value} {n : Nat} : PC w C false → (a, instObj C d) ∈ P → (d, dictOf [ent w x t v] n) ∈ P → (∀ y ∈ PARTS, (x == y) = false) → Nd w P (k + 1) (.ref a)
  | one {k : Nat} {a C d b C2 d2 : Addr} {x : Str} {t : Tok} {n : Nat} {nav : Bool} : PC w C false → (a, instObj C d) ∈ P → (d, dictOf [ent w x t (.ref b)] n) ∈ P → x ∈ PARTS → PC w C2 nav → (b, instObj C2 d2) ∈ P → (∃ es n2, (d2, dictOf es n2) ∈ P) → Nd w P k (.ref b) → Nd w P (k + 1) (.ref a)
  | many {k : Nat} {a C d l : Addr} {x : Str} {t : Tok} {n m : Nat} {vs : List Value} : PC w C false → (a, instObj C d) ∈ P → (d, dictOf [ent w x t (.ref l)] n) ∈ P → x ∈ PARTS → (l, W.listOf vs.toArray m) ∈ P → vs.length ≤ 3 → (∀ v ∈ vs, Nd w P k v) → Nd w P (k + 1) (.ref a)
theorem Nd.turn {w : World} {P P' : Led} {k : Nat} {v : Value} (h : Nd w P k v) (q : Turned w P P') : Nd w P' k v := by
  induction h with
  | nav h1 h2 => obtain ⟨ev', n', h3⟩ := q.nav h2; exact .nav (q.mem h1 rfl) h3
  | leaf h1 h2 h3 h4 => exact .leaf h1 (q.mem h2 rfl) (q.mem h3 rfl) h4
  | one h1 h2 h3 h4 h5 h6 h7 h8 ih =>
    obtain ⟨es, n2, h7⟩ := h7
    refine .one h1 (q.mem h2 rfl) (q.mem h3 rfl) h4 h5 (q.mem h6 rfl) ?_ ih
    obtain ⟨g, rfl, hg⟩ := q
    rcases hg _ h7 with h | ⟨o', ⟨s1, s2, s3, s4, u1, u2, u3, e1, e2, m, m', h1, rfl⟩, h⟩
    · have z := List.mem_map_of_mem (f := g) h7
      rw [h] at z
      exact ⟨_, _, z⟩
    · have z := List.mem_map_of_mem (f := g) h7
      rw [h] at z
      exact ⟨_, _, z⟩
  | many h1 h2 h3 h4 h5 h6 h7 ih => exact .many h1 (q.mem h2 rfl) (q.mem h3 rfl) h4 (q.mem h5 rfl) h6 ih
theorem Nd.mono {w : World} {P P' : Led} {k : Nat} {v : Value} (h : Nd w P k v) (q : ∀ p ∈ P, p ∈ P') : Nd w P' k v := by
  induction h with
  | nav h1 h2 => exact .nav (q _ h1) (q _ h2)
  | leaf h1 h2 h3 h4 => exact .leaf h1 (q _ h2) (q _ h3) h4
  | one h1 h2 h3 h4 h5 h6 h7 h8 ih => obtain ⟨es, n2, h7⟩ := h7; exact .one h1 (q _ h2) (q _ h3) h4 h5 (q _ h6) ⟨_, _, q _ h7⟩ ih
  | many h1 h2 h3 h4 h5 h6 h7 ih => exact .many h1 (q _ h2) (q _ h3) h4 (q _ h5) h6 ih
end Mine
end
section
namespace Mine
open PyProof.Rows.LCg PyProof.Rows.LCt
section
variable {prog : Program} {w : World} {A : Around} {E : Value → Shared → Prop} {s : Shared} {h₀ : Heap} {L : Addr} {m : Str → Option Value} {env : Env}
/-- a comprehension with a test over a tuple of the ledger -/
def TupSrcT (prog : Program) (w : World) (A : Around) (h₀ : Heap) (L : Addr) (m : Str → Option Value) (env : Env) (ct elt : Expr) (x : Str) (scope : Scope) (cl : List (Str × Addr)) (Fin : Shared → List Value → Led → Prop) (xv : Value) (s₁ : Shared) : Prop :=
  ∃ (ax : Addr) (its : List Value) (news : Led), xv = .ref ax ∧ A.handled = none ∧ Fr h₀ L s₁.heap m ∧ News h₀ L s₁.heap news ∧ (ax, tupOf its) ∈ news ∧ its.length ≤ sizeLine ∧
    ∀ g, CompRestT prog w A h₀ L m env ct elt x scope cl { s₁ with heap := g } (fun nw => (ax, tupOf its) ∈ nw) (fun i v => its[i]? = some v) (Fin { s₁ with heap := g }) its.length 0 [] news
theorem ListComp_TT {ct elt iter : Expr} {x : Str} {px : Pos} {scope : Scope} {cl : List (Str × Addr)} {pos : Pos} {Q : Value → Shared → Prop} (F₀ : Fr h₀ L s.heap m)
    (hclos : closureFor scope env = pure cl) (hcell : ∀ y ∈ scope.names, y.2 ≠ .cell) (hkind : scope.kind = .function)
    (hnames : ∀ y ∈ scope.names, y.2 = .local → scope.names.lookup y.1 = some .local) (hx : scope.names.lookup x = some .local)
    (h : wpAny (model prog w) A (eval iter env) (TupSrcT prog w A h₀ L m env ct elt x scope cl (fun s₂ => FinE h₀ L m s₂ Q)) E s)
    (hs : ∀ x, foldedSetIterable iter env x = pure x := by intro _; rfl) :
    wpAny (model prog w) A (eval (.ListComp elt [⟨.Name x px, iter, [ct], 0⟩] scope pos) env) Q E s := by
  rw [eval_ListComp]
  refine wpAny_comprehension_free (use := none) rfl hs hclos hkind hnames (wpAny_mono h (fun xv s₁ h₁ => ?_) fun _ _ e => e)
  obtain ⟨ax, its, news, rfl, hh, F, N, S, hsz, R⟩ := h₁
  have hl : s₁.heap.IsTuple ax its.toArray := ⟨_, (N _ S).1, rfl, 0, rfl⟩
  have hlt : ax < s₁.heap.objs.size := Heap.lt_size (N _ S).1
  refine wpAny_pyIter_tuple hl ?_
  have up : ∀ b o, s₁.heap.get? b = some o → (s₁.heap.push { cls := .type "tuple_iterator", data := .fields #[.ref ax, .int 0 0] }).get? b = some o := fun b o e => Heap.get?_push_of_some _ e
  have sz : its.toArray.size = its.length := List.size_toArray
  have W := Walks.tuple (prog := prog) (w := w) hh s₁.heap.objs.size ax (Nat.ne_of_lt hlt) its.toArray
  rw [sz] at W
  have R' := R (s₁.heap.push { cls := .type "tuple_iterator", data := .fields #[.ref ax, .int 0 0] })
  have eP : (fun (i : Nat) (v : Value) => its.toArray[i]? = some v) = fun i v => its[i]? = some v := by funext i v; simp
  rw [eP] at W
  refine block_T W hsz (fun i h st => by obtain ⟨o, e, _⟩ := st.1; exact ⟨o, e⟩) ?_ hcell hkind hx ⟨⟨_, Heap.get?_push_size _ rfl, rfl, rfl⟩, hl.at fun o e => Heap.get?_push_of_some _ e⟩ (fun b hb => ?_)
    (F.keeps up) (N.grown up) (Nat.ne_of_lt F.ns.lt) (next_is_new F) (fun p hp => Nat.ne_of_lt (Heap.lt_size (N p hp).1)) S R' ?_
  · intro i h h' o nw st e e' k N' S'
    exact ⟨by obtain ⟨o', q, r⟩ := st.1; rw [e] at q; cases q; exact ⟨o, e', r⟩, ⟨_, (N' _ S').1, rfl, 0, rfl⟩⟩
  · show b < (s₁.heap.push _).objs.size
    rw [Heap.size_push]
    rcases List.mem_cons.mp hb with rfl | hb
    · exact Nat.lt_succ_self _
    · rw [List.mem_singleton.mp hb]; exact Nat.lt_succ_of_lt hlt
  · intro D C h tk m' ys news' F' N' o1 hn hC₀ hD₀ hCL hDL hCD offC fin
    refine ⟨m', hn, fun h'' hs'' => fin D h'' tk (F'.change hs'' hCL hC₀) (fun p hp => ?_) o1⟩
    refine ⟨hs''.extBut _ _ ?_ (N' p hp).1, (N' p hp).2⟩
    rcases List.mem_cons.mp hp with rfl | hp
    · exact Ne.symm hCD
    · exact offC p hp
/-- a comprehension with a test whose turns drop what they make -/
theorem compRestT_fold {ct elt : Expr} {x : Str} {scope : Scope} {cl : List (Str × Addr)} {S : Led → Prop} {P : Nat → Value → Prop} {Fin : List Value → Led → Prop} {n : Nat} {news : Led} (r : Nat → Option Value)
    (step : ∀ i v ys I oI C oC D m₂ h tk (E' : Value → Shared → Prop), i < n → P i v → NsObj oC m₂ → m₂ x = some v → Fr h₀ L h m → News h₀ L h ((I, oI) :: (C, oC) :: (D, lst ys) :: news) → Off3 I C D news → ((@Ne Nat I C) ∧ (@Ne Nat I D) ∧ (@Ne Nat C D)) →
      wpAny (model prog w) A (isTrue ct (compEnvC scope cl C env) (eval ct (compEnvC scope cl C env))) (fun ok s' => if ok = true then
        wpAny (model prog w) A (eval elt (compEnvC scope cl C env)) (CompEnd h₀ L m { s with heap := h, toks := tk } I oI C oC D (lst ys) S (fun y news' => r i = some y ∧ news' = news)) E' s'
        else CompEnd h₀ L m { s with heap := h, toks := tk } I oI C oC D (lst ys) S (fun _ news' => r i = none ∧ news' = news) Value.none s') E' { s with heap := h, toks := tk })
    (fin : Fin ((List.range n).filterMap r) news) : CompRestT prog w A h₀ L m env ct elt x scope cl s S P Fin n 0 [] news := by
  suffices H : ∀ k i, i + k = n → CompRestT prog w A h₀ L m env ct elt x scope cl s S P Fin k i ((List.range i).filterMap r) news by exact H n 0 (Nat.zero_add n)
  intro k
  induction k with
  | zero => intro i hi; obtain rfl : i = n := by omega
            exact fin
  | succ k ih =>
    intro i hi v I oI C oC D m₂ h tk E' hPv hC hm F N off ne
    have e : (List.range (i + 1)).filterMap r = (List.range i).filterMap r ++ (r i).toList := by
      rw [List.range_succ, List.filterMap_append]
      cases hr : r i <;> simp [hr]
    refine wpAny_mono (step i v _ I oI C oC D m₂ h tk E' (by omega) hPv hC hm F N off ne) (fun ok s' hy => ?_) fun _ _ e => e
    cases ok with
    | true =>
      simp only [if_true] at hy ⊢
      refine wpAny_mono hy (fun y s'' hz => ?_) fun _ _ e => e
      obtain ⟨h', tk', news', hs, F', N', off', hS, hr, rfl⟩ := hz
      refine ⟨h', tk', _, hs, F', N', off', hS, ?_⟩
      have := ih (i + 1) (by omega)
      rw [e, hr] at this
      exact this
    | false =>
      simp only [Bool.false_eq_true, if_false] at hy ⊢
      obtain ⟨h', tk', news', hs, F', N', off', hS, hr, rfl⟩ := hy
      refine ⟨h', tk', _, hs, F', N', off', hS, ?_⟩
      have := ih (i + 1) (by omega)
      rw [e, hr] at this
      simpa using this
/-- a for over a list of the ledger, folded -/
theorem listRest_fold {x : Str} {body : List Stmt} {Q : Flow → Shared → Prop} {I : Addr} {lp : Addr × Obj} (J : Nat → (Str → Option Value) → Led → Prop) {vs : List Value} {m₀ : Str → Option Value} {news : Led} (h0 : J 0 m₀ news)
    (step : ∀ i v m₁ ns (it : Obj) h tk, vs[i]? = some v → J i m₁ ns → lp ∈ ns → it.cls = .type "list_iterator" → Fr h₀ env.locals h (fun y => if y = x then some v else m₁ y) → News h₀ env.locals h ((I, it) :: ns) →
      wpAny (model prog w) A (execs body env) (UnrPost h₀ env.locals { s with heap := h, toks := tk } I it (fun m' n' => lp ∈ n' ∧ J (i + 1) m' n') Q) E { s with heap := h, toks := tk })
    (hlp : lp ∈ news) (done : ∀ m₁ ns h tk, J vs.length m₁ ns → Fr h₀ env.locals h m₁ → News h₀ env.locals h ns → Q .next { s with heap := h, toks := tk }) :
    ListRest prog w A E h₀ env x body Q s I lp vs m₀ news := by
  suffices H : ∀ (r : List Value) (i : Nat) m₁ ns, vs.drop i = r → i ≤ vs.length → lp ∈ ns → J i m₁ ns → ListRest prog w A E h₀ env x body Q s I lp r m₁ ns by
    exact H vs 0 m₀ news rfl (Nat.zero_le _) hlp h0
  intro r
  induction r with
  | nil =>
    intro i m₁ ns hr hi hl hJ h tk F N
    have : vs.length ≤ i := List.drop_eq_nil_iff.mp hr
    obtain rfl : i = vs.length := by omega
    exact done m₁ ns h tk hJ F N
  | cons v r ih =>
    intro i m₁ ns hr hi hl hJ it h tk hc F N
    have hlt : i < vs.length := by
      rcases Nat.lt_or_ge i vs.length with h | h
      · exact h
      · rw [List.drop_eq_nil_iff.mpr h] at hr; cases hr
    have hd := List.drop_eq_getElem_cons hlt
    rw [hr] at hd
    obtain ⟨hv, hr'⟩ := List.cons.inj hd
    have hv' : vs[i]? = some v := by rw [List.getElem?_eq_getElem hlt, ← hv]
    refine wpAny_mono (step i v m₁ ns it h tk hv' hJ hl hc F N) (fun f s₂ hy => ?_) fun _ _ e => e
    have conv : UnrEnd h₀ env.locals { s with heap := h, toks := tk } I it (fun m' n' => lp ∈ n' ∧ J (i + 1) m' n') s₂ → UnrEnd h₀ env.locals { s with heap := h, toks := tk } I it (fun m' n' => lp ∈ n' ∧ ListRest prog w A E h₀ env x body Q s I lp r m' n') s₂ := by
      rintro ⟨h', tk', m', n', e, F', N', o, hl', hJ'⟩
      exact ⟨h', tk', m', n', e, F', N', o, hl', ih (i + 1) m' n' hr'.symm hlt hl' hJ'⟩
    cases f with
    | ret v => exact hy
    | brk => exact hy
    | next => exact conv hy
    | cont => exact conv hy
end
end Mine
end
section
namespace Mine
theorem pe_name (w : World) (x : Str) (hx : x ∈ PARTS) (t : Tok) : Calls w 5 40 (.ref 28) [.str x t] [] (fun _ => True) (fun _ _ _ r => r = .str x t) := by
  unfold Calls
  w_top off
  k_fill
  intro p loose mean mg mb dp un gd cn cs a ccd cl outer A₀ base h₀ L m news s Q E B F X TG N T hcs hd hu hoff hpre hret
  have hd' : dp + 5 < recursionLimit := hd
  have hu' : un + 40 < cLine := hu
  have hcode := TG.t1
  simp only [List.nil_append] at N
  refine wpAny_call ?_
  k_dflt (refine' code_def (binds := [("n", .str x t)]) B F X N T ?kA ?kF ?kK ?k6 ?k7 ?k8 ?k9 ?kB ?_ ?c2 ?c3 ?c4 ?c5)
  walk_at "enter"
  intro g' L' h' FG' F' N' B' X' T'
  have TG' := TG.keeps FG'.keep
  have hcode' := TG'.t1
  walk_at "begin"
  simp only [PARTS, List.mem_cons, List.not_mem_nil, or_false] at hx
  rcases hx with rfl | rfl | rfl | rfl
  all_goals
    k_steps
    exact hret _ [] [] _ _ (by assumption) (by assumption) (fun _ h => nomatch h) rfl rfl
end Mine
end
section
namespace Mine
section
variable {prog : Program} {w : World} {A : Around} {E : Value → Shared → Prop} {s : Shared} {x C : Addr} {ox od : Obj} {Q : Value → Shared → Prop} {nav : Bool}
theorem pc_not_nav (X : (hd.heap_39 w.params).In s.heap) (I : InstAt s.heap x ox C (some od)) (pc : PC w C false) (h : Q (.bool false) { s with toks := s.toks + 1 }) : wpAny (model prog w) A (call (.builtin "isinstance") [.ref x, .ref 153]) Q E s :=
  kin_callC X I (pc.nav0 rfl) pc.hg pc.hh pc.hcl pc.hn pc.htk pc.hm h
theorem pc_nav1 (X : (hd.heap_39 w.params).In s.heap) (I : InstAt s.heap x ox C (some od)) (pc : PC w C true) (h : Q (.bool true) s) : wpAny (model prog w) A (call (.builtin "isinstance") [.ref x, .ref 153]) Q E s :=
  isi_call X (fun _ => I.type) (pc.nav1 rfl) (by intro q; cases q) h
theorem pc_base (X : (hd.heap_39 w.params).In s.heap) (I : InstAt s.heap x ox C (some od)) (pc : PC w C nav) (h : Q (.bool true) s) : wpAny (model prog w) A (call (.builtin "isinstance") [.ref x, .ref 53]) Q E s :=
  isi_call X (fun _ => I.type) pc.base (by intro q; cases q) h
theorem pc_not_list (X : (hd.heap_39 w.params).In s.heap) (I : InstAt s.heap x ox C (some od)) (pc : PC w C nav) (h : Q (.bool false) { s with toks := s.toks + 1 }) : wpAny (model prog w) A (call (.builtin "isinstance") [.ref x, .type "list"]) Q E s :=
  kin_callT X I pc.notL (by kernel_rfl) pc.hg pc.hh pc.hcl pc.hn pc.htk pc.hm h
end
end Mine
local macro_rules | `(tactic| walk_at "instled") => `(tactic| exact Mine.instAt_of (News.get (by k_asm) (by k_mem)) (News.get (by k_asm) (by k_mem)))
local macro_rules | `(tactic| walk_at "call builtin:isinstance") => `(tactic| (k_here; (with_reducible show wpAny _ _ (call _ [Value.ref _, Value.ref _]) _ _ _); k_dflt (first
  | (refine' Mine.pc_not_nav ?X ?I (by assumption) ?_; (case X => k_in); (case I => walk_at "instled"); k_whole)
  | (refine' Mine.pc_nav1 ?X ?I (Mine.pc_nav _) ?_; (case X => k_in); (case I => walk_at "instled"); k_whole)
  | (refine' Mine.pc_base ?X ?I (by assumption) ?_; (case X => k_in); (case I => walk_at "instled"); k_whole))))
local macro_rules | `(tactic| walk_at "call builtin:isinstance") => `(tactic| (k_here; (with_reducible show wpAny _ _ (call _ [Value.ref _, Value.type _]) _ _ _); k_dflt (refine' Mine.pc_not_list ?X ?I (by assumption) ?_; (case X => k_in); (case I => walk_at "instled"); k_whole)))
local macro_rules | `(tactic| walk_at "exec For Name ListComp cons nil") => `(tactic| (k_here; (rename Fr _ _ _ _ => lF'); (with_unfolding_all refine' For_invVF lF' ?k1 ?k2 ?_; (case k1 => exact rfl); (case k2 => exact rfl); k_whole)))
local macro_rules | `(tactic| walk_at "eval ListComp") => `(tactic| refine Mine.hold ?_)
local macro_rules | `(tactic| walk_at "call ref") => `(tactic| (refine Mine.hold ?_))
local macro_rules | `(tactic| walk_at "call ref") => `(tactic| (k_here; (show wpAny _ _ (call (Value.ref 28) _) _ _ _); k_dflt (refine' Mine.Calls.use0 (Mine.pe_name _ _ (by assumption) _) ?B ?F ?X ?TG ?N ?T ?hk ?hd ?hu ?pre ?_; (case B => k_asm); (case F => k_asm); (case X => k_asm); (case TG => walk_at "tabs"); (case N => k_asm); (case T => k_asm); (case hk => first | exact rfl | assumption); (case hd => k_room); (case hu => k_units); (case pre => exact True.intro); k_whole; (rintro _ tl' h' tk' F' N' ht' hr'); subst hr'; (try dsimp only))))
local macro_rules | `(tactic| walk_at "call builtin:hasattr") => `(tactic| refine Mine.hold ?_)
local macro_rules | `(tactic| walk_at "call builtin:isinstance") => `(tactic| (k_here; (with_reducible show wpAny _ _ (call _ [Value.ref _, Value.type "list"]) _ _ _); (refine Mine.hold ?_)))
local macro_rules | `(tactic| walk_at "getAttrBy ref") => `(tactic| (k_here; k_dflt (refine' kbm_ownBy ?F ?X ?I ?g ?h ?a ?n (by assumption) ?v ?_; (case F => k_asm); (case X => k_asm); (case I => walk_at "instled"); (case g => exact Mine.PC.hg (by assumption)); (case h => exact Mine.PC.hh (by assumption)); (case a => exact Mine.PC.miss (by assumption) _ (by assumption)); (case n => rfl); (case v => assumption); k_whole)))
local macro_rules | `(tactic| walk_at "CompEnd") => `(tactic| refine Mine.hold ?_)
local macro_rules | `(tactic| walk_at "pyIter ref") => `(tactic| refine Mine.hold ?_)
local macro_rules | `(tactic| walk_at "UnrEnd") => `(tactic| refine Mine.hold ?_)
local macro_rules | `(tactic| walk_at "exec For Name Name cons nil") => `(tactic| (k_here; (rename Fr _ _ _ _ => lF'); (with_unfolding_all refine' For_invVF lF' ?k1 ?k2 ?_; (case k1 => exact rfl); (case k2 => exact rfl); k_whole)))
namespace Mine
def ysOf (f : Str → Option Value) : List Value := (List.range 4).filterMap fun i => (PARTS[i]?).bind f
theorem ysOf_none : ysOf (fun _ => none) = [] := rfl
theorem ysOf_one {x : Str} (hx : x ∈ PARTS) (v : Value) : ysOf (fun y => if x = y then some v else none) = [v] := by
  simp only [PARTS, List.mem_cons, List.not_mem_nil, or_false] at hx
  rcases hx with rfl | rfl | rfl | rfl <;> rfl
theorem PARTS_copied : ∀ x ∈ PARTS, copiedNames.contains x = false := by decide
theorem PARTS_len : ∀ x ∈ PARTS, x.length ≤ 100 := by decide
/-- a node that is no navigation: its class, its dict, its parts -/
theorem prep_gen (w : World) (k : Nat) (pt : Addr) (H : ∀ v, CallsT w (10 * k) (60 * k) (.ref pt) [v] (fun P => PrepFix P pt ∧ Nd w P k v)) (a C d : Addr) (es : List DictEntry) (n : Nat) (pc : PC w C false) (f : Str → Option Value)
    (hes : ∀ x ∈ PARTS, getL x es = some (f x)) (hhd : ∀ x v, f x = some v → handedIn v = true) :
    CallsT w (10 * (k + 1)) (60 * (k + 1)) (.ref pt) [.ref a] (fun P => PrepFix P pt ∧ (a, instObj C d) ∈ P ∧ (d, dictOf es n) ∈ P ∧ (ysOf f).length ≤ 3 ∧
      ∀ y ∈ ysOf f, ∃ q, y = .ref q ∧ ((Nd w P k y ∧ ∃ C2 d2 es2 n2 nav2, PC w C2 nav2 ∧ (q, instObj C2 d2) ∈ P ∧ (d2, dictOf es2 n2) ∈ P) ∨ ∃ (vs : List Value) (m : Nat), (q, W.listOf vs.toArray m) ∈ P ∧ ∀ v ∈ vs, Nd w P k v)) := by
  have hdp : prepParts = prepParts := rfl
  conv at hdp => lhs; whnf
  unfold CallsT
  w_top off
  k_fill
  intro p loose mean mg mb dp un gd cn cs a0 ccd cl outer A₀ base h₀ L m news s Q E B F X TG N T hcs hd hu hpre hret
  obtain ⟨hfix, ha, hd2, hyl, hys⟩ := hpre
  have hfix0 := hfix
  unfold PrepFix prepObj at hfix
  rw [← hdp] at hfix
  clear hdp
  dsimp only at hfix
  obtain ⟨cP, cS, c', sf, oP, oS, oc, vs, t, doc, pm, ctv, qual, hpt, hcP, hcS, hcc, hP, hS, hoc, hq⟩ := hfix
  have hd' : dp + 10 * (k + 1) < recursionLimit := hd
  have hu' : un + 60 * (k + 1) < cLine := hu
  have hcode := TG.t1
  refine wpAny_call ?_
  refine' code_nestC (x := "node") (v := .ref a) B F X N T rfl rfl hcs hpt (codeRec_news N hcc hoc hq) ?k8 (BindsTo.of_eq rfl) ?_ (fun n => rfl) (fun h => rfl) rfl rfl rfl rfl
  case k8 => dsimp only; omega
  intro g' L' h' tk oC FG' F' N' hC B' X' T' hlt
  have TG' := TG.keeps FG'.keep
  have hcode' := TG'.t1
  walk_at "begin"
  k_steps
  unfold Hold
  refine Mine.ListComp_TT (by k_asm) (by with_unfolding_all rfl) (by decide) (by rfl) (by decide) (by rfl) ?_
  k_steps
  refine ⟨_, _, _, rfl, by rfl, by k_asm, by k_asm, by k_mem, Nat.le_of_ble_eq_true rfl, fun g9 => ?_⟩
  refine Mine.compRestT_fold (fun i => (PARTS[i]?).bind f) ?step ?fin
  case step =>
    intro i v ys I oI C' oC D m2 h tk E' hi hv hC hm F N off ne
    obtain ⟨x, t, rfl, hx, hri⟩ : ∃ x t, v = .str x t ∧ x ∈ PARTS ∧ PARTS[i]? = some x := by
      match i, hv with
      | 0, hv => cases hv; exact ⟨_, _, rfl, by decide, rfl⟩
      | 1, hv => cases hv; exact ⟨_, _, rfl, by decide, rfl⟩
      | 2, hv => cases hv; exact ⟨_, _, rfl, by decide, rfl⟩
      | 3, hv => cases hv; exact ⟨_, _, rfl, by decide, rfl⟩
    k_steps
    rename_i tl1 h1 tk1 F1 N1 ht1
    unfold Hold
    have hfx := hes x hx
    cases hf : f x with
    | some u =>
      rw [hf] at hfx
      have hu9 := hhd x u hf
      refine Mine.has_hit (by k_in) (by walk_at "instled") pc.hmod pc.hg pc.hh (pc.miss x hx) hfx hu9 ?_
      k_steps
      unfold Hold
      refine Mine.compEnd_cut (by k_asm) (by k_asm) (fun q9 h9 => by k_mem) off (by k_mem) ⟨by rw [hri]; exact hf, rfl⟩
    | none =>
      rw [hf] at hfx
      refine Mine.has_miss (by k_in) (by walk_at "instled") pc.hmod pc.hg pc.hh (pc.miss x hx) hfx (PARTS_copied x hx) pc.nm (PARTS_len x hx) rfl (fun h2 tk2 hk2 => ?_)
      have F2 := F1.keeps hk2
      have N2 := N1.grown hk2
      k_steps
      unfold Hold
      refine Mine.compEnd_cut (by k_asm) (by k_asm) (fun q9 h9 => by k_mem) off (by k_mem) ⟨by rw [hri]; exact hf, rfl⟩
  case fin =>
    intro D h tk F N off
    k_steps
    unfold Hold
    obtain ⟨x, ex, N1⟩ := led_split3 N
    have hxD : (D, LCg.lst (ysOf f)) ∈ x := ex ▸ .head _
    have hxC : (L' + 1, oC) ∈ x := ex ▸ .tail _ (.tail _ (.head _))
    have hxn : ∀ p ∈ x, notNav p.2 = true := ex ▸ List.forall_mem_cons.mpr ⟨rfl, List.forall_mem_cons.mpr ⟨rfl, List.forall_mem_cons.mpr ⟨nn_cell hC, List.forall_mem_nil _⟩⟩⟩
    clear ex N
    refine iter_listUnr (lo := LCg.lst (ysOf f)) (vs := ysOf f) (by rfl) F N1 (List.mem_append.mpr (.inl hxD)) rfl rfl (fun I hI => ?_)
    refine Mine.listRest_fold (fun _ _ ns => ∃ news2, ns = x ++ news2 ∧ Turned w news news2) ⟨news, rfl, Turned.refl w news⟩ ?step3 (List.mem_append.mpr (.inl hxD)) ?done3
    case step3 =>
      rintro i v m1 ns it h1 tk1 hv ⟨news2, rfl, ht⟩ hl hc F1 N1
      obtain ⟨q, rfl, hcase⟩ := hys v (List.mem_of_getElem? hv)
      have hfix2 := hfix0.turn ht
      have hpt2 := ht.mem hpt rfl
      have hcP2 := ht.mem hcP (nn_cell hP)
      have hcS2 := ht.mem hcS (nn_cell hS)
      have hcc2 := ht.mem hcc (nn_fields hoc)
      rcases hcase with ⟨hnd, C2, d2, es2, n2, nav2, pc2, hq1, hq2⟩ | ⟨vs, m, hq1, hvs⟩
      · have hnd2 := hnd.turn ht
        have hq12 := ht.mem hq1 rfl
        obtain ⟨es3, n3, hq22⟩ := ht.dict hq2
        clear hq1 hq2 hnd
        k_steps
        unfold Hold
        refine Mine.pc_not_list (by k_in) (by walk_at "instled") pc2 ?_
        k_steps
        unfold Hold
        refine Mine.CallsT.use (H (.ref q)) (by k_asm) (by k_asm) (by k_asm) (by walk_at "tabs") (by k_asm) (by k_asm) rfl (by k_room) (by k_units) ⟨hfix2.mono (fun p hp => .tail _ (List.mem_append.mpr (.inr hp))), hnd2.mono (fun p hp => .tail _ (List.mem_append.mpr (.inr hp)))⟩ ?_
        rintro all' h2 tk2 F2 N2 ht2
        obtain ⟨y, rfl, ht3⟩ := Turned.own (x := (I, it) :: x) ht2 (List.forall_mem_cons.mpr ⟨nn_iter hc, hxn⟩)
        k_steps
        unfold Hold
        exact UnrEnd.intro F2 N2 (x ++ y) (fun p hp => hp) (List.forall_mem_append.mpr ⟨fun p hp => Nat.ne_of_lt (hI p (List.mem_append.mpr (.inl hp))), (ht.trans ht3).ap fun p hp => Nat.ne_of_lt (hI p (List.mem_append.mpr (.inr hp)))⟩) ⟨List.mem_append.mpr (.inl hxD), y, rfl, ht.trans ht3⟩
      · have hq12 := ht.mem hq1 rfl
        k_steps
        unfold Hold
        refine IsiPair.isList_list (News.isList N1 (.tail _ (List.mem_append.mpr (.inr hq12)))) (fun _ _ e => e) ?_
        k_steps
        unfold Hold
        refine iter_listUnr (lo := W.listOf vs.toArray m) (vs := vs) (by rfl) (by k_asm) N1 (.tail _ (List.mem_append.mpr (.inr hq12))) rfl rfl (fun I2 hI2 => ?_)
        refine Mine.listRest_fold (fun _ _ ns => ∃ news4, ns = (I, it) :: (x ++ news4) ∧ Turned w news2 news4) ⟨news2, rfl, Turned.refl w news2⟩ ?step4 (.tail _ (List.mem_append.mpr (.inr hq12))) ?done4
        case step4 =>
          rintro i2 v2 m2 ns2 it2 h2 tk2 hv2 ⟨news4, rfl, ht40⟩ hl2 hc2 F2 N2
          have ht4 := ht.trans ht40
          have hnd2 := (hvs v2 (List.mem_of_getElem? hv2)).turn ht4
          have hfix4 := hfix0.turn ht4
          have hpt4 := ht4.mem hpt rfl
          have hcP4 := ht4.mem hcP (nn_cell hP)
          have hcS4 := ht4.mem hcS (nn_cell hS)
          have hcc4 := ht4.mem hcc (nn_fields hoc)
          k_steps
          unfold Hold
          refine Mine.CallsT.use (H v2) (by k_asm) (by k_asm) (by k_asm) (by walk_at "tabs") (by k_asm) (by k_asm) rfl (by k_room) (by k_units) ⟨hfix4.mono (fun p hp => .tail _ (.tail _ (List.mem_append.mpr (.inr hp)))), hnd2.mono (fun p hp => .tail _ (.tail _ (List.mem_append.mpr (.inr hp))))⟩ ?_
          rintro all' h3 tk3 F3 N3 ht5
          obtain ⟨y, rfl, ht6⟩ := Turned.own (x := (I2, it2) :: (I, it) :: x) ht5 (List.forall_mem_cons.mpr ⟨nn_iter hc2, List.forall_mem_cons.mpr ⟨nn_iter hc, hxn⟩⟩)
          k_steps
          unfold Hold
          have hne : ∀ p ∈ (I, it) :: (x ++ y), p.1 ≠ I2 := List.forall_mem_cons.mpr ⟨Nat.ne_of_lt (hI2 _ (.head _)), List.forall_mem_append.mpr ⟨fun p hp => Nat.ne_of_lt (hI2 p (.tail _ (List.mem_append.mpr (.inl hp)))), (ht40.trans ht6).ap (fun p hp => Nat.ne_of_lt (hI2 p (.tail _ (List.mem_append.mpr (.inr hp)))))⟩⟩
          refine UnrEnd.intro F3 N3 ((I, it) :: (x ++ y)) (fun p hp => hp) hne ⟨.tail _ (List.mem_append.mpr (.inr ((ht4.trans ht6).mem hq1 rfl))), y, rfl, ht40.trans ht6⟩
        case done4 =>
          rintro m2 ns2 h2 tk2 ⟨news4, rfl, ht40⟩ F2 N2
          have ht4 := ht.trans ht40
          k_steps
          unfold Hold
          exact UnrEnd.intro F2 N2 (x ++ news4) (fun p hp => hp) (List.forall_mem_append.mpr ⟨fun p hp => Nat.ne_of_lt (hI p (List.mem_append.mpr (.inl hp))), ht4.ap fun p hp => Nat.ne_of_lt (hI p (List.mem_append.mpr (.inr hp)))⟩) ⟨List.mem_append.mpr (.inl hxD), news4, rfl, ht4⟩
    case done3 =>
      rintro m1 ns h1 tk1 ⟨news2, rfl, ht⟩ F1 N1
      k_steps
      rename_i kF kN Tc kX
      exact hret news2 _ _ kF (fun p hp => kN p (List.mem_append.mpr (.inr hp))) ht
theorem mem_rest {h₀ h : Heap} {L d : Addr} {o : Obj} {news : Led} (N : News h₀ L h news) (hd : (d, o) ∈ news) {p : Addr × Obj} (hp : p ∈ news) (hn : p.2 ≠ o) : p ∈ news.filter (fun q => decide (q.1 ≠ d)) := by
  refine List.mem_filter.mpr ⟨hp, decide_eq_true fun e => hn ?_⟩
  have h1 := (N p hp).1
  rw [e, (N _ hd).1] at h1
  exact (Option.some.inj h1).symm
theorem turned_at {w : World} {h₀ h h' : Heap} {L d : Addr} {o o' : Obj} {news x : Led} (N : News h₀ L h news) (hd : (d, o) ∈ news) (hn : NavD w o o') (N' : News h₀ L h' (x ++ ((d, o') :: news.filter (fun q => decide (q.1 ≠ d))))) :
    ∃ news', News h₀ L h' news' ∧ Turned w news news' := by
  refine ⟨news.map fun p => if p.1 = d then (d, o') else p, fun q hq => ?_, _, rfl, fun p hp => ?_⟩
  · obtain ⟨p, hp, rfl⟩ := List.mem_map.mp hq
    by_cases e : p.1 = d
    · rw [if_pos e]; exact N' _ (List.mem_append.mpr (.inr (.head _)))
    · rw [if_neg e]; exact N' _ (List.mem_append.mpr (.inr (.tail _ (List.mem_filter.mpr ⟨hp, decide_eq_true e⟩))))
  · by_cases e : p.1 = d
    · refine .inr ⟨o', ?_, by rw [if_pos e, e]⟩
      have h1 := (N p hp).1
      rw [e, (N _ hd).1] at h1
      rw [← Option.some.inj h1]; exact hn
    · exact .inl (by simp only [if_neg e])
theorem prep_nav (w : World) (k : Nat) (pt a d : Addr) (t1 t2 t3 t4 : Tok) (v1 v2 v3 ev : Value) (n : Nat) :
    CallsT w (10 * (k + 1)) (60 * (k + 1)) (.ref pt) [.ref a] (fun P => PrepFix P pt ∧ (a, instObj 153 d) ∈ P ∧ (d, dictOf [ent w "name" t1 v1, ent w "consume_name" t2 v2, ent w "fixed_name" t3 v3, ent w "rrel_expression" t4 ev] n) ∈ P) := by
  have hdp : prepParts = prepParts := rfl
  conv at hdp => lhs; whnf
  unfold CallsT
  k_fill
  intro p loose mean mg mb dp un gd cn cs a0 ccd cl outer A₀ base h₀ L m news0 s Q E B F X TG N0 T hcs hd hu hpre hret
  obtain ⟨hfix, ha, hd2⟩ := hpre
  have pc := pc_nav w
  unfold PrepFix prepObj at hfix
  rw [← hdp] at hfix
  clear hdp
  dsimp only at hfix
  obtain ⟨cP, cS, c', sf, oP, oS, oc, vs, t, doc, pm, ctv, qual, hpt, hcP, hcS, hcc, hP, hS, hoc, hq⟩ := hfix
  replace hpt := mem_rest N0 hd2 hpt (by intro q; exact nomatch congrArg (fun z : Obj => notNav z) q)
  replace hcP := mem_rest N0 hd2 hcP (by intro q; have := congrArg notNav q; rw [nn_cell hP] at this; exact nomatch this)
  replace hcS := mem_rest N0 hd2 hcS (by intro q; have := congrArg notNav q; rw [nn_cell hS] at this; exact nomatch this)
  replace hcc := mem_rest N0 hd2 hcc (by intro q; have := congrArg notNav q; rw [nn_fields hoc] at this; exact nomatch this)
  replace ha := mem_rest N0 hd2 ha (by intro q; exact nomatch congrArg (fun z : Obj => notNav z) q)
  have hoff : ∀ q ∈ news0.filter (fun q => decide (q.1 ≠ d)), q.1 ≠ d := fun q hq => of_decide_eq_true (List.mem_filter.mp hq).2
  have N : News h₀ L s.heap ((d, dictOf [ent w "name" t1 v1, ent w "consume_name" t2 v2, ent w "fixed_name" t3 v3, ent w "rrel_expression" t4 ev] n) :: news0.filter (fun q => decide (q.1 ≠ d))) := fun p hp => by
    rcases List.mem_cons.mp hp with rfl | hp
    · exact N0 _ hd2
    · exact N0 _ (List.mem_filter.mp hp).1
  generalize hrest : news0.filter (fun q => decide (q.1 ≠ d)) = news at hpt hcP hcS hcc ha hoff N
  have hd' : dp + 10 * (k + 1) < recursionLimit := hd
  have hu' : un + 60 * (k + 1) < cLine := hu
  have hcode := TG.t1
  simp only [ent] at N
  refine wpAny_call ?_
  refine' code_nestC (x := "node") (v := .ref a) B F X N T rfl rfl hcs (.tail _ hpt) (codeRec_news N (.tail _ hcc) hoc hq) ?k8 (BindsTo.of_eq rfl) ?_ (fun n => rfl) (fun h => rfl) rfl rfl rfl rfl
  case k8 => dsimp only; omega
  intro g' L' h' tk oC FG' F' N' hC B' X' T' hlt
  have TG' := TG.keeps FG'.keep
  have hcode' := TG'.t1
  have hne : L' + 1 ≠ d := Nat.ne_of_gt (Nat.lt_succ_of_lt (hlt _ (.head _)))
  walk_at "begin"
  k_steps
  refine' set_dict ?k1 ?k2 ?k3 ?k4 ?k5 ?k6 ?k7 ?k8 ?k9 ?k10 ?k11 ?k12 ?k13 ?_
  case k1 => k_asm
  case k2 => k_asm
  case k3 => k_asm
  case k4 => k_inst
  case k5 => exact rfl
  case k6 => k_is
  case k7 => k_is
  case k8 => k_is
  case k9 => k_is
  case k10 => k_get
  case k11 => exact (rfl : _ = (([ent w "name" t1 v1, ent w "consume_name" t2 v2, ent w "fixed_name" t3 v3, ent w "rrel_expression" t4 (.ref sf)] : List DictEntry), n))
  case k12 => k_upd
  case k13 => exact Nat.le_of_ble_eq_true rfl
  intro h2 F2 N2
  k_steps
  unfold Hold
  have hes : ∀ x ∈ PARTS, getL x [ent w "name" t1 v1, ent w "consume_name" t2 v2, ent w "fixed_name" t3 v3, ent w "rrel_expression" t4 (.ref sf)] = some none := by
    intro x hx
    simp only [PARTS, List.mem_cons, List.not_mem_nil, or_false] at hx
    rcases hx with rfl | rfl | rfl | rfl <;> rfl
  refine Mine.ListComp_TT (by k_asm) (by with_unfolding_all rfl) (by decide) (by rfl) (by decide) (by rfl) ?_
  k_steps
  refine ⟨_, _, _, rfl, by rfl, by k_asm, by k_asm, by k_mem, Nat.le_of_ble_eq_true rfl, fun g9 => ?_⟩
  refine Mine.compRestT_fold (fun i => none) ?step ?fin
  case step =>
    intro i v ys I oI C' oC D m2 h tk E' hi hv hC hm F N off ne
    obtain ⟨x, t, rfl, hx, hri⟩ : ∃ x t, v = .str x t ∧ x ∈ PARTS ∧ PARTS[i]? = some x := by
      match i, hv with
      | 0, hv => cases hv; exact ⟨_, _, rfl, by decide, rfl⟩
      | 1, hv => cases hv; exact ⟨_, _, rfl, by decide, rfl⟩
      | 2, hv => cases hv; exact ⟨_, _, rfl, by decide, rfl⟩
      | 3, hv => cases hv; exact ⟨_, _, rfl, by decide, rfl⟩
    k_steps
    rename_i tl1 h1 tk1 F1 N1 ht1
    unfold Hold
    have hfx := hes x hx
    refine Mine.has_miss (by k_in) (by walk_at "instled") pc.hmod pc.hg pc.hh (pc.miss x hx) hfx (PARTS_copied x hx) pc.nm (PARTS_len x hx) rfl (fun h2 tk2 hk2 => ?_)
    have F2 := F1.keeps hk2
    have N2 := N1.grown hk2
    k_steps
    unfold Hold
    refine Mine.compEnd_cut (by k_asm) (by k_asm) (fun q9 h9 => by k_mem) off (by k_mem) ⟨rfl, rfl⟩
  case fin =>
    intro D h tk F N off
    k_steps
    unfold Hold
    refine iter_listUnr (lo := LCg.lst []) (vs := []) (by rfl) F N (List.Mem.head _) rfl rfl (fun I hI => ?_)
    refine Mine.listRest_fold (fun _ _ ns => ∃ x : Mine.Led, ns = x ++ ((d, dictOf [ent w "name" t1 v1, ent w "consume_name" t2 v2, ent w "fixed_name" t3 v3, ent w "rrel_expression" t4 (.ref sf)] n) :: news)) ⟨[_, _, _], rfl⟩ ?step3 (.head _) ?done3
    case step3 => rintro i v m1 ns it h1 tk1 hv; cases hv
    case done3 =>
      rintro m1 ns h1 tk1 ⟨x, rfl⟩ F1 N1
      k_steps
      rename_i kF kN Tc kX
      rw [← hrest] at kN
      obtain ⟨news', hN', ht'⟩ := Mine.turned_at N0 hd2 ⟨t1, t2, t3, t4, v1, v2, v3, ev, .ref sf, n, n, rfl, rfl⟩ kN
      exact hret news' _ _ kF hN' ht'
end Mine
end
section
namespace Mine
theorem getL_one (w : World) (x y : Str) (t : Tok) (v : Value) : getL y [ent w x t v] = some (if x = y then some v else none) := by
  unfold getL ent
  by_cases h : x = y
  · subst h
    simp [Value.isStr]
  · have : (Value.str x t).isStr y = false := by simp [Value.isStr, h]
    simp [this, DictEntry.refKey, h]
theorem prep_node (w : World) (k : Nat) (pt : Addr) (H : ∀ v, CallsT w (10 * k) (60 * k) (.ref pt) [v] (fun P => PrepFix P pt ∧ Nd w P k v)) :
    ∀ v, CallsT w (10 * (k + 1)) (60 * (k + 1)) (.ref pt) [v] (fun P => PrepFix P pt ∧ Nd w P (k + 1) v) := by
  intro v p loose mean mg mb dp un gd cn cs a0 ccd cl outer A₀ base h₀ L m news s Q E B F X TG N T hcs hd hu hpre hret
  obtain ⟨hfix, hnd⟩ := hpre
  cases hnd with
  | nav h1 h2 => exact CallsT.use (prep_nav w k pt _ _ _ _ _ _ _ _ _ _ _) B F X TG N T hcs hd hu ⟨hfix, h1, h2⟩ hret
  | leaf pc h1 h2 h3 =>
    refine CallsT.use (prep_gen w k pt H _ _ _ _ _ pc (fun _ => none) (fun y hy => ?_) (fun _ _ h => nomatch h)) B F X TG N T hcs hd hu ⟨hfix, h1, h2, by rw [ysOf_none]; exact Nat.zero_le _, by rw [ysOf_none]; exact List.forall_mem_nil _⟩ hret
    rw [getL_one, if_neg (by intro q; have := h3 y hy; rw [q] at this; simp at this)]
  | one pc h1 h2 h3 pc2 h4 h5 h6 =>
    obtain ⟨es, n2, h5⟩ := h5
    refine CallsT.use (prep_gen w k pt H _ _ _ _ _ pc _ (fun y hy => getL_one _ _ _ _ _) ?_) B F X TG N T hcs hd hu ⟨hfix, h1, h2, by rw [ysOf_one h3]; exact Nat.le_of_ble_eq_true rfl, ?_⟩ hret
    · intro x v hx
      split at hx
      · cases hx; rfl
      · cases hx
    · rw [ysOf_one h3]
      intro y hy
      rw [List.mem_singleton.mp hy]
      exact ⟨_, rfl, .inl ⟨h6, _, _, _, _, _, pc2, h4, h5⟩⟩
  | many pc h1 h2 h3 h4 h5 h6 =>
    refine CallsT.use (prep_gen w k pt H _ _ _ _ _ pc _ (fun y hy => getL_one _ _ _ _ _) ?_) B F X TG N T hcs hd hu ⟨hfix, h1, h2, by rw [ysOf_one h3]; exact Nat.le_of_ble_eq_true rfl, ?_⟩ hret
    · intro x v hx
      split at hx
      · cases hx; rfl
      · cases hx
    · rw [ysOf_one h3]
      intro y hy
      rw [List.mem_singleton.mp hy]
      exact ⟨_, rfl, .inr ⟨_, _, h4, h6⟩⟩
theorem prep_all (w : World) (pt : Addr) : ∀ (k : Nat) (v : Value), CallsT w (10 * k) (60 * k) (.ref pt) [v] (fun P => PrepFix P pt ∧ Nd w P k v)
  | 0, v => by
    intro p loose mean mg mb dp un gd cn cs a0 ccd cl outer A₀ base h₀ L m news s Q E B F X TG N T hcs hd hu hpre hret
    exact nomatch hpre.2
  | k + 1, v => prep_node w k pt (prep_all w pt k) v
theorem Nd.le {w : World} {P : Led} {k : Nat} {v : Value} (h : Nd w P k v) : ∀ {k'}, k ≤ k' → Nd w P k' v := by
  induction h with
  | nav h1 h2 => intro k' hk; obtain ⟨j, rfl⟩ : ∃ j, k' = j + 1 := ⟨k' - 1, by omega⟩; exact .nav h1 h2
  | leaf h1 h2 h3 h4 => intro k' hk; obtain ⟨j, rfl⟩ : ∃ j, k' = j + 1 := ⟨k' - 1, by omega⟩; exact .leaf h1 h2 h3 h4
  | one h1 h2 h3 h4 h5 h6 h7 h8 ih => intro k' hk; obtain ⟨j, rfl⟩ : ∃ j, k' = j + 1 := ⟨k' - 1, by omega⟩; exact .one h1 h2 h3 h4 h5 h6 h7 (ih (by omega))
  | many h1 h2 h3 h4 h5 h6 h7 ih => intro k' hk; obtain ⟨j, rfl⟩ : ∃ j, k' = j + 1 := ⟨k' - 1, by omega⟩; exact .many h1 h2 h3 h4 h5 h6 fun v hv => ih v hv (by omega)
mutual
theorem El.Made.nd {w : World} {P : Led} : ∀ (e : El) (v : Value), e.Made w P v → Nd w P (4 * e.dep + 1) v
  | .nav x c f, v => by
    simp only [El.Made, El.dep]
    rintro ⟨a, d, t1, t2, t3, t4, t5, n, fv, ev, rfl, h2, h3, h4⟩
    exact .nav h2 h3
  | .par x, v => by simp only [El.Made, El.dep]; rintro ⟨a, d, t1, t2, n, rfl, h2, h3⟩; exact .leaf (pc_par w) h2 h3 (by decide)
  | .dots x, v => by simp only [El.Made, El.dep]; rintro ⟨a, d, t1, t2, n, rfl, h2, h3⟩; exact .leaf (pc_dots w) h2 h3 (by decide)
  | .br ws, v => by
    simp only [El.Made, El.dep]
    rintro ⟨a, d, t1, n, q, rfl, h2, h3, h4⟩
    have ih := Ways.Made.nd ws q h4
    obtain ⟨d9, es9, n9, m1, m2⟩ := h4.obj
    exact .one (pc_br w) h2 h3 (by decide) (pc_seq w) m1 ⟨_, _, m2⟩ (ih.le (by omega))
  | .st ws, v => by
    simp only [El.Made, El.dep]
    rintro ⟨a, d, t1, n, b, d2, t2, n2, q, rfl, h2, h3, h4, h5, h6⟩
    have ih := Ways.Made.nd ws q h6
    obtain ⟨d9, es9, n9, m1, m2⟩ := h6.obj
    exact (Nd.one (k := 4 * ws.dep + 4) (pc_st w) h2 h3 (by decide) (pc_br w) h4 ⟨_, _, h5⟩ (.one (pc_br w) h4 h5 (by decide) (pc_seq w) m1 ⟨_, _, m2⟩ ih)).le (by omega)
theorem Ways.Made.nd {w : World} {P : Led} : ∀ (e : Ways) (a : Addr), e.Made w P a → Nd w P (4 * e.dep + 3) (.ref a)
  | .one p, a => by
    simp only [Ways.Made, Ways.dep]
    rintro ⟨d, t, n, l, c, p', h1, h2, h3, h4⟩
    refine .many (vs := [.ref p']) (pc_seq w) h1 h2 (by decide) h3 (Nat.le_of_ble_eq_true rfl) fun v hv => ?_
    rw [List.mem_singleton.mp hv]
    exact Pth.Made.nd p p' h4
  | .two p q, a => by
    simp only [Ways.Made, Ways.dep]
    rintro ⟨d, t, n, l, c, p', q', h1, h2, h3, h4, h5⟩
    have i1 := Pth.Made.nd p p' h4
    have i2 := Pth.Made.nd q q' h5
    refine .many (vs := [.ref p', .ref q']) (pc_seq w) h1 h2 (by decide) h3 (Nat.le_of_ble_eq_true rfl) (List.forall_mem_cons.mpr ⟨i1.le (by omega), List.forall_mem_cons.mpr ⟨i2.le (by omega), List.forall_mem_nil _⟩⟩)
theorem Pth.Made.nd {w : World} {P : Led} : ∀ (e : Pth) (a : Addr), e.Made w P a → Nd w P (4 * e.dep + 2) (.ref a)
  | .one x, a => by
    simp only [Pth.Made, Pth.dep]
    rintro ⟨d, t, n, l, c, u, h1, h2, h3, h4⟩
    have i1 := El.Made.nd x u h4
    exact .many (vs := [u]) (pc_path w) h1 h2 (by decide) h3 (Nat.le_of_ble_eq_true rfl) (List.forall_mem_cons.mpr ⟨i1, List.forall_mem_nil _⟩)
  | .two x y, a => by
    simp only [Pth.Made, Pth.dep]
    rintro ⟨d, t, n, l, c, u, v, h1, h2, h3, h4, h5⟩
    have i1 := El.Made.nd x u h4
    have i2 := El.Made.nd y v h5
    exact .many (vs := [u, v]) (pc_path w) h1 h2 (by decide) h3 (Nat.le_of_ble_eq_true rfl) (List.forall_mem_cons.mpr ⟨i1.le (by omega), List.forall_mem_cons.mpr ⟨i2.le (by omega), List.forall_mem_nil _⟩⟩)
  | .thr x y z, a => by
    simp only [Pth.Made, Pth.dep]
    rintro ⟨d, t, n, l, c, u, v, r, h1, h2, h3, h4, h5, h6⟩
    have i1 := El.Made.nd x u h4
    have i2 := El.Made.nd y v h5
    have i3 := El.Made.nd z r h6
    exact .many (vs := [u, v, r]) (pc_path w) h1 h2 (by decide) h3 (Nat.le_of_ble_eq_true rfl) (List.forall_mem_cons.mpr ⟨i1.le (by omega), List.forall_mem_cons.mpr ⟨i2.le (by omega), List.forall_mem_cons.mpr ⟨i3.le (by omega), List.forall_mem_nil _⟩⟩⟩)
end
/-- the making, for trees of any height up to five -/
theorem made_all (w : World) : ∀ n, n ≤ 16 → MadeSpec w n ∧ SeqSpec w n
  | 0, _ => ⟨made0 w, seq_of w 0 (by omega) (made0 w)⟩
  | n + 1, h => let q := made_succ w n (made0 w) (made_all w n (by omega)).2; ⟨q, seq_of w (n + 1) h q⟩
end Mine
end
section
namespace Mine

theorem aps_one' {p : Addr × Obj} (h : notNav p.2 = true) : ∀ q ∈ [p], notNav q.2 = true := List.forall_mem_cons.mpr ⟨h, List.forall_mem_nil _⟩
inductive Tab (P : Led) (qual : Str) : List Value → Prop
  | nil : Tab P qual []
  | cons {i j : Int} {t u : Tok} {c' : Addr} {oc : Obj} {vs : Array Value} {t' : Tok} {l : List Value} : (c', oc) ∈ P → oc.data = .fields vs → vs[1]? = some (.str qual t') → Tab P qual l → Tab P qual (.int i t :: .int j u :: .ref c' :: l)
theorem Tab.ok {P : Led} {qual : Str} {l : List Value} (h : Tab P qual l) : TriplesOk l := by
  induction h with
  | nil => trivial
  | cons _ _ _ _ ih => exact ih
theorem Tab.find {P : Led} {qual : Str} {l : List Value} (h : Tab P qual l) (pos : Pos) : codeAmong pos l = none ∨ ∃ c' oc vs t, codeAmong pos l = some (.ref c') ∧ (c', oc) ∈ P ∧ oc.data = .fields vs ∧ vs[1]? = some (.str qual t) := by
  induction h with
  | nil => exact .inl rfl
  | cons h1 h2 h3 _ ih =>
    unfold codeAmong
    split
    · exact .inr ⟨_, _, _, _, rfl, h1, h2, h3⟩
    · exact ih
theorem Tab.mono {P P' : Led} {qual : Str} {l : List Value} (h : Tab P qual l) (k : ∀ p ∈ P, p ∈ P') : Tab P' qual l := by
  induction h with
  | nil => exact .nil
  | cons h1 h2 h3 _ ih => exact .cons (k _ h1) h2 h3 ih
theorem Tab.turn {w : World} {P P' : Led} {qual : Str} {l : List Value} (h : Tab P qual l) (k : Turned w P P') : Tab P' qual l := by
  induction h with
  | nil => exact .nil
  | cons h1 h2 h3 _ ih => exact .cons (k.mem h1 (nn_fields h2)) h2 h3 ih
theorem Tab.turn' {w : World} {P P' tl : Led} {qual : Str} {l : List Value} (h : Tab (tl ++ P) qual l) (k : Turned w P P') : Tab (tl ++ P') qual l := by
  induction h with
  | nil => exact .nil
  | cons h1 h2 h3 _ ih =>
    refine .cons ?_ h2 h3 ih
    rcases List.mem_append.mp h1 with h | h
    · exact List.mem_append.mpr (.inl h)
    · exact List.mem_append.mpr (.inr (k.mem h (nn_fields h2)))
theorem Tab.snoc {P : Led} {qual : Str} {l : List Value} (h : Tab P qual l) {i j : Int} {t u : Tok} {c' : Addr} {oc : Obj} {vs : Array Value} {t' : Tok} (h1 : (c', oc) ∈ P) (h2 : oc.data = .fields vs) (h3 : vs[1]? = some (.str qual t')) :
    Tab P qual (l ++ [.int i t, .int j u, .ref c']) := by
  induction h with
  | nil => exact .cons h1 h2 h3 .nil
  | cons k1 k2 k3 _ ih => exact .cons k1 k2 k3 ih
section
variable {M : Model} {A : Around} {E : Value → Shared → Prop} {s : Shared} {h₀ : Heap} {L a c P : Addr} {m mg mb : Str → Option Value} {cn : Str} {cs : Scope} {ccd : Value} {cl : List (Str × Addr)} {all rest rest0 : Led}
  {p : Program} {loose : List Str} {mean : ExcName → Option Value} {name qual : Str} {params : Arguments} {scope : Scope} {ps : Array Value} {pos : Pos} {firstLine : Nat} {clos : List (Str × Addr)}
theorem make_def {body : List Stmt} {Q : Value → Shared → Prop} (F : Fr h₀ L s.heap m) (N : News h₀ L s.heap all) (T : Top p loose mean mg mb h₀) (C : CodeHd h₀ c P) (hcd : ccd = .ref c) (sub : ∀ q ∈ (P, tabObj ps) :: rest, q ∈ all) (off : ∀ q ∈ rest, q.1 ≠ P) (tab : Tab rest0 qual ps.toList)
    (hcl : closureFor scope (envX cn cs L a ccd cl) = pure clos)
    (h : ∀ f c' oc vs t ctv doc ps' tl h' tk, Fr h₀ L h' m → News h₀ L h' ((f, fnMade name qual params body scope clos doc ((mg "__name__").getD .none) c' ctv) :: (P, tabObj ps') :: (tl ++ rest)) → Tab (tl ++ rest0) qual ps'.toList →
      (c', oc) ∈ tl ++ rest0 → oc.data = .fields vs → vs[1]? = some (.str qual t) → (∀ q ∈ tl, Ap q.1 ((P, tabObj ps') :: rest)) → (∀ q ∈ (P, tabObj ps') :: (tl ++ rest), q.1 < f) → (∀ q ∈ tl, notNav q.2 = true) → Q (.ref f) { s with heap := h', toks := tk }) :
    wpAny M A (makeFunction name qual params (.stmts body) scope (envX cn cs L a ccd cl) [] [] [] pos firstLine) Q E s := by
  have N1 : News h₀ L s.heap ((P, tabObj ps) :: rest) := fun q hq => N q (sub q hq)
  rcases tab.find pos with hn | ⟨c', oc, vs, t, hf, h1, h2, h3⟩
  · refine nest_K F N1 T C hcd (.head off) tab.ok hn hcl fun f c' oc vs t ctv doc h' tk F' N' hd hv l1 l2 => ?_
    refine h f c' oc vs t ctv doc (ps ++ #[rawInt pos.line, rawInt pos.col, .ref c']) [(c', oc)] h' tk F' (fun q hq => N' q ?_) ?_ (.head _) hd hv (aps_one (fun q hq => ?_)) (fun q hq => ?_) (aps_one' ?_)
    · simp only [List.mem_cons, List.mem_append, List.not_mem_nil, or_false] at hq ⊢
      rcases hq with h | h | h | h
      · exact .inl h
      · exact .inr (.inr (.inl h))
      · exact .inr (.inl h)
      · exact .inr (.inr (.inr h))
    · rw [Array.toList_append]
      exact (tab.mono fun q hq => .tail _ hq).snoc (.head _) hd hv
    · rcases List.mem_cons.mp hq with rfl | hq
      · exact Nat.ne_of_lt (l1 (P, tabObj ps) (.head _))
      · exact Nat.ne_of_lt (l1 _ (.tail _ hq))
    · rcases List.mem_cons.mp hq with rfl | hq
      · exact Nat.lt_trans (l1 (P, tabObj ps) (.head _)) l2
      · rcases List.mem_cons.mp hq with rfl | hq
        · exact l2
        · exact Nat.lt_trans (l1 _ (.tail _ hq)) l2
    · exact nn_fields hd
  · refine nestHit_K F N1 T C hcd (.head _) tab.ok hf hcl fun f ctv doc h' tk F' N' l1 => ?_
    exact h f c' oc vs t ctv doc ps [] h' tk F' N' tab h1 h2 h3 (List.forall_mem_nil _) l1 (List.forall_mem_nil _)
theorem make_def4 {body : List Stmt} {Q : Value → Shared → Prop} {a1 a2 a3 a4 : Addr × Obj} {rest : Led} (F : Fr h₀ L s.heap m) (N : News h₀ L s.heap (a1 :: a2 :: a3 :: a4 :: (P, tabObj ps) :: rest)) (T : Top p loose mean mg mb h₀) (C : CodeHd h₀ c P) (hcd : ccd = .ref c)
    (off : a1.1 ≠ P ∧ a2.1 ≠ P ∧ a3.1 ≠ P ∧ a4.1 ≠ P) (hoff : ∀ q ∈ rest, q.1 ≠ P) (tab : Tab rest0 qual ps.toList)
    (hcl : closureFor scope (envX cn cs L a ccd cl) = pure clos)
    (h : ∀ f c' oc vs t ctv doc ps' tl h' tk, Fr h₀ L h' m → News h₀ L h' ((f, fnMade name qual params body scope clos doc ((mg "__name__").getD .none) c' ctv) :: (P, tabObj ps') :: (tl ++ (a1 :: a2 :: a3 :: a4 :: rest))) → Tab (tl ++ rest0) qual ps'.toList →
      (c', oc) ∈ tl ++ rest0 → oc.data = .fields vs → vs[1]? = some (.str qual t) → (∀ q ∈ tl, Ap q.1 ((P, tabObj ps') :: (a1 :: a2 :: a3 :: a4 :: rest))) → (∀ q ∈ (P, tabObj ps') :: (tl ++ (a1 :: a2 :: a3 :: a4 :: rest)), q.1 < f) → (∀ q ∈ tl, notNav q.2 = true) → Q (.ref f) { s with heap := h', toks := tk }) :
    wpAny M A (makeFunction name qual params (.stmts body) scope (envX cn cs L a ccd cl) [] [] [] pos firstLine) Q E s :=
  make_def F N T C hcd (fun q hq => by
    simp only [List.mem_cons] at hq ⊢
    rcases hq with h | h | h | h | h | h <;> simp only [h, true_or, or_true]) (List.forall_mem_cons.mpr ⟨off.1, List.forall_mem_cons.mpr ⟨off.2.1, List.forall_mem_cons.mpr ⟨off.2.2.1, List.forall_mem_cons.mpr ⟨off.2.2.2, hoff⟩⟩⟩⟩)
    tab hcl h
theorem make_lam {body : Expr} {Q : Value → Shared → Prop} (F : Fr h₀ L s.heap m) (N : News h₀ L s.heap all) (T : Top p loose mean mg mb h₀) (C : CodeHd h₀ c P) (hcd : ccd = .ref c) (sub : ∀ q ∈ (P, tabObj ps) :: rest, q ∈ all) (off : ∀ q ∈ rest, q.1 ≠ P) (tab : Tab rest0 qual ps.toList)
    (hcl : closureFor scope (envX cn cs L a ccd cl) = pure clos)
    (h : ∀ f c' oc vs t ctv ps' tl h' tk, Fr h₀ L h' m → News h₀ L h' ((f, kla_obj name qual params body scope clos ((mg "__name__").getD .none) c' ctv) :: (P, tabObj ps') :: (tl ++ rest)) → Tab (tl ++ rest0) qual ps'.toList →
      (c', oc) ∈ tl ++ rest0 → oc.data = .fields vs → vs[1]? = some (.str qual t) → (∀ q ∈ tl, Ap q.1 ((P, tabObj ps') :: rest)) → (∀ q ∈ (P, tabObj ps') :: (tl ++ rest), q.1 < f) → Q (.ref f) { s with heap := h', toks := tk }) :
    wpAny M A (makeFunction name qual params (.expr body) scope (envX cn cs L a ccd cl) [] [] [] pos firstLine) Q E s := by
  have N1 : News h₀ L s.heap ((P, tabObj ps) :: rest) := fun q hq => N q (sub q hq)
  rcases tab.find pos with hn | ⟨c', oc, vs, t, hf, h1, h2, h3⟩
  · refine kla_nest F N1 T C hcd (.head off) tab.ok hn hcl fun f c' oc vs t ctv h' tk F' N' hd hv l1 l2 => ?_
    refine h f c' oc vs t ctv (ps ++ #[rawInt pos.line, rawInt pos.col, .ref c']) [(c', oc)] h' tk F' (fun q hq => N' q ?_) ?_ (.head _) hd hv (aps_one (fun q hq => ?_)) (fun q hq => ?_)
    · simp only [List.mem_cons, List.mem_append, List.not_mem_nil, or_false] at hq ⊢
      rcases hq with h | h | h | h
      · exact .inl h
      · exact .inr (.inr (.inl h))
      · exact .inr (.inl h)
      · exact .inr (.inr (.inr h))
    · rw [Array.toList_append]
      exact (tab.mono fun q hq => .tail _ hq).snoc (.head _) hd hv
    · rcases List.mem_cons.mp hq with rfl | hq
      · exact Nat.ne_of_lt (l1 (P, tabObj ps) (.head _))
      · exact Nat.ne_of_lt (l1 _ (.tail _ hq))
    · rcases List.mem_cons.mp hq with rfl | hq
      · exact Nat.lt_trans (l1 (P, tabObj ps) (.head _)) l2
      · rcases List.mem_cons.mp hq with rfl | hq
        · exact l2
        · exact Nat.lt_trans (l1 _ (.tail _ hq)) l2
  · refine kla_hit F N1 T C hcd (.head _) tab.ok hf hcl fun f ctv h' tk F' N' l1 => ?_
    exact h f c' oc vs t ctv ps [] h' tk F' N' tab h1 h2 h3 (List.forall_mem_nil _) l1
theorem storeX_C {x : Str} {v : Value} {news : Led} {g : Obj → Led} {c : Addr} {o : Obj} {v₀ : Option Value} {Q : Unit → Shared → Prop} (F : Fr h₀ L s.heap m) (N : News h₀ L s.heap news) (hc : cl.lookup x = some c) (U : UpdF c o news g) (hd : o.data = .cell v₀)
    (h : ∀ h' o', Fr h₀ L h' m → News h₀ L h' (g o') → o'.data = .cell (some v) → Q () { s with heap := h' })
    (hk : cs.kind = .function) (hx : (envX cn cs L a ccd cl).kindOf x = some .cell) : wpAny M A (storeName (envX cn cs L a ccd cl) x v) Q E s := by
  obtain ⟨own, rest, rfl, hg, h1, h2⟩ := U.split
  have hmem := N (c, o) (List.mem_append_right _ (.head _))
  refine wpAny_storeName_cell hk hx hc ⟨o, hmem.1, hd⟩ fun h' hv hs => ?_
  obtain ⟨o', ho', hd'⟩ := hv
  refine h h' o' ⟨F.ns.sameBut hs (Ne.symm hmem.2.1), fun b ob e => (hs.2 b (fun q => ?_)).trans (F.keep b ob e), F.above⟩ (hg o' ▸ N.setAt h1 h2 hs ho') hd'
  rw [q, hmem.2.2] at e; cases e
end
theorem updF_app {d : Addr} {o : Obj} {r : Led} {g : Obj → Led} : ∀ {x : Led}, (∀ p ∈ x, p.1 ≠ d) → UpdF d o r g → UpdF d o (x ++ r) (fun o' => x ++ g o')
  | [], _, u => u
  | p :: x, h, u => .tail (h p (.head _)) (updF_app (fun q hq => h q (.tail _ hq)) u)
end Mine
end
section
local macro_rules | `(tactic| walk_at "call ref") => `(tactic| (k_here; (show wpAny _ _ (call (Value.ref _) [Value.ref _]) _ _ _); (refine Mine.hold ?_)))
local macro_rules | `(tactic| walk_at "exec FunctionDef") => `(tactic| (k_here; k_dflt (refine' nestDef_K ?d0 ?k0 ?a0 ?_; (case d0 => exact rfl); (case k0 => exact rfl); (case a0 => exact rfl)); (refine Mine.hold ?_)))
namespace Mine
def flagOf (fl : Str) : Prop := fl = "" ∨ fl = "m" ∨ fl = "mp" ∨ fl = "pm"
def has1 (fl : Str) (c : Str) : Bool := !(Builtin.Str.occurrences fl c 0 fl.length 1).isEmpty
def PQ : Str := "RRELExpression.__init__.<locals>.prepare_tree"
def ExprObj (w : World) (P : Led) (q : Addr) (fl : Str) (r : Value) : Prop := ∃ x d t1 t2 t3 t4 tf n, r = .ref x ∧ (x, instObj 428 d) ∈ P ∧
  (d, dictOf [ent w "seq" t1 (.ref q), ent w "flags" t2 (.str fl tf), ent w "importURI" t3 (.bool (has1 fl "m")), ent w "use_proxy" t4 (.bool (has1 fl "p"))] n) ∈ P
theorem led_expr {h₀ h : Heap} {L : Addr} {f t c1 c2 x d : Addr × Obj} {tl n : Led} (N : News h₀ L h (f :: t :: (tl ++ (c1 :: c2 :: x :: d :: n)))) : News h₀ L h (t :: (([x, d] ++ tl) ++ n)) := fun z hz => N z (by
  simp only [List.mem_append, List.mem_cons, List.not_mem_nil, or_false] at hz ⊢
  rcases hz with h | ((h | h) | h) | h <;> simp only [h, true_or, or_true])
theorem mkExpr (w : World) (q : Addr) (fl : Str) (tf : Tok) : ∀ (p : Program) (loose : List Str) (mean : ExcName → Option Value) (mg mb : Str → Option Value) (dp un : Nat) (gd : Option (List Code)) (cn : Str) (cs : Scope) (a : Addr) (ccd : Value) (cl : List (Str × Addr)) (outer : List Env)
    (A₀ : Around) (base h₀ : Heap) (L : Addr) (m : Str → Option Value) (ps : Array Value) (news : Led) (s : Shared) (Q E : Value → Shared → Prop),
    Below A₀ base outer h₀ → Fr h₀ L s.heap m → (hd.heap_39 w.params).In h₀ → TabsG h₀ → News h₀ L s.heap ((413, tabObj ps) :: news) → (∀ z ∈ news, z.1 ≠ 413) → Tab news PQ ps.toList → Top p loose mean mg mb h₀ → cs.kind = .function →
    dp + 300 < recursionLimit → un + 2000 < cLine → (∃ e : Ways, e.Made w news q ∧ e.dep ≤ 5) →
    (∀ r ps' tl news' h' tk', Fr h₀ L h' m → News h₀ L h' ((413, tabObj ps') :: (tl ++ news')) → (∀ z ∈ tl, Ap z.1 ((413, tabObj ps') :: news')) → Turned w news news' → Tab (tl ++ news') PQ ps'.toList → ExprObj w tl q fl r → Q r { s with heap := h', toks := tk' }) →
    wpAny (model PySem.Challenge.rw_wx0015_01.row.prog w) (ktrTop dp un gd cn cs L a ccd cl outer) (call (.ref 428) [.ref q, .str fl tf]) Q E s := by
  have hdp : prepParts = prepParts := rfl
  conv at hdp => lhs; whnf
  w_top off
  k_fill
  intro p loose mean mg mb dp un gd cn cs a ccd cl outer A₀ base h₀ L m ps news s Q E B F X TG N hoff htab T hcs hd' hu' hm hret
  obtain ⟨e, hm, hdep⟩ := hm
  have hcode := TG.t1
  obtain ⟨_, _, _, _, _⟩ := cs; dsimp only at hcs; subst hcs
  have hseq := hm.obj
  k_steps
  unfold Hold
  rename_i xA dA hA5 FA NA lA1 lA2 gB LB hB4 tkB FGB BB XB TB lB oP oS d1 d2 h3 h2 h1 h0 FB NB
  have hoffB : ∀ z ∈ news, z.1 ≠ 413 := hoff
  refine Mine.make_def4 FB NB TB (TG.t4.keeps FGB.keep) rfl ⟨by k_ne, by k_ne, by k_ne, by k_ne⟩ hoff htab rfl ?_
  intro f c' oc vs t ctv doc ps' tl h' tk F' N' tab' mc dc vc apt lt nn
  k_steps
  refine Mine.storeX_C F' N' (by rfl) (UpdF.tail ?u1 (UpdF.tail ?u2 (Mine.updF_app ?u3 (UpdF.head ?u4)))) d1 (fun h6 o6 F6 N6 d6 => ?_) rfl rfl
  case u1 => exact Nat.ne_of_gt (lt _ (.tail _ (List.mem_append.mpr (.inr (.head _)))))
  case u2 => k_ne
  case u3 => exact fun z hz => Ne.symm (apt z hz _ (.tail _ (.head _)))
  case u4 =>
    refine List.forall_mem_cons.mpr ⟨by k_ne, List.forall_mem_cons.mpr ⟨by k_ne, List.forall_mem_cons.mpr ⟨by k_ne, fun z hz => ?_⟩⟩⟩
    exact Nat.ne_of_lt (Nat.lt_succ_of_lt (Nat.lt_succ_of_lt (Mine.allLt_mem lB.2.2.2 z hz)))
  dsimp only at N6
  k_steps
  unfold Hold
  refine Mine.CallsT.use (Mine.prep_all w f (4 * e.dep + 3) (.ref q)) (by k_asm) F6 (by k_asm) (by walk_at "tabs") N6 (by k_asm) rfl ?r1 ?r2 ⟨?fix, ?nd⟩ ?_
  case r1 => k_room
  case r2 => k_units
  case nd => exact (Mine.Ways.Made.nd e q hm).mono (fun z hz => .tail _ (.tail _ (List.mem_append.mpr (.inr (.tail _ (.tail _ (.tail _ (.tail _ hz))))))))
  case fix =>
    unfold PrepFix prepObj
    rw [← hdp]
    dsimp only
    exact ⟨LB + 1 + 1, LB + 1, c', xA, o6, oS, oc, vs, t, _, _, _, _, .head _, .tail _ (.tail _ (List.mem_append.mpr (.inr (.head _)))), .tail _ (.tail _ (List.mem_append.mpr (.inr (.tail _ (.head _))))), .tail _ (.tail _ (by
      rcases List.mem_append.mp mc with hh | hh
      · exact List.mem_append.mpr (.inl hh)
      · exact List.mem_append.mpr (.inr (.tail _ (.tail _ (.tail _ (.tail _ hh))))))), d6, d2, dc, vc⟩
  rintro all' h7 tk7 F7 N7 ht7
  obtain ⟨y1, rfl, ht8⟩ := Turned.own (x := [_, _]) ht7 (List.forall_mem_cons.mpr ⟨rfl, List.forall_mem_cons.mpr ⟨rfl, List.forall_mem_nil _⟩⟩)
  obtain ⟨y2, rfl, ht9⟩ := Turned.own ht8 nn
  obtain ⟨news', rfl, ht⟩ := Turned.own (x := [_, _, _, _]) ht9 (List.forall_mem_cons.mpr ⟨nn_cell d6, List.forall_mem_cons.mpr ⟨nn_cell d2, List.forall_mem_cons.mpr ⟨rfl, List.forall_mem_cons.mpr ⟨rfl, List.forall_mem_nil _⟩⟩⟩⟩)
  k_steps
  rename_i kF kN Tc kX
  refine hret _ ps' _ news' _ _ kF (Mine.led_expr kN) ?n2 ht ((tab'.turn' ht).mono ?n3) ⟨xA, dA, _, _, _, _, _, _, rfl, .head _, .tail _ (.head _)⟩
  case n2 =>
    refine List.forall_mem_append.mpr ⟨List.forall_mem_cons.mpr ⟨?_, List.forall_mem_cons.mpr ⟨?_, List.forall_mem_nil _⟩⟩, fun z hz => ?_⟩
    · exact List.forall_mem_cons.mpr ⟨by k_ne, ht.ap (fun z hz => Nat.ne_of_lt (Nat.lt_trans (Mine.allLt_mem lA1.2 z hz) lA2))⟩
    · exact List.forall_mem_cons.mpr ⟨by k_ne, ht.ap (Mine.allLt_ne lA1.2)⟩
    · exact List.forall_mem_cons.mpr ⟨apt z hz _ (.head _), ht.ap fun y hy => apt z hz y (.tail _ (.tail _ (.tail _ (.tail _ (.tail _ hy)))))⟩
  case n3 =>
    intro z hz
    simp only [List.mem_append, List.mem_cons, List.not_mem_nil, or_false] at hz ⊢
    rcases hz with h | h
    · exact .inl (.inr h)
    · exact .inr h
end Mine
end
section
namespace Mine
open PySem.F
theorem slot_map_iter : Slot "map" "__iter__" "map.__iter__" :=
  .of (owner := "map") (n := "__iter__") (by rw [typeLookup_type, builtinLookup_eq_fast]; kernel_rfl) (by decide +kernel) (by decide +kernel) (by decide +kernel)
    (by first | exact .inl (by decide +kernel) | exact .inr (by decide +kernel)) (by rw [isSubtype_type]; kernel_rfl)
theorem slot_map_next : Slot "map" "__next__" "map.__next__" :=
  .of (owner := "map") (n := "__next__") (by rw [typeLookup_type, builtinLookup_eq_fast]; kernel_rfl) (by decide +kernel) (by decide +kernel) (by decide +kernel)
    (by first | exact .inl (by decide +kernel) | exact .inr (by decide +kernel)) (by rw [isSubtype_type]; kernel_rfl)
theorem slot_map_init : Slot "map" "__init__" "object.__init__" :=
  .of (owner := "object") (n := "__init__") (by rw [typeLookup_type, builtinLookup_eq_fast]; kernel_rfl) (by decide +kernel) (by decide +kernel) (by decide +kernel)
    (by first | exact .inl (by decide +kernel) | exact .inr (by decide +kernel)) (by rw [isSubtype_type]; kernel_rfl)
theorem owner_map : Manifest.owners.lookup (String.ofList ['p', 'a', 'm'].reverse) = some Manifest.sig_map := by kernel_rfl
theorem args_map_iter (a : Value) : argsOk "map.__iter__" ⟨[a], []⟩ := by
  unfold argsOk; rw [signature?_of (id := "map.__iter__") (n := ['_', '_', 'r', 'e', 't', 'i', '_', '_']) (o := ['p', 'a', 'm']) (by kernel_rfl) owner_map]; kernel_rfl
theorem args_map_next (a : Value) : argsOk "map.__next__" ⟨[a], []⟩ := by
  unfold argsOk; rw [signature?_of (id := "map.__next__") (n := ['_', '_', 't', 'x', 'e', 'n', '_', '_']) (o := ['p', 'a', 'm']) (by kernel_rfl) owner_map]; kernel_rfl
theorem entry_map_next : entryFor table "map.__next__" = some Builtin.«map.__next__» := entryFor_of_tree (by kernel_rfl)
theorem entry_map_iter : entryFor table "map.__iter__" = some Builtin.«dict_keyiterator.__iter__» :=
  entryFor_alias (id' := "dict_keyiterator.__iter__") (by kernel_rfl) (by first | rfl | decide +kernel | (unfold String.splitOn; simp +decide [String.splitOnAux])) (by decide +kernel) (by kernel_rfl)
theorem mro_map : mroOf (.type "map") = pure [.type "map", .type "object"] := by rw [mroOf_type]; kernel_rfl
theorem lookup_map_new : typeLookup (.type "map") "__new__" = pure (some (.builtin "map.__new__")) := by rw [typeLookup_type, builtinLookup_eq_fast]; kernel_rfl
theorem called_map : TypeCalled "map" "map.__new__" "object.__init__" :=
  ⟨by decide +kernel, by decide +kernel, ⟨_, _, mro_map⟩, madeBy_type mro_map lookup_map_new (by decide +kernel), by decide +kernel, by rw [isSubtype_type]; kernel_rfl, slot_map_init⟩
theorem typeCall_map_2 (a b : Value) : checkTypeCall "map" ⟨[a, b], []⟩ = pure () := by kernel_rfl
theorem newCall_map_2 (a b : Value) : checkBuiltinCall "map.__new__" ⟨[.type "map", a, b], []⟩ = pure () := by kernel_rfl
theorem entry_map_new : entryFor table "map.__new__" = some Builtin.«map.__new__» := entryFor_of_tree (by kernel_rfl)
theorem sub_map : isSubtype (.type "map") (.type "map") = pure true := by rw [isSubtype_type]; kernel_rfl
theorem map_no_len : typeLookup (.type "map") "__len__" = pure none := by rw [typeLookup_type, builtinLookup_eq_fast]; kernel_rfl
theorem map_no_hint : typeLookup (.type "map") "__length_hint__" = pure none := by rw [typeLookup_type, builtinLookup_eq_fast]; kernel_rfl
abbrev mapObj (T : Addr) (f : Value) : Obj := { cls := .type "map", dict := none, data := .fields #[.ref T, f], slots := #[] }
abbrev oneTup (v : Value) : Obj := { cls := .type "tuple", data := .seq #[v] }
abbrev itObj0 (l : Addr) : Obj := { cls := .type "list_iterator", data := .fields #[.ref l, .int 0 0] }
abbrev mapH1 (h : Heap) (l : Addr) : Heap := h.push (itObj0 l)
abbrev mapH2 (h : Heap) (l : Addr) : Heap := (mapH1 h l).push (oneTup (.ref h.objs.size))
abbrev mapH3 (h : Heap) (l : Addr) (f : Value) : Heap := (mapH2 h l).push (mapObj (mapH1 h l).objs.size f)
theorem meets_map_new (l f : Addr) (xs : Array Value) :
    Meets (Builtin.«map.__new__» ⟨[.type "map", .ref f, .ref l], []⟩) (fun _ R s => s.heap.IsList l xs ∧ R (.ok (.ret (.ref (mapH2 s.heap l).objs.size))) { s with heap := mapH3 s.heap l (.ref f) }) :=
  .of_wp fun prog w A R s h => by
    obtain ⟨hp, g, d, tk, os⟩ := s; obtain ⟨hl, h⟩ := h
    have hsub := sub_map
    have hL : Heap.IsList (Shared.heap ⟨hp, g, d, tk, os⟩) l xs := hl
    wp_walk using wpAny_pyIter_list hL
    exact ⟨_, rfl, h⟩
section
variable {prog : Program} {w : World} {A : Around} {E : Value → Shared → Prop} {s : Shared} {h₀ : Heap} {L : Addr} {m : Str → Option Value}
theorem call_map {l f : Addr} {xs : Array Value} {all : Led} {Q : Value → Shared → Prop} (F : Fr h₀ L s.heap m) (N : News h₀ L s.heap all) (hl : s.heap.IsList l xs)
    (h : ∀ M T I h', Fr h₀ L h' m → News h₀ L h' ((I, itObj0 l) :: (M, mapObj T (.ref f)) :: (T, oneTup (.ref I)) :: all) → (∀ p ∈ all, p.1 < I) → I < T → T < M → Q (.ref M) { s with heap := h' }) :
    wpAny (model prog w) A (call (.type "map") [.ref f, .ref l]) Q E s := by
  refine callType_new called_map (by decide) (typeCall_map_2 _ _) (newCall_map_2 _ _) (fun obj => PySem.F.args_object_init_3 obj _ _) entry_map_new (meets_map_new l f xs) ⟨hl, ?_⟩
  have z1 : (mapH1 s.heap l).objs.size = s.heap.objs.size + 1 := Heap.size_push ..
  have z2 : (mapH2 s.heap l).objs.size = s.heap.objs.size + 2 := by rw [Heap.size_push, z1]
  have g3 : (mapH3 s.heap l (.ref f)).get? (mapH2 s.heap l).objs.size = some _ := Heap.get?_push_size _ rfl
  have g2 : (mapH3 s.heap l (.ref f)).get? (mapH1 s.heap l).objs.size = some _ := Heap.get?_push_of_some _ (Heap.get?_push_size _ rfl)
  have g1 : (mapH3 s.heap l (.ref f)).get? s.heap.objs.size = some _ := Heap.get?_push_of_some _ (Heap.get?_push_of_some _ (Heap.get?_push_size _ rfl))
  have up : ∀ c o, s.heap.get? c = some o → (mapH3 s.heap l (.ref f)).get? c = some o := fun c o e => Heap.get?_push_of_some _ (Heap.get?_push_of_some _ (Heap.get?_push_of_some _ e))
  have fresh : ∀ b, s.heap.objs.size ≤ b → L ≠ b ∧ h₀.get? b = none := fun b hb => ⟨Nat.ne_of_lt (Nat.lt_of_lt_of_le F.ns.lt hb), Heap.get?_none_of_le (Nat.le_trans F.above (Nat.le_trans (Nat.le_of_lt F.ns.lt) hb))⟩
  show _ ∧ _
  refine ⟨⟨_, g3, rfl⟩, h _ (mapH1 s.heap l).objs.size _ _ (F.keeps up) (fun p hp => ?_) (fun p hp => Heap.lt_size (N p hp).1) (by rw [z1]; exact Nat.lt_succ_self _) (by rw [z1, z2]; exact Nat.lt_succ_self _)⟩
  rcases List.mem_cons.mp hp with rfl | hp
  · exact ⟨g1, Ne.symm (fresh _ (Nat.le_refl _)).1, (fresh _ (Nat.le_refl _)).2⟩
  · rcases List.mem_cons.mp hp with rfl | hp
    · exact ⟨g3, Ne.symm (fresh _ (by rw [z2]; omega)).1, (fresh _ (by rw [z2]; omega)).2⟩
    · rcases List.mem_cons.mp hp with rfl | hp
      · exact ⟨g2, Ne.symm (fresh _ (by rw [z1]; omega)).1, (fresh _ (by rw [z1]; omega)).2⟩
      · exact ⟨up _ _ (N p hp).1, (N p hp).2⟩
theorem map_next_item {M T I l : Addr} {f : Value} {k : Nat} {xs : Array Value} {x : Value} {Q : Value → Shared → Prop} (hM : s.heap.get? M = some (mapObj T f)) (hT : s.heap.get? T = some (oneTup (.ref I)))
    (hI : s.heap.IsListIter I l k) (hl : s.heap.IsList l xs) (hx : xs[k]? = some x) (hMI : M ≠ I)
    (hQ : ∀ h', h'.IsListIter I l (k + 1) → Heap.SameBut I s.heap h' → wpAny (model prog w) A (call f [x]) Q E { s with heap := h' }) :
    wpAny (model prog w) A (Builtin.«map.__next__» ⟨[.ref M], []⟩) (fun fin s' => ∃ v, fin = .done (.ret v) ∧ Q v s') E s := by
  show wpAny _ _ (field (.ref M) 0 >>= _) _ _ _
  refine wpAny_bind (wpAny_field hM rfl (x := .ref T) rfl ?_)
  refine wpAny_bind (wpAny_seqItems hT rfl ?_)
  simp only [List.forIn_cons, List.forIn_nil]
  refine wpAny_bind ?_
  refine wpAny_bind (wpAny_bind (wpAny_holding (wpAny_nextOf_list_item hI hl hx fun h' hI' hs' => ?_)))
  refine wpAny_pure (wpAny_pure ?_)
  refine wpAny_bind (wpAny_field (hs'.extBut _ _ hMI hM) rfl (x := f) rfl ?_)
  refine wpAny_bind (wpAny_holding (wpAny_mono (hQ h' hI' hs') (fun v s' hq => ?_) fun _ _ e => e))
  refine wpAny_bind (wpAny_letGo (wpAny_pure ⟨v, rfl, hq⟩))
theorem map_next_end {M T I l : Addr} {f : Value} {k : Nat} {xs : Array Value} {Q : Fin → Shared → Prop} (hh : A.handled = none) (hM : s.heap.get? M = some (mapObj T f)) (hT : s.heap.get? T = some (oneTup (.ref I)))
    (hI : s.heap.IsListIter I l k) (hl : s.heap.IsList l xs) (hx : xs[k]? = none)
    (hE : ∀ h' e, Heap.ExtBut I s.heap h' → (∃ o, h'.get? e = some o ∧ o.cls = .type "StopIteration") → E (.ref e) { s with heap := h' }) :
    wpAny (model prog w) A (Builtin.«map.__next__» ⟨[.ref M], []⟩) Q E s := by
  show wpAny _ _ (field (.ref M) 0 >>= _) _ _ _
  refine wpAny_bind (wpAny_field hM rfl (x := .ref T) rfl ?_)
  refine wpAny_bind (wpAny_seqItems hT rfl ?_)
  simp only [List.forIn_cons, List.forIn_nil]
  refine wpAny_bind ?_
  exact wpAny_bind (wpAny_bind (wpAny_holding (wpAny_nextOf_list_end hh hI hl hx hE)))
theorem pyNext_map_item {M T I l : Addr} {f : Value} {k : Nat} {xs : Array Value} {x : Value} {Q : Option Value → Shared → Prop} (hM : s.heap.get? M = some (mapObj T f)) (hT : s.heap.get? T = some (oneTup (.ref I)))
    (hI : s.heap.IsListIter I l k) (hl : s.heap.IsList l xs) (hx : xs[k]? = some x) (hMI : M ≠ I)
    (hQ : ∀ h' E', h'.IsListIter I l (k + 1) → Heap.SameBut I s.heap h' → wpAny (model prog w) A.in1 (call f [x]) (fun v s' => Q (some v) s') E' { s with heap := h' }) : wpAny (model prog w) A (pyNext (.ref M)) Q E s := by
  have hT' : s.TypeIs (.ref M) "map" := ⟨_, hM, rfl⟩
  unfold pyNext
  exact wpAny_bind (wpAny_attempt (wpAny_callSpecial?_slot (name := Str.ofString "__next__") hT' slot_map_next
    (wpAny_call_entry slot_map_next hT' entry_map_next
      (map_next_item (A := A.in1) hM hT hI hl hx hMI fun h' a1 a2 => wpAny_mono (hQ h' _ a1 a2) (fun v s' hv => wpAny_pure hv) fun _ _ e => e) (args_map_next _))))
theorem pyNext_map_end {M T I l : Addr} {f : Value} {k : Nat} {xs : Array Value} {Q : Option Value → Shared → Prop} (hh : A.handled = none) (hM : s.heap.get? M = some (mapObj T f)) (hT : s.heap.get? T = some (oneTup (.ref I)))
    (hI : s.heap.IsListIter I l k) (hl : s.heap.IsList l xs) (hx : xs[k]? = none)
    (hQ : ∀ h', Heap.ExtBut I s.heap h' → Q none { s with heap := h' }) : wpAny (model prog w) A (pyNext (.ref M)) Q E s := by
  have hT' : s.TypeIs (.ref M) "map" := ⟨_, hM, rfl⟩
  unfold pyNext
  refine wpAny_bind (wpAny_attempt (wpAny_callSpecial?_slot (name := Str.ofString "__next__") hT' slot_map_next
    (wpAny_call_entry slot_map_next hT' entry_map_next (map_next_end hh hM hT hI hl hx fun h' e hk he => ?_) (args_map_next _))))
  obtain ⟨o, ho, hc⟩ := he
  refine wpAny_bind (wpAny_isInstance (T := "StopIteration") (b := true) ⟨o, ho, hc⟩ isSubtype_stop ?_)
  exact wpAny_pure (hQ _ hk)
theorem pyIter_map {M T : Addr} {f : Value} {Q : Value → Shared → Prop} (hM : s.heap.get? M = some (mapObj T f)) (h : Q (.ref M) s) : wpAny (model prog w) A (pyIter (.ref M)) Q E s := by
  have hT : s.TypeIs (.ref M) "map" := ⟨_, hM, rfl⟩
  refine wpAny_pyIter_slot hT slot_map_iter (wpAny_call_entry slot_map_iter hT entry_map_iter ?_ (args_map_iter _))
  show wpAny _ _ (ret (.ref M)) _ _ s
  exact wpAny_pure ⟨_, rfl, "map", _, hT, slot_map_next.lookup, h⟩
end
end Mine
end
section
namespace Mine
open PySem.Builtin PySem.Builtin.Str
abbrev lobj (acc : Array Value) (c : Nat) : Obj := { cls := .type "list", dict := none, data := .seq acc c, slots := #[] }
abbrev four (S I M T : Addr) (oI : Obj) (f : Value) (acc : Array Value) (c : Nat) : Led := [(S, lobj acc c), (I, oI), (M, mapObj T f), (T, oneTup (.ref I))]
structure Apart4 (S I M T : Addr) : Prop where
  SI : S ≠ I
  SM : S ≠ M
  ST : S ≠ T
  MI : M ≠ I
  TI : T ≠ I
def TextsAre (txt : Nat → Str) (acc : Array Value) (i : Nat) : Prop := acc.size = i ∧ ∀ (j : Nat) v, acc[j]? = some v → ∃ u, v = .str (txt j) u
theorem TextsAre.push {txt : Nat → Str} {acc : Array Value} {i : Nat} {u : Tok} (h : TextsAre txt acc i) : TextsAre txt (acc.push (.str (txt i) u)) (i + 1) := by
  refine ⟨by rw [Array.size_push, h.1], fun j v hj => ?_⟩
  rw [Array.getElem?_push] at hj
  split at hj
  · rename_i e; rw [h.1] at e; cases hj; rw [e]; exact ⟨u, rfl⟩
  · exact h.2 j v hj
section
variable {prog : Program} {w : World} {A : Around} {E : Value → Shared → Prop} {s : Shared} {h₀ : Heap} {L : Addr} {m : Str → Option Value} {R : Result → Shared → Prop} {S I M T l : Addr} {f res : Value} {its : List Value} {nl : Nat} {txt : Nat → Str} {J : Nat → Led → Prop}
def MapEnd (s : Shared) (h₀ : Heap) (L : Addr) (m : Str → Option Value) (S I : Addr) (fr : Led) (x : Str) (Jn : Led → Prop) (y : Value) (s' : Shared) : Prop :=
  ∃ h' tk' ns' u, s' = { s with heap := h', toks := tk' } ∧ y = .str x u ∧ Fr h₀ L h' m ∧ News h₀ L h' (fr ++ ns') ∧ (∀ p ∈ ns', p.1 ≠ S ∧ p.1 ≠ I) ∧ Jn ns'
def MapTurn (prog : Program) (w : World) (A : Around) (s : Shared) (h₀ : Heap) (L : Addr) (m : Str → Option Value) (S I M T : Addr) (f : Value) (its : List Value) (txt : Nat → Str) (J : Nat → Led → Prop) : Prop :=
  ∀ i v ns oI acc c h tk E', its[i]? = some v → J i ns → (∀ p ∈ ns, p.1 ≠ S ∧ p.1 ≠ I) → Fr h₀ L h m → News h₀ L h (four S I M T oI f acc c ++ ns) →
    wpAny (model prog w) A (call f [v]) (MapEnd s h₀ L m S I (four S I M T oI f acc c) (txt i) (J (i + 1))) E' { s with heap := h, toks := tk }
theorem map_loop (hh : A.handled = none) (D : Apart4 S I M T) (hn : its.length ≤ sizeLine) (hsrc : ∀ i ns, J i ns → (l, W.listOf its.toArray nl) ∈ ns)
    (turn : MapTurn prog w A.in1.in1 s h₀ L m S I M T f its txt J)
    (hR : ∀ h' tk' acc c ns, Fr h₀ L h' m → News h₀ L h' ((S, lobj acc c) :: ns) → TextsAre txt acc its.length → J its.length ns → R (.ok (.ret res)) { s with heap := h', toks := tk' }) :
    ∀ (k i : Nat) (acc : Array Value) (c : Nat) (ns : Led) (oI : Obj) (h : Heap) (tk : Nat), its.length - i = k → i ≤ its.length → Fr h₀ L h m → News h₀ L h (four S I M T oI f acc c ++ ns) → (∀ p ∈ ns, p.1 ≠ S ∧ p.1 ≠ I) →
      oI.cls = .type "list_iterator" → oI.data = .fields #[.ref l, .int i 0] → J i ns → TextsAre txt acc i →
      codeAny (model prog w) A (.builtin "list.extend.loop" ⟨[.ref S, .ref M, res], []⟩) R { s with heap := h, toks := tk } := by
  intro k
  induction k with
  | zero =>
    intro i acc c ns oI h tk hk hi F N off hc hd hJ hacc
    obtain rfl : i = its.length := by omega
    have nI := N (I, oI) (.tail _ (.head _))
    have nM := N (M, _) (.tail _ (.tail _ (.head _)))
    have nT := N (T, _) (.tail _ (.tail _ (.tail _ (.head _))))
    have nl' := N _ (List.mem_append.mpr (.inr (hsrc _ _ hJ)))
    refine codeAny_builtin PySem.F.entry_extend_loop ?_
    rw [Around.under_plainId PySem.F.plain_extend_loop _]
    show wpAny _ A.in1 (pyNext (.ref M) >>= _) _ _ _
    refine wpAny_bind (pyNext_map_end (A := A.in1) hh nM.1 nT.1 ⟨oI, nI.1, hc, hd⟩ ⟨_, nl'.1, rfl, _, rfl⟩ (by simp) fun h' hk' => ?_)
    have hk2 : ∀ b o, b ∉ [I] → h.get? b = some o → h'.get? b = some o := fun b o hb e => hk' b o (fun q => hb (List.mem_singleton.mpr q)) e
    have F1 := kmk_fr F hk2 nI.2.1 nI.2.2
    refine wpAny_pure (hR h' _ acc c ns F1 (kmk_news (fun p hp => N p ?_) hk2 ?_) hacc hJ)
    · rcases List.mem_cons.mp hp with rfl | hp
      · exact .head _
      · exact List.mem_append.mpr (.inr hp)
    · exact List.forall_mem_cons.mpr ⟨D.SI, fun p hp => (off p hp).2⟩
  | succ k ih =>
    intro i acc c ns oI h tk hk hi F N off hc hd hJ hacc
    have hlt : i < its.length := by omega
    have nI := N (I, oI) (.tail _ (.head _))
    have nM := N (M, _) (.tail _ (.tail _ (.head _)))
    have nT := N (T, _) (.tail _ (.tail _ (.tail _ (.head _))))
    have nl' := N _ (List.mem_append.mpr (.inr (hsrc _ _ hJ)))
    have hx : its[i]? = some its[i] := List.getElem?_eq_getElem hlt
    refine codeAny_builtin PySem.F.entry_extend_loop ?_
    rw [Around.under_plainId PySem.F.plain_extend_loop _]
    show wpAny _ A.in1 (pyNext (.ref M) >>= _) _ _ _
    refine wpAny_bind (pyNext_map_item (A := A.in1) (k := i) (x := its[i]) nM.1 nT.1 ⟨oI, nI.1, hc, hd⟩ ⟨_, nl'.1, rfl, _, rfl⟩ (by simp) D.MI fun h' E' hI' hs' => ?_)
    obtain ⟨oI', hoI', hc', hd'⟩ := hI'
    have F1 := ksk_fr F hs' nI.2.1 nI.2.2
    have N1 : News h₀ L h' (four S I M T oI' f acc c ++ ns) := fun p hp => by
      have z : p = (I, oI') ∨ (p ∈ four S I M T oI f acc c ++ ns ∧ p.1 ≠ I) := by
        simp only [four, List.cons_append, List.nil_append, List.mem_cons] at hp ⊢
        rcases hp with rfl | rfl | rfl | rfl | hp
        · exact .inr ⟨.inl rfl, D.SI⟩
        · exact .inl rfl
        · exact .inr ⟨.inr (.inr (.inl rfl)), D.MI⟩
        · exact .inr ⟨.inr (.inr (.inr (.inl rfl))), D.TI⟩
        · exact .inr ⟨.inr (.inr (.inr (.inr hp))), (off p hp).2⟩
      rcases z with rfl | ⟨z, zn⟩
      · exact ⟨hoI', nI.2⟩
      · exact ⟨(hs'.2 p.1 zn).trans (N p z).1, (N p z).2⟩
    refine wpAny_mono (turn i its[i] ns oI' acc c h' tk E' hx hJ off F1 N1) (fun y s2 hy => ?_) fun _ _ e => e
    obtain ⟨h2, tk2, ns2, u, rfl, rfl, F2, N2, off2, hJ2⟩ := hy
    have nS := N2 (S, lobj acc c) (.head _)
    show wpAny _ A.in1 (updateSeq S (·.push (.str (txt i) u)) >>= _) _ _ _
    refine wpAny_bind ?_
    have s1 := Heap.SameBut.update h2 S (Obj.mapSeq (·.push (.str (txt i) u)))
    obtain ⟨c2, hc2⟩ : ∃ c2, (h2.update S (Obj.mapSeq (·.push (.str (txt i) u)))).get? S = some (lobj (acc.push (.str (txt i) u)) c2) := ⟨_, get?_update_seq nS.1 (·.push (.str (txt i) u))⟩
    refine wpAny_updateSeq nS.1 rfl (wpAny_pure ⟨plainId_quiet PySem.F.plain_extend_loop _, ?_⟩) (by rw [hacc.1]; omega) (by show (acc.push _).size ≤ sizeLine + 1; rw [Array.size_push, hacc.1]; omega)
    refine ih (i + 1) (acc.push (.str (txt i) u)) c2 ns2 oI' _ _ (by omega) hlt (ksk_fr F2 s1 nS.2.1 nS.2.2) (fun p hp => ?_) off2 hc' hd' hJ2 hacc.push
    have z : p = (S, lobj (acc.push (.str (txt i) u)) c2) ∨ (p ∈ four S I M T oI' f acc c ++ ns2 ∧ p.1 ≠ S) := by
      simp only [four, List.cons_append, List.nil_append, List.mem_cons] at hp ⊢
      rcases hp with rfl | rfl | rfl | rfl | hp
      · exact .inl rfl
      · exact .inr ⟨.inr (.inl rfl), Ne.symm D.SI⟩
      · exact .inr ⟨.inr (.inr (.inl rfl)), Ne.symm D.SM⟩
      · exact .inr ⟨.inr (.inr (.inr (.inl rfl))), Ne.symm D.ST⟩
      · exact .inr ⟨.inr (.inr (.inr (.inr hp))), (off2 p hp).1⟩
    rcases z with rfl | ⟨z, zn⟩
    · exact ⟨hc2, nS.2⟩
    · exact ⟨(s1.2 p.1 zn).trans (N2 p z).1, (N2 p z).2⟩
theorem collect_map {ns : Led} {Q : List Value → Shared → Prop} (hh : A.handled = none) (F : Fr h₀ L s.heap m) (N : News h₀ L s.heap ([(I, itObj0 l), (M, mapObj T f), (T, oneTup (.ref I))] ++ ns)) (hMI : M ≠ I) (hTI : T ≠ I) (off : ∀ p ∈ ns, p.1 ≠ I)
    (hn : its.length ≤ sizeLine) (hsrc : ∀ i ns, J i ns → (l, W.listOf its.toArray nl) ∈ ns) (hJ : J 0 ns)
    (turn : ∀ S s', (∀ p ∈ [(I, itObj0 l), (M, mapObj T f), (T, oneTup (.ref I))] ++ ns, p.1 < S) → (∃ h tk, s' = { s with heap := h, toks := tk }) → MapTurn prog w A.in1.in1 s' h₀ L m S I M T f its txt J)
    (hQ : ∀ h' tk' acc ns, Fr h₀ L h' m → News h₀ L h' ns → TextsAre txt acc its.length → J its.length ns → Q acc.toList { s with heap := h', toks := tk' }) : wpAny (model prog w) A (collect (.ref M)) Q E s := by
  have nM := N (M, _) (.tail _ (.head _))
  have nI := N (I, _) (.head _)
  have hltS : ∀ p ∈ [(I, itObj0 l), (M, mapObj T f), (T, oneTup (.ref I))] ++ ns, p.1 < s.heap.objs.size := fun p hp => Heap.lt_size (N p hp).1
  have hSM : s.heap.objs.size ≠ M := Nat.ne_of_gt (hltS _ (.tail _ (.head _)))
  have D : Apart4 s.heap.objs.size I M T := ⟨Nat.ne_of_gt (hltS _ (.head _)), hSM, Nat.ne_of_gt (hltS _ (.tail _ (.tail _ (.head _)))), hMI, hTI⟩
  have hT : ∀ h : Heap, h.get? M = some (mapObj T f) → ({ s with heap := h } : Shared).TypeIs (.ref M) "map" := fun h e => ⟨_, e, rfl⟩
  unfold collect
  refine wpAny_bind (wpAny_runValue (codeAny_builtin PySem.F.entry_proto_collect ?_))
  rw [Around.under_plainId PySem.F.plain_proto_collect _]
  show wpAny _ A.in1 (newList [] >>= fun l => again (.builtin "list.__iadd__" ⟨[l, .ref M], []⟩)) _ _ s
  refine wpAny_bind (wpAny_newObj_type ?_)
  refine wpAny_pure ⟨plainId_quiet PySem.F.plain_list_iadd _, codeAny_builtin PySem.F.entry_list_iadd ?_⟩
  rw [Around.under_plainId PySem.F.plain_list_iadd _]
  have gM : (s.heap.push { cls := .type "list", data := .seq ([] : List Value).toArray }).get? M = some (mapObj T f) := Heap.get?_push_of_some _ nM.1
  show wpAny _ A.in1 (Builtin.List.listExtendWith (.ref s.heap.objs.size) (.ref M) (.ref s.heap.objs.size)) _ _ _
  unfold Builtin.List.listExtendWith
  refine wpAny_bind (wpAny_typeOf (hT _ gM) ?_)
  have h1 : Builtin.List.listSameRef (.ref s.heap.objs.size) (.ref M) = false := by simp [Builtin.List.listSameRef, hSM]
  have h2 : (Value.type "map" == Value.type "list") = false := by decide
  have h3 : (Value.type "map" == Value.type "tuple") = false := by decide
  simp only [h1, h2, h3, Bool.or_false, Bool.false_eq_true, if_false]
  refine wpAny_bind (pyIter_map gM ?_)
  refine wpAny_bind (wpAny_holding ?_)
  unfold Builtin.List.listLengthHint
  refine wpAny_bind (wpAny_specialOf (hT _ gM) map_no_len ?_)
  show wpAny _ A.in1 (specialOf (Value.ref M) (Str.ofString "__length_hint__") >>= _) _ _ _
  refine wpAny_bind (wpAny_specialOf (hT _ gM) map_no_hint ?_)
  refine wpAny_pure ?_
  show wpAny _ A.in1 (rule "list.extend.makes-room" >>= fun _ => Builtin.List.listTouch (.ref s.heap.objs.size) >>= fun _ =>
    again (.builtin "list.extend.loop" ⟨[.ref s.heap.objs.size, .ref M, .ref s.heap.objs.size], []⟩)) _ _ _
  refine wpAny_bind (wpAny_rule ?_)
  have hS₁ : (s.heap.push { cls := .type "list", data := .seq ([] : List Value).toArray }).get? s.heap.objs.size = some { cls := .type "list", data := .seq ([] : List Value).toArray } := Heap.get?_push_size _ rfl
  refine wpAny_bind ?_
  show wpAny _ A.in1 (updateSeq s.heap.objs.size (·.push .none) >>= fun _ => updateSeq s.heap.objs.size (·.pop)) _ _ _
  refine wpAny_bind (wpAny_updateSeq hS₁ rfl ?_)
  have hS₂ := Heap.get?_update_self (Obj.mapSeq (·.push Value.none)) hS₁ rfl
  refine wpAny_updateSeq hS₂ rfl ?_
  have hS₃ := Heap.get?_update_self (Obj.mapSeq (·.pop)) hS₂ rfl
  obtain ⟨c0, hc0⟩ : ∃ c0, (((s.heap.push { cls := .type "list", data := .seq ([] : List Value).toArray }).update s.heap.objs.size (Obj.mapSeq (·.push Value.none))).update s.heap.objs.size (Obj.mapSeq (·.pop))).get? s.heap.objs.size = some (lobj #[] c0) := ⟨_, hS₃⟩
  have oth : ∀ b o, s.heap.get? b = some o →
      (((s.heap.push { cls := .type "list", data := .seq ([] : List Value).toArray }).update s.heap.objs.size (Obj.mapSeq (·.push Value.none))).update s.heap.objs.size (Obj.mapSeq (·.pop))).get? b = some o :=
    fun b o e => (Heap.get?_update_other _ _ (Nat.ne_of_gt (Heap.lt_size e))).trans ((Heap.get?_update_other _ _ (Nat.ne_of_gt (Heap.lt_size e))).trans (Heap.get?_push_of_some _ e))
  have hSL : s.heap.objs.size ≠ L ∧ h₀.get? s.heap.objs.size = none := ⟨Nat.ne_of_gt F.ns.lt, Heap.get?_none_of_le (Nat.le_trans F.above (Nat.le_of_lt F.ns.lt))⟩
  refine wpAny_pure ⟨plainId_quiet PySem.F.plain_extend_loop _, map_loop (s := s) hh D hn hsrc (turn _ s hltS ⟨s.heap, s.toks, rfl⟩) (fun h' tk' acc c ns' F' N' hacc hJ' => ?_) its.length 0 #[] c0 ns (itObj0 l) _ _ rfl (Nat.zero_le _) (F.keeps oth) (fun p hp => ?_)
    (fun p hp => ⟨Nat.ne_of_lt (hltS p (List.mem_append.mpr (.inr hp))), off p hp⟩) rfl rfl hJ ⟨rfl, fun j v hj => by simp at hj⟩⟩
  · show wpAny _ A (load s.heap.objs.size >>= _) _ _ _
    refine wpAny_bind (wpAny_load (N' _ (.head _)).1 ?_)
    exact wpAny_pure (hQ h' tk' acc ns' F' (fun p hp => N' p (.tail _ hp)) hacc hJ')
  · rcases List.mem_cons.mp hp with rfl | hp
    · exact ⟨hc0, hSL⟩
    · exact ⟨oth _ _ (N p hp).1, (N p hp).2⟩
theorem join_map {x : Str} {t : Tok} {ns : Led} {Q : Value → Shared → Prop} (hh : A.handled = none) (F : Fr h₀ L s.heap m) (N : News h₀ L s.heap ([(I, itObj0 l), (M, mapObj T f), (T, oneTup (.ref I))] ++ ns)) (hMI : M ≠ I) (hTI : T ≠ I) (off : ∀ p ∈ ns, p.1 ≠ I)
    (hn : its.length ≤ sizeLine) (hsrc : ∀ i ns, J i ns → (l, W.listOf its.toArray nl) ∈ ns) (hJ : J 0 ns)
    (turn : ∀ S s', (∀ p ∈ [(I, itObj0 l), (M, mapObj T f), (T, oneTup (.ref I))] ++ ns, p.1 < S) → (∃ h tk, s' = { s with heap := h, toks := tk }) → MapTurn prog w A.in1.in1.in1 s' h₀ L m S I M T f its txt J)
    (hok : JoinOk x ((List.range its.length).map txt) = true)
    (hQ : ∀ h' tk' ns u, Fr h₀ L h' m → News h₀ L h' ns → J its.length ns → Q (.str (Txt.join x ((List.range its.length).map txt)) u) { s with heap := h', toks := tk' }) :
    wpAny (model prog w) A (call (.builtin "str.join") [.str x t, .ref M]) Q E s := by
  have nM := N (M, _) (.tail _ (.head _))
  have hT : s.TypeIs (.ref M) "map" := ⟨_, nM.1, rfl⟩
  refine wpAny_call (codeAny_call_builtin PySem.F.slot_str_join.plain PySem.F.entry_str_join (PySem.F.slot_str_join.check _ _ _ _ _ _ _ _ (typeIs_str _ _ _) (PySem.F.args_str_join_2 _ _) ?_))
  rw [join_tree_other]
  refine wpAny_bind (wpAny_typeOf hT ?_)
  show wpAny _ A.in1 ((pyIter (.ref M)).tryCatch _ >>= fun it => collect it >>= fun items => joinTail x items) _ _ s
  refine wpAny_bind (wpAny_tryCatch (pyIter_map nM.1 ?_))
  refine wpAny_bind (collect_map (A := A.in1) hh F N hMI hTI off hn hsrc hJ turn fun h' tk' acc ns' F' N' hacc hJ' => ?_)
  obtain ⟨ll, hl⟩ := exists_strValues acc.toList fun v hv => by
    obtain ⟨j, hj, rfl⟩ := Array.mem_iff_getElem.mp (Array.mem_toList_iff.mp hv)
    obtain ⟨u, e⟩ := hacc.2 j _ (Array.getElem?_eq_getElem hj)
    exact ⟨_, u, e⟩
  have htx : ll.map (·.1) = (List.range its.length).map txt := by
    have hlen : ll.length = its.length := by
      have h9 : (strValues ll).length = acc.toList.length := congrArg List.length hl
      have h8 : (strValues ll).length = ll.length := List.length_map ..
      rw [← h8, h9]; exact hacc.1
    refine List.ext_getElem (by rw [List.length_map, List.length_map, List.length_range, hlen]) fun j h1 h2 => ?_
    rw [List.length_map] at h1
    rw [List.getElem_map, List.getElem_map, List.getElem_range]
    have hj : acc[j]? = some (.str ll[j].1 ll[j].2) := by
      rw [← Array.getElem?_toList, ← hl]
      simp [strValues, List.getElem?_map, List.getElem?_eq_getElem h1]
    obtain ⟨u, e⟩ := hacc.2 j _ hj
    injection e
  rw [← hl]
  have hok' : tooLong ((ll.map (·.1)).toArray.foldl (· + ·.length + x.length) 0) = false := by
    rw [htx]; unfold JoinOk at hok; rw [Bool.not_eq_true'] at hok; exact hok
  have g : Gives (joinTail x (strValues ll)) (joinMade x ll) := by
    have g0 := gives_joinTail x ll hok'
    cases ll with
    | nil => exact g0
    | cons p r => cases r with
      | nil => exact g0
      | cons q r' => exact g0
  refine g prog w A (wants Q E) _ (post_join ll ⟨joinFit_length hok', fun t' k => ?_⟩)
  rw [htx]
  exact hQ h' k ns' t' F' N' hJ'
end
end Mine
end
section
namespace Mine
def dotsStr (n : Nat) : Str := ⟨Array.replicate n 46⟩
mutual
def El.show : El → Str
  | .nav x c f => match f with
    | some y => "'" ++ y ++ "'~" ++ x
    | none => if c then x else "~" ++ x
  | .par k => "parent(" ++ k ++ ")"
  | .dots n => dotsStr n
  | .br ws => "(" ++ ws.show ++ ")"
  | .st ws => "(" ++ ws.show ++ ")" ++ "*"
def Ways.show : Ways → Str
  | .one p => p.show
  | .two p q => p.show ++ "," ++ q.show
def Pth.show : Pth → Str
  | .one a => a.show
  | .two a b => a.show ++ (if a.isD then "" else ".") ++ b.show
  | .thr a b c => a.show ++ (if a.isD then "" else ".") ++ b.show ++ "." ++ c.show
def El.isD : El → Bool
  | .dots _ => true
  | _ => false
end
def PQ7 : Str := "RRELPath.__repr__.<locals>.<lambda>"
def PQ2 : Str := "RRELSequence.__repr__.<locals>.<lambda>"
def StrSpec (w : World) (dN uN : Nat) (v : Value) (txt : Str) (Pre : Led → Prop) : Prop :=
  ∀ (p : Program) (loose : List Str) (mean : ExcName → Option Value) (mg mb : Str → Option Value) (dp un : Nat) (gd : Option (List Code)) (cn : Str) (cs : Scope) (a : Addr) (ccd : Value) (cl : List (Str × Addr)) (outer : List Env)
    (A₀ : Around) (base h₀ : Heap) (L : Addr) (m : Str → Option Value) (ps1 ps2 : Array Value) (news nt : Led) (s : Shared) (Q E : Value → Shared → Prop),
    Below A₀ base outer h₀ → Fr h₀ L s.heap m → (hd.heap_39 w.params).In h₀ → TabsG h₀ → News h₀ L s.heap ((372, tabObj ps1) :: (272, tabObj ps2) :: news) → (∀ q ∈ news, q.1 ≠ 372 ∧ q.1 ≠ 272) → (∀ q ∈ nt, q ∈ news) → Tab nt PQ7 ps1.toList → Tab nt PQ2 ps2.toList →
    Top p loose mean mg mb h₀ → cs.kind = .function → dp + dN < recursionLimit → un + uN < cLine → Pre news →
    (∀ ps1' ps2' tl u h' tk', Fr h₀ L h' m → News h₀ L h' ((372, tabObj ps1') :: (272, tabObj ps2') :: (tl ++ news)) → Tab (tl ++ nt) PQ7 ps1'.toList → Tab (tl ++ nt) PQ2 ps2'.toList →
      (∀ q ∈ tl, Ap q.1 ((372, tabObj ps1') :: (272, tabObj ps2') :: news)) → Q (.str txt u) { s with heap := h', toks := tk' }) →
    wpAny (model PySem.Challenge.rw_wx0015_01.row.prog w) (ktrTop dp un gd cn cs L a ccd cl outer) (call (.type "str") [v]) Q E s
theorem StrSpec.use {w : World} {dN uN : Nat} {v : Value} {txt : Str} {Pre : Led → Prop} (C : StrSpec w dN uN v txt Pre)
    {p : Program} {loose : List Str} {mean : ExcName → Option Value} {mg mb : Str → Option Value} {dp un : Nat} {gd : Option (List Code)} {cn : Str} {cs : Scope} {a : Addr} {ccd : Value} {cl : List (Str × Addr)} {outer : List Env}
    {A₀ : Around} {base h₀ : Heap} {L : Addr} {m : Str → Option Value} {ps1 ps2 : Array Value} {news nt all : Led} {s : Shared} {Q E : Value → Shared → Prop}
    (B : Below A₀ base outer h₀) (F : Fr h₀ L s.heap m) (X : (hd.heap_39 w.params).In h₀) (TG : TabsG h₀) (N : News h₀ L s.heap all) (sub : ∀ q ∈ (372, tabObj ps1) :: (272, tabObj ps2) :: news, q ∈ all)
    (off : ∀ q ∈ news, q.1 ≠ 372 ∧ q.1 ≠ 272) (hnt : ∀ q ∈ nt, q ∈ news) (tab1 : Tab nt PQ7 ps1.toList) (tab2 : Tab nt PQ2 ps2.toList)
    (T : Top p loose mean mg mb h₀) (hk : cs.kind = .function) (hd : dp + dN < recursionLimit) (hu : un + uN < cLine) (pre : Pre news)
    (ret : ∀ ps1' ps2' tl u h' tk', Fr h₀ L h' m → News h₀ L h' ((372, tabObj ps1') :: (272, tabObj ps2') :: (tl ++ news)) → Tab (tl ++ nt) PQ7 ps1'.toList → Tab (tl ++ nt) PQ2 ps2'.toList →
      (∀ q ∈ tl, Ap q.1 ((372, tabObj ps1') :: (272, tabObj ps2') :: news)) → Q (.str txt u) { s with heap := h', toks := tk' }) :
    wpAny (model PySem.Challenge.rw_wx0015_01.row.prog w) (ktrTop dp un gd cn cs L a ccd cl outer) (call (.type "str") [v]) Q E s :=
  C _ _ _ _ _ _ _ _ _ _ _ _ _ _ _ _ _ _ _ _ _ _ _ _ _ _ B F X TG (fun q hq => N q (sub q hq)) off hnt tab1 tab2 T hk hd hu pre ret
end Mine
end
section
namespace Mine
theorem str_eq {Q : Value → Shared → Prop} {z z' : Str} {t : Tok} {s : Shared} (e : z = z') (h : Q (.str z' t) s) : Q (.str z t) s := e ▸ h
theorem show_dots (w : World) (k : Nat) (v : Value) (hok : (El.dots k).okd) : StrSpec w 10 100 v (El.dots k).show (fun news => (El.dots k).Made w news v) := by
  have hk : k = 1 ∨ k = 2 ∨ k = 3 := by
    rcases hok with h | h
    · obtain ⟨h1, h2⟩ := h; omega
    · exact absurd h id
  unfold StrSpec
  w_top off
  k_fill
  intro p loose mean mg mb dp un gd cn cs a ccd cl outer A₀ base h₀ L m ps1 ps2 news nt s Q E B F X TG N hoff hnt tab1 tab2 T hcs hd hu hpre hret
  have hcode := TG.t1
  obtain ⟨_, _, _, _, _⟩ := cs; dsimp only at hcs; subst hcs
  obtain ⟨a, d, t1, t2, n, rfl, h1, h2⟩ := hpre
  rcases hk with rfl | rfl | rfl
  all_goals
    k_steps
    rename_i kF kN Tc kX
    refine Mine.str_eq (Q := Q) ?_ (hret ps1 ps2 [] _ _ _ kF kN tab1 tab2 (fun _ h => nomatch h))
    decide
theorem show_par (w : World) (k : Str) (v : Value) (hok : (El.par k).okd) : StrSpec w 10 100 v (El.par k).show (fun news => (El.par k).Made w news v) := by
  have hk : k = "T" ∨ k = "Pack" := by
    rcases hok with h | h
    · exact absurd h id
    · simpa [El.ok, KINDS] using h
  unfold StrSpec
  k_fill
  intro p loose mean mg mb dp un gd cn cs a ccd cl outer A₀ base h₀ L m ps1 ps2 news nt s Q E B F X TG N hoff hnt tab1 tab2 T hcs hd hu hpre hret
  have hcode := TG.t1
  obtain ⟨_, _, _, _, _⟩ := cs; dsimp only at hcs; subst hcs
  obtain ⟨a, d, t1, t2, n, rfl, h1, h2⟩ := hpre
  rcases hk with rfl | rfl
  all_goals
    k_steps
    rename_i kF kN Tc kX
    refine Mine.str_eq (Q := Q) ?_ (hret ps1 ps2 [] _ _ _ kF kN tab1 tab2 (fun _ h => nomatch h))
    decide
theorem words_len : ∀ x ∈ WORDS, x.length ≤ 100 := by decide
theorem fixed_len : ∀ x ∈ FIXED, x.length ≤ 100 := by decide
theorem show_nav (w : World) (x : Str) (c : Bool) (f : Option Str) (v : Value) (hok : (El.nav x c f).okd) : StrSpec w 10 100 v (El.nav x c f).show (fun news => (El.nav x c f).Made w news v) := by
  have hw : x ∈ WORDS ∧ okFix c f := by
    rcases hok with h | h
    · exact absurd h id
    · exact h
  unfold StrSpec
  k_fill
  intro p loose mean mg mb dp un gd cn cs a ccd cl outer A₀ base h₀ L m ps1 ps2 news nt s Q E B F X TG N hoff hnt tab1 tab2 T hcs hd hu hpre hret
  have hcode := TG.t1
  obtain ⟨_, _, _, _, _⟩ := cs; dsimp only at hcs; subst hcs
  obtain ⟨a, d, t1, t2, t3, t4, t5, n, fv, ev, rfl, h1, h2, h3⟩ := hpre
  have hx : x.length ≤ 100 := words_len x hw.1
  cases f with
  | none =>
    obtain rfl := h3
    cases c with
    | true =>
      k_steps
      rename_i kF kN Tc kX
      exact hret ps1 ps2 [] _ _ _ kF kN tab1 tab2 (fun _ h => nomatch h)
    | false =>
      k_steps
      rename_i kF kN Tc kX
      exact hret ps1 ps2 [] _ _ _ kF kN tab1 tab2 (fun _ h => nomatch h)
  | some y =>
    obtain ⟨ty, rfl⟩ := h3
    have hy : y.length ≤ 100 := fixed_len y hw.2.2
    obtain rfl := hw.2.1
    k_steps
    rename_i kF kN Tc kX
    exact hret ps1 ps2 [] _ _ _ kF kN tab1 tab2 (fun _ h => nomatch h)
end Mine
end
end
section
local macro_rules | `(tactic| k_all) => `(tactic| assumption)
local macro_rules | `(tactic| k_mem) => `(tactic| first
  | with_reducible assumption
  | exact List.Mem.head _
  | ((with_reducible refine List.mem_cons_of_mem _ ?_); k_mem)
  | ((with_reducible refine List.mem_append.mpr (Or.inr ?_)); k_mem)
  | ((with_reducible refine List.mem_append.mpr (Or.inl ?_)); k_mem))
local macro_rules | `(tactic| k_room) => `(tactic| ((try simp only [depth_under_make, depth_under_kw, depth_in1, depth_deeper, depth_caller]); (try dsimp only); omega))
local macro_rules | `(tactic| k_units) => `(tactic| ((try simp only [units_under_make, units_in1, units_deeper, Around.mark_units, units_caller]); (try dsimp only); omega))
local macro_rules | `(tactic| walk_at "subscriptTail") => `(tactic| (k_here; (with_reducible show wpAny _ _ (subscriptTail _ _ (Value.ref _) (Value.int _ _)) _ _ _); k_dflt ((show wpAny _ _ (subscriptTail _ _ (Value.ref 433) (Value.int _ _)) _ _ _); refine' Mine.menu_K Mine.IsWord ?F ?X ?l ?a ?b ?f ?c ?_ ?hs; (case hs => with_unfolding_all rfl); (case F => k_asm); (case X => k_asm); (case l => k_is); (case a => omega); (case b => exact Int.lt_of_lt_of_le (by assumption) (by decide)); (case f => decide); (case c => exact List.forall_mem_cons.mpr ⟨⟨_, _, rfl, by decide⟩, List.forall_mem_cons.mpr ⟨⟨_, _, rfl, by decide⟩, List.forall_mem_cons.mpr ⟨⟨_, _, rfl, by decide⟩, List.forall_mem_cons.mpr ⟨⟨_, _, rfl, by decide⟩, List.forall_mem_nil _⟩⟩⟩⟩); rintro _ ⟨wd', wt', hx', hw'⟩; subst hx')))
local macro_rules | `(tactic| walk_at "subscriptTail") => `(tactic| (k_here; (with_reducible show wpAny _ _ (subscriptTail _ _ (Value.ref _) (Value.int _ _)) _ _ _); k_dflt ((show wpAny _ _ (subscriptTail _ _ (Value.ref 434) (Value.int _ _)) _ _ _); refine' Mine.menu_K Mine.IsFixed ?F ?X ?l ?a ?b ?f ?c ?_ ?hs; (case hs => with_unfolding_all rfl); (case F => k_asm); (case X => k_asm); (case l => k_is); (case a => omega); (case b => exact Int.lt_of_lt_of_le (by assumption) (by decide)); (case f => decide); (case c => exact List.forall_mem_cons.mpr ⟨⟨_, _, rfl, by decide⟩, List.forall_mem_cons.mpr ⟨⟨_, _, rfl, by decide⟩, List.forall_mem_cons.mpr ⟨⟨_, _, rfl, by decide⟩, List.forall_mem_cons.mpr ⟨⟨_, _, rfl, by decide⟩, List.forall_mem_nil _⟩⟩⟩⟩); rintro _ ⟨wd', wt', hx', hw'⟩; subst hx')))
local macro_rules | `(tactic| walk_at "subscriptTail") => `(tactic| (k_here; (with_reducible show wpAny _ _ (subscriptTail _ _ (Value.ref _) (Value.int _ _)) _ _ _); k_dflt ((show wpAny _ _ (subscriptTail _ _ (Value.ref 435) (Value.int _ _)) _ _ _); refine' Mine.menu_K Mine.IsKind ?F ?X ?l ?a ?b ?f ?c ?_ ?hs; (case hs => with_unfolding_all rfl); (case F => k_asm); (case X => k_asm); (case l => k_is); (case a => omega); (case b => exact Int.lt_of_lt_of_le (by assumption) (by decide)); (case f => decide); (case c => exact List.forall_mem_cons.mpr ⟨⟨_, _, rfl, by decide⟩, List.forall_mem_cons.mpr ⟨⟨_, _, rfl, by decide⟩, List.forall_mem_nil _⟩⟩); rintro _ ⟨wd', wt', hx', hw'⟩; subst hx')))
local macro_rules | `(tactic| walk_at "enter") => `(tactic| ((case kA => exact rfl); (case kF => exact rfl); (case kK => first | exact rfl | assumption); (case k6 => k_is); (case k7 => k_is); (case k8 => k_room); (case k9 => exact BindsTo.of_eq rfl); (case c5 => decide); (case kB => exact locs rfl); (case c2 => exact rfl); (case c3 => exact rfl); (case c4 => exact rfl); k_whole))
local macro_rules | `(tactic| walk_at "begin") => `(tactic| ((try dsimp only); (try k_unmd); (try k_fold)))
local macro_rules | `(tactic| walk_at "enterC") => `(tactic| ((case kA => exact rfl); (case kF => exact rfl); (case kK => first | exact rfl | assumption); (case k6 => k_is); (case k7 => k_is); (case k8 => k_room); (case k9 => exact BindsTo.of_eq rfl); (case kB => exact rfl); (case kD => decide +kernel); (case c2 => exact rfl); (case c3 => exact rfl); (case c4 => exact rfl); k_whole))
local macro_rules | `(tactic| walk_at "ite") => `(tactic| first | (exfalso; omega) | (with_reducible refine Mine.if_pos' (by first | omega | decide | (simp only [beq_iff_eq, bne_iff_ne, ne_eq, decide_eq_true_eq, not_true_eq_false, not_false_eq_true]; done) | (simp only [beq_iff_eq, bne_iff_ne, ne_eq, decide_eq_true_eq]; omega)) ?_) | (with_reducible refine Mine.if_neg' (by first | omega | decide | (simp only [beq_iff_eq, bne_iff_ne, ne_eq, decide_eq_true_eq, not_true_eq_false, not_false_eq_true]; done) | (simp only [beq_iff_eq, bne_iff_ne, ne_eq, decide_eq_true_eq]; omega)) ?_) | ((with_reducible refine Mine.if_both ?_ ?_) <;> (intro hc'; (try simp only [beq_iff_eq, bne_iff_ne, ne_eq, decide_eq_true_eq, Bool.not_eq_true, beq_eq_false_iff_ne, bne_eq_false_iff_eq, decide_eq_false_iff_not, Decidable.not_not] at hc'))))
local macro_rules | `(tactic| walk_at "wpAt") => `(tactic| (ks_step "exec Expr"; k_dflt (refine ks_wpAt_Expr_any ?_)))
local macro_rules | `(tactic| walk_at "wpAt") => `(tactic| (ks_step "eval Call"; k_dflt (refine ks_wpAt_MethodCall ?_)))
local macro_rules | `(tactic| walk_at "callWith ref") => `(tactic| (k_here; k_dflt (first
  | ((with_reducible refine' callWith_K0 ?k1 ?k2 ?_); (case k1 => exact Frag.In.keeps (by with_reducible assumption) (Fr.keep (by with_reducible assumption))); (case k2 => k_is); k_whole)
  | ((with_reducible refine' callWith_K ?k1 ?k2 ?_ ?k3 ?k4); (case k3 => exact rfl); (case k4 => exact rfl); (case k1 => with_reducible assumption); (case k2 => k_is); k_whole))))
local macro_rules | `(tactic| walk_at "eval Name") => `(tactic| (k_here; k_dflt (first
  | ((with_reducible refine' Mine.nameO_L ?F ?v ?_ ?a ?b ?d); (case b => rfl); (case F => k_asm); (case a => rfl); (case d => decide); (case v => rfl); k_whole)
  | ((with_reducible refine' Mine.nameO_K ?F ?X ?T ?e ?_ ?a ?b ?d); (case b => rfl); (case F => k_asm); (case X => k_asm); (case T => k_asm); (case a => rfl); (case d => decide); (case e => k_is); k_whole)
  | ((with_reducible refine' Mine.nameO_B ?F ?X ?T ?e ?v ?n ?_ ?a ?b ?d); (case b => rfl); (case F => k_asm); (case X => k_asm); (case T => k_asm); (case a => rfl); (case d => decide); (case e => k_is); (case v => boot_fast); (case n => decide); k_whole)
  | ((with_reducible refine' nameX_L ?F ?v ?_ ?a ?b); (case b => rfl); (case F => k_asm); (case a => rfl); (case v => rfl); k_whole)
  | ((with_reducible refine' nameX_K ?F ?X ?T ?e ?_ ?a ?b); (case b => rfl); (case F => k_asm); (case X => k_asm); (case T => k_asm); (case a => rfl); (case e => k_is); k_whole)
  | ((with_reducible refine' nameX_B ?F ?X ?T ?e ?v ?n ?_ ?a ?b); (case b => rfl); (case F => k_asm); (case X => k_asm); (case T => k_asm); (case a => rfl); (case e => k_is); (case v => boot_fast); (case n => decide); k_whole))))
local macro_rules | `(tactic| walk_at "ap") => `(tactic| first
  | exact List.forall_mem_nil _
  | assumption
  | exact Mine.allLt_ne (by tbn_find)
  | exact Mine.ap_lt (by assumption)
  | exact Mine.ap_lt2 (by assumption) (by assumption)
  | exact Mine.ap_lt2 (by assumption) (Mine.allLt_mem (by tbn_find))
  | exact Mine.ap_memLt (by assumption) (by intro q9 h9; k_mem)
  | exact Mine.off1_mem (by first | assumption | exact And.left (by assumption) | exact And.right (by assumption))
  | ((refine List.forall_mem_cons.mpr ⟨?_, ?_⟩); (focus (try dsimp only); first | assumption | k_ne | exact Ne.symm (by assumption) | exact Mine.ne_lt2 (by assumption) (by tbn_find) | exact Ne.symm (Mine.ne_memLt (by assumption) (by k_mem))); walk_at "ap")
  | ((refine List.forall_mem_append.mpr ⟨?_, ?_⟩) <;> walk_at "ap")
  | fail "ap: no order")
local macro_rules | `(tactic| walk_at "ord") => `(tactic| first
  | exact List.forall_mem_nil _
  | assumption
  | ((refine List.forall_mem_cons.mpr ⟨?_, ?_⟩); (focus walk_at "ap"); walk_at "ord")
  | exact Mine.aps (by assumption) (by intro q9 h9; k_mem)
  | exact Mine.aps2 (by assumption) (by k_mem) (by intro q9 h9; k_mem)
  | ((refine List.forall_mem_append.mpr ⟨?_, ?_⟩) <;> walk_at "ord")
  | fail "ord")
local macro_rules | `(tactic| walk_at "sub") => `(tactic| (intro q9 h9; simp only [List.mem_append, List.mem_cons, List.not_mem_nil, or_false, false_or, List.nil_append, List.cons_append] at h9 ⊢; first | exact h9 | grind))
local macro_rules | `(tactic| walk_at "eval ListComp") => `(tactic| (k_here; k_dflt (refine LCg.ListComp_U (F₀ := by k_asm) (by with_unfolding_all rfl) (by decide) (by rfl) (by decide) (by rfl) ?_)))
local macro_rules | `(tactic| walk_at "CompSrc") => `(tactic| (k_here; k_dflt (first
  | (refine LCg.CompSrc.ledger (by rfl) (by k_asm) (by k_asm) (by k_mem) (by first | size_fits | exact Nat.le_of_ble_eq_true rfl) ?_; intro g'; lcg_lit)
  | (refine LCg.CompSrc.range (by rfl) (by k_asm) (by k_asm) (by assumption) (by first | decide | rfl) (by first | rfl | decide) (by first | size_fits | exact Nat.le_of_ble_eq_true rfl) ?_; intro g'; lcg_lit))))
local macro_rules | `(tactic| walk_at "compareOp Eq ref ref") => `(tactic| (k_here; k_dflt ((first | (with_reducible refine' Mine.up_eq ?N ?he ?ok ?dp ?m1 ?m2 ?m3 ?m4 ?hu ?_) | (refine' Mine.up_eq ?N ?he ?ok ?dp ?m1 ?m2 ?m3 ?m4 ?hu ?_)); (case N => k_asm); (case he => (refine Mine.El.In.mono ?hs9 _ _ (by assumption); (case hs9 => (intro q9 h9; k_mem)))); (case ok => first | assumption | exact Or.inr (by assumption)); (case dp => omega); (case m1 => k_mem); (case m2 => k_mem); (case m3 => k_mem); (case m4 => k_mem); (case hu => k_units); k_whole)))
local macro_rules | `(tactic| walk_at "call ref") => `(tactic| (k_here; (show wpAny _ _ (call (Value.ref 466) _) _ _ _); k_dflt (first | (refine' Mine.new_turn ((by assumption : Mine.MadeSpec _ _) _ _ ?ok ?dp) ?B ?F ?X ?TG ?N ?sub ?T ?hk ?hd ?hu ?pre ?off ?hS ?_; (case B => k_asm); (case F => k_asm); (case X => k_asm); (case TG => k_asm); (case N => k_asm); (case sub => (intro q9 h9; k_mem)); (case T => k_asm); (case hk => first | exact rfl | assumption); (case pre => (refine Mine.El.In.mono ?hs9 _ _ (by assumption); (case hs9 => (intro q9 h9; k_mem)))); (case ok => first | assumption | exact Or.inr (by assumption)); (case dp => omega); (case hd => (unfold Mine.dM; k_room)); (case hu => (unfold Mine.uM; k_units)); (case off => first | assumption | (simp only [LCg.Off3, and_true]; assumption)); (case hS => exact fun _ => trivial); k_whole; (intro r' tl' ht' hoff' hp'); (try dsimp only)) | (refine Mine.hold ?_))))
local macro_rules | `(tactic| walk_at "subscriptTail") => `(tactic| (k_here; (with_reducible show wpAny _ _ (subscriptTail _ _ (Value.ref _) (Value.int _ _)) _ _ _); k_dflt (first | ((first | (with_reducible refine' Mine.item_led0 ?l ?_ ?hs) | (refine' Mine.item_led0 ?l ?_ ?hs)); (case l => exact News.isList (by k_asm) (by k_mem)); (case hs => with_unfolding_all rfl); k_whole) | ((first | (with_reducible refine' Mine.item_led1 ?l ?_ ?hs) | (refine' Mine.item_led1 ?l ?_ ?hs)); (case l => exact News.isList (by k_asm) (by k_mem)); (case hs => with_unfolding_all rfl); k_whole) | ((first | (with_reducible refine' Mine.item_led2 ?l ?_ ?hs) | (refine' Mine.item_led2 ?l ?_ ?hs)); (case l => exact News.isList (by k_asm) (by k_mem)); (case hs => with_unfolding_all rfl); k_whole))))
local macro_rules | `(tactic| walk_at "subscriptTail") => `(tactic| ((with_reducible show wpAny _ _ (subscriptTail _ _ _ (Value.int (0 + (Nat.cast _ : Int)) _)) _ _ _); k_dflt (first | refine Mine.sub_int (j := 0) (by decide) ?_ | refine Mine.sub_int (j := 1) (by decide) ?_ | refine Mine.sub_int (j := 2) (by decide) ?_)))
local macro_rules | `(tactic| walk_at "CompEnd") => `(tactic| (k_here; k_dflt (refine' Mine.compEnd_cut ?F ?N ?sub ?off ?hS ?_; (case F => k_asm); (case N => k_asm); (case sub => (intro q9 h9; k_mem)); (case off => first | assumption | (simp only [LCg.Off3, and_true]; assumption)); (case hS => trivial); k_whole)))
local macro_rules | `(tactic| walk_at "neq") => `(tactic| ((try dsimp only); first | assumption | k_ne | exact Mine.ne_allLt (by first | assumption | exact And.left (by assumption) | exact (And.right (by assumption)) | tbn_find) (by k_mem) | exact Mine.ne_memLt (by assumption) (by k_mem)))
local macro_rules | `(tactic| walk_at "tabs") => `(tactic| first | assumption | (refine Mine.TabsG.keeps ?_ (Fr.keep (by assumption)); walk_at "tabs"))
local macro_rules | `(tactic| walk_at "call ref") => `(tactic| (k_here; (show wpAny _ _ (call (Value.ref 302) _) _ _ _); k_dflt ((first | (with_reducible refine' Mine.Calls.use0 (Mine.mkSeq _ _) ?B ?F ?X ?TG ?N ?T ?hk ?hd ?hu ?pre ?_) | (refine' Mine.Calls.use0 (Mine.mkSeq _ _) ?B ?F ?X ?TG ?N ?T ?hk ?hd ?hu ?pre ?_)); (case B => k_asm); (case F => k_asm); (case X => k_asm); (case TG => walk_at "tabs"); (case N => k_asm); (case T => k_asm); (case hk => first | exact rfl | assumption); (case hd => k_room); (case hu => k_units); (case pre => exact True.intro); k_whole; (rintro _ tl' h' tk' F' N' ht' ⟨a', d', t', n', hr', m1', m2'⟩); subst hr'; (try dsimp only))))
local macro_rules | `(tactic| walk_at "call ref") => `(tactic| (k_here; (show wpAny _ _ (call (Value.ref 402) _) _ _ _); k_dflt ((first | (with_reducible refine' Mine.Calls.use0 (Mine.mkPath _ _ _ _ _) ?B ?F ?X ?TG ?N ?T ?hk ?hd ?hu ?pre ?_) | (refine' Mine.Calls.use0 (Mine.mkPath _ _ _ _ _) ?B ?F ?X ?TG ?N ?T ?hk ?hd ?hu ?pre ?_)); (case B => k_asm); (case F => k_asm); (case X => k_asm); (case TG => walk_at "tabs"); (case N => k_asm); (case T => k_asm); (case hk => first | exact rfl | assumption); (case hd => k_room); (case hu => k_units); (case pre => exact ⟨by k_mem, by first | assumption | exact ⟨_, _, _, _, _, rfl, by k_mem, by k_mem, by first | assumption | exact Mine.elCls_dots _ | exact Mine.elCls_nav _ | exact Mine.elCls_par _⟩⟩); k_whole; (rintro _ tl' h' tk' F' N' ht' ⟨a', d', t', n', hr', m1', m2'⟩); subst hr'; (try dsimp only))))
local macro_rules | `(tactic| walk_at "call ref") => `(tactic| (k_here; (show wpAny _ _ (call (Value.ref 203) _) _ _ _); k_dflt ((first | (with_reducible refine' Mine.Calls.use0 (Mine.mkBr _ _ _ _ _) ?B ?F ?X ?TG ?N ?T ?hk ?hd ?hu ?pre ?_) | (refine' Mine.Calls.use0 (Mine.mkBr _ _ _ _ _) ?B ?F ?X ?TG ?N ?T ?hk ?hd ?hu ?pre ?_)); (case B => k_asm); (case F => k_asm); (case X => k_asm); (case TG => walk_at "tabs"); (case N => k_asm); (case T => k_asm); (case hk => first | exact rfl | assumption); (case hd => k_room); (case hu => k_units); (case pre => exact ⟨by k_mem, by k_mem⟩); k_whole; (rintro _ tl' h' tk' F' N' ht' ⟨a', d', t', n', hr', m1', m2'⟩); subst hr'; (try dsimp only))))
local macro_rules | `(tactic| walk_at "call ref") => `(tactic| (k_here; (show wpAny _ _ (call (Value.ref 352) _) _ _ _); k_dflt ((first | (with_reducible refine' Mine.Calls.use0 (Mine.mkSt _ _ _ _ _) ?B ?F ?X ?TG ?N ?T ?hk ?hd ?hu ?pre ?_) | (refine' Mine.Calls.use0 (Mine.mkSt _ _ _ _ _) ?B ?F ?X ?TG ?N ?T ?hk ?hd ?hu ?pre ?_)); (case B => k_asm); (case F => k_asm); (case X => k_asm); (case TG => walk_at "tabs"); (case N => k_asm); (case T => k_asm); (case hk => first | exact rfl | assumption); (case hd => k_room); (case hu => k_units); (case pre => exact ⟨by k_mem, by k_mem⟩); k_whole; (rintro _ tl' h' tk' F' N' ht' ⟨a', d', t', n', hr', m1', m2'⟩); subst hr'; (try dsimp only))))
local macro_rules | `(tactic| walk_at "offl") => `(tactic| first
  | exact List.forall_mem_nil _
  | assumption
  | exact Mine.offl_of (by assumption) (by k_mem)
  | exact Mine.ap_lt (by assumption)
  | exact Mine.allLt_ne (by tbn_find)
  | ((refine List.forall_mem_cons.mpr ⟨?_, ?_⟩); (focus walk_at "neq"); walk_at "offl")
  | ((refine List.forall_mem_append.mpr ⟨?_, ?_⟩) <;> walk_at "offl"))
local macro_rules | `(tactic| walk_at "front") => `(tactic| (repeat first | with_reducible exact Mine.Front.nil | with_reducible apply Mine.Front.cons | with_reducible apply Mine.Front.app))
local macro_rules | `(tactic| walk_at "del") => `(tactic| (repeat first | with_reducible exact Mine.Del.head | with_reducible apply Mine.Del.cons | with_reducible apply Mine.Del.app))
local macro_rules | `(tactic| walk_at "upd") => `(tactic| first
  | (with_reducible apply Upd.head; walk_at "offl")
  | ((with_reducible apply Upd.tail); (focus walk_at "neq"); walk_at "upd")
  | ((with_reducible apply Mine.upd_app); (focus walk_at "offl"); walk_at "upd"))
local macro_rules | `(tactic| k_upd) => `(tactic| walk_at "upd")
local macro_rules | `(tactic| walk_at "call type:str") => `(tactic| (k_here; (with_reducible show wpAny _ _ (call (Value.type "str") [_]) _ _ _); k_dflt (refine' Mine.StrSpec.use (by assumption) ?B ?F ?X ?TG ?N ?sub ?off ?hnt ?tab1 ?tab2 ?T ?hk ?hd ?hu ?pre ?_; (case B => k_asm); (case F => k_asm); (case X => k_asm); (case TG => walk_at "tabs"); (case N => k_asm); (case sub => exact fun _ h => h); (case off => assumption); (case hnt => assumption); (case tab1 => assumption); (case tab2 => assumption); (case T => k_asm); (case hk => first | exact rfl | assumption); (case hd => k_room); (case hu => k_units); (case pre => assumption); k_whole); intro ps1' ps2' tl' u' h' tk' F' N' tab1' tab2' ap'; (try dsimp only)))
section
namespace Mine
theorem show_br (w : World) (d0 u0 : Nat) (hd0 : d0 ≤ 900) (hu0 : u0 ≤ 9000) (ws : Ways) (H : ∀ q, StrSpec w d0 u0 (.ref q) ws.show (fun news => ws.Made w news q)) (hl : ws.show.length ≤ 1000000) (v : Value) :
    StrSpec w (d0 + 5) (u0 + 50) v (El.br ws).show (fun news => (El.br ws).Made w news v) := by
  unfold StrSpec
  w_top off
  k_fill
  intro p loose mean mg mb dp un gd cn cs a ccd cl outer A₀ base h₀ L m ps1 ps2 news nt s Q E B F X TG N hoff hnt tab1 tab2 T hcs hd hu hpre hret
  have hcode := TG.t1
  obtain ⟨_, _, _, _, _⟩ := cs; dsimp only at hcs; subst hcs
  obtain ⟨a, d, t1, n, sq, rfl, h1, h2, h3⟩ := hpre
  replace H := H sq
  k_steps
  rename_i kF kN Tc kX
  exact hret _ _ _ _ _ _ kF kN (by assumption) (by assumption) (by assumption)
theorem show_st (w : World) (d0 u0 : Nat) (hd0 : d0 ≤ 900) (hu0 : u0 ≤ 9000) (ws : Ways) (H : ∀ v, StrSpec w d0 u0 v (El.br ws).show (fun news => (El.br ws).Made w news v)) (hl : (El.br ws).show.length ≤ 1000000) (v : Value) :
    StrSpec w (d0 + 5) (u0 + 50) v (El.st ws).show (fun news => (El.st ws).Made w news v) := by
  unfold StrSpec
  k_fill
  intro p loose mean mg mb dp un gd cn cs a ccd cl outer A₀ base h₀ L m ps1 ps2 news nt s Q E B F X TG N hoff hnt tab1 tab2 T hcs hd hu hpre hret
  have hcode := TG.t1
  obtain ⟨_, _, _, _, _⟩ := cs; dsimp only at hcs; subst hcs
  obtain ⟨a, d, t1, n, b, d2, t2, n2, sq, rfl, h1, h2, h3, h4, h5⟩ := hpre
  have hb : (El.br ws).Made w news (.ref b) := ⟨b, d2, t2, n2, sq, rfl, h3, h4, h5⟩
  replace H := H (.ref b)
  k_steps
  rename_i kF kN Tc kX
  exact hret _ _ _ _ _ _ kF kN (by assumption) (by assumption) (by assumption)
end Mine
end
end
section
local macro_rules | `(tactic| k_all) => `(tactic| assumption)
local macro_rules | `(tactic| k_mem) => `(tactic| first
  | with_reducible assumption
  | exact List.Mem.head _
  | ((with_reducible refine List.mem_cons_of_mem _ ?_); k_mem)
  | ((with_reducible refine List.mem_append.mpr (Or.inr ?_)); k_mem)
  | ((with_reducible refine List.mem_append.mpr (Or.inl ?_)); k_mem))
local macro_rules | `(tactic| k_room) => `(tactic| ((try simp only [depth_under_make, depth_under_kw, depth_in1, depth_deeper, depth_caller]); (try dsimp only); omega))
local macro_rules | `(tactic| k_units) => `(tactic| ((try simp only [units_under_make, units_in1, units_deeper, Around.mark_units, units_caller]); (try dsimp only); omega))
local macro_rules | `(tactic| walk_at "subscriptTail") => `(tactic| (k_here; (with_reducible show wpAny _ _ (subscriptTail _ _ (Value.ref _) (Value.int _ _)) _ _ _); k_dflt ((show wpAny _ _ (subscriptTail _ _ (Value.ref 433) (Value.int _ _)) _ _ _); refine' Mine.menu_K Mine.IsWord ?F ?X ?l ?a ?b ?f ?c ?_ ?hs; (case hs => with_unfolding_all rfl); (case F => k_asm); (case X => k_asm); (case l => k_is); (case a => omega); (case b => exact Int.lt_of_lt_of_le (by assumption) (by decide)); (case f => decide); (case c => exact List.forall_mem_cons.mpr ⟨⟨_, _, rfl, by decide⟩, List.forall_mem_cons.mpr ⟨⟨_, _, rfl, by decide⟩, List.forall_mem_cons.mpr ⟨⟨_, _, rfl, by decide⟩, List.forall_mem_cons.mpr ⟨⟨_, _, rfl, by decide⟩, List.forall_mem_nil _⟩⟩⟩⟩); rintro _ ⟨wd', wt', hx', hw'⟩; subst hx')))
local macro_rules | `(tactic| walk_at "subscriptTail") => `(tactic| (k_here; (with_reducible show wpAny _ _ (subscriptTail _ _ (Value.ref _) (Value.int _ _)) _ _ _); k_dflt ((show wpAny _ _ (subscriptTail _ _ (Value.ref 434) (Value.int _ _)) _ _ _); refine' Mine.menu_K Mine.IsFixed ?F ?X ?l ?a ?b ?f ?c ?_ ?hs; (case hs => with_unfolding_all rfl); (case F => k_asm); (case X => k_asm); (case l => k_is); (case a => omega); (case b => exact Int.lt_of_lt_of_le (by assumption) (by decide)); (case f => decide); (case c => exact List.forall_mem_cons.mpr ⟨⟨_, _, rfl, by decide⟩, List.forall_mem_cons.mpr ⟨⟨_, _, rfl, by decide⟩, List.forall_mem_cons.mpr ⟨⟨_, _, rfl, by decide⟩, List.forall_mem_cons.mpr ⟨⟨_, _, rfl, by decide⟩, List.forall_mem_nil _⟩⟩⟩⟩); rintro _ ⟨wd', wt', hx', hw'⟩; subst hx')))
local macro_rules | `(tactic| walk_at "subscriptTail") => `(tactic| (k_here; (with_reducible show wpAny _ _ (subscriptTail _ _ (Value.ref _) (Value.int _ _)) _ _ _); k_dflt ((show wpAny _ _ (subscriptTail _ _ (Value.ref 435) (Value.int _ _)) _ _ _); refine' Mine.menu_K Mine.IsKind ?F ?X ?l ?a ?b ?f ?c ?_ ?hs; (case hs => with_unfolding_all rfl); (case F => k_asm); (case X => k_asm); (case l => k_is); (case a => omega); (case b => exact Int.lt_of_lt_of_le (by assumption) (by decide)); (case f => decide); (case c => exact List.forall_mem_cons.mpr ⟨⟨_, _, rfl, by decide⟩, List.forall_mem_cons.mpr ⟨⟨_, _, rfl, by decide⟩, List.forall_mem_nil _⟩⟩); rintro _ ⟨wd', wt', hx', hw'⟩; subst hx')))
local macro_rules | `(tactic| walk_at "enter") => `(tactic| ((case kA => exact rfl); (case kF => exact rfl); (case kK => first | exact rfl | assumption); (case k6 => k_is); (case k7 => k_is); (case k8 => k_room); (case k9 => exact BindsTo.of_eq rfl); (case c5 => decide); (case kB => exact locs rfl); (case c2 => exact rfl); (case c3 => exact rfl); (case c4 => exact rfl); k_whole))
local macro_rules | `(tactic| walk_at "begin") => `(tactic| ((try dsimp only); (try k_unmd); (try k_fold)))
local macro_rules | `(tactic| walk_at "enterC") => `(tactic| ((case kA => exact rfl); (case kF => exact rfl); (case kK => first | exact rfl | assumption); (case k6 => k_is); (case k7 => k_is); (case k8 => k_room); (case k9 => exact BindsTo.of_eq rfl); (case kB => exact rfl); (case kD => decide +kernel); (case c2 => exact rfl); (case c3 => exact rfl); (case c4 => exact rfl); k_whole))
local macro_rules | `(tactic| walk_at "ite") => `(tactic| first | (exfalso; omega) | (with_reducible refine Mine.if_pos' (by first | omega | decide | (simp only [beq_iff_eq, bne_iff_ne, ne_eq, decide_eq_true_eq, not_true_eq_false, not_false_eq_true]; done) | (simp only [beq_iff_eq, bne_iff_ne, ne_eq, decide_eq_true_eq]; omega)) ?_) | (with_reducible refine Mine.if_neg' (by first | omega | decide | (simp only [beq_iff_eq, bne_iff_ne, ne_eq, decide_eq_true_eq, not_true_eq_false, not_false_eq_true]; done) | (simp only [beq_iff_eq, bne_iff_ne, ne_eq, decide_eq_true_eq]; omega)) ?_) | ((with_reducible refine Mine.if_both ?_ ?_) <;> (intro hc'; (try simp only [beq_iff_eq, bne_iff_ne, ne_eq, decide_eq_true_eq, Bool.not_eq_true, beq_eq_false_iff_ne, bne_eq_false_iff_eq, decide_eq_false_iff_not, Decidable.not_not] at hc'))))
local macro_rules | `(tactic| walk_at "wpAt") => `(tactic| (ks_step "exec Expr"; k_dflt (refine ks_wpAt_Expr_any ?_)))
local macro_rules | `(tactic| walk_at "wpAt") => `(tactic| (ks_step "eval Call"; k_dflt (refine ks_wpAt_MethodCall ?_)))
local macro_rules | `(tactic| walk_at "callWith ref") => `(tactic| (k_here; k_dflt (first
  | ((with_reducible refine' callWith_K0 ?k1 ?k2 ?_); (case k1 => exact Frag.In.keeps (by with_reducible assumption) (Fr.keep (by with_reducible assumption))); (case k2 => k_is); k_whole)
  | ((with_reducible refine' callWith_K ?k1 ?k2 ?_ ?k3 ?k4); (case k3 => exact rfl); (case k4 => exact rfl); (case k1 => with_reducible assumption); (case k2 => k_is); k_whole))))
local macro_rules | `(tactic| walk_at "eval Name") => `(tactic| (k_here; k_dflt (first
  | ((with_reducible refine' Mine.nameO_L ?F ?v ?_ ?a ?b ?d); (case b => rfl); (case F => k_asm); (case a => rfl); (case d => decide); (case v => rfl); k_whole)
  | ((with_reducible refine' Mine.nameO_K ?F ?X ?T ?e ?_ ?a ?b ?d); (case b => rfl); (case F => k_asm); (case X => k_asm); (case T => k_asm); (case a => rfl); (case d => decide); (case e => k_is); k_whole)
  | ((with_reducible refine' Mine.nameO_B ?F ?X ?T ?e ?v ?n ?_ ?a ?b ?d); (case b => rfl); (case F => k_asm); (case X => k_asm); (case T => k_asm); (case a => rfl); (case d => decide); (case e => k_is); (case v => boot_fast); (case n => decide); k_whole)
  | ((with_reducible refine' nameX_L ?F ?v ?_ ?a ?b); (case b => rfl); (case F => k_asm); (case a => rfl); (case v => rfl); k_whole)
  | ((with_reducible refine' nameX_K ?F ?X ?T ?e ?_ ?a ?b); (case b => rfl); (case F => k_asm); (case X => k_asm); (case T => k_asm); (case a => rfl); (case e => k_is); k_whole)
  | ((with_reducible refine' nameX_B ?F ?X ?T ?e ?v ?n ?_ ?a ?b); (case b => rfl); (case F => k_asm); (case X => k_asm); (case T => k_asm); (case a => rfl); (case e => k_is); (case v => boot_fast); (case n => decide); k_whole))))
local macro_rules | `(tactic| walk_at "ap") => `(tactic| first
  | exact List.forall_mem_nil _
  | assumption
  | exact Mine.allLt_ne (by tbn_find)
  | exact Mine.ap_lt (by assumption)
  | exact Mine.ap_lt2 (by assumption) (by assumption)
  | exact Mine.ap_lt2 (by assumption) (Mine.allLt_mem (by tbn_find))
  | exact Mine.ap_memLt (by assumption) (by intro q9 h9; k_mem)
  | exact Mine.off1_mem (by first | assumption | exact And.left (by assumption) | exact And.right (by assumption))
  | ((refine List.forall_mem_cons.mpr ⟨?_, ?_⟩); (focus (try dsimp only); first | assumption | k_ne | exact Ne.symm (by assumption) | exact Mine.ne_lt2 (by assumption) (by tbn_find) | exact Ne.symm (Mine.ne_memLt (by assumption) (by k_mem))); walk_at "ap")
  | ((refine List.forall_mem_append.mpr ⟨?_, ?_⟩) <;> walk_at "ap")
  | fail "ap: no order")
local macro_rules | `(tactic| walk_at "ord") => `(tactic| first
  | exact List.forall_mem_nil _
  | assumption
  | ((refine List.forall_mem_cons.mpr ⟨?_, ?_⟩); (focus walk_at "ap"); walk_at "ord")
  | exact Mine.aps (by assumption) (by intro q9 h9; k_mem)
  | exact Mine.aps2 (by assumption) (by k_mem) (by intro q9 h9; k_mem)
  | ((refine List.forall_mem_append.mpr ⟨?_, ?_⟩) <;> walk_at "ord")
  | fail "ord")
local macro_rules | `(tactic| walk_at "sub") => `(tactic| (intro q9 h9; simp only [List.mem_append, List.mem_cons, List.not_mem_nil, or_false, false_or, List.nil_append, List.cons_append] at h9 ⊢; first | exact h9 | grind))
local macro_rules | `(tactic| walk_at "eval ListComp") => `(tactic| (k_here; k_dflt (refine LCg.ListComp_U (F₀ := by k_asm) (by with_unfolding_all rfl) (by decide) (by rfl) (by decide) (by rfl) ?_)))
local macro_rules | `(tactic| walk_at "CompSrc") => `(tactic| (k_here; k_dflt (first
  | (refine LCg.CompSrc.ledger (by rfl) (by k_asm) (by k_asm) (by k_mem) (by first | size_fits | exact Nat.le_of_ble_eq_true rfl) ?_; intro g'; lcg_lit)
  | (refine LCg.CompSrc.range (by rfl) (by k_asm) (by k_asm) (by assumption) (by first | decide | rfl) (by first | rfl | decide) (by first | size_fits | exact Nat.le_of_ble_eq_true rfl) ?_; intro g'; lcg_lit))))
local macro_rules | `(tactic| walk_at "compareOp Eq ref ref") => `(tactic| (k_here; k_dflt ((first | (with_reducible refine' Mine.up_eq ?N ?he ?ok ?dp ?m1 ?m2 ?m3 ?m4 ?hu ?_) | (refine' Mine.up_eq ?N ?he ?ok ?dp ?m1 ?m2 ?m3 ?m4 ?hu ?_)); (case N => k_asm); (case he => (refine Mine.El.In.mono ?hs9 _ _ (by assumption); (case hs9 => (intro q9 h9; k_mem)))); (case ok => first | assumption | exact Or.inr (by assumption)); (case dp => omega); (case m1 => k_mem); (case m2 => k_mem); (case m3 => k_mem); (case m4 => k_mem); (case hu => k_units); k_whole)))
local macro_rules | `(tactic| walk_at "call ref") => `(tactic| (k_here; (show wpAny _ _ (call (Value.ref 466) _) _ _ _); k_dflt (first | (refine' Mine.new_turn ((by assumption : Mine.MadeSpec _ _) _ _ ?ok ?dp) ?B ?F ?X ?TG ?N ?sub ?T ?hk ?hd ?hu ?pre ?off ?hS ?_; (case B => k_asm); (case F => k_asm); (case X => k_asm); (case TG => k_asm); (case N => k_asm); (case sub => (intro q9 h9; k_mem)); (case T => k_asm); (case hk => first | exact rfl | assumption); (case pre => (refine Mine.El.In.mono ?hs9 _ _ (by assumption); (case hs9 => (intro q9 h9; k_mem)))); (case ok => first | assumption | exact Or.inr (by assumption)); (case dp => omega); (case hd => (unfold Mine.dM; k_room)); (case hu => (unfold Mine.uM; k_units)); (case off => first | assumption | (simp only [LCg.Off3, and_true]; assumption)); (case hS => exact fun _ => trivial); k_whole; (intro r' tl' ht' hoff' hp'); (try dsimp only)) | (refine Mine.hold ?_))))
local macro_rules | `(tactic| walk_at "subscriptTail") => `(tactic| (k_here; (with_reducible show wpAny _ _ (subscriptTail _ _ (Value.ref _) (Value.int _ _)) _ _ _); k_dflt (first | ((first | (with_reducible refine' Mine.item_led0 ?l ?_ ?hs) | (refine' Mine.item_led0 ?l ?_ ?hs)); (case l => exact News.isList (by k_asm) (by k_mem)); (case hs => with_unfolding_all rfl); k_whole) | ((first | (with_reducible refine' Mine.item_led1 ?l ?_ ?hs) | (refine' Mine.item_led1 ?l ?_ ?hs)); (case l => exact News.isList (by k_asm) (by k_mem)); (case hs => with_unfolding_all rfl); k_whole) | ((first | (with_reducible refine' Mine.item_led2 ?l ?_ ?hs) | (refine' Mine.item_led2 ?l ?_ ?hs)); (case l => exact News.isList (by k_asm) (by k_mem)); (case hs => with_unfolding_all rfl); k_whole))))
local macro_rules | `(tactic| walk_at "subscriptTail") => `(tactic| ((with_reducible show wpAny _ _ (subscriptTail _ _ _ (Value.int (0 + (Nat.cast _ : Int)) _)) _ _ _); k_dflt (first | refine Mine.sub_int (j := 0) (by decide) ?_ | refine Mine.sub_int (j := 1) (by decide) ?_ | refine Mine.sub_int (j := 2) (by decide) ?_)))
local macro_rules | `(tactic| walk_at "CompEnd") => `(tactic| (k_here; k_dflt (refine' Mine.compEnd_cut ?F ?N ?sub ?off ?hS ?_; (case F => k_asm); (case N => k_asm); (case sub => (intro q9 h9; k_mem)); (case off => first | assumption | (simp only [LCg.Off3, and_true]; assumption)); (case hS => trivial); k_whole)))
local macro_rules | `(tactic| walk_at "neq") => `(tactic| ((try dsimp only); first | assumption | k_ne | exact Mine.ne_allLt (by first | assumption | exact And.left (by assumption) | exact (And.right (by assumption)) | tbn_find) (by k_mem) | exact Mine.ne_memLt (by assumption) (by k_mem)))
local macro_rules | `(tactic| walk_at "tabs") => `(tactic| first | assumption | (refine Mine.TabsG.keeps ?_ (Fr.keep (by assumption)); walk_at "tabs"))
local macro_rules | `(tactic| walk_at "call ref") => `(tactic| (k_here; (show wpAny _ _ (call (Value.ref 302) _) _ _ _); k_dflt ((first | (with_reducible refine' Mine.Calls.use0 (Mine.mkSeq _ _) ?B ?F ?X ?TG ?N ?T ?hk ?hd ?hu ?pre ?_) | (refine' Mine.Calls.use0 (Mine.mkSeq _ _) ?B ?F ?X ?TG ?N ?T ?hk ?hd ?hu ?pre ?_)); (case B => k_asm); (case F => k_asm); (case X => k_asm); (case TG => walk_at "tabs"); (case N => k_asm); (case T => k_asm); (case hk => first | exact rfl | assumption); (case hd => k_room); (case hu => k_units); (case pre => exact True.intro); k_whole; (rintro _ tl' h' tk' F' N' ht' ⟨a', d', t', n', hr', m1', m2'⟩); subst hr'; (try dsimp only))))
local macro_rules | `(tactic| walk_at "call ref") => `(tactic| (k_here; (show wpAny _ _ (call (Value.ref 402) _) _ _ _); k_dflt ((first | (with_reducible refine' Mine.Calls.use0 (Mine.mkPath _ _ _ _ _) ?B ?F ?X ?TG ?N ?T ?hk ?hd ?hu ?pre ?_) | (refine' Mine.Calls.use0 (Mine.mkPath _ _ _ _ _) ?B ?F ?X ?TG ?N ?T ?hk ?hd ?hu ?pre ?_)); (case B => k_asm); (case F => k_asm); (case X => k_asm); (case TG => walk_at "tabs"); (case N => k_asm); (case T => k_asm); (case hk => first | exact rfl | assumption); (case hd => k_room); (case hu => k_units); (case pre => exact ⟨by k_mem, by first | assumption | exact ⟨_, _, _, _, _, rfl, by k_mem, by k_mem, by first | assumption | exact Mine.elCls_dots _ | exact Mine.elCls_nav _ | exact Mine.elCls_par _⟩⟩); k_whole; (rintro _ tl' h' tk' F' N' ht' ⟨a', d', t', n', hr', m1', m2'⟩); subst hr'; (try dsimp only))))
local macro_rules | `(tactic| walk_at "call ref") => `(tactic| (k_here; (show wpAny _ _ (call (Value.ref 203) _) _ _ _); k_dflt ((first | (with_reducible refine' Mine.Calls.use0 (Mine.mkBr _ _ _ _ _) ?B ?F ?X ?TG ?N ?T ?hk ?hd ?hu ?pre ?_) | (refine' Mine.Calls.use0 (Mine.mkBr _ _ _ _ _) ?B ?F ?X ?TG ?N ?T ?hk ?hd ?hu ?pre ?_)); (case B => k_asm); (case F => k_asm); (case X => k_asm); (case TG => walk_at "tabs"); (case N => k_asm); (case T => k_asm); (case hk => first | exact rfl | assumption); (case hd => k_room); (case hu => k_units); (case pre => exact ⟨by k_mem, by k_mem⟩); k_whole; (rintro _ tl' h' tk' F' N' ht' ⟨a', d', t', n', hr', m1', m2'⟩); subst hr'; (try dsimp only))))
local macro_rules | `(tactic| walk_at "call ref") => `(tactic| (k_here; (show wpAny _ _ (call (Value.ref 352) _) _ _ _); k_dflt ((first | (with_reducible refine' Mine.Calls.use0 (Mine.mkSt _ _ _ _ _) ?B ?F ?X ?TG ?N ?T ?hk ?hd ?hu ?pre ?_) | (refine' Mine.Calls.use0 (Mine.mkSt _ _ _ _ _) ?B ?F ?X ?TG ?N ?T ?hk ?hd ?hu ?pre ?_)); (case B => k_asm); (case F => k_asm); (case X => k_asm); (case TG => walk_at "tabs"); (case N => k_asm); (case T => k_asm); (case hk => first | exact rfl | assumption); (case hd => k_room); (case hu => k_units); (case pre => exact ⟨by k_mem, by k_mem⟩); k_whole; (rintro _ tl' h' tk' F' N' ht' ⟨a', d', t', n', hr', m1', m2'⟩); subst hr'; (try dsimp only))))
local macro_rules | `(tactic| walk_at "offl") => `(tactic| first
  | exact List.forall_mem_nil _
  | assumption
  | exact Mine.offl_of (by assumption) (by k_mem)
  | exact Mine.ap_lt (by assumption)
  | exact Mine.allLt_ne (by tbn_find)
  | ((refine List.forall_mem_cons.mpr ⟨?_, ?_⟩); (focus walk_at "neq"); walk_at "offl")
  | ((refine List.forall_mem_append.mpr ⟨?_, ?_⟩) <;> walk_at "offl"))
local macro_rules | `(tactic| walk_at "front") => `(tactic| (repeat first | with_reducible exact Mine.Front.nil | with_reducible apply Mine.Front.cons | with_reducible apply Mine.Front.app))
local macro_rules | `(tactic| walk_at "del") => `(tactic| (repeat first | with_reducible exact Mine.Del.head | with_reducible apply Mine.Del.cons | with_reducible apply Mine.Del.app))
local macro_rules | `(tactic| walk_at "upd") => `(tactic| first
  | (with_reducible apply Upd.head; walk_at "offl")
  | ((with_reducible apply Upd.tail); (focus walk_at "neq"); walk_at "upd")
  | ((with_reducible apply Mine.upd_app); (focus walk_at "offl"); walk_at "upd"))
local macro_rules | `(tactic| k_upd) => `(tactic| walk_at "upd")
section
local macro_rules | `(tactic| walk_at "eval Lambda") => `(tactic| (k_here; k_dflt (refine' kla_eval ?d0 ?_; (case d0 => exact rfl)); (refine Mine.hold ?_)))
local macro_rules | `(tactic| walk_at "call type:map") => `(tactic| (refine Mine.hold ?_))
local macro_rules | `(tactic| walk_at "call type:str") => `(tactic| (refine Mine.hold ?_))
namespace Mine
theorem Ways.Made.list {w : World} {P : Led} {e : Ways} {q : Addr} (h : e.Made w P q) : ∃ (d : Addr) (t : Tok) (n : Nat) (l : Addr) (k : Nat) (us : List Value), (q, instObj 302 d) ∈ P ∧ (d, dictOf [ent w "paths" t (.ref l)] n) ∈ P ∧ (l, W.listOf us.toArray k) ∈ P ∧ us.length = e.pths.length ∧
    ∀ (i : Nat) u, us[i]? = some u → ∃ p b, e.pths[i]? = some p ∧ u = .ref b ∧ p.Made w P b := by
  cases e with
  | one p =>
    obtain ⟨d, t, n, l, k, p', h1, h2, h3, h4⟩ := h
    refine ⟨d, t, n, l, k, [.ref p'], h1, h2, h3, rfl, fun i v hv => ?_⟩
    match i, hv with
    | 0, hv => cases hv; exact ⟨p, p', rfl, rfl, h4⟩
  | two p q =>
    obtain ⟨d, t, n, l, k, p', q', h1, h2, h3, h4, h5⟩ := h
    refine ⟨d, t, n, l, k, [.ref p', .ref q'], h1, h2, h3, rfl, fun i v hv => ?_⟩
    match i, hv with
    | 0, hv => cases hv; exact ⟨p, p', rfl, rfl, h4⟩
    | 1, hv => cases hv; exact ⟨q, q', rfl, rfl, h5⟩
theorem led_map {h₀ h : Heap} {L f : Addr} {lam : Obj} {a b c t2 t1 : Addr × Obj} {tl n : Led} (N : News h₀ L h (a :: b :: c :: (f, lam) :: t2 :: (tl ++ (t1 :: n)))) : ∃ lam', lam' = lam ∧ News h₀ L h ([a, b, c] ++ ((f, lam') :: t2 :: t1 :: (tl ++ n))) :=
  ⟨lam, rfl, fun z hz => N z (by
    simp only [List.mem_append, List.mem_cons, List.not_mem_nil, or_false, List.cons_append, List.nil_append] at hz ⊢
    rcases hz with h | h | h | h | h | h | h | h <;> simp only [h, true_or, or_true])⟩
theorem join_ways {ws : Ways} {us : List Value} (hlen : us.length = ws.pths.length) : Txt.join "," ((List.range us.length).map fun i => ((ws.pths[i]?).map Pth.show).getD "") = ws.show := by
  rw [hlen]
  cases ws with
  | one p => rfl
  | two p q =>
    show Txt.join "," [p.show, q.show] = p.show ++ "," ++ q.show
    unfold Txt.join
    rw [StrLaws.glued_eq_join]
    rfl
theorem join_le {sep : Str} {texts : List Str} {B : Nat} (hB : ∀ y ∈ texts, y.length ≤ B) (h1 : texts.length ≤ 3) : (Txt.join sep texts).length ≤ 3 * B + 3 * sep.length := by
  unfold Txt.join
  rw [StrLaws.glued_eq_join]
  refine Nat.le_trans (StrLaws.join_length_le sep texts) (Nat.add_le_add ?_ (Nat.mul_le_mul_right _ h1))
  exact Nat.le_trans (StrLaws.sumLen_le texts hB) (Nat.mul_le_mul_right _ h1)
theorem joinOk_of {sep : Str} {texts : List Str} {B : Nat} (hB : ∀ y ∈ texts, y.length ≤ B) (h1 : texts.length ≤ 3) (h2 : 3 * B + 3 * sep.length ≤ 16777216) : JoinOk sep texts = true := by
  unfold JoinOk
  rw [StrLaws.joinFits hB (Nat.le_trans (Nat.add_le_add (Nat.mul_le_mul_right _ h1) (Nat.mul_le_mul_right _ h1)) h2)]
  rfl
def LamJ (f : Addr) (lam : Obj) (base nt : Led) (c' : Addr) (oc : Obj) (_i : Nat) (ns : Led) : Prop :=
  ∃ pa1 pa2 tl, ns = (f, lam) :: (272, tabObj pa2) :: (372, tabObj pa1) :: (tl ++ base) ∧ Tab (tl ++ nt) PQ7 pa1.toList ∧ Tab (tl ++ nt) PQ2 pa2.toList ∧ (∀ q ∈ tl, Ap q.1 ((372, tabObj pa1) :: (272, tabObj pa2) :: base)) ∧ (c', oc) ∈ tl ++ nt
abbrev lamParams (p0 : Pos) : Arguments := { posonlyargs := [], args := [{ arg := "x", annotation := none, pos := p0 }], vararg := none, kwonlyargs := [], kw_defaults := [], kwarg := none, defaults := [] }
abbrev lamScope : Scope := { kind := .function, names := [("x", .local), ("str", .globalImplicit)], isGenerator := false, isCoroutine := false }
/-- one step of map(lambda x: str(x), ..) -/
theorem lam_turn (w : World) (d0 u0 : Nat) (us : List Value) (txt : Nat → Str) (p0 p1 p2 p3 : Pos) (qual : Str) (pm ctv : Value) (c' f : Addr) (oc lam : Obj) (vs : Array Value) (t : Tok) (nt base : Led)
    (hlam : lam = kla_obj "<lambda>" qual (lamParams p0) ((Expr.Name "str" p1).Call [Expr.Name "x" p2] [] p3) lamScope [] pm c' ctv)
    (H : ∀ (i : Nat) v, us[i]? = some v → ∃ Pre : Led → Prop, StrSpec w d0 u0 v (txt i) Pre ∧ (∀ P P' : Led, (∀ p ∈ P, p ∈ P') → Pre P → Pre P') ∧ Pre base) :
    ∀ (p : Program) (loose : List Str) (mean : ExcName → Option Value) (mg mb : Str → Option Value) (dp un : Nat) (gd : Option (List Code)) (cn : Str) (cs : Scope) (a : Addr) (ccd : Value) (cl : List (Str × Addr)) (outer : List Env)
    (A₀ : Around) (base0 h₀ : Heap) (L : Addr) (m : Str → Option Value) (S I M T : Addr) (s : Shared),
    Below A₀ base0 outer h₀ → (hd.heap_39 w.params).In h₀ → TabsG h₀ → Top p loose mean mg mb h₀ → cs.kind = .function → dp + d0 + 3 < recursionLimit → un + u0 + 20 < cLine → 272 < f → 372 < f → f < I → I < T → T < M → I < S → (∀ z ∈ base, z.1 ≠ 372 ∧ z.1 ≠ 272) → (∀ z ∈ nt, z ∈ base) →
    oc.data = .fields vs → vs[1]? = some (.str qual t) →
    MapTurn PySem.Challenge.rw_wx0015_01.row.prog w (ktrTop dp un gd cn cs L a ccd cl outer) s h₀ L m S I M T (.ref f) us txt (LamJ f lam base nt c' oc) := by
  w_top off
  k_fill
  intro p loose mean mg mb dp un gd cn cs a ccd cl outer A₀ base0 h₀ L m S I M T s0 BB XB TG TB hcs hd hu hf1 hf2 hI1 lT lM hS1 hoff hnt dc vc
  have hcode := TG.t1
  obtain ⟨_, _, _, _, _⟩ := cs; dsimp only at hcs; subst hcs
  rintro i v ns oI acc c h tk9 E' hv ⟨pa1, pa2, tl, rfl, tA, tB, apT, mcT⟩ offns F N
  obtain ⟨Pre, hstr, hmono, hpre⟩ := H i v hv
  refine wpAny_call ?_
  refine' kla_code (binds := [("x", v)]) BB F XB N TB ?kA ?kF ?kK ?k6 ?k7 ?k8 ?k9 ?kB ?_ ?c2 ?c3 ?c4 ?c5
  case kA => exact rfl
  case kF => exact rfl
  case kK => exact rfl
  case k6 => rw [hlam]; exact List.mem_append.mpr (.inr (.head _))
  case k7 => exact codeRec_news N (List.mem_append.mpr (.inr (.tail _ (.tail _ (.tail _ (by
    rcases List.mem_append.mp mcT with hh | hh
    · exact List.mem_append.mpr (.inl hh)
    · exact List.mem_append.mpr (.inr (hnt _ hh)))))))) dc vc
  case k8 => k_room
  case k9 => exact rfl
  case c5 => decide
  case kB => exact locs rfl
  case c2 => exact rfl
  case c3 => exact rfl
  case c4 => exact rfl
  intro g2 L2 h2 FG2 F2 N2 B2 X2 T2
  walk_at "begin"
  k_steps
  unfold Hold
  refine Mine.StrSpec.use hstr (ps1 := pa1) (ps2 := pa2) (news := four S I M T oI (.ref f) acc c ++ ((f, lam) :: (tl ++ base))) (nt := tl ++ nt) (by k_asm) F2 (by k_asm) (by walk_at "tabs") N2 ?sub2 ?off2 ?nt2 tA tB (by k_asm) rfl ?room ?units ?pre ?_
  case room => k_room
  case units => k_units
  case sub2 =>
    intro z hz
    simp only [List.mem_append, List.mem_cons, List.not_mem_nil, or_false, List.cons_append, List.nil_append, four] at hz ⊢
    rcases hz with h | h | h | h | h | h | h | h | h <;> simp only [h, true_or, or_true]
  case off2 =>
    intro z hz
    simp only [List.mem_append, List.mem_cons, List.not_mem_nil, or_false, List.cons_append, List.nil_append, four] at hz
    rcases hz with rfl | rfl | rfl | rfl | rfl | h | h
    · exact ⟨Nat.ne_of_gt (Nat.lt_trans hf2 (Nat.lt_trans hI1 hS1)), Nat.ne_of_gt (Nat.lt_trans hf1 (Nat.lt_trans hI1 hS1))⟩
    · exact ⟨Nat.ne_of_gt (Nat.lt_trans hf2 hI1), Nat.ne_of_gt (Nat.lt_trans hf1 hI1)⟩
    · exact ⟨Nat.ne_of_gt (Nat.lt_trans hf2 (Nat.lt_trans hI1 (Nat.lt_trans lT lM))), Nat.ne_of_gt (Nat.lt_trans hf1 (Nat.lt_trans hI1 (Nat.lt_trans lT lM)))⟩
    · exact ⟨Nat.ne_of_gt (Nat.lt_trans hf2 (Nat.lt_trans hI1 lT)), Nat.ne_of_gt (Nat.lt_trans hf1 (Nat.lt_trans hI1 lT))⟩
    · exact ⟨Nat.ne_of_gt hf2, Nat.ne_of_gt hf1⟩
    · exact ⟨Ne.symm (apT z h _ (.head _)), Ne.symm (apT z h _ (.tail _ (.head _)))⟩
    · exact hoff z h
  case nt2 =>
    intro z hz
    rcases List.mem_append.mp hz with hh | hh
    · exact List.mem_append.mpr (.inr (.tail _ (List.mem_append.mpr (.inl hh))))
    · exact List.mem_append.mpr (.inr (.tail _ (List.mem_append.mpr (.inr (hnt _ hh)))))
  case pre => exact hmono _ _ (fun z hz => List.mem_append.mpr (.inr (.tail _ (List.mem_append.mpr (.inr hz))))) hpre
  intro pb1 pb2 tl2 u h3 tk3 F3 N3 tA2 tB2 ap3
  k_steps
  rename_i kF kN Tc kX
  refine ⟨_, _, (f, lam) :: (272, tabObj pb2) :: (372, tabObj pb1) :: ((tl2 ++ tl) ++ base), u, rfl, rfl, kF, fun z hz => kN z ?n9, ?off9, pb1, pb2, tl2 ++ tl, rfl, ?t1, ?t2, ?ap9, ?m9⟩
  case n9 =>
    simp only [List.mem_append, List.mem_cons, List.not_mem_nil, or_false, List.cons_append, List.nil_append, four] at hz ⊢
    rcases hz with h | h | h | h | h | h | h | (h | h) | h <;> simp only [h, true_or, or_true]
  case off9 =>
    intro z hz
    have hap : ∀ y ∈ tl2, y.1 ≠ S ∧ y.1 ≠ I := fun y hy => ⟨Ne.symm (ap3 y hy (S, _) (.tail _ (.tail _ (.head _)))), Ne.symm (ap3 y hy (I, _) (.tail _ (.tail _ (.tail _ (.head _)))))⟩
    simp only [List.mem_append, List.mem_cons] at hz
    rcases hz with rfl | rfl | rfl | (h | h) | h
    · exact offns _ (.head _)
    · exact offns (272, tabObj pa2) (.tail _ (.head _))
    · exact offns (372, tabObj pa1) (.tail _ (.tail _ (.head _)))
    · exact hap z h
    · exact offns z (.tail _ (.tail _ (.tail _ (List.mem_append.mpr (.inl h)))))
    · exact offns z (.tail _ (.tail _ (.tail _ (List.mem_append.mpr (.inr h)))))
  case t1 => rw [List.append_assoc]; exact tA2
  case t2 => rw [List.append_assoc]; exact tB2
  case ap9 =>
    refine List.forall_mem_append.mpr ⟨fun z hz => ?_, fun z hz => ?_⟩
    · exact List.forall_mem_cons.mpr ⟨ap3 z hz _ (.head _), List.forall_mem_cons.mpr ⟨ap3 z hz _ (.tail _ (.head _)), fun y hy => ap3 z hz y (.tail _ (.tail _ (List.mem_append.mpr (.inr (.tail _ (List.mem_append.mpr (.inr hy)))))))⟩⟩
    · exact List.forall_mem_cons.mpr ⟨apT z hz (372, tabObj pa1) (.head _), List.forall_mem_cons.mpr ⟨apT z hz (272, tabObj pa2) (.tail _ (.head _)), fun y hy => apT z hz y (.tail _ (.tail _ hy))⟩⟩
  case m9 => rw [List.append_assoc]; exact List.mem_append.mpr (.inr mcT)
theorem show_seq (w : World) (d0 u0 : Nat) (hd0 : d0 ≤ 900) (hu0 : u0 ≤ 9000) (ws : Ways) (H : ∀ (i : Nat) (p : Pth), ws.pths[i]? = some p → ∀ q, StrSpec w d0 u0 (.ref q) p.show (fun news => p.Made w news q)) (hl : ∀ p ∈ ws.pths, p.show.length ≤ 1000000) (q : Addr) :
    StrSpec w (d0 + 10) (u0 + 100) (.ref q) ws.show (fun news => ws.Made w news q) := by
  unfold StrSpec
  k_fill
  intro p loose mean mg mb dp un gd cn cs a ccd cl outer A₀ base h₀ L m ps1 ps2 news nt s Q E B F X TG N hoff hnt tab1 tab2 T hcs hd hu hpre hret
  have hcode := TG.t1
  obtain ⟨_, _, _, _, _⟩ := cs; dsimp only at hcs; subst hcs
  obtain ⟨d, td, n, l, k, us, h1, h2, h3, hlen, hus⟩ := hpre.list
  have hpl := ws.pths_len
  refine' kfo_call ?u ?v ?X ?I ?s ?m ?r ?f ?_
  case u => k_units
  case v => k_units
  case X => k_in
  case I => k_inst
  case s => k_is
  case r => k_is
  case f => k_is
  case m => k_is
  k_steps
  unfold Hold
  rename_i gB LB hB FGB FB NB BB XB TB
  refine Mine.make_lam (P := 272) (ps := ps2) (rest := (372, tabObj ps1) :: news) (rest0 := nt) FB NB TB (TG.t2.keeps FGB.keep) rfl ?sub ?off tab2 rfl ?_
  case sub =>
    intro z hz
    rcases List.mem_cons.mp hz with rfl | hz
    · exact .tail _ (.head _)
    · rcases List.mem_cons.mp hz with rfl | hz
      · exact .head _
      · exact .tail _ (.tail _ hz)
  case off => exact List.forall_mem_cons.mpr ⟨by show (372 : Nat) ≠ 272; decide, fun z hz => (hoff z hz).2⟩
  intro f c' oc vs t ctv ps2' tlF hF tkF FF NF tb2 mc dc vc apF ltF
  k_steps
  unfold Hold
  refine Mine.call_map FF NF (News.isList NF (by k_mem)) (fun M T I hM FM NM lI lT lM => ?_)
  k_steps
  have hf1 : 272 < f := ltF _ (.head _)
  have hf2 : 372 < f := ltF _ (.tail _ (List.mem_append.mpr (.inr (.head _))))
  have hI1 : f < I := lI _ (.head _)
  have hnewsI : ∀ z ∈ news, z.1 < I := fun z hz => lI z (.tail _ (.tail _ (List.mem_append.mpr (.inr (.tail _ hz)))))
  obtain ⟨lam, hlam, NJ⟩ := Mine.led_map NM
  refine Mine.join_map (l := l) (nl := k) (its := us) (f := .ref f) (txt := fun i => ((ws.pths[i]?).map Pth.show).getD "") (J := Mine.LamJ f lam news nt c' oc) (ns := (f, lam) :: (272, tabObj ps2') :: (372, tabObj ps1) :: (tlF ++ news)) (by rfl) FM NJ (Nat.ne_of_gt (Nat.lt_trans lT lM)) (Nat.ne_of_gt lT) ?offj ?szj ?srcj ?J0 ?turn ?ok ?fin
  case offj =>
    refine List.forall_mem_cons.mpr ⟨Nat.ne_of_lt hI1, List.forall_mem_cons.mpr ⟨Nat.ne_of_lt (Nat.lt_trans hf1 hI1), List.forall_mem_cons.mpr ⟨Nat.ne_of_lt (Nat.lt_trans hf2 hI1), List.forall_mem_append.mpr ⟨fun z hz => ?_, fun z hz => Nat.ne_of_lt (hnewsI z hz)⟩⟩⟩⟩
    exact Nat.ne_of_lt (Nat.lt_trans (ltF z (.tail _ (List.mem_append.mpr (.inl hz)))) hI1)
  case szj => rw [hlen]; exact Nat.le_trans hpl.2 (Nat.le_of_ble_eq_true rfl)
  case srcj =>
    rintro i ns ⟨pa1, pa2, tl, rfl, _⟩
    exact .tail _ (.tail _ (.tail _ (List.mem_append.mpr (.inr h3))))
  case J0 => exact ⟨ps1, ps2', tlF, rfl, tab1.mono (fun z hz => List.mem_append.mpr (.inr hz)), tb2, fun z hz => List.forall_mem_cons.mpr ⟨apF z hz _ (.tail _ (.head _)), List.forall_mem_cons.mpr ⟨apF z hz _ (.head _), fun y hy => apF z hz y (.tail _ (.tail _ hy))⟩⟩, mc⟩
  case ok => exact joinOk_of (B := 1000000) (fun y hy => by
      obtain ⟨i, hi, rfl⟩ := List.mem_map.mp hy
      cases hp : ws.pths[i]? with
      | none => exact Nat.zero_le _
      | some p => exact hl p (List.mem_of_getElem? hp)) (by rw [List.length_map, List.length_range, hlen]; exact Nat.le_trans hpl.2 (by decide)) (by decide)
  case fin =>
    rintro h' tk' ns u F' N' ⟨pa1, pa2, tl, rfl, tA, tB, apT, mcT⟩
    k_steps
    rename_i kF kN Tc kX
    refine Mine.str_eq (Q := Q) (Mine.join_ways hlen) (hret pa1 pa2 tl _ _ _ kF (fun z hz => kN z ?_) tA tB apT)
    simp only [List.mem_append, List.mem_cons] at hz ⊢
    rcases hz with h | h | h | h <;> simp only [h, true_or, or_true]
  case turn =>
    rintro S s' hS ⟨hs, tks, rfl⟩
    refine Mine.lam_turn w d0 u0 us _ _ _ _ _ _ _ _ c' f oc lam vs t nt news hlam (fun i v hv => ?_) p loose mean mg mb _ _ _ _ _ _ _ _ _ _ _ gB LB _ S I M T _ BB XB (by walk_at "tabs") TB rfl ?room ?units hf1 hf2 hI1 lT lM (hS _ (.head _)) hoff hnt dc vc
    case room => k_room
    case units => k_units
    obtain ⟨pp, b, hpp, rfl, hmd⟩ := hus i v hv
    exact ⟨_, by rw [hpp]; exact H i pp hpp b, fun P P' hh hp => Pth.Made.mono hh _ _ hp, hmd⟩
end Mine
end
section
local macro_rules | `(tactic| walk_at "eval Lambda") => `(tactic| (k_here; k_dflt (refine' kla_eval ?d0 ?_; (case d0 => exact rfl)); (refine Mine.hold ?_)))
local macro_rules | `(tactic| walk_at "call type:map") => `(tactic| (refine Mine.hold ?_))
local macro_rules | `(tactic| walk_at "call type:str") => `(tactic| (refine Mine.hold ?_))
local macro_rules | `(tactic| walk_at "call builtin:isinstance") => `(tactic| (refine Mine.hold ?_))
namespace Mine
theorem Pth.Made.list {w : World} {P : Led} {e : Pth} {q : Addr} (h : e.Made w P q) : ∃ (d : Addr) (t : Tok) (n : Nat) (l : Addr) (k : Nat) (us : List Value), (q, instObj 402 d) ∈ P ∧ (d, dictOf [ent w "path_elements" t (.ref l)] n) ∈ P ∧ (l, W.listOf us.toArray k) ∈ P ∧ us.length = e.els.length ∧
    ∀ (i : Nat) u, us[i]? = some u → ∃ p, e.els[i]? = some p ∧ p.Made w P u := by
  cases e with
  | one p =>
    obtain ⟨d, t, n, l, k, u, h1, h2, h3, h4⟩ := h
    refine ⟨d, t, n, l, k, [u], h1, h2, h3, rfl, fun i v hv => ?_⟩
    match i, hv with
    | 0, hv => cases hv; exact ⟨p, rfl, h4⟩
  | two p q =>
    obtain ⟨d, t, n, l, k, u, v, h1, h2, h3, h4, h5⟩ := h
    refine ⟨d, t, n, l, k, [u, v], h1, h2, h3, rfl, fun i v hv => ?_⟩
    match i, hv with
    | 0, hv => cases hv; exact ⟨p, rfl, h4⟩
    | 1, hv => cases hv; exact ⟨q, rfl, h5⟩
  | thr p q r =>
    obtain ⟨d, t, n, l, k, u, v, x, h1, h2, h3, h4, h5, h6⟩ := h
    refine ⟨d, t, n, l, k, [u, v, x], h1, h2, h3, rfl, fun i v hv => ?_⟩
    match i, hv with
    | 0, hv => cases hv; exact ⟨p, rfl, h4⟩
    | 1, hv => cases hv; exact ⟨q, rfl, h5⟩
    | 2, hv => cases hv; exact ⟨r, rfl, h6⟩
theorem El.Made.notDots {w : World} {P : Led} {e : El} {v : Value} (h : e.Made w P v) (hdd : e.isD = false) : ∃ b C d es n nav, v = .ref b ∧ PC w C nav ∧ kin_not (hd.heap_39 w.params) C 252 = true ∧ (b, instObj C d) ∈ P ∧ (d, dictOf es n) ∈ P := by
  have z := nd_all w
  cases e with
  | nav x c f => obtain ⟨a, d, _, _, _, _, _, n, _, _, rfl, h2, h3, _⟩ := h; exact ⟨a, _, d, _, _, _, rfl, pc_nav w, z.1, h2, h3⟩
  | par x => obtain ⟨a, d, _, _, n, rfl, h2, h3⟩ := h; exact ⟨a, _, d, _, _, _, rfl, pc_par w, z.2.1, h2, h3⟩
  | dots x => cases hdd
  | br ws => obtain ⟨a, d, _, n, q, rfl, h2, h3, _⟩ := h; exact ⟨a, _, d, _, _, _, rfl, pc_br w, z.2.2.1, h2, h3⟩
  | st ws => obtain ⟨a, d, _, n, _, _, _, _, _, rfl, h2, h3, _⟩ := h; exact ⟨a, _, d, _, _, _, rfl, pc_st w, z.2.2.2.1, h2, h3⟩
theorem str_nil_r (x : Str) : x ++ Str.join "." [] = x := by
  show (⟨x.cps ++ #[]⟩ : Str) = x
  rw [Array.append_empty]
theorem str_nil_r' (x : Str) : x ++ ("" : Str) = x := by
  show (⟨x.cps ++ (Str.ofString "").cps⟩ : Str) = x
  rw [show (Str.ofString "").cps = #[] from rfl, Array.append_empty]
theorem str_assoc3 (x y z t : Str) : x ++ (y ++ z ++ t) = x ++ y ++ z ++ t := by
  show (⟨x.cps ++ (y.cps ++ z.cps ++ t.cps)⟩ : Str) = ⟨x.cps ++ y.cps ++ z.cps ++ t.cps⟩
  simp only [Array.append_assoc]
theorem join_pathD {pt : Pth} {k0 : Nat} {n : Nat} (he : pt.els[0]? = some (.dots k0)) (hlen : n + 1 = pt.els.length) : (El.dots k0).show ++ Txt.join "." ((List.range n).map fun i => ((pt.els[i + 1]?).map El.show).getD "") = pt.show := by
  cases pt with
  | one a =>
    cases he
    obtain rfl : n = 0 := by simpa [Pth.els] using hlen
    simp only [Pth.show]
    show El.show (.dots k0) ++ Txt.join "." [] = _
    unfold Txt.join
    rw [StrLaws.glued_eq_join]
    exact str_nil_r _
  | two a b =>
    cases he
    obtain rfl : n = 1 := by simpa [Pth.els] using hlen
    simp only [Pth.show, El.isD, if_true]
    show El.show (.dots k0) ++ Txt.join "." [b.show] = _
    unfold Txt.join
    rw [StrLaws.glued_eq_join]
    show _ ++ b.show = _ ++ "" ++ b.show
    rw [str_nil_r']
  | thr a b c =>
    cases he
    obtain rfl : n = 2 := by simpa [Pth.els] using hlen
    simp only [Pth.show, El.isD, if_true]
    show El.show (.dots k0) ++ Txt.join "." [b.show, c.show] = _
    unfold Txt.join
    rw [StrLaws.glued_eq_join]
    show _ ++ (b.show ++ "." ++ c.show) = _ ++ "" ++ b.show ++ "." ++ c.show
    rw [str_nil_r', str_assoc3]
theorem pick_tail (u : Value) (r : List Value) : kms_pick (u :: r).toArray.toList (some 1) none = r := by
  show ((u :: r).drop (min 1 (r.length + 1))).take ((r.length + 1) - min 1 (r.length + 1)) = r
  rw [Nat.min_eq_left (Nat.le_add_left _ _)]
  simp
theorem led_mapD {h₀ h : Heap} {L f : Addr} {lam : Obj} {a b c D t2 t1 : Addr × Obj} {tl tA n : Led} (N : News h₀ L h (a :: b :: c :: D :: (f, lam) :: t1 :: (tl ++ (t2 :: (tA ++ n))))) : ∃ lam', lam' = lam ∧ News h₀ L h ([a, b, c] ++ ((f, lam') :: t2 :: t1 :: ((tl ++ tA) ++ (D :: n)))) :=
  ⟨lam, rfl, fun z hz => N z (by
    simp only [List.mem_append, List.mem_cons, List.not_mem_nil, or_false, List.cons_append, List.nil_append] at hz ⊢
    rcases hz with h | h | h | h | h | h | (h | h) | h | h <;> simp only [h, true_or, or_true])⟩
theorem show_pathD (w : World) (d0 u0 : Nat) (hd0 : d0 ≤ 900) (hu0 : u0 ≤ 9000) (pt : Pth) (e0 : El) (he0 : pt.els[0]? = some e0) (hdots : e0.isD = true) (H : ∀ (i : Nat) (p : El), pt.els[i]? = some p → ∀ v, StrSpec w d0 u0 v p.show (fun news => p.Made w news v)) (hl : ∀ p ∈ pt.els, p.show.length ≤ 1000000) (q : Addr) :
    StrSpec w (d0 + 10) (u0 + 100) (.ref q) pt.show (fun news => pt.Made w news q) := by
  unfold StrSpec
  w_top off
  k_fill
  intro p loose mean mg mb dp un gd cn cs a ccd cl outer A₀ base h₀ L m ps1 ps2 news nt s Q E B F X TG N hoff hnt tab1 tab2 T hcs hd hu hpre hret
  have hcode := TG.t1
  obtain ⟨_, _, _, _, _⟩ := cs; dsimp only at hcs; subst hcs
  obtain ⟨d, td, n, l, k, us, h1, h2, h3, hlen, hus⟩ := hpre.list
  have hpl := pt.els_len
  obtain ⟨u0', r, rfl⟩ : ∃ u r, us = u :: r := by
    cases us with
    | nil => simp only [List.length_nil] at hlen; omega
    | cons a b => exact ⟨a, b, rfl⟩
  obtain ⟨e0', he0', hm0⟩ := hus 0 u0' rfl
  obtain rfl : e0' = e0 := Option.some.inj (he0'.symm.trans he0)
  have hm0' := hm0
  obtain ⟨k0, rfl⟩ : ∃ k0, e0' = .dots k0 := by cases e0' <;> first | exact ⟨_, rfl⟩ | cases hdots
  obtain ⟨b0, bd, _, _, _, rfl, hb1, hb2⟩ := hm0'
  refine' kfo_call ?u ?v ?X ?I ?s ?m ?r ?f ?_
  case u => k_units
  case v => k_units
  case X => k_in
  case I => k_inst
  case s => k_is
  case r => k_is
  case f => k_is
  case m => k_is
  k_steps
  unfold Hold
  refine isi_call (t := .ref 252) (by k_in) (fun M => (instAt_of (News.get (by k_asm) (by k_mem)) (News.get (by k_asm) (by k_mem)) : InstAt _ b0 _ 252 _).type) (nd_all w).2.2.2.2 (by intro q; cases q) ?_
  k_steps
  unfold Hold
  rename_i gB LB hB FGB FB NB BB XB TB tkB
  refine Mine.StrSpec.use (H 0 _ he0 (.ref b0)) BB FB XB (by walk_at "tabs") NB (fun _ h => h) hoff hnt tab1 tab2 TB rfl ?room ?units hm0 ?_
  case room => k_room
  case units => k_units
  intro pa1 pa2 tlA uA hA tkA FA NA tA1 tA2 apA
  k_steps
  unfold Hold
  refine Mine.make_lam (P := 372) (ps := pa1) (rest := (272, tabObj pa2) :: (tlA ++ news)) (rest0 := tlA ++ nt) FA NA TB (TG.t1.keeps FGB.keep) rfl (fun _ h => h) ?off tA1 rfl ?_
  case off => exact List.forall_mem_cons.mpr ⟨by show (272 : Nat) ≠ 372; decide, List.forall_mem_append.mpr ⟨fun z hz => Ne.symm (apA z hz _ (.head _)), fun z hz => (hoff z hz).1⟩⟩
  intro f c' oc vs t ctv pf tlF hF tkF FF NF tb2 mc dc vc apF ltF
  k_steps
  refine kms_slice_lit (zs := r) (its := (.ref b0 :: r).toArray) FF NF (News.isList NF (.tail _ (.tail _ (List.mem_append.mpr (.inr (.tail _ (List.mem_append.mpr (.inr h3)))))))) (by kmk_part) (by kmk_part) (pick_tail _ _) (fun D hD FD ND lD => ?_) (by with_unfolding_all rfl) (by kmk_pure) (by rw [List.size_toArray]; exact Nat.le_trans (by rw [hlen]; exact hpl.2) (Nat.le_of_ble_eq_true rfl))
  k_steps
  unfold Hold
  refine Mine.call_map FD ND (News.isList ND (.head _)) (fun M T I hM FM NM lI lT lM => ?_)
  k_steps
  have hf1 : 272 < f := ltF _ (.tail _ (List.mem_append.mpr (.inr (.head _))))
  have hf2 : 372 < f := ltF _ (.head _)
  have hfD : f < D := lD _ (.head _)
  have hI1 : f < I := lI _ (.tail _ (.head _))
  obtain ⟨lam, hlam, NJ⟩ := Mine.led_mapD NM
  have hlen' : r.length + 1 = pt.els.length := hlen
  have hDo : ∀ z ∈ (D, W.listOf r.toArray 0) :: news, z.1 ≠ 372 ∧ z.1 ≠ 272 := List.forall_mem_cons.mpr ⟨⟨Nat.ne_of_gt (Nat.lt_trans hf2 hfD), Nat.ne_of_gt (Nat.lt_trans hf1 hfD)⟩, hoff⟩
  have hDI : D < I := lI _ (.head _)
  have htlF : ∀ z ∈ tlF ++ tlA, z.1 < f := List.forall_mem_append.mpr ⟨fun z hz => ltF z (.tail _ (List.mem_append.mpr (.inl hz))), fun z hz => ltF z (.tail _ (List.mem_append.mpr (.inr (.tail _ (List.mem_append.mpr (.inl hz))))))⟩
  have hnewsf : ∀ z ∈ news, z.1 < f := fun z hz => ltF z (.tail _ (List.mem_append.mpr (.inr (.tail _ (List.mem_append.mpr (.inr hz))))))
  refine Mine.join_map (l := D) (nl := 0) (its := r) (f := .ref f) (txt := fun i => ((pt.els[i + 1]?).map El.show).getD "") (J := Mine.LamJ f lam ((D, W.listOf r.toArray 0) :: news) nt c' oc) (ns := (f, lam) :: (272, tabObj pa2) :: (372, tabObj pf) :: ((tlF ++ tlA) ++ ((D, W.listOf r.toArray 0) :: news))) (by rfl) FM NJ (Nat.ne_of_gt (Nat.lt_trans lT lM)) (Nat.ne_of_gt lT) ?offj ?szj ?srcj ?J0 ?turn ?okj ?fin
  case offj =>
    refine List.forall_mem_cons.mpr ⟨Nat.ne_of_lt hI1, List.forall_mem_cons.mpr ⟨Nat.ne_of_lt (Nat.lt_trans hf1 hI1), List.forall_mem_cons.mpr ⟨Nat.ne_of_lt (Nat.lt_trans hf2 hI1), List.forall_mem_append.mpr ⟨fun z hz => Nat.ne_of_lt (Nat.lt_trans (htlF z hz) hI1), List.forall_mem_cons.mpr ⟨Nat.ne_of_lt hDI, fun z hz => Nat.ne_of_lt (Nat.lt_trans (hnewsf z hz) hI1)⟩⟩⟩⟩⟩
  case szj => exact Nat.le_trans (by omega : r.length ≤ 3) (Nat.le_of_ble_eq_true rfl)
  case srcj =>
    rintro i ns ⟨pb1, pb2, tl, rfl, _⟩
    exact .tail _ (.tail _ (.tail _ (List.mem_append.mpr (.inr (.head _)))))
  case J0 =>
    refine ⟨pf, pa2, tlF ++ tlA, rfl, ?_, ?_, ?_, ?_⟩
    · rw [List.append_assoc]; exact tb2
    · exact tA2.mono (fun z hz => by
        rcases List.mem_append.mp hz with hh | hh
        · exact List.mem_append.mpr (.inl (List.mem_append.mpr (.inr hh)))
        · exact List.mem_append.mpr (.inr hh))
    · refine List.forall_mem_append.mpr ⟨fun z hz => ?_, fun z hz => ?_⟩
      · refine List.forall_mem_cons.mpr ⟨apF z hz _ (.head _), List.forall_mem_cons.mpr ⟨apF z hz _ (.tail _ (.head _)), List.forall_mem_cons.mpr ⟨Nat.ne_of_gt (Nat.lt_trans (htlF z (List.mem_append.mpr (.inl hz))) hfD), fun y hy => apF z hz y (.tail _ (.tail _ (List.mem_append.mpr (.inr hy))))⟩⟩⟩
      · refine List.forall_mem_cons.mpr ⟨apA z hz (372, tabObj pa1) (.head _), List.forall_mem_cons.mpr ⟨apA z hz (272, tabObj pa2) (.tail _ (.head _)), List.forall_mem_cons.mpr ⟨Nat.ne_of_gt (Nat.lt_trans (htlF z (List.mem_append.mpr (.inr hz))) hfD), fun y hy => apA z hz y (.tail _ (.tail _ hy))⟩⟩⟩
    · rw [List.append_assoc]; exact mc
  case okj => exact joinOk_of (B := 1000000) (fun y hy => by
      obtain ⟨i, hi, rfl⟩ := List.mem_map.mp hy
      cases hp : pt.els[i + 1]? with
      | none => exact Nat.zero_le _
      | some p => exact hl p (List.mem_of_getElem? hp)) (by rw [List.length_map, List.length_range]; omega) (by decide)
  case turn =>
    rintro S s' hS ⟨hs, tks, rfl⟩
    refine Mine.lam_turn w d0 u0 r _ _ _ _ _ _ _ _ c' f oc lam vs t nt ((D, W.listOf r.toArray 0) :: news) hlam (fun i v hv => ?_) p loose mean mg mb _ _ _ _ _ _ _ _ _ _ _ gB LB _ S I M T _ BB XB (by walk_at "tabs") TB rfl ?room3 ?units3 hf1 hf2 hI1 lT lM (hS _ (.head _)) hDo (fun z hz => .tail _ (hnt z hz)) dc vc
    case room3 => k_room
    case units3 => k_units
    obtain ⟨pp, hpp, hmd⟩ := hus (i + 1) v hv
    exact ⟨_, by rw [hpp]; exact H (i + 1) pp hpp v, fun P P' hh hp => El.Made.mono hh _ _ hp, El.Made.mono (fun z hz => .tail _ hz) _ _ hmd⟩
  case fin =>
    rintro h' tk' ns u F' N' ⟨pb1, pb2, tl, rfl, tA, tB, apT, mcT⟩
    have hjl : (Txt.join "." ((List.range r.length).map fun i => ((pt.els[i + 1]?).map El.show).getD "")).length ≤ 3 * 1000000 + 3 * 1 := join_le (B := 1000000) (fun y hy => by
      obtain ⟨i, hi, rfl⟩ := List.mem_map.mp hy
      cases hp : pt.els[i + 1]? with
      | none => exact Nat.zero_le _
      | some p => exact hl p (List.mem_of_getElem? hp)) (by rw [List.length_map, List.length_range]; omega)
    have hdl : (El.dots k0).show.length ≤ 1000000 := hl _ (List.mem_of_getElem? he0)
    have heq := Mine.join_pathD he0 hlen'
    generalize Txt.join "." ((List.range r.length).map fun i => ((pt.els[i + 1]?).map El.show).getD "") = jt at hjl heq ⊢
    k_steps
    rename_i kF kN Tc kX
    refine Mine.str_eq (Q := Q) heq (hret pb1 pb2 tl _ _ _ kF (fun z hz => kN z ?_) tA tB (fun z hz => ?_))
    · simp only [List.mem_append, List.mem_cons] at hz ⊢
      rcases hz with h | h | h | h <;> simp only [h, true_or, or_true]
    · exact List.forall_mem_cons.mpr ⟨apT z hz _ (.head _), List.forall_mem_cons.mpr ⟨apT z hz _ (.tail _ (.head _)), fun y hy => apT z hz y (.tail _ (.tail _ (.tail _ hy)))⟩⟩
theorem join_pathE {pt : Pth} {e0 : El} {n : Nat} (he : pt.els[0]? = some e0) (hd0 : e0.isD = false) (hlen : n = pt.els.length) : Txt.join "." ((List.range n).map fun i => ((pt.els[i]?).map El.show).getD "") = pt.show := by
  subst hlen
  cases pt with
  | one a => rfl
  | two a b =>
    cases he
    simp only [Pth.show, hd0]
    show Txt.join "." [e0.show, b.show] = _
    unfold Txt.join
    rw [StrLaws.glued_eq_join]
    rfl
  | thr a b c =>
    cases he
    simp only [Pth.show, hd0]
    show Txt.join "." [e0.show, b.show, c.show] = _
    unfold Txt.join
    rw [StrLaws.glued_eq_join]
    show e0.show ++ "." ++ (b.show ++ "." ++ c.show) = e0.show ++ "." ++ b.show ++ "." ++ c.show
    rw [str_assoc3]
theorem led_mapE {h₀ h : Heap} {L f : Addr} {lam : Obj} {a b c t2 t1 : Addr × Obj} {tl n : Led} (N : News h₀ L h (a :: b :: c :: (f, lam) :: t1 :: (tl ++ (t2 :: n)))) : ∃ lam', lam' = lam ∧ News h₀ L h ([a, b, c] ++ ((f, lam') :: t2 :: t1 :: (tl ++ n))) :=
  ⟨lam, rfl, fun z hz => N z (by
    simp only [List.mem_append, List.mem_cons, List.not_mem_nil, or_false, List.cons_append, List.nil_append] at hz ⊢
    rcases hz with h | h | h | h | h | h | h | h <;> simp only [h, true_or, or_true])⟩
theorem show_pathE (w : World) (d0 u0 : Nat) (hd0 : d0 ≤ 900) (hu0 : u0 ≤ 9000) (pt : Pth) (e0 : El) (he0 : pt.els[0]? = some e0) (hdots : e0.isD = false) (H : ∀ (i : Nat) (p : El), pt.els[i]? = some p → ∀ v, StrSpec w d0 u0 v p.show (fun news => p.Made w news v)) (hl : ∀ p ∈ pt.els, p.show.length ≤ 1000000) (q : Addr) :
    StrSpec w (d0 + 10) (u0 + 100) (.ref q) pt.show (fun news => pt.Made w news q) := by
  unfold StrSpec
  k_fill
  intro p loose mean mg mb dp un gd cn cs a ccd cl outer A₀ base h₀ L m ps1 ps2 news nt s Q E B F X TG N hoff hnt tab1 tab2 T hcs hd hu hpre hret
  have hcode := TG.t1
  obtain ⟨_, _, _, _, _⟩ := cs; dsimp only at hcs; subst hcs
  obtain ⟨d, td, n, l, k, us, h1, h2, h3, hlen, hus⟩ := hpre.list
  have hpl := pt.els_len
  obtain ⟨u0', r, rfl⟩ : ∃ u r, us = u :: r := by
    cases us with
    | nil => simp only [List.length_nil] at hlen; omega
    | cons a b => exact ⟨a, b, rfl⟩
  obtain ⟨e0', he0', hm0⟩ := hus 0 u0' rfl
  obtain rfl : e0' = e0 := Option.some.inj (he0'.symm.trans he0)
  obtain ⟨b0, C0, bd, bes, bn, bnav, rfl, bpc, bno, hb1, hb2⟩ := hm0.notDots hdots
  refine' kfo_call ?u ?v ?X ?I ?s ?m ?r ?f ?_
  case u => k_units
  case v => k_units
  case X => k_in
  case I => k_inst
  case s => k_is
  case r => k_is
  case f => k_is
  case m => k_is
  k_steps
  unfold Hold
  refine kin_callC (D := C0) (by k_in) (instAt_of (News.get (by k_asm) (by k_mem)) (News.get (by k_asm) (by k_mem))) bno bpc.hg bpc.hh bpc.hcl bpc.hn bpc.htk bpc.hm ?_
  k_steps
  unfold Hold
  rename_i gB LB hB FGB FB NB BB XB TB tkB
  refine Mine.make_lam (P := 372) (ps := ps1) (rest := (272, tabObj ps2) :: news) (rest0 := nt) FB NB TB (TG.t1.keeps FGB.keep) rfl (fun _ h => h) ?off tab1 rfl ?_
  case off => exact List.forall_mem_cons.mpr ⟨by show (272 : Nat) ≠ 372; decide, fun z hz => (hoff z hz).1⟩
  intro f c' oc vs t ctv pf tlF hF tkF FF NF tb2 mc dc vc apF ltF
  k_steps
  unfold Hold
  refine Mine.call_map FF NF (News.isList NF (.tail _ (.tail _ (List.mem_append.mpr (.inr (.tail _ h3)))))) (fun M T I hM FM NM lI lT lM => ?_)
  k_steps
  have hf1 : 272 < f := ltF _ (.tail _ (List.mem_append.mpr (.inr (.head _))))
  have hf2 : 372 < f := ltF _ (.head _)
  have hI1 : f < I := lI _ (.head _)
  have htlF : ∀ z ∈ tlF, z.1 < f := fun z hz => ltF z (.tail _ (List.mem_append.mpr (.inl hz)))
  have hnewsf : ∀ z ∈ news, z.1 < f := fun z hz => ltF z (.tail _ (List.mem_append.mpr (.inr (.tail _ hz))))
  obtain ⟨lam, hlam, NJ⟩ := Mine.led_mapE NM
  refine Mine.join_map (l := l) (nl := k) (its := .ref b0 :: r) (f := .ref f) (txt := fun i => ((pt.els[i]?).map El.show).getD "") (J := Mine.LamJ f lam news nt c' oc) (ns := (f, lam) :: (272, tabObj ps2) :: (372, tabObj pf) :: (tlF ++ news)) (by rfl) FM NJ (Nat.ne_of_gt (Nat.lt_trans lT lM)) (Nat.ne_of_gt lT) ?offj ?szj ?srcj ?J0 ?turn ?okj ?fin
  case offj =>
    exact List.forall_mem_cons.mpr ⟨Nat.ne_of_lt hI1, List.forall_mem_cons.mpr ⟨Nat.ne_of_lt (Nat.lt_trans hf1 hI1), List.forall_mem_cons.mpr ⟨Nat.ne_of_lt (Nat.lt_trans hf2 hI1), List.forall_mem_append.mpr ⟨fun z hz => Nat.ne_of_lt (Nat.lt_trans (htlF z hz) hI1), fun z hz => Nat.ne_of_lt (Nat.lt_trans (hnewsf z hz) hI1)⟩⟩⟩⟩
  case szj => rw [hlen]; exact Nat.le_trans hpl.2 (Nat.le_of_ble_eq_true rfl)
  case srcj =>
    rintro i ns ⟨pb1, pb2, tl, rfl, _⟩
    exact .tail _ (.tail _ (.tail _ (List.mem_append.mpr (.inr h3))))
  case J0 =>
    exact ⟨pf, ps2, tlF, rfl, tb2, tab2.mono (fun z hz => List.mem_append.mpr (.inr hz)), apF, mc⟩
  case okj => exact joinOk_of (B := 1000000) (fun y hy => by
      obtain ⟨i, hi, rfl⟩ := List.mem_map.mp hy
      cases hp : pt.els[i]? with
      | none => exact Nat.zero_le _
      | some p => exact hl p (List.mem_of_getElem? hp)) (by rw [List.length_map, List.length_range, hlen]; exact hpl.2) (by decide)
  case turn =>
    rintro S s' hS ⟨hs, tks, rfl⟩
    refine Mine.lam_turn w d0 u0 (.ref b0 :: r) _ _ _ _ _ _ _ _ c' f oc lam vs t nt news hlam (fun i v hv => ?_) p loose mean mg mb _ _ _ _ _ _ _ _ _ _ _ gB LB _ S I M T _ BB XB (by walk_at "tabs") TB rfl ?room3 ?units3 hf1 hf2 hI1 lT lM (hS _ (.head _)) hoff hnt dc vc
    case room3 => k_room
    case units3 => k_units
    obtain ⟨pp, hpp, hmd⟩ := hus i v hv
    exact ⟨_, by rw [hpp]; exact H i pp hpp v, fun P P' hh hp => El.Made.mono hh _ _ hp, hmd⟩
  case fin =>
    rintro h' tk' ns u F' N' ⟨pb1, pb2, tl, rfl, tA, tB, apT, mcT⟩
    k_steps
    rename_i kF kN Tc kX
    refine Mine.str_eq (Q := Q) (Mine.join_pathE he0 hdots hlen) (hret pb1 pb2 tl _ _ _ kF (fun z hz => kN z ?_) tA tB apT)
    simp only [List.mem_append, List.mem_cons] at hz ⊢
    rcases hz with h | h | h | h <;> simp only [h, true_or, or_true]
end Mine
end
section
namespace Mine
def lenB : Nat → Nat
  | 0 => 18
  | n + 1 => 6 * lenB n + 8
theorem lenB_step (n : Nat) : lenB n ≤ lenB (n + 1) := by show lenB n ≤ 6 * lenB n + 8; omega
theorem lenB_mono {n m : Nat} (h : n ≤ m) : lenB n ≤ lenB m := by
  induction h with
  | refl => exact Nat.le_refl _
  | step _ ih => exact Nat.le_trans ih (lenB_step _)
theorem lenB_18 (n : Nat) : 18 ≤ lenB n := lenB_mono (Nat.zero_le n)
theorem words_len6 : ∀ x ∈ WORDS, x.length ≤ 6 := by decide
theorem fixed_len9 : ∀ x ∈ FIXED, x.length ≤ 9 := by decide
theorem kinds_len4 : ∀ x ∈ KINDS, x.length ≤ 4 := by decide
theorem ofS_len (s : String) : (Str.ofString s).length = s.length := PySem.ofString_length s
theorem sep_len (b : Bool) : (Str.ofString (if b = true then "" else ".")).length ≤ 1 := by cases b <;> decide
mutual
theorem El.len : ∀ (e : El), e.okd → e.show.length ≤ lenB e.dep
  | .nav x c f, h => by
    have hw : x ∈ WORDS ∧ okFix c f := by rcases h with h | h; exact absurd h id; exact h
    have h1 := words_len6 x hw.1
    have h0 := lenB_18 (El.nav x c f).dep
    cases f with
    | none =>
      cases c with
      | true => show x.length ≤ _; omega
      | false =>
        show ((Str.ofString "~") ++ x).length ≤ _
        rw [strLen_append, ofS_len]
        have : "~".length = 1 := by decide
        omega
    | some y =>
      have h2 := fixed_len9 y hw.2.2
      show ((Str.ofString "'") ++ y ++ (Str.ofString "'~") ++ x).length ≤ _
      rw [strLen_append, strLen_append, strLen_append, ofS_len, ofS_len]
      have : "'".length = 1 := by decide
      have : "'~".length = 2 := by decide
      omega
  | .par k, h => by
    have hk : k ∈ KINDS := by rcases h with h | h; exact absurd h id; exact h
    have h1 := kinds_len4 k hk
    have h0 := lenB_18 (El.par k).dep
    show ((Str.ofString "parent(") ++ k ++ (Str.ofString ")")).length ≤ _
    rw [strLen_append, strLen_append, ofS_len, ofS_len]
    have : "parent(".length = 7 := by decide
    have : ")".length = 1 := by decide
    omega
  | .dots k, h => by
    have hk : k ≤ 3 := by rcases h with h | h; exact h.2; exact absurd h id
    have h0 := lenB_18 (El.dots k).dep
    have : (El.dots k).show.length = k := Array.size_replicate ..
    omega
  | .br ws, h => by
    have hw : ws.ok := by rcases h with h | h; exact absurd h id; exact h
    have ih := Ways.len ws hw
    show ((Str.ofString "(") ++ ws.show ++ (Str.ofString ")")).length ≤ 6 * lenB ws.dep + 8
    rw [strLen_append, strLen_append, ofS_len, ofS_len]
    have : "(".length = 1 := by decide
    have : ")".length = 1 := by decide
    omega
  | .st ws, h => by
    have hw : ws.ok := by rcases h with h | h; exact absurd h id; exact h
    have ih := Ways.len ws hw
    show ((Str.ofString "(") ++ ws.show ++ (Str.ofString ")") ++ (Str.ofString "*")).length ≤ 6 * lenB ws.dep + 8
    rw [strLen_append, strLen_append, strLen_append, ofS_len, ofS_len, ofS_len]
    have : "(".length = 1 := by decide
    have : ")".length = 1 := by decide
    have : "*".length = 1 := by decide
    omega
theorem Ways.len : ∀ (ws : Ways), ws.ok → ws.show.length ≤ 6 * lenB ws.dep + 5
  | .one p, h => by
    have ih := Pth.len p h
    show p.show.length ≤ 6 * lenB p.dep + 5
    omega
  | .two p q, h => by
    have i1 := Pth.len p h.1
    have i2 := Pth.len q h.2
    have m1 := lenB_mono (Nat.le_max_left p.dep q.dep)
    have m2 := lenB_mono (Nat.le_max_right p.dep q.dep)
    show (p.show ++ (Str.ofString ",") ++ q.show).length ≤ 6 * lenB (max p.dep q.dep) + 5
    rw [strLen_append, strLen_append, ofS_len]
    have : ",".length = 1 := by decide
    omega
theorem Pth.len : ∀ (p : Pth), p.ok → p.show.length ≤ 3 * lenB p.dep + 2
  | .one a, h => by
    have i1 := El.len a h
    show a.show.length ≤ 3 * lenB a.dep + 2
    omega
  | .two a b, h => by
    have i1 := El.len a h.1
    have i2 := El.len b (.inr h.2)
    have m1 := lenB_mono (Nat.le_max_left a.dep b.dep)
    have m2 := lenB_mono (Nat.le_max_right a.dep b.dep)
    have hs := sep_len a.isD
    rw [Pth.show, Pth.dep]
    rw [strLen_append, strLen_append]
    omega
  | .thr a b c, h => by
    have i1 := El.len a h.1
    have i2 := El.len b (.inr h.2.1)
    have i3 := El.len c (.inr h.2.2)
    have m1 := lenB_mono (Nat.le_max_left a.dep (max b.dep c.dep))
    have m2 := lenB_mono (Nat.le_trans (Nat.le_max_left b.dep c.dep) (Nat.le_max_right a.dep (max b.dep c.dep)))
    have m3 := lenB_mono (Nat.le_trans (Nat.le_max_right b.dep c.dep) (Nat.le_max_right a.dep (max b.dep c.dep)))
    have hs := sep_len a.isD
    rw [Pth.show, Pth.dep]
    rw [strLen_append, strLen_append, strLen_append, strLen_append, ofS_len "."]
    have : ".".length = 1 := by decide
    omega
end
theorem StrSpec.weaken {w : World} {d u d' u' : Nat} {v : Value} {txt : Str} {Pre : Led → Prop} (C : StrSpec w d u v txt Pre) (hd : d ≤ d') (hu : u ≤ u') : StrSpec w d' u' v txt Pre := by
  intro p loose mean mg mb dp un gd cn cs a ccd cl outer A₀ base h₀ L m ps1 ps2 news nt s Q E B F X TG N hoff hnt t1 t2 T hk h1 h2
  exact C p loose mean mg mb dp un gd cn cs a ccd cl outer A₀ base h₀ L m ps1 ps2 news nt s Q E B F X TG N hoff hnt t1 t2 T hk (by omega) (by omega)
def ShE (w : World) (n : Nat) : Prop := ∀ (e : El) (v : Value), e.okd → e.dep ≤ n → StrSpec w (30 * n + 10) (300 * n + 100) v e.show (fun news => e.Made w news v)
def ShW (w : World) (n : Nat) : Prop := ∀ (e : Ways) (q : Addr), e.ok → e.dep ≤ n → StrSpec w (30 * n + 30) (300 * n + 300) (.ref q) e.show (fun news => e.Made w news q)
theorem shW_of (w : World) (n : Nat) (hn : n ≤ 5) (H : ShE w n) : ShW w n := by
  have hB : lenB n ≤ 152408 := lenB_mono hn
  have hP : ∀ (p : Pth) (q : Addr), p.ok → p.dep ≤ n → StrSpec w (30 * n + 20) (300 * n + 200) (.ref q) p.show (fun news => p.Made w news q) := by
    intro p q hok hdep
    have hel : ∀ (i : Nat) (e : El), p.els[i]? = some e → ∀ v, StrSpec w (30 * n + 10) (300 * n + 100) v e.show (fun news => e.Made w news v) := fun i e he v => H e v (Pth.ok_el hok he) (Nat.le_trans (Pth.dep_el he) hdep)
    have hl : ∀ e ∈ p.els, e.show.length ≤ 1000000 := fun e he => by
      obtain ⟨i, hi, rfl⟩ := List.mem_iff_getElem.mp he
      have h1 := List.getElem?_eq_getElem hi
      have h2 := El.len _ (Pth.ok_el hok h1)
      have h3 := lenB_mono (Nat.le_trans (Pth.dep_el h1) hdep)
      omega
    obtain ⟨e0, he0⟩ : ∃ e0, p.els[0]? = some e0 := ⟨_, List.getElem?_eq_getElem p.els_len.1⟩
    cases hd : e0.isD with
    | true => exact (show_pathD w _ _ (by omega) (by omega) p e0 he0 hd hel hl q).weaken (by omega) (by omega)
    | false => exact (show_pathE w _ _ (by omega) (by omega) p e0 he0 hd hel hl q).weaken (by omega) (by omega)
  intro e q hok hdep
  refine (show_seq w _ _ (by omega) (by omega) e (fun i p hp q => hP p q (Ways.ok_el hok hp) (Nat.le_trans (Ways.dep_el hp) hdep)) (fun p hp => ?_) q).weaken (by omega) (by omega)
  obtain ⟨i, hi, rfl⟩ := List.mem_iff_getElem.mp hp
  have h1 := List.getElem?_eq_getElem hi
  have h2 := Pth.len _ (Ways.ok_el hok h1)
  have h3 := lenB_mono (Nat.le_trans (Ways.dep_el h1) hdep)
  omega
theorem shE_zero (w : World) (n : Nat) (e : El) (v : Value) (hok : e.okd) (hdep : e.dep = 0) : StrSpec w (30 * n + 10) (300 * n + 100) v e.show (fun news => e.Made w news v) := by
  cases e with
  | nav x c f => exact (show_nav w x c f v hok).weaken (by omega) (by omega)
  | par k => exact (show_par w k v hok).weaken (by omega) (by omega)
  | dots k => exact (show_dots w k v hok).weaken (by omega) (by omega)
  | br ws => exact absurd hdep (by simp [El.dep])
  | st ws => exact absurd hdep (by simp [El.dep])
theorem shE_succ (w : World) (n : Nat) (hn : n ≤ 4) (H : ShW w n) : ShE w (n + 1) := by
  have hB : lenB n ≤ 25400 := lenB_mono hn
  have hbr : ∀ (ws : Ways) (v : Value), ws.ok → ws.dep ≤ n → StrSpec w (30 * n + 35) (300 * n + 350) v (El.br ws).show (fun news => (El.br ws).Made w news v) := by
    intro ws v hok hdep
    refine show_br w _ _ (by omega) (by omega) ws (fun q => H ws q hok hdep) ?_ v
    have h2 := Ways.len ws hok
    have h3 := lenB_mono hdep
    omega
  intro e v hok hdep
  cases e with
  | nav x c f => exact shE_zero w _ _ v hok rfl
  | par k => exact shE_zero w _ _ v hok rfl
  | dots k => exact shE_zero w _ _ v hok rfl
  | br ws =>
    have hw : ws.ok := by rcases hok with h | h; exact absurd h id; exact h
    exact (hbr ws v hw (by simp only [El.dep] at hdep; omega)).weaken (by omega) (by omega)
  | st ws =>
    have hw : ws.ok := by rcases hok with h | h; exact absurd h id; exact h
    have hdep' : ws.dep ≤ n := by simp only [El.dep] at hdep; omega
    refine (show_st w _ _ (by omega) (by omega) ws (fun v => hbr ws v hw hdep') ?_ v).weaken (by omega) (by omega)
    have h2 := El.len (El.br ws) (.inr hw)
    have h3 : lenB (El.br ws).dep ≤ 6 * lenB n + 8 := by
      show 6 * lenB ws.dep + 8 ≤ _
      have := lenB_mono hdep'
      omega
    omega
theorem sh_all (w : World) : ∀ n, n ≤ 5 → ShE w n ∧ ShW w n
  | 0, h => let q : ShE w 0 := fun e v hok hdep => shE_zero w 0 e v hok (by omega); ⟨q, shW_of w 0 h q⟩
  | n + 1, h => let q := shE_succ w n (by omega) (sh_all w n (by omega)).2; ⟨q, shW_of w (n + 1) h q⟩
end Mine
end
section
namespace Mine
open PySem.Builtin PySem.Builtin.Str StrLaws
theorem sliceIdx_over (a b len : Nat) (hb : len ≤ b) : strSliceIndices (some (a : Int)) (some (b : Int)) 1 len = strSliceIndices (some (a : Int)) (some (len : Int)) 1 len := by
  have h1 : ¬ ((b : Int) < 0) := by omega
  have h2 : ¬ ((len : Int) < 0) := by omega
  have h3 : min (b : Int) (len : Int) = (len : Int) := by omega
  simp [strSliceIndices, h1, h2, h3]
theorem cut_eq (x : Str) (i n : Nat) (hi : i ≤ x.length) : Txt.slice x (some (i : Int)) (some ((i + n : Nat) : Int)) = ⟨((x.cps.toList.drop i).take n).toArray⟩ := by
  show sliceText x (some (i : Int)) (some ((i + n : Nat) : Int)) = _
  rcases Nat.le_total (i + n) x.length with h | h
  · rw [sliceText_nat x (Nat.le_add_right _ _) h, Nat.add_sub_cancel_left]
  · have e : sliceText x (some (i : Int)) (some ((i + n : Nat) : Int)) = sliceText x (some (i : Int)) (some (x.length : Int)) := by
      unfold sliceText
      rw [sliceIdx_over i (i + n) x.length h]
    rw [e, sliceText_nat x hi (Nat.le_refl _)]
    have hl : (x.cps.toList.drop i).length = x.length - i := by rw [List.length_drop]; rfl
    rw [List.take_of_length_le (by rw [hl]; exact Nat.le_refl _), List.take_of_length_le (by rw [hl]; omega)]
/-- a text as a list of codes stands at a place of another -/
structure Cut (k : Nat) (x : Str) (i n : Nat) (y : Str) : Prop where
  eq : Txt.slice x (some (i : Int)) (some ((i + n : Nat) : Int)) = y
theorem cut_mk (k : Nat) {x : Str} {pre l : List Nat} (n : Nat) (h : x.cps.toList = pre ++ l) {y : Str} (hy : y.cps.toList = l.take n) : Cut k x pre.length n y := by
  refine ⟨?_⟩
  have hl : pre.length ≤ x.length := by
    have := congrArg List.length h
    rw [List.length_append] at this
    show _ ≤ x.cps.size
    rw [← Array.length_toList]; omega
  rw [cut_eq x _ n hl, h, List.drop_left, ← hy]
section
variable {prog : Program} {w : World} {A : Around} {E : Value → Shared → Prop} {s : Shared} {h₀ : Heap} {L : Addr} {m : Str → Option Value} {news : Led} {value slice : PySem.Expr} {Q : Value → Shared → Prop} {x y : Str} {t ui uj : Tok} {I J : Int} {k i n : Nat}
/-- the state's heap and the slice's place are told by equations: met as patterns they cost the unifier a third of a second -/
theorem slice_cut {h : Heap} {S : Shared} {a : Addr} (hc : Cut k x i n y) (hi : I = (i : Int)) (hj : J = ((i + n : Nat) : Int))
    (hS : S.heap = h.push { cls := .type "slice", data := .fields #[.int I ui, .int J uj, .none] }) (ha : a = h.objs.size) (hF : Fr h₀ L h m) (hN : News h₀ L h news) (hsz : x.length ≤ sizeLine)
    (hQ : ∀ h' t' tk, Fr h₀ L h' m → News h₀ L h' news → Q (.str y t') { S with heap := h', toks := tk })
    (hs : subscripted slice false (.str x t) (.ref a) = operate [.ref a, .str x t] (getItem (.str x t) (.ref a)))
    (ht : ∀ r, letTemporaryGo value (.str x t) r = pure ()) :
    wpAny (model prog w) A (subscriptTail value slice (.str x t) (.ref a)) Q E S := by
  subst hi hj ha
  obtain ⟨hc⟩ := hc
  subst hc
  obtain ⟨h9, g9, d9, k9, o9⟩ := S
  dsimp only at hS hQ
  subst hS
  exact slice_strN_ss (s := ⟨h, g9, d9, k9, o9⟩) hF hN hQ hs ht hsz
end
end Mine
end
section
namespace Mine
abbrev cds (x : Str) : List Nat := x.cps.toList
def StopE (post : List Nat) : Prop := ∀ c r, post = c :: r → c = 46 ∨ c = 44 ∨ c = 41
def StopP (post : List Nat) : Prop := ∀ c r, post = c :: r → c = 44 ∨ c = 41
def StopS (post : List Nat) : Prop := ∀ c r, post = c :: r → c = 41
def one (c : Nat) : Str := ⟨#[c]⟩
theorem led_two {h₀ h : Heap} {L : Addr} {a b : Addr × Obj} {tl n : Led} (N : News h₀ L h (a :: b :: (tl ++ n))) : ∃ x : Led, x = a :: b :: tl ∧ News h₀ L h (x ++ ([] ++ n)) := ⟨_, rfl, N⟩
theorem led_three {h₀ h : Heap} {L : Addr} {a b c : Addr × Obj} {tl n : Led} (N : News h₀ L h (a :: b :: c :: (tl ++ n))) : ∃ x : Led, x = a :: b :: c :: tl ∧ News h₀ L h (x ++ ([] ++ n)) := ⟨_, rfl, N⟩
theorem cut_stop (k : Nat) {x : Str} {pre post : List Nat} (h : cds x = pre ++ post) (hs : StopE post) : ∃ y, Cut k x pre.length 1 y ∧ y ≠ "*" ∧ (y = "" ∨ y = "." ∨ y = "," ∨ y = ")") := by
  cases post with
  | nil => exact ⟨"", cut_mk k 1 h rfl, by decide, .inl rfl⟩
  | cons c r =>
    rcases hs c r rfl with rfl | rfl | rfl
    · exact ⟨".", cut_mk k 1 h rfl, by decide, .inr (.inl rfl)⟩
    · exact ⟨",", cut_mk k 1 h rfl, by decide, .inr (.inr (.inl rfl))⟩
    · exact ⟨")", cut_mk k 1 h rfl, by decide, .inr (.inr (.inr rfl))⟩
def dR (n : Nat) : Nat := 40 * n + 10
def uR (n : Nat) : Nat := 300 * n + 100
def ReadEl (w : World) (n : Nat) : Prop := ∀ (e : El) (x : Str) (t ta : Tok) (pre post : List Nat) (I : Int), e.ok → e.dep ≤ n → cds x = pre ++ (cds e.show ++ post) → StopE post → x.length ≤ 10000000 → I = (pre.length : Int) →
  Calls w (dR n) (uR n) (.ref 492) [.str x t, .int I ta] [] (fun _ => True) (fun _ _ tl r => ∃ T v t2, r = .ref T ∧ (T, tupOf [v, .int ((pre.length + (cds e.show).length : Nat) : Int) t2]) ∈ tl ∧ e.In tl v)
def ReadPth (w : World) (n : Nat) : Prop := ∀ (e : Pth) (x : Str) (t ta : Tok) (pre post : List Nat) (I : Int), e.ok → e.dep ≤ n → cds x = pre ++ (cds e.show ++ post) → StopP post → x.length ≤ 10000000 → I = (pre.length : Int) →
  Calls w (dR n + 10) (uR n + 60) (.ref 485) [.str x t, .int I ta] [] (fun _ => True) (fun _ _ tl r => ∃ T l t2, r = .ref T ∧ (T, tupOf [.ref l, .int ((pre.length + (cds e.show).length : Nat) : Int) t2]) ∈ tl ∧ e.In tl l)
def ReadSeq (w : World) (n : Nat) : Prop := ∀ (e : Ways) (x : Str) (t ta : Tok) (pre post : List Nat) (I : Int), e.ok → e.dep ≤ n → cds x = pre ++ (cds e.show ++ post) → StopS post → x.length ≤ 10000000 → I = (pre.length : Int) →
  Calls w (dR n + 20) (uR n + 120) (.ref 478) [.str x t, .int I ta] [] (fun _ => True) (fun _ _ tl r => ∃ T l t2, r = .ref T ∧ (T, tupOf [.ref l, .int ((pre.length + (cds e.show).length : Nat) : Int) t2]) ∈ tl ∧ e.In tl l)
end Mine
end
end
section
local macro_rules | `(tactic| k_all) => `(tactic| assumption)
local macro_rules | `(tactic| k_mem) => `(tactic| first
  | with_reducible assumption
  | exact List.Mem.head _
  | ((with_reducible refine List.mem_cons_of_mem _ ?_); k_mem)
  | ((with_reducible refine List.mem_append.mpr (Or.inr ?_)); k_mem)
  | ((with_reducible refine List.mem_append.mpr (Or.inl ?_)); k_mem))
local macro_rules | `(tactic| k_room) => `(tactic| ((try simp only [depth_under_make, depth_under_kw, depth_in1, depth_deeper, depth_caller]); (try dsimp only); omega))
local macro_rules | `(tactic| k_units) => `(tactic| ((try simp only [units_under_make, units_in1, units_deeper, Around.mark_units, units_caller]); (try dsimp only); omega))
local macro_rules | `(tactic| walk_at "subscriptTail") => `(tactic| (k_here; (with_reducible show wpAny _ _ (subscriptTail _ _ (Value.ref _) (Value.int _ _)) _ _ _); k_dflt ((show wpAny _ _ (subscriptTail _ _ (Value.ref 433) (Value.int _ _)) _ _ _); refine' Mine.menu_K Mine.IsWord ?F ?X ?l ?a ?b ?f ?c ?_ ?hs; (case hs => with_unfolding_all rfl); (case F => k_asm); (case X => k_asm); (case l => k_is); (case a => omega); (case b => exact Int.lt_of_lt_of_le (by assumption) (by decide)); (case f => decide); (case c => exact List.forall_mem_cons.mpr ⟨⟨_, _, rfl, by decide⟩, List.forall_mem_cons.mpr ⟨⟨_, _, rfl, by decide⟩, List.forall_mem_cons.mpr ⟨⟨_, _, rfl, by decide⟩, List.forall_mem_cons.mpr ⟨⟨_, _, rfl, by decide⟩, List.forall_mem_nil _⟩⟩⟩⟩); rintro _ ⟨wd', wt', hx', hw'⟩; subst hx')))
local macro_rules | `(tactic| walk_at "subscriptTail") => `(tactic| (k_here; (with_reducible show wpAny _ _ (subscriptTail _ _ (Value.ref _) (Value.int _ _)) _ _ _); k_dflt ((show wpAny _ _ (subscriptTail _ _ (Value.ref 434) (Value.int _ _)) _ _ _); refine' Mine.menu_K Mine.IsFixed ?F ?X ?l ?a ?b ?f ?c ?_ ?hs; (case hs => with_unfolding_all rfl); (case F => k_asm); (case X => k_asm); (case l => k_is); (case a => omega); (case b => exact Int.lt_of_lt_of_le (by assumption) (by decide)); (case f => decide); (case c => exact List.forall_mem_cons.mpr ⟨⟨_, _, rfl, by decide⟩, List.forall_mem_cons.mpr ⟨⟨_, _, rfl, by decide⟩, List.forall_mem_cons.mpr ⟨⟨_, _, rfl, by decide⟩, List.forall_mem_cons.mpr ⟨⟨_, _, rfl, by decide⟩, List.forall_mem_nil _⟩⟩⟩⟩); rintro _ ⟨wd', wt', hx', hw'⟩; subst hx')))
local macro_rules | `(tactic| walk_at "subscriptTail") => `(tactic| (k_here; (with_reducible show wpAny _ _ (subscriptTail _ _ (Value.ref _) (Value.int _ _)) _ _ _); k_dflt ((show wpAny _ _ (subscriptTail _ _ (Value.ref 435) (Value.int _ _)) _ _ _); refine' Mine.menu_K Mine.IsKind ?F ?X ?l ?a ?b ?f ?c ?_ ?hs; (case hs => with_unfolding_all rfl); (case F => k_asm); (case X => k_asm); (case l => k_is); (case a => omega); (case b => exact Int.lt_of_lt_of_le (by assumption) (by decide)); (case f => decide); (case c => exact List.forall_mem_cons.mpr ⟨⟨_, _, rfl, by decide⟩, List.forall_mem_cons.mpr ⟨⟨_, _, rfl, by decide⟩, List.forall_mem_nil _⟩⟩); rintro _ ⟨wd', wt', hx', hw'⟩; subst hx')))
local macro_rules | `(tactic| walk_at "enter") => `(tactic| ((case kA => exact rfl); (case kF => exact rfl); (case kK => first | exact rfl | assumption); (case k6 => k_is); (case k7 => k_is); (case k8 => k_room); (case k9 => exact BindsTo.of_eq rfl); (case c5 => decide); (case kB => exact locs rfl); (case c2 => exact rfl); (case c3 => exact rfl); (case c4 => exact rfl); k_whole))
local macro_rules | `(tactic| walk_at "begin") => `(tactic| ((try dsimp only); (try k_unmd); (try k_fold)))
local macro_rules | `(tactic| walk_at "enterC") => `(tactic| ((case kA => exact rfl); (case kF => exact rfl); (case kK => first | exact rfl | assumption); (case k6 => k_is); (case k7 => k_is); (case k8 => k_room); (case k9 => exact BindsTo.of_eq rfl); (case kB => exact rfl); (case kD => decide +kernel); (case c2 => exact rfl); (case c3 => exact rfl); (case c4 => exact rfl); k_whole))
local macro_rules | `(tactic| walk_at "ite") => `(tactic| first | (exfalso; omega) | (with_reducible refine Mine.if_pos' (by first | omega | decide | (simp only [beq_iff_eq, bne_iff_ne, ne_eq, decide_eq_true_eq, not_true_eq_false, not_false_eq_true]; done) | (simp only [beq_iff_eq, bne_iff_ne, ne_eq, decide_eq_true_eq]; omega)) ?_) | (with_reducible refine Mine.if_neg' (by first | omega | decide | (simp only [beq_iff_eq, bne_iff_ne, ne_eq, decide_eq_true_eq, not_true_eq_false, not_false_eq_true]; done) | (simp only [beq_iff_eq, bne_iff_ne, ne_eq, decide_eq_true_eq]; omega)) ?_) | ((with_reducible refine Mine.if_both ?_ ?_) <;> (intro hc'; (try simp only [beq_iff_eq, bne_iff_ne, ne_eq, decide_eq_true_eq, Bool.not_eq_true, beq_eq_false_iff_ne, bne_eq_false_iff_eq, decide_eq_false_iff_not, Decidable.not_not] at hc'))))
local macro_rules | `(tactic| walk_at "wpAt") => `(tactic| (ks_step "exec Expr"; k_dflt (refine ks_wpAt_Expr_any ?_)))
local macro_rules | `(tactic| walk_at "wpAt") => `(tactic| (ks_step "eval Call"; k_dflt (refine ks_wpAt_MethodCall ?_)))
local macro_rules | `(tactic| walk_at "callWith ref") => `(tactic| (k_here; k_dflt (first
  | ((with_reducible refine' callWith_K0 ?k1 ?k2 ?_); (case k1 => exact Frag.In.keeps (by with_reducible assumption) (Fr.keep (by with_reducible assumption))); (case k2 => k_is); k_whole)
  | ((with_reducible refine' callWith_K ?k1 ?k2 ?_ ?k3 ?k4); (case k3 => exact rfl); (case k4 => exact rfl); (case k1 => with_reducible assumption); (case k2 => k_is); k_whole))))
local macro_rules | `(tactic| walk_at "eval Name") => `(tactic| (k_here; k_dflt (first
  | ((with_reducible refine' Mine.nameO_L ?F ?v ?_ ?a ?b ?d); (case b => rfl); (case F => k_asm); (case a => rfl); (case d => decide); (case v => rfl); k_whole)
  | ((with_reducible refine' Mine.nameO_K ?F ?X ?T ?e ?_ ?a ?b ?d); (case b => rfl); (case F => k_asm); (case X => k_asm); (case T => k_asm); (case a => rfl); (case d => decide); (case e => k_is); k_whole)
  | ((with_reducible refine' Mine.nameO_B ?F ?X ?T ?e ?v ?n ?_ ?a ?b ?d); (case b => rfl); (case F => k_asm); (case X => k_asm); (case T => k_asm); (case a => rfl); (case d => decide); (case e => k_is); (case v => boot_fast); (case n => decide); k_whole)
  | ((with_reducible refine' nameX_L ?F ?v ?_ ?a ?b); (case b => rfl); (case F => k_asm); (case a => rfl); (case v => rfl); k_whole)
  | ((with_reducible refine' nameX_K ?F ?X ?T ?e ?_ ?a ?b); (case b => rfl); (case F => k_asm); (case X => k_asm); (case T => k_asm); (case a => rfl); (case e => k_is); k_whole)
  | ((with_reducible refine' nameX_B ?F ?X ?T ?e ?v ?n ?_ ?a ?b); (case b => rfl); (case F => k_asm); (case X => k_asm); (case T => k_asm); (case a => rfl); (case e => k_is); (case v => boot_fast); (case n => decide); k_whole))))
local macro_rules | `(tactic| walk_at "ap") => `(tactic| first
  | exact List.forall_mem_nil _
  | assumption
  | exact Mine.allLt_ne (by tbn_find)
  | exact Mine.ap_lt (by assumption)
  | exact Mine.ap_lt2 (by assumption) (by assumption)
  | exact Mine.ap_lt2 (by assumption) (Mine.allLt_mem (by tbn_find))
  | exact Mine.ap_memLt (by assumption) (by intro q9 h9; k_mem)
  | exact Mine.off1_mem (by first | assumption | exact And.left (by assumption) | exact And.right (by assumption))
  | ((refine List.forall_mem_cons.mpr ⟨?_, ?_⟩); (focus (try dsimp only); first | assumption | k_ne | exact Ne.symm (by assumption) | exact Mine.ne_lt2 (by assumption) (by tbn_find) | exact Ne.symm (Mine.ne_memLt (by assumption) (by k_mem))); walk_at "ap")
  | ((refine List.forall_mem_append.mpr ⟨?_, ?_⟩) <;> walk_at "ap")
  | fail "ap: no order")
local macro_rules | `(tactic| walk_at "ord") => `(tactic| first
  | exact List.forall_mem_nil _
  | assumption
  | ((refine List.forall_mem_cons.mpr ⟨?_, ?_⟩); (focus walk_at "ap"); walk_at "ord")
  | exact Mine.aps (by assumption) (by intro q9 h9; k_mem)
  | exact Mine.aps2 (by assumption) (by k_mem) (by intro q9 h9; k_mem)
  | ((refine List.forall_mem_append.mpr ⟨?_, ?_⟩) <;> walk_at "ord")
  | fail "ord")
local macro_rules | `(tactic| walk_at "sub") => `(tactic| (intro q9 h9; simp only [List.mem_append, List.mem_cons, List.not_mem_nil, or_false, false_or, List.nil_append, List.cons_append] at h9 ⊢; first | exact h9 | grind))
local macro_rules | `(tactic| walk_at "eval ListComp") => `(tactic| (k_here; k_dflt (refine LCg.ListComp_U (F₀ := by k_asm) (by with_unfolding_all rfl) (by decide) (by rfl) (by decide) (by rfl) ?_)))
local macro_rules | `(tactic| walk_at "CompSrc") => `(tactic| (k_here; k_dflt (first
  | (refine LCg.CompSrc.ledger (by rfl) (by k_asm) (by k_asm) (by k_mem) (by first | size_fits | exact Nat.le_of_ble_eq_true rfl) ?_; intro g'; lcg_lit)
  | (refine LCg.CompSrc.range (by rfl) (by k_asm) (by k_asm) (by assumption) (by first | decide | rfl) (by first | rfl | decide) (by first | size_fits | exact Nat.le_of_ble_eq_true rfl) ?_; intro g'; lcg_lit))))
local macro_rules | `(tactic| walk_at "compareOp Eq ref ref") => `(tactic| (k_here; k_dflt ((first | (with_reducible refine' Mine.up_eq ?N ?he ?ok ?dp ?m1 ?m2 ?m3 ?m4 ?hu ?_) | (refine' Mine.up_eq ?N ?he ?ok ?dp ?m1 ?m2 ?m3 ?m4 ?hu ?_)); (case N => k_asm); (case he => (refine Mine.El.In.mono ?hs9 _ _ (by assumption); (case hs9 => (intro q9 h9; k_mem)))); (case ok => first | assumption | exact Or.inr (by assumption)); (case dp => omega); (case m1 => k_mem); (case m2 => k_mem); (case m3 => k_mem); (case m4 => k_mem); (case hu => k_units); k_whole)))
local macro_rules | `(tactic| walk_at "call ref") => `(tactic| (k_here; (show wpAny _ _ (call (Value.ref 466) _) _ _ _); k_dflt (first | (refine' Mine.new_turn ((by assumption : Mine.MadeSpec _ _) _ _ ?ok ?dp) ?B ?F ?X ?TG ?N ?sub ?T ?hk ?hd ?hu ?pre ?off ?hS ?_; (case B => k_asm); (case F => k_asm); (case X => k_asm); (case TG => k_asm); (case N => k_asm); (case sub => (intro q9 h9; k_mem)); (case T => k_asm); (case hk => first | exact rfl | assumption); (case pre => (refine Mine.El.In.mono ?hs9 _ _ (by assumption); (case hs9 => (intro q9 h9; k_mem)))); (case ok => first | assumption | exact Or.inr (by assumption)); (case dp => omega); (case hd => (unfold Mine.dM; k_room)); (case hu => (unfold Mine.uM; k_units)); (case off => first | assumption | (simp only [LCg.Off3, and_true]; assumption)); (case hS => exact fun _ => trivial); k_whole; (intro r' tl' ht' hoff' hp'); (try dsimp only)) | (refine Mine.hold ?_))))
local macro_rules | `(tactic| walk_at "subscriptTail") => `(tactic| (k_here; (with_reducible show wpAny _ _ (subscriptTail _ _ (Value.ref _) (Value.int _ _)) _ _ _); k_dflt (first | ((first | (with_reducible refine' Mine.item_led0 ?l ?_ ?hs) | (refine' Mine.item_led0 ?l ?_ ?hs)); (case l => exact News.isList (by k_asm) (by k_mem)); (case hs => with_unfolding_all rfl); k_whole) | ((first | (with_reducible refine' Mine.item_led1 ?l ?_ ?hs) | (refine' Mine.item_led1 ?l ?_ ?hs)); (case l => exact News.isList (by k_asm) (by k_mem)); (case hs => with_unfolding_all rfl); k_whole) | ((first | (with_reducible refine' Mine.item_led2 ?l ?_ ?hs) | (refine' Mine.item_led2 ?l ?_ ?hs)); (case l => exact News.isList (by k_asm) (by k_mem)); (case hs => with_unfolding_all rfl); k_whole))))
local macro_rules | `(tactic| walk_at "subscriptTail") => `(tactic| ((with_reducible show wpAny _ _ (subscriptTail _ _ _ (Value.int (0 + (Nat.cast _ : Int)) _)) _ _ _); k_dflt (first | refine Mine.sub_int (j := 0) (by decide) ?_ | refine Mine.sub_int (j := 1) (by decide) ?_ | refine Mine.sub_int (j := 2) (by decide) ?_)))
local macro_rules | `(tactic| walk_at "CompEnd") => `(tactic| (k_here; k_dflt (refine' Mine.compEnd_cut ?F ?N ?sub ?off ?hS ?_; (case F => k_asm); (case N => k_asm); (case sub => (intro q9 h9; k_mem)); (case off => first | assumption | (simp only [LCg.Off3, and_true]; assumption)); (case hS => trivial); k_whole)))
local macro_rules | `(tactic| walk_at "neq") => `(tactic| ((try dsimp only); first | assumption | k_ne | exact Mine.ne_allLt (by first | assumption | exact And.left (by assumption) | exact (And.right (by assumption)) | tbn_find) (by k_mem) | exact Mine.ne_memLt (by assumption) (by k_mem)))
local macro_rules | `(tactic| walk_at "tabs") => `(tactic| first | assumption | (refine Mine.TabsG.keeps ?_ (Fr.keep (by assumption)); walk_at "tabs"))
local macro_rules | `(tactic| walk_at "call ref") => `(tactic| (k_here; (show wpAny _ _ (call (Value.ref 302) _) _ _ _); k_dflt ((first | (with_reducible refine' Mine.Calls.use0 (Mine.mkSeq _ _) ?B ?F ?X ?TG ?N ?T ?hk ?hd ?hu ?pre ?_) | (refine' Mine.Calls.use0 (Mine.mkSeq _ _) ?B ?F ?X ?TG ?N ?T ?hk ?hd ?hu ?pre ?_)); (case B => k_asm); (case F => k_asm); (case X => k_asm); (case TG => walk_at "tabs"); (case N => k_asm); (case T => k_asm); (case hk => first | exact rfl | assumption); (case hd => k_room); (case hu => k_units); (case pre => exact True.intro); k_whole; (rintro _ tl' h' tk' F' N' ht' ⟨a', d', t', n', hr', m1', m2'⟩); subst hr'; (try dsimp only))))
local macro_rules | `(tactic| walk_at "call ref") => `(tactic| (k_here; (show wpAny _ _ (call (Value.ref 402) _) _ _ _); k_dflt ((first | (with_reducible refine' Mine.Calls.use0 (Mine.mkPath _ _ _ _ _) ?B ?F ?X ?TG ?N ?T ?hk ?hd ?hu ?pre ?_) | (refine' Mine.Calls.use0 (Mine.mkPath _ _ _ _ _) ?B ?F ?X ?TG ?N ?T ?hk ?hd ?hu ?pre ?_)); (case B => k_asm); (case F => k_asm); (case X => k_asm); (case TG => walk_at "tabs"); (case N => k_asm); (case T => k_asm); (case hk => first | exact rfl | assumption); (case hd => k_room); (case hu => k_units); (case pre => exact ⟨by k_mem, by first | assumption | exact ⟨_, _, _, _, _, rfl, by k_mem, by k_mem, by first | assumption | exact Mine.elCls_dots _ | exact Mine.elCls_nav _ | exact Mine.elCls_par _⟩⟩); k_whole; (rintro _ tl' h' tk' F' N' ht' ⟨a', d', t', n', hr', m1', m2'⟩); subst hr'; (try dsimp only))))
local macro_rules | `(tactic| walk_at "call ref") => `(tactic| (k_here; (show wpAny _ _ (call (Value.ref 203) _) _ _ _); k_dflt ((first | (with_reducible refine' Mine.Calls.use0 (Mine.mkBr _ _ _ _ _) ?B ?F ?X ?TG ?N ?T ?hk ?hd ?hu ?pre ?_) | (refine' Mine.Calls.use0 (Mine.mkBr _ _ _ _ _) ?B ?F ?X ?TG ?N ?T ?hk ?hd ?hu ?pre ?_)); (case B => k_asm); (case F => k_asm); (case X => k_asm); (case TG => walk_at "tabs"); (case N => k_asm); (case T => k_asm); (case hk => first | exact rfl | assumption); (case hd => k_room); (case hu => k_units); (case pre => exact ⟨by k_mem, by k_mem⟩); k_whole; (rintro _ tl' h' tk' F' N' ht' ⟨a', d', t', n', hr', m1', m2'⟩); subst hr'; (try dsimp only))))
local macro_rules | `(tactic| walk_at "call ref") => `(tactic| (k_here; (show wpAny _ _ (call (Value.ref 352) _) _ _ _); k_dflt ((first | (with_reducible refine' Mine.Calls.use0 (Mine.mkSt _ _ _ _ _) ?B ?F ?X ?TG ?N ?T ?hk ?hd ?hu ?pre ?_) | (refine' Mine.Calls.use0 (Mine.mkSt _ _ _ _ _) ?B ?F ?X ?TG ?N ?T ?hk ?hd ?hu ?pre ?_)); (case B => k_asm); (case F => k_asm); (case X => k_asm); (case TG => walk_at "tabs"); (case N => k_asm); (case T => k_asm); (case hk => first | exact rfl | assumption); (case hd => k_room); (case hu => k_units); (case pre => exact ⟨by k_mem, by k_mem⟩); k_whole; (rintro _ tl' h' tk' F' N' ht' ⟨a', d', t', n', hr', m1', m2'⟩); subst hr'; (try dsimp only))))
local macro_rules | `(tactic| walk_at "offl") => `(tactic| first
  | exact List.forall_mem_nil _
  | assumption
  | exact Mine.offl_of (by assumption) (by k_mem)
  | exact Mine.ap_lt (by assumption)
  | exact Mine.allLt_ne (by tbn_find)
  | ((refine List.forall_mem_cons.mpr ⟨?_, ?_⟩); (focus walk_at "neq"); walk_at "offl")
  | ((refine List.forall_mem_append.mpr ⟨?_, ?_⟩) <;> walk_at "offl"))
local macro_rules | `(tactic| walk_at "front") => `(tactic| (repeat first | with_reducible exact Mine.Front.nil | with_reducible apply Mine.Front.cons | with_reducible apply Mine.Front.app))
local macro_rules | `(tactic| walk_at "del") => `(tactic| (repeat first | with_reducible exact Mine.Del.head | with_reducible apply Mine.Del.cons | with_reducible apply Mine.Del.app))
local macro_rules | `(tactic| walk_at "upd") => `(tactic| first
  | (with_reducible apply Upd.head; walk_at "offl")
  | ((with_reducible apply Upd.tail); (focus walk_at "neq"); walk_at "upd")
  | ((with_reducible apply Mine.upd_app); (focus walk_at "offl"); walk_at "upd"))
local macro_rules | `(tactic| k_upd) => `(tactic| walk_at "upd")
local macro_rules | `(tactic| walk_at "subscriptTail Name Slice str ref") => `(tactic| (k_here; (with_reducible show wpAny _ _ (subscriptTail _ _ (Value.str _ _) (Value.ref _)) _ _ _); (refine Mine.hold ?_)))
local macro_rules | `(tactic| walk_at "subscriptTail Name Slice str ref") => `(tactic| (k_here; (with_reducible show wpAny _ _ (subscriptTail _ _ (Value.str _ _) (Value.ref _)) _ _ _); k_dflt (first | ((with_reducible refine' Mine.slice_cut (k := 0) (by with_reducible assumption) ?i ?j ?S ?a ?F ?N ?z ?_ ?s ?t); (case S => ((try dsimp only) <;> exact rfl)); (case i => omega); (case j => omega); (case a => ((try dsimp only) <;> exact rfl)); (case F => k_asm); (case N => k_asm); (case z => exact Nat.le_trans (by assumption) (Nat.le_of_ble_eq_true rfl)); (case s => with_unfolding_all rfl); (case t => (intro _; with_unfolding_all rfl)); k_whole) | ((with_reducible refine' Mine.slice_cut (k := 1) (by with_reducible assumption) ?i ?j ?S ?a ?F ?N ?z ?_ ?s ?t); (case S => ((try dsimp only) <;> exact rfl)); (case i => omega); (case j => omega); (case a => ((try dsimp only) <;> exact rfl)); (case F => k_asm); (case N => k_asm); (case z => exact Nat.le_trans (by assumption) (Nat.le_of_ble_eq_true rfl)); (case s => with_unfolding_all rfl); (case t => (intro _; with_unfolding_all rfl)); k_whole) | ((with_reducible refine' Mine.slice_cut (k := 2) (by with_reducible assumption) ?i ?j ?S ?a ?F ?N ?z ?_ ?s ?t); (case S => ((try dsimp only) <;> exact rfl)); (case i => omega); (case j => omega); (case a => ((try dsimp only) <;> exact rfl)); (case F => k_asm); (case N => k_asm); (case z => exact Nat.le_trans (by assumption) (Nat.le_of_ble_eq_true rfl)); (case s => with_unfolding_all rfl); (case t => (intro _; with_unfolding_all rfl)); k_whole) | ((with_reducible refine' Mine.slice_cut (k := 3) (by with_reducible assumption) ?i ?j ?S ?a ?F ?N ?z ?_ ?s ?t); (case S => ((try dsimp only) <;> exact rfl)); (case i => omega); (case j => omega); (case a => ((try dsimp only) <;> exact rfl)); (case F => k_asm); (case N => k_asm); (case z => exact Nat.le_trans (by assumption) (Nat.le_of_ble_eq_true rfl)); (case s => with_unfolding_all rfl); (case t => (intro _; with_unfolding_all rfl)); k_whole)); intro h9' t9' tk9' F' N'; (try dsimp only)))
local macro_rules | `(tactic| walk_at "ite") => `(tactic| first | (with_reducible refine Mine.if_neg' (by (simp only [beq_iff_eq, bne_iff_ne, ne_eq, decide_eq_true_eq]); assumption) ?_) | (with_reducible refine Mine.if_pos' (by (simp only [beq_iff_eq, bne_iff_ne, ne_eq, decide_eq_true_eq]); assumption) ?_))
local macro_rules | `(tactic| walk_at "subscriptTail") => `(tactic| (k_here; (with_reducible show wpAny _ _ (subscriptTail _ _ (Value.ref _) (Value.int _ _)) _ _ _); k_dflt (refine' item_tupleT ?t ?a ?b ?c ?d ?_; (case t => exact News.isTup (by k_asm) (by first | exact List.Mem.head _ | (with_reducible k_mem))); (case a => decide); (case b => decide); (case c => rfl); (case d => rfl); k_whole)))
local macro_rules | `(tactic| walk_at "subscriptTail Name Constant ref int") => `(tactic| (k_here; (with_reducible show wpAny _ _ (subscriptTail _ _ (Value.ref _) (Value.int _ _)) _ _ _); k_dflt (refine' item_tupleT ?t ?a ?b ?c ?d ?_; (case t => exact News.isTup (by k_asm) (by first | exact List.Mem.head _ | (with_reducible k_mem))); (case a => decide); (case b => decide); (case c => rfl); (case d => rfl); k_whole)))
section
local macro_rules | `(tactic| walk_at "call ref") => `(tactic| (k_here; (show wpAny _ _ (call (Value.ref 478) _) _ _ _); (refine Mine.hold ?_)))
namespace Mine
theorem read_br (w : World) (n : Nat) (hn : n ≤ 8) (H : ReadSeq w n) (ws : Ways) (star : Bool) (x : Str) (t ta : Tok) (pre post : List Nat) (I : Int) (hok : ws.ok) (hdep : ws.dep ≤ n) (hx : cds x = pre ++ (40 :: (cds ws.show ++ (41 :: ((if star then [42] else []) ++ post))))) (hpost : StopE post) (hlen : x.length ≤ 10000000) (hI : I = (pre.length : Int)) :
    Calls w (dR (n + 1)) (uR (n + 1)) (.ref 492) [.str x t, .int I ta] [] (fun _ => True) (fun _ _ tl r => ∃ T v t2, r = .ref T ∧ (T, tupOf [v, .int ((pre.length + (cds ws.show).length + 2 + (if star then 1 else 0) : Nat) : Int) t2]) ∈ tl ∧ (if star then El.st ws else El.br ws).In tl v) := by
  have hd1 : dR (n + 1) = 40 * n + 50 := by unfold dR; omega
  have hu1 : uR (n + 1) = 300 * n + 400 := by unfold uR; omega
  rw [hd1, hu1]
  unfold Calls
  w_top off
  k_fill
  intro p loose mean mg mb dp un gd cn cs a ccd cl outer A₀ base h₀ L m news s Q E B F X TG N T hcs hd hu hoff hpre hret
  have hcode := TG.t1
  simp only [List.nil_append] at N
  refine wpAny_call ?_
  k_dflt (refine' code_def (binds := [("text", .str x t), ("at", .int I ta)]) B F X N T ?kA ?kF ?kK ?k6 ?k7 ?k8 ?k9 ?kB ?_ ?c2 ?c3 ?c4 ?c5)
  walk_at "enter"
  intro g' L' h' FG' F' N' B' X' T'
  have TG' := TG.keeps FG'.keep
  have hcode' := TG'.t1
  walk_at "begin"
  have c0 : Cut 0 x pre.length 1 "(" := cut_mk 0 1 hx rfl
  k_steps
  unfold Hold
  have hx1 : cds x = (pre ++ [40]) ++ (cds ws.show ++ (41 :: ((if star then [42] else []) ++ post))) := by rw [hx, List.append_assoc]; rfl
  refine Mine.Calls.use0 (H ws x t _ (pre ++ [40]) (41 :: ((if star then [42] else []) ++ post)) _ hok hdep hx1 (fun c r e => by cases e; rfl) hlen ?hI2) (by k_asm) (by k_asm) (by k_asm) (by walk_at "tabs") (by k_asm) (by k_asm) rfl ?room ?units trivial ?_
  case hI2 => rw [List.length_append, List.length_singleton, hI]; rfl
  case room => unfold dR; k_room
  case units => unfold uR; k_units
  rintro _ tl2 h2 tk2 F2 N2 ap2 ⟨T2, l2, t2, rfl, m1, m2⟩
  have hlp : (pre ++ [40]).length = pre.length + 1 := by rw [List.length_append]; rfl
  rw [hlp] at m1
  cases star with
  | false =>
    have hx2 : cds x = (pre ++ 40 :: (cds ws.show ++ [41])) ++ post := by rw [hx]; simp
    obtain ⟨y, hy, hy1, -⟩ := cut_stop 1 hx2 hpost
    have hpl : (pre ++ 40 :: (cds ws.show ++ [41])).length = pre.length + (cds ws.show).length + 2 := by simp; omega
    rw [hpl] at hy
    k_steps
    rename_i kF kN Tc kX
    have e : (((pre.length + 1 + (cds ws.show).length : Nat) : Int)) + 1 = ((pre.length + (cds ws.show).length + 2 + (if false = true then 1 else 0) : Nat) : Int) := by simp only [Bool.false_eq_true, if_false]; omega
    rw [e] at kN
    obtain ⟨T9, hT9, kN9⟩ := Mine.led_two kN
    subst hT9
    refine hret _ [] _ _ _ kF kN9 ?ord rfl ⟨_, _, _, rfl, .head _, ?inn⟩
    case ord =>
      clear kF kN kN9 hret
      show ∀ p ∈ (_ : Mine.Led), Mine.Ap p.1 news
      simp only [Mine.allLt_append, AllLt] at *
      walk_at "ord"
    case inn => exact ⟨_, _, l2, rfl, .tail _ (.head _), Ways.In.mono (fun q hq => .tail _ (.tail _ hq)) _ _ m2⟩
  | true =>
    have hx2 : cds x = (pre ++ 40 :: (cds ws.show ++ [41])) ++ (42 :: post) := by rw [hx]; simp
    have hpl : (pre ++ 40 :: (cds ws.show ++ [41])).length = pre.length + (cds ws.show).length + 2 := by simp; omega
    have hy := cut_mk 1 1 hx2 (y := "*") rfl
    rw [hpl] at hy
    k_steps
    rename_i kF kN Tc kX
    have e : (((pre.length + 1 + (cds ws.show).length : Nat) : Int)) + 1 + 1 = ((pre.length + (cds ws.show).length + 2 + (if true = true then 1 else 0) : Nat) : Int) := by simp only [if_true]; omega
    rw [e] at kN
    obtain ⟨T9, hT9, kN9⟩ := Mine.led_three kN
    subst hT9
    refine hret _ [] _ _ _ kF kN9 ?ord rfl ⟨_, _, _, rfl, .head _, ?inn⟩
    case ord =>
      clear kF kN kN9 hret
      show ∀ p ∈ (_ : Mine.Led), Mine.Ap p.1 news
      simp only [Mine.allLt_append, AllLt] at *
      walk_at "ord"
    case inn => exact ⟨_, _, l2, rfl, .tail _ (.head _), Ways.In.mono (fun q hq => .tail _ (.tail _ (.tail _ hq))) _ _ m2⟩
end Mine
end
section
namespace Mine
def TurnM (h₀ : Heap) (L : Addr) (s : Shared) (M : (Nat → Tok) → Str → Option Value) (news : Led) (f : Flow) (s₃ : Shared) : Prop :=
  match f with
  | .next => ∃ h' tk T, s₃ = { s with heap := h', toks := tk } ∧ Fr h₀ L h' (M T) ∧ News h₀ L h' news
  | _ => False
theorem While_cnt {prog : Program} {w : World} {A : Around} {E : Value → Shared → Prop} {Q : Flow → Shared → Prop} {s : Shared} {env : Env} {h₀ : Heap} {L : Addr} {test : PySem.Expr} {body : List Stmt} {pos : Pos} {m : Str → Option Value} {news : Led}
    (M : Nat → (Nat → Tok) → Str → Option Value) (len : Nat) (T0 : Nat → Tok) (F : Fr h₀ L s.heap m) (N : News h₀ L s.heap news) (e0 : m = M 0 T0)
    (step : ∀ j T h₁ tk₁, j < len → Fr h₀ L h₁ (M j T) → News h₀ L h₁ news →
      wpAny (model prog w) A (isTrue test env (eval test env)) (fun b s₂ => if b = true then wpAny (model prog w) A (execs body env) (TurnM h₀ L s (M (j + 1)) news) E s₂ else False) E { s with heap := h₁, toks := tk₁ })
    (last : ∀ T h₁ tk₁, Fr h₀ L h₁ (M len T) → News h₀ L h₁ news →
      wpAny (model prog w) A (isTrue test env (eval test env)) (fun b s₂ => if b = true then False else Q .next s₂) E { s with heap := h₁, toks := tk₁ })
    (hE : PassesOwn (model prog w) A env E := by passes_own) :
    wpAny (model prog w) A (exec (.While test body [] pos) env) Q E s := by
  refine While_inv2 (n₀ := len) (fun n m₁ n₁ => n₁ = news ∧ n ≤ len ∧ ∃ T, m₁ = M (len - n) T) F N ⟨rfl, Nat.le_refl _, T0, by rw [Nat.sub_self]; exact e0⟩ ?_ hE
  rintro n m₁ news₁ h₁ tk₁ F1 N1 ⟨rfl, hn, T, rfl⟩
  cases n with
  | zero =>
    refine wpAny_mono (last T h₁ tk₁ F1 N1) (fun b s₂ hb => ?_) (fun _ _ h => h)
    cases b with
    | true => exact absurd hb (by simp)
    | false => simpa using hb
  | succ n =>
    refine wpAny_mono (step (len - (n + 1)) T h₁ tk₁ (by omega) F1 N1) (fun b s₂ hb => ?_) (fun _ _ h => h)
    cases b with
    | false => exact absurd hb (by simp)
    | true =>
      simp only [if_true] at hb ⊢
      refine wpAny_mono hb (fun f s₃ h₃ => ?_) (fun _ _ h => h)
      cases f with
      | next =>
        obtain ⟨h', tk, T', rfl, F2, N2⟩ := h₃
        exact ⟨h', tk, _, _, n, rfl, F2, N2, Nat.lt_succ_self n, rfl, by omega, T', by rw [show len - (n + 1) + 1 = len - n by omega]⟩
      | _ => exact absurd h₃ id
def TurnU (h₀ : Heap) (L : Addr) (s : Shared) (x : Str) (z : Int) (base : Str → Option Value) (news : Led) (f : Flow) (s₃ : Shared) : Prop :=
  match f with
  | .next => ∃ h' tk t, s₃ = { s with heap := h', toks := tk } ∧ Fr h₀ L h' (fun y => if y = x then some (.int z t) else base y) ∧ News h₀ L h' news
  | _ => False
theorem While_up {prog : Program} {w : World} {A : Around} {E : Value → Shared → Prop} {Q : Flow → Shared → Prop} {s : Shared} {env : Env} {h₀ : Heap} {L : Addr} {test : PySem.Expr} {body : List Stmt} {pos : Pos} {news : Led}
    {x : Str} {z : Int} {t : Tok} {base : Str → Option Value} (len : Nat) (F : Fr h₀ L s.heap (fun y => if y = x then some (.int z t) else base y)) (N : News h₀ L s.heap news)
    (step : ∀ (j : Nat) t h₁ tk₁, j < len → Fr h₀ L h₁ (fun y => if y = x then some (.int (z + (j : Int)) t) else base y) → News h₀ L h₁ news →
      wpAny (model prog w) A (isTrue test env (eval test env)) (fun b s₂ => if b = true then wpAny (model prog w) A (execs body env) (TurnU h₀ L s x (z + (j : Int) + 1) base news) E s₂ else False) E { s with heap := h₁, toks := tk₁ })
    (last : ∀ t h₁ tk₁, Fr h₀ L h₁ (fun y => if y = x then some (.int (z + (len : Int)) t) else base y) → News h₀ L h₁ news →
      wpAny (model prog w) A (isTrue test env (eval test env)) (fun b s₂ => if b = true then False else Q .next s₂) E { s with heap := h₁, toks := tk₁ })
    (hE : PassesOwn (model prog w) A env E := by passes_own) :
    wpAny (model prog w) A (exec (.While test body [] pos) env) Q E s := by
  refine While_cnt (fun j T y => if y = x then some (.int (z + (j : Int)) (T 0)) else base y) len (fun _ => t) F N (by simp only [Int.ofNat_zero, Int.add_zero]) (fun j T h₁ tk₁ hj F1 N1 => ?_) (fun T h₁ tk₁ F1 N1 => last (T 0) h₁ tk₁ F1 N1) hE
  refine wpAny_mono (step j (T 0) h₁ tk₁ hj F1 N1) (fun b s₂ hb => ?_) (fun _ _ h => h)
  cases b with
  | false => exact absurd hb (by simp)
  | true =>
    simp only [if_true] at hb ⊢
    refine wpAny_mono hb (fun f s₃ h₃ => ?_) (fun _ _ h => h)
    cases f with
    | next =>
      obtain ⟨h', tk, t', rfl, F2, N2⟩ := h₃
      exact ⟨h', tk, fun _ => t', rfl, by rw [show z + ((j + 1 : Nat) : Int) = z + (j : Int) + 1 by omega]; exact F2, N2⟩
    | _ => exact absurd h₃ id
theorem no_any {a b y : Str} (h1 : y ≠ a) (h2 : y ≠ b) {p : Prop} (h : (![a, b].any fun x => x == y) = false) : p := by
  have e1 : (a == y) = false := by simp [Ne.symm h1]
  have e2 : (b == y) = false := by simp [Ne.symm h2]
  rw [List.any_cons, List.any_cons, List.any_nil, e1, e2] at h
  exact absurd h (by decide)
theorem yes_any {a b y : Str} (h2 : y = b) {p : Prop} (h : (![a, b].any fun x => x == y) = true) : p := by
  have e2 : (b == y) = true := by simp [h2]
  rw [List.any_cons, List.any_cons, List.any_nil, e2] at h
  exact absurd h (by cases (a == y) <;> decide)
theorem one_ne {c d : Nat} (h : c ≠ d) : one c ≠ ⟨#[d]⟩ := by
  intro e
  unfold one at e
  simp only [Str.mk.injEq] at e
  exact h (by simpa using e)
theorem one_ne0 {c : Nat} : one c ≠ ⟨#[]⟩ := by
  intro e
  unfold one at e
  simp only [Str.mk.injEq] at e
  exact absurd (congrArg Array.size e) (by simp)
theorem turnU_mk {h₀ h' : Heap} {L : Addr} {s : Shared} {x : Str} {z : Int} {t : Tok} {base : Str → Option Value} {v : Option Value} {news all : Led} {tk : Nat} (F : Fr h₀ L h' (fun y => if y = x then some (.int z t) else if y = x then v else base y)) (N : News h₀ L h' all) (sub : ∀ p ∈ news, p ∈ all) : TurnU h₀ L s x z base news .next { s with heap := h', toks := tk } := by
  refine ⟨h', tk, t, rfl, ?_, fun p hp => N p (sub p hp)⟩
  have e : (fun y => if y = x then some (Value.int z t) else if y = x then v else base y) = (fun y => if y = x then some (Value.int z t) else base y) := by
    funext y; by_cases h : y = x
    · rw [if_pos h, if_pos h]
    · rw [if_neg h, if_neg h, if_neg h]
  rw [← e]; exact F
end Mine
end
section
local macro_rules | `(tactic| walk_at "exec While") => `(tactic| (refine Mine.hold ?_))
local macro_rules | `(tactic| walk_at "exec While Compare") => `(tactic| (refine Mine.hold ?_))
local macro_rules | `(tactic| walk_at "exec While Compare cons nil") => `(tactic| (refine Mine.hold ?_))
local macro_rules | `(tactic| walk_at "exec While BoolOp") => `(tactic| (refine Mine.hold ?_))
namespace Mine
theorem kinds_no41 : ∀ k ∈ KINDS, ∀ c ∈ cds k, c ≠ 41 := by decide
theorem read_par (w : World) (n : Nat) (k : Str) (x : Str) (t ta : Tok) (pre post : List Nat) (I : Int) (hk : k ∈ KINDS) (hx : cds x = pre ++ (cds (El.par k).show ++ post)) (hpost : StopE post) (hlen : x.length ≤ 10000000) (hI : I = (pre.length : Int)) :
    Calls w (dR n) (uR n) (.ref 492) [.str x t, .int I ta] [] (fun _ => True) (fun _ _ tl r => ∃ T v t2, r = .ref T ∧ (T, tupOf [v, .int ((pre.length + (cds (El.par k).show).length : Nat) : Int) t2]) ∈ tl ∧ (El.par k).In tl v) := by
  have hd1 : 10 ≤ dR n := by unfold dR; omega
  have hu1 : 100 ≤ uR n := by unfold uR; omega
  unfold Calls
  w_top off
  k_fill
  intro p loose mean mg mb dp un gd cn cs a ccd cl outer A₀ base h₀ L m news s Q E B F X TG N T hcs hd hu hoff hpre hret
  have hcode := TG.t1
  simp only [List.nil_append] at N
  have hsh : cds (El.par k).show = [112, 97, 114, 101, 110, 116, 40] ++ (cds k ++ [41]) := by
    show ((Str.ofString "parent(").cps ++ k.cps ++ (Str.ofString ")").cps).toList = _
    rw [Array.toList_append, Array.toList_append, List.append_assoc]; rfl
  rw [hsh] at hx
  refine wpAny_call ?_
  k_dflt (refine' code_def (binds := [("text", .str x t), ("at", .int I ta)]) B F X N T ?kA ?kF ?kK ?k6 ?k7 ?k8 ?k9 ?kB ?_ ?c2 ?c3 ?c4 ?c5)
  walk_at "enter"
  intro g' L' h' FG' F' N' B' X' T'
  have TG' := TG.keeps FG'.keep
  have hcode' := TG'.t1
  walk_at "begin"
  have c0 : Cut 0 x pre.length 1 "p" := cut_mk 0 1 hx rfl
  have c1 : Cut 1 x pre.length 7 "parent(" := cut_mk 1 7 hx rfl
  k_steps
  unfold Hold
  rename_i kF kN
  have hlen7 : (pre ++ [112, 97, 114, 101, 110, 116, 40]).length = pre.length + 7 := by rw [List.length_append]; rfl
  refine Mine.While_up (cds k).length kF kN ?step ?last
  case step =>
    intro j t1 h1 tk1 hj F1 N1
    clear kF kN
    obtain ⟨c, hc, hx2⟩ : ∃ c ∈ cds k, ∃ r, cds x = ((pre ++ [112, 97, 114, 101, 110, 116, 40]) ++ (cds k).take j) ++ (c :: r) := ⟨(cds k)[j], List.getElem_mem hj, (cds k).drop (j + 1) ++ ([41] ++ post), by
      rw [hx]; simp only [List.append_assoc]
      conv => lhs; rw [← List.take_append_drop j (cds k), List.drop_eq_getElem_cons hj]
      simp⟩
    obtain ⟨r, hx2⟩ := hx2
    have c2 : Cut 2 x (pre.length + 7 + j) 1 (one c) := by
      have := cut_mk 2 1 hx2 (y := one c) rfl
      rwa [List.length_append, hlen7, List.length_take, Nat.min_eq_left (Nat.le_of_lt hj)] at this
    have hne1 : one c ≠ Str.ofString ")" := one_ne (kinds_no41 k hk c hc)
    have hne0 : one c ≠ Str.ofString "" := one_ne0
    k_steps
    · rename_i kF kN
      exact Mine.turnU_mk kF kN (fun p hp => List.Mem.tail _ hp)
    · exact Mine.no_any hne0 hne1 (by assumption)
  case last =>
    intro t1 h1 tk1 F1 N1
    clear kF kN
    have hx2 : cds x = ((pre ++ [112, 97, 114, 101, 110, 116, 40]) ++ cds k) ++ (41 :: post) := by
      rw [hx]; simp only [List.append_assoc]; rfl
    have hpl : ((pre ++ [112, 97, 114, 101, 110, 116, 40]) ++ cds k).length = pre.length + 7 + (cds k).length := by rw [List.length_append, hlen7]
    have c2 : Cut 2 x (pre.length + 7 + (cds k).length) 1 ")" := by
      have := cut_mk 2 1 hx2 (y := ")") rfl
      rwa [hpl] at this
    have c3 : Cut 3 x (pre.length + 7) (cds k).length k := by
      have h3 : cds x = (pre ++ [112, 97, 114, 101, 110, 116, 40]) ++ (cds k ++ 41 :: post) := by rw [hx2, List.append_assoc]
      have := cut_mk 3 (cds k).length h3 (y := k) (by rw [List.take_left])
      rwa [hlen7] at this
    have hx4 : cds x = (((pre ++ [112, 97, 114, 101, 110, 116, 40]) ++ cds k) ++ [41]) ++ post := by rw [hx2]; simp
    obtain ⟨y, hy, hy1, -⟩ := cut_stop 0 hx4 hpost
    have hpl4 : (((pre ++ [112, 97, 114, 101, 110, 116, 40]) ++ cds k) ++ [41]).length = pre.length + 7 + (cds k).length + 1 := by rw [List.length_append, hpl]; rfl
    rw [hpl4] at hy
    clear c0
    k_steps
    all_goals first | exact Mine.yes_any rfl (by assumption) | skip
    rename_i kF kN Tc kX
    have e : (I + 7 + ((cds k).length : Int) + 1) = ((pre.length + (cds (El.par k).show).length : Nat) : Int) := by rw [hsh, List.length_append, List.length_append]; simp only [List.length_cons, List.length_nil]; omega
    rw [e] at kN
    obtain ⟨T9, hT9, kN9⟩ := Mine.led_three (n := news) (tl := []) kN
    subst hT9
    refine hret _ [] _ _ _ kF kN9 ?ord rfl ⟨_, _, _, rfl, .head _, ?inn⟩
    case ord =>
      clear kF kN kN9 hret
      show ∀ p ∈ (_ : Mine.Led), Mine.Ap p.1 news
      simp only [Mine.allLt_append, AllLt] at *
      walk_at "ord"
    case inn => exact ⟨_, _, _, rfl, .tail _ (.head _)⟩
end Mine
end
section
namespace Mine
theorem words_ch : ∀ k ∈ WORDS, ∀ c ∈ cds k, c = 95 ∨ Txt.isalnum (one c) = true := by decide +kernel
theorem words_first : ∀ k ∈ WORDS, ∃ c ∈ cds k, c ≠ 40 ∧ c ≠ 39 ∧ c ≠ 126 ∧ (cds k).take 1 = [c] := by decide
theorem words_head (k : Str) (hk : k ∈ WORDS) : ∃ c r, cds k = c :: r ∧ c ≠ 40 ∧ c ≠ 39 ∧ c ≠ 126 := by
  obtain ⟨c, -, h1, h2, h3, h4⟩ := words_first k hk
  cases e : cds k with
  | nil => rw [e] at h4; exact absurd h4 (by simp)
  | cons d r =>
    rw [e] at h4
    have : d = c := by simpa using h4
    subst this
    exact ⟨d, r, rfl, h1, h2, h3⟩
theorem words_7 (k : Str) (hk : k ∈ WORDS) (post : List Nat) (hp : StopE post) : (⟨((cds k ++ post).take 7).toArray⟩ : Str) ≠ Str.ofString "parent(" := by
  intro e
  have e2 : (cds k ++ post).take 7 = [112, 97, 114, 101, 110, 116, 40] := congrArg (fun s : Str => s.cps.toList) e
  have hk' : k = "a" ∨ k = "bc" ∨ k = "x_1" ∨ k = "parent" := by
    simpa [WORDS] using hk
  rcases hk' with rfl | rfl | rfl | rfl
  · exact absurd (congrArg (fun l => l.take 1) e2) (show ¬ ([97] = [112]) by decide)
  · exact absurd (congrArg (fun l => l.take 1) e2) (show ¬ ([98] = [112]) by decide)
  · exact absurd (congrArg (fun l => l.take 1) e2) (show ¬ ([120] = [112]) by decide)
  · cases post with
    | nil => exact absurd (congrArg List.length e2) (by decide)
    | cons c r =>
      have hc : c = 40 := by
        have h6 : [c] = [40] := congrArg (fun l => l.drop 6) e2
        simpa using h6
      rcases hp c r rfl with h | h | h <;> omega
theorem stop_alnum {y : Str} (h : y = "" ∨ y = "." ∨ y = "," ∨ y = ")") : Txt.isalnum y = false ∧ y ≠ Str.ofString "_" := by
  rcases h with rfl | rfl | rfl | rfl <;> exact ⟨by decide +kernel, by decide⟩
theorem cut_at (s : Nat) {x : Str} {pre l post : List Nat} (h : cds x = pre ++ (l ++ post)) (j : Nat) (hj : j < l.length) : ∃ c ∈ l, Cut s x (pre.length + j) 1 (one c) := by
  refine ⟨l[j], List.getElem_mem hj, ?_⟩
  have h2 : cds x = (pre ++ l.take j) ++ (l[j] :: (l.drop (j + 1) ++ post)) := by
    have hl : l = l.take j ++ l[j] :: l.drop (j + 1) := by rw [← List.drop_eq_getElem_cons hj, List.take_append_drop]
    have h3 : l ++ post = (l.take j ++ l[j] :: l.drop (j + 1)) ++ post := by rw [← hl]
    rw [h, h3, List.append_assoc pre, List.append_assoc (l.take j)]; rfl
  have := cut_mk s 1 h2 (y := one l[j]) rfl
  rwa [List.length_append, List.length_take, Nat.min_eq_left (Nat.le_of_lt hj)] at this
theorem usc_alnum : Txt.isalnum (Str.ofString "_") = false := by decide +kernel
theorem ne_par7 (c : Nat) (l : List Nat) (h : c ≠ 112) : (⟨((c :: l).take 7).toArray⟩ : Str) ≠ Str.ofString "parent(" := by
  intro e
  have e2 : (c :: l).take 7 = [112, 97, 114, 101, 110, 116, 40] := congrArg (fun s : Str => s.cps.toList) e
  have h6 : [c] = [112] := congrArg (fun l => l.take 1) e2
  exact h (by simpa using h6)
theorem fixed_no39 : ∀ k ∈ FIXED, ∀ c ∈ cds k, c ≠ 39 := by decide
end Mine
end
end
section
local macro_rules | `(tactic| k_all) => `(tactic| assumption)
local macro_rules | `(tactic| k_mem) => `(tactic| first
  | with_reducible assumption
  | exact List.Mem.head _
  | ((with_reducible refine List.mem_cons_of_mem _ ?_); k_mem)
  | ((with_reducible refine List.mem_append.mpr (Or.inr ?_)); k_mem)
  | ((with_reducible refine List.mem_append.mpr (Or.inl ?_)); k_mem))
local macro_rules | `(tactic| k_room) => `(tactic| ((try simp only [depth_under_make, depth_under_kw, depth_in1, depth_deeper, depth_caller]); (try dsimp only); omega))
local macro_rules | `(tactic| k_units) => `(tactic| ((try simp only [units_under_make, units_in1, units_deeper, Around.mark_units, units_caller]); (try dsimp only); omega))
local macro_rules | `(tactic| walk_at "subscriptTail") => `(tactic| (k_here; (with_reducible show wpAny _ _ (subscriptTail _ _ (Value.ref _) (Value.int _ _)) _ _ _); k_dflt ((show wpAny _ _ (subscriptTail _ _ (Value.ref 433) (Value.int _ _)) _ _ _); refine' Mine.menu_K Mine.IsWord ?F ?X ?l ?a ?b ?f ?c ?_ ?hs; (case hs => with_unfolding_all rfl); (case F => k_asm); (case X => k_asm); (case l => k_is); (case a => omega); (case b => exact Int.lt_of_lt_of_le (by assumption) (by decide)); (case f => decide); (case c => exact List.forall_mem_cons.mpr ⟨⟨_, _, rfl, by decide⟩, List.forall_mem_cons.mpr ⟨⟨_, _, rfl, by decide⟩, List.forall_mem_cons.mpr ⟨⟨_, _, rfl, by decide⟩, List.forall_mem_cons.mpr ⟨⟨_, _, rfl, by decide⟩, List.forall_mem_nil _⟩⟩⟩⟩); rintro _ ⟨wd', wt', hx', hw'⟩; subst hx')))
local macro_rules | `(tactic| walk_at "subscriptTail") => `(tactic| (k_here; (with_reducible show wpAny _ _ (subscriptTail _ _ (Value.ref _) (Value.int _ _)) _ _ _); k_dflt ((show wpAny _ _ (subscriptTail _ _ (Value.ref 434) (Value.int _ _)) _ _ _); refine' Mine.menu_K Mine.IsFixed ?F ?X ?l ?a ?b ?f ?c ?_ ?hs; (case hs => with_unfolding_all rfl); (case F => k_asm); (case X => k_asm); (case l => k_is); (case a => omega); (case b => exact Int.lt_of_lt_of_le (by assumption) (by decide)); (case f => decide); (case c => exact List.forall_mem_cons.mpr ⟨⟨_, _, rfl, by decide⟩, List.forall_mem_cons.mpr ⟨⟨_, _, rfl, by decide⟩, List.forall_mem_cons.mpr ⟨⟨_, _, rfl, by decide⟩, List.forall_mem_cons.mpr ⟨⟨_, _, rfl, by decide⟩, List.forall_mem_nil _⟩⟩⟩⟩); rintro _ ⟨wd', wt', hx', hw'⟩; subst hx')))
local macro_rules | `(tactic| walk_at "subscriptTail") => `(tactic| (k_here; (with_reducible show wpAny _ _ (subscriptTail _ _ (Value.ref _) (Value.int _ _)) _ _ _); k_dflt ((show wpAny _ _ (subscriptTail _ _ (Value.ref 435) (Value.int _ _)) _ _ _); refine' Mine.menu_K Mine.IsKind ?F ?X ?l ?a ?b ?f ?c ?_ ?hs; (case hs => with_unfolding_all rfl); (case F => k_asm); (case X => k_asm); (case l => k_is); (case a => omega); (case b => exact Int.lt_of_lt_of_le (by assumption) (by decide)); (case f => decide); (case c => exact List.forall_mem_cons.mpr ⟨⟨_, _, rfl, by decide⟩, List.forall_mem_cons.mpr ⟨⟨_, _, rfl, by decide⟩, List.forall_mem_nil _⟩⟩); rintro _ ⟨wd', wt', hx', hw'⟩; subst hx')))
local macro_rules | `(tactic| walk_at "enter") => `(tactic| ((case kA => exact rfl); (case kF => exact rfl); (case kK => first | exact rfl | assumption); (case k6 => k_is); (case k7 => k_is); (case k8 => k_room); (case k9 => exact BindsTo.of_eq rfl); (case c5 => decide); (case kB => exact locs rfl); (case c2 => exact rfl); (case c3 => exact rfl); (case c4 => exact rfl); k_whole))
local macro_rules | `(tactic| walk_at "begin") => `(tactic| ((try dsimp only); (try k_unmd); (try k_fold)))
local macro_rules | `(tactic| walk_at "enterC") => `(tactic| ((case kA => exact rfl); (case kF => exact rfl); (case kK => first | exact rfl | assumption); (case k6 => k_is); (case k7 => k_is); (case k8 => k_room); (case k9 => exact BindsTo.of_eq rfl); (case kB => exact rfl); (case kD => decide +kernel); (case c2 => exact rfl); (case c3 => exact rfl); (case c4 => exact rfl); k_whole))
local macro_rules | `(tactic| walk_at "ite") => `(tactic| first | (exfalso; omega) | (with_reducible refine Mine.if_pos' (by first | omega | decide | (simp only [beq_iff_eq, bne_iff_ne, ne_eq, decide_eq_true_eq, not_true_eq_false, not_false_eq_true]; done) | (simp only [beq_iff_eq, bne_iff_ne, ne_eq, decide_eq_true_eq]; omega)) ?_) | (with_reducible refine Mine.if_neg' (by first | omega | decide | (simp only [beq_iff_eq, bne_iff_ne, ne_eq, decide_eq_true_eq, not_true_eq_false, not_false_eq_true]; done) | (simp only [beq_iff_eq, bne_iff_ne, ne_eq, decide_eq_true_eq]; omega)) ?_) | ((with_reducible refine Mine.if_both ?_ ?_) <;> (intro hc'; (try simp only [beq_iff_eq, bne_iff_ne, ne_eq, decide_eq_true_eq, Bool.not_eq_true, beq_eq_false_iff_ne, bne_eq_false_iff_eq, decide_eq_false_iff_not, Decidable.not_not] at hc'))))
local macro_rules | `(tactic| walk_at "wpAt") => `(tactic| (ks_step "exec Expr"; k_dflt (refine ks_wpAt_Expr_any ?_)))
local macro_rules | `(tactic| walk_at "wpAt") => `(tactic| (ks_step "eval Call"; k_dflt (refine ks_wpAt_MethodCall ?_)))
local macro_rules | `(tactic| walk_at "callWith ref") => `(tactic| (k_here; k_dflt (first
  | ((with_reducible refine' callWith_K0 ?k1 ?k2 ?_); (case k1 => exact Frag.In.keeps (by with_reducible assumption) (Fr.keep (by with_reducible assumption))); (case k2 => k_is); k_whole)
  | ((with_reducible refine' callWith_K ?k1 ?k2 ?_ ?k3 ?k4); (case k3 => exact rfl); (case k4 => exact rfl); (case k1 => with_reducible assumption); (case k2 => k_is); k_whole))))
local macro_rules | `(tactic| walk_at "eval Name") => `(tactic| (k_here; k_dflt (first
  | ((with_reducible refine' Mine.nameO_L ?F ?v ?_ ?a ?b ?d); (case b => rfl); (case F => k_asm); (case a => rfl); (case d => decide); (case v => rfl); k_whole)
  | ((with_reducible refine' Mine.nameO_K ?F ?X ?T ?e ?_ ?a ?b ?d); (case b => rfl); (case F => k_asm); (case X => k_asm); (case T => k_asm); (case a => rfl); (case d => decide); (case e => k_is); k_whole)
  | ((with_reducible refine' Mine.nameO_B ?F ?X ?T ?e ?v ?n ?_ ?a ?b ?d); (case b => rfl); (case F => k_asm); (case X => k_asm); (case T => k_asm); (case a => rfl); (case d => decide); (case e => k_is); (case v => boot_fast); (case n => decide); k_whole)
  | ((with_reducible refine' nameX_L ?F ?v ?_ ?a ?b); (case b => rfl); (case F => k_asm); (case a => rfl); (case v => rfl); k_whole)
  | ((with_reducible refine' nameX_K ?F ?X ?T ?e ?_ ?a ?b); (case b => rfl); (case F => k_asm); (case X => k_asm); (case T => k_asm); (case a => rfl); (case e => k_is); k_whole)
  | ((with_reducible refine' nameX_B ?F ?X ?T ?e ?v ?n ?_ ?a ?b); (case b => rfl); (case F => k_asm); (case X => k_asm); (case T => k_asm); (case a => rfl); (case e => k_is); (case v => boot_fast); (case n => decide); k_whole))))
local macro_rules | `(tactic| walk_at "ap") => `(tactic| first
  | exact List.forall_mem_nil _
  | assumption
  | exact Mine.allLt_ne (by tbn_find)
  | exact Mine.ap_lt (by assumption)
  | exact Mine.ap_lt2 (by assumption) (by assumption)
  | exact Mine.ap_lt2 (by assumption) (Mine.allLt_mem (by tbn_find))
  | exact Mine.ap_memLt (by assumption) (by intro q9 h9; k_mem)
  | exact Mine.off1_mem (by first | assumption | exact And.left (by assumption) | exact And.right (by assumption))
  | ((refine List.forall_mem_cons.mpr ⟨?_, ?_⟩); (focus (try dsimp only); first | assumption | k_ne | exact Ne.symm (by assumption) | exact Mine.ne_lt2 (by assumption) (by tbn_find) | exact Ne.symm (Mine.ne_memLt (by assumption) (by k_mem))); walk_at "ap")
  | ((refine List.forall_mem_append.mpr ⟨?_, ?_⟩) <;> walk_at "ap")
  | fail "ap: no order")
local macro_rules | `(tactic| walk_at "ord") => `(tactic| first
  | exact List.forall_mem_nil _
  | assumption
  | ((refine List.forall_mem_cons.mpr ⟨?_, ?_⟩); (focus walk_at "ap"); walk_at "ord")
  | exact Mine.aps (by assumption) (by intro q9 h9; k_mem)
  | exact Mine.aps2 (by assumption) (by k_mem) (by intro q9 h9; k_mem)
  | ((refine List.forall_mem_append.mpr ⟨?_, ?_⟩) <;> walk_at "ord")
  | fail "ord")
local macro_rules | `(tactic| walk_at "sub") => `(tactic| (intro q9 h9; simp only [List.mem_append, List.mem_cons, List.not_mem_nil, or_false, false_or, List.nil_append, List.cons_append] at h9 ⊢; first | exact h9 | grind))
local macro_rules | `(tactic| walk_at "eval ListComp") => `(tactic| (k_here; k_dflt (refine LCg.ListComp_U (F₀ := by k_asm) (by with_unfolding_all rfl) (by decide) (by rfl) (by decide) (by rfl) ?_)))
local macro_rules | `(tactic| walk_at "CompSrc") => `(tactic| (k_here; k_dflt (first
  | (refine LCg.CompSrc.ledger (by rfl) (by k_asm) (by k_asm) (by k_mem) (by first | size_fits | exact Nat.le_of_ble_eq_true rfl) ?_; intro g'; lcg_lit)
  | (refine LCg.CompSrc.range (by rfl) (by k_asm) (by k_asm) (by assumption) (by first | decide | rfl) (by first | rfl | decide) (by first | size_fits | exact Nat.le_of_ble_eq_true rfl) ?_; intro g'; lcg_lit))))
local macro_rules | `(tactic| walk_at "compareOp Eq ref ref") => `(tactic| (k_here; k_dflt ((first | (with_reducible refine' Mine.up_eq ?N ?he ?ok ?dp ?m1 ?m2 ?m3 ?m4 ?hu ?_) | (refine' Mine.up_eq ?N ?he ?ok ?dp ?m1 ?m2 ?m3 ?m4 ?hu ?_)); (case N => k_asm); (case he => (refine Mine.El.In.mono ?hs9 _ _ (by assumption); (case hs9 => (intro q9 h9; k_mem)))); (case ok => first | assumption | exact Or.inr (by assumption)); (case dp => omega); (case m1 => k_mem); (case m2 => k_mem); (case m3 => k_mem); (case m4 => k_mem); (case hu => k_units); k_whole)))
local macro_rules | `(tactic| walk_at "call ref") => `(tactic| (k_here; (show wpAny _ _ (call (Value.ref 466) _) _ _ _); k_dflt (first | (refine' Mine.new_turn ((by assumption : Mine.MadeSpec _ _) _ _ ?ok ?dp) ?B ?F ?X ?TG ?N ?sub ?T ?hk ?hd ?hu ?pre ?off ?hS ?_; (case B => k_asm); (case F => k_asm); (case X => k_asm); (case TG => k_asm); (case N => k_asm); (case sub => (intro q9 h9; k_mem)); (case T => k_asm); (case hk => first | exact rfl | assumption); (case pre => (refine Mine.El.In.mono ?hs9 _ _ (by assumption); (case hs9 => (intro q9 h9; k_mem)))); (case ok => first | assumption | exact Or.inr (by assumption)); (case dp => omega); (case hd => (unfold Mine.dM; k_room)); (case hu => (unfold Mine.uM; k_units)); (case off => first | assumption | (simp only [LCg.Off3, and_true]; assumption)); (case hS => exact fun _ => trivial); k_whole; (intro r' tl' ht' hoff' hp'); (try dsimp only)) | (refine Mine.hold ?_))))
local macro_rules | `(tactic| walk_at "subscriptTail") => `(tactic| (k_here; (with_reducible show wpAny _ _ (subscriptTail _ _ (Value.ref _) (Value.int _ _)) _ _ _); k_dflt (first | ((first | (with_reducible refine' Mine.item_led0 ?l ?_ ?hs) | (refine' Mine.item_led0 ?l ?_ ?hs)); (case l => exact News.isList (by k_asm) (by k_mem)); (case hs => with_unfolding_all rfl); k_whole) | ((first | (with_reducible refine' Mine.item_led1 ?l ?_ ?hs) | (refine' Mine.item_led1 ?l ?_ ?hs)); (case l => exact News.isList (by k_asm) (by k_mem)); (case hs => with_unfolding_all rfl); k_whole) | ((first | (with_reducible refine' Mine.item_led2 ?l ?_ ?hs) | (refine' Mine.item_led2 ?l ?_ ?hs)); (case l => exact News.isList (by k_asm) (by k_mem)); (case hs => with_unfolding_all rfl); k_whole))))
local macro_rules | `(tactic| walk_at "subscriptTail") => `(tactic| ((with_reducible show wpAny _ _ (subscriptTail _ _ _ (Value.int (0 + (Nat.cast _ : Int)) _)) _ _ _); k_dflt (first | refine Mine.sub_int (j := 0) (by decide) ?_ | refine Mine.sub_int (j := 1) (by decide) ?_ | refine Mine.sub_int (j := 2) (by decide) ?_)))
local macro_rules | `(tactic| walk_at "CompEnd") => `(tactic| (k_here; k_dflt (refine' Mine.compEnd_cut ?F ?N ?sub ?off ?hS ?_; (case F => k_asm); (case N => k_asm); (case sub => (intro q9 h9; k_mem)); (case off => first | assumption | (simp only [LCg.Off3, and_true]; assumption)); (case hS => trivial); k_whole)))
local macro_rules | `(tactic| walk_at "neq") => `(tactic| ((try dsimp only); first | assumption | k_ne | exact Mine.ne_allLt (by first | assumption | exact And.left (by assumption) | exact (And.right (by assumption)) | tbn_find) (by k_mem) | exact Mine.ne_memLt (by assumption) (by k_mem)))
local macro_rules | `(tactic| walk_at "tabs") => `(tactic| first | assumption | (refine Mine.TabsG.keeps ?_ (Fr.keep (by assumption)); walk_at "tabs"))
local macro_rules | `(tactic| walk_at "call ref") => `(tactic| (k_here; (show wpAny _ _ (call (Value.ref 302) _) _ _ _); k_dflt ((first | (with_reducible refine' Mine.Calls.use0 (Mine.mkSeq _ _) ?B ?F ?X ?TG ?N ?T ?hk ?hd ?hu ?pre ?_) | (refine' Mine.Calls.use0 (Mine.mkSeq _ _) ?B ?F ?X ?TG ?N ?T ?hk ?hd ?hu ?pre ?_)); (case B => k_asm); (case F => k_asm); (case X => k_asm); (case TG => walk_at "tabs"); (case N => k_asm); (case T => k_asm); (case hk => first | exact rfl | assumption); (case hd => k_room); (case hu => k_units); (case pre => exact True.intro); k_whole; (rintro _ tl' h' tk' F' N' ht' ⟨a', d', t', n', hr', m1', m2'⟩); subst hr'; (try dsimp only))))
local macro_rules | `(tactic| walk_at "call ref") => `(tactic| (k_here; (show wpAny _ _ (call (Value.ref 402) _) _ _ _); k_dflt ((first | (with_reducible refine' Mine.Calls.use0 (Mine.mkPath _ _ _ _ _) ?B ?F ?X ?TG ?N ?T ?hk ?hd ?hu ?pre ?_) | (refine' Mine.Calls.use0 (Mine.mkPath _ _ _ _ _) ?B ?F ?X ?TG ?N ?T ?hk ?hd ?hu ?pre ?_)); (case B => k_asm); (case F => k_asm); (case X => k_asm); (case TG => walk_at "tabs"); (case N => k_asm); (case T => k_asm); (case hk => first | exact rfl | assumption); (case hd => k_room); (case hu => k_units); (case pre => exact ⟨by k_mem, by first | assumption | exact ⟨_, _, _, _, _, rfl, by k_mem, by k_mem, by first | assumption | exact Mine.elCls_dots _ | exact Mine.elCls_nav _ | exact Mine.elCls_par _⟩⟩); k_whole; (rintro _ tl' h' tk' F' N' ht' ⟨a', d', t', n', hr', m1', m2'⟩); subst hr'; (try dsimp only))))
local macro_rules | `(tactic| walk_at "call ref") => `(tactic| (k_here; (show wpAny _ _ (call (Value.ref 203) _) _ _ _); k_dflt ((first | (with_reducible refine' Mine.Calls.use0 (Mine.mkBr _ _ _ _ _) ?B ?F ?X ?TG ?N ?T ?hk ?hd ?hu ?pre ?_) | (refine' Mine.Calls.use0 (Mine.mkBr _ _ _ _ _) ?B ?F ?X ?TG ?N ?T ?hk ?hd ?hu ?pre ?_)); (case B => k_asm); (case F => k_asm); (case X => k_asm); (case TG => walk_at "tabs"); (case N => k_asm); (case T => k_asm); (case hk => first | exact rfl | assumption); (case hd => k_room); (case hu => k_units); (case pre => exact ⟨by k_mem, by k_mem⟩); k_whole; (rintro _ tl' h' tk' F' N' ht' ⟨a', d', t', n', hr', m1', m2'⟩); subst hr'; (try dsimp only))))
local macro_rules | `(tactic| walk_at "call ref") => `(tactic| (k_here; (show wpAny _ _ (call (Value.ref 352) _) _ _ _); k_dflt ((first | (with_reducible refine' Mine.Calls.use0 (Mine.mkSt _ _ _ _ _) ?B ?F ?X ?TG ?N ?T ?hk ?hd ?hu ?pre ?_) | (refine' Mine.Calls.use0 (Mine.mkSt _ _ _ _ _) ?B ?F ?X ?TG ?N ?T ?hk ?hd ?hu ?pre ?_)); (case B => k_asm); (case F => k_asm); (case X => k_asm); (case TG => walk_at "tabs"); (case N => k_asm); (case T => k_asm); (case hk => first | exact rfl | assumption); (case hd => k_room); (case hu => k_units); (case pre => exact ⟨by k_mem, by k_mem⟩); k_whole; (rintro _ tl' h' tk' F' N' ht' ⟨a', d', t', n', hr', m1', m2'⟩); subst hr'; (try dsimp only))))
local macro_rules | `(tactic| walk_at "offl") => `(tactic| first
  | exact List.forall_mem_nil _
  | assumption
  | exact Mine.offl_of (by assumption) (by k_mem)
  | exact Mine.ap_lt (by assumption)
  | exact Mine.allLt_ne (by tbn_find)
  | ((refine List.forall_mem_cons.mpr ⟨?_, ?_⟩); (focus walk_at "neq"); walk_at "offl")
  | ((refine List.forall_mem_append.mpr ⟨?_, ?_⟩) <;> walk_at "offl"))
local macro_rules | `(tactic| walk_at "front") => `(tactic| (repeat first | with_reducible exact Mine.Front.nil | with_reducible apply Mine.Front.cons | with_reducible apply Mine.Front.app))
local macro_rules | `(tactic| walk_at "del") => `(tactic| (repeat first | with_reducible exact Mine.Del.head | with_reducible apply Mine.Del.cons | with_reducible apply Mine.Del.app))
local macro_rules | `(tactic| walk_at "upd") => `(tactic| first
  | (with_reducible apply Upd.head; walk_at "offl")
  | ((with_reducible apply Upd.tail); (focus walk_at "neq"); walk_at "upd")
  | ((with_reducible apply Mine.upd_app); (focus walk_at "offl"); walk_at "upd"))
local macro_rules | `(tactic| k_upd) => `(tactic| walk_at "upd")
local macro_rules | `(tactic| walk_at "subscriptTail Name Slice str ref") => `(tactic| (k_here; (with_reducible show wpAny _ _ (subscriptTail _ _ (Value.str _ _) (Value.ref _)) _ _ _); (refine Mine.hold ?_)))
local macro_rules | `(tactic| walk_at "subscriptTail Name Slice str ref") => `(tactic| (k_here; (with_reducible show wpAny _ _ (subscriptTail _ _ (Value.str _ _) (Value.ref _)) _ _ _); k_dflt (first | ((with_reducible refine' Mine.slice_cut (k := 0) (by with_reducible assumption) ?i ?j ?S ?a ?F ?N ?z ?_ ?s ?t); (case S => ((try dsimp only) <;> exact rfl)); (case i => omega); (case j => omega); (case a => ((try dsimp only) <;> exact rfl)); (case F => k_asm); (case N => k_asm); (case z => exact Nat.le_trans (by assumption) (Nat.le_of_ble_eq_true rfl)); (case s => with_unfolding_all rfl); (case t => (intro _; with_unfolding_all rfl)); k_whole) | ((with_reducible refine' Mine.slice_cut (k := 1) (by with_reducible assumption) ?i ?j ?S ?a ?F ?N ?z ?_ ?s ?t); (case S => ((try dsimp only) <;> exact rfl)); (case i => omega); (case j => omega); (case a => ((try dsimp only) <;> exact rfl)); (case F => k_asm); (case N => k_asm); (case z => exact Nat.le_trans (by assumption) (Nat.le_of_ble_eq_true rfl)); (case s => with_unfolding_all rfl); (case t => (intro _; with_unfolding_all rfl)); k_whole) | ((with_reducible refine' Mine.slice_cut (k := 2) (by with_reducible assumption) ?i ?j ?S ?a ?F ?N ?z ?_ ?s ?t); (case S => ((try dsimp only) <;> exact rfl)); (case i => omega); (case j => omega); (case a => ((try dsimp only) <;> exact rfl)); (case F => k_asm); (case N => k_asm); (case z => exact Nat.le_trans (by assumption) (Nat.le_of_ble_eq_true rfl)); (case s => with_unfolding_all rfl); (case t => (intro _; with_unfolding_all rfl)); k_whole) | ((with_reducible refine' Mine.slice_cut (k := 3) (by with_reducible assumption) ?i ?j ?S ?a ?F ?N ?z ?_ ?s ?t); (case S => ((try dsimp only) <;> exact rfl)); (case i => omega); (case j => omega); (case a => ((try dsimp only) <;> exact rfl)); (case F => k_asm); (case N => k_asm); (case z => exact Nat.le_trans (by assumption) (Nat.le_of_ble_eq_true rfl)); (case s => with_unfolding_all rfl); (case t => (intro _; with_unfolding_all rfl)); k_whole)); intro h9' t9' tk9' F' N'; (try dsimp only)))
local macro_rules | `(tactic| walk_at "ite") => `(tactic| first | (with_reducible refine Mine.if_neg' (by (simp only [beq_iff_eq, bne_iff_ne, ne_eq, decide_eq_true_eq]); assumption) ?_) | (with_reducible refine Mine.if_pos' (by (simp only [beq_iff_eq, bne_iff_ne, ne_eq, decide_eq_true_eq]); assumption) ?_))
local macro_rules | `(tactic| walk_at "subscriptTail") => `(tactic| (k_here; (with_reducible show wpAny _ _ (subscriptTail _ _ (Value.ref _) (Value.int _ _)) _ _ _); k_dflt (refine' item_tupleT ?t ?a ?b ?c ?d ?_; (case t => exact News.isTup (by k_asm) (by first | exact List.Mem.head _ | (with_reducible k_mem))); (case a => decide); (case b => decide); (case c => rfl); (case d => rfl); k_whole)))
local macro_rules | `(tactic| walk_at "subscriptTail Name Constant ref int") => `(tactic| (k_here; (with_reducible show wpAny _ _ (subscriptTail _ _ (Value.ref _) (Value.int _ _)) _ _ _); k_dflt (refine' item_tupleT ?t ?a ?b ?c ?d ?_; (case t => exact News.isTup (by k_asm) (by first | exact List.Mem.head _ | (with_reducible k_mem))); (case a => decide); (case b => decide); (case c => rfl); (case d => rfl); k_whole)))
local macro_rules | `(tactic| walk_at "exec While") => `(tactic| (refine Mine.hold ?_))
local macro_rules | `(tactic| walk_at "exec While Compare") => `(tactic| (refine Mine.hold ?_))
local macro_rules | `(tactic| walk_at "exec While Compare cons nil") => `(tactic| (refine Mine.hold ?_))
local macro_rules | `(tactic| walk_at "exec While BoolOp") => `(tactic| (refine Mine.hold ?_))
local macro_rules | `(tactic| walk_at "call builtin:str.isalnum") => `(tactic| (k_here; (with_reducible show wpAny _ _ (call (Value.builtin "str.isalnum") [Value.str _ _]) _ _ _); first | (refine KXw.isalnum (b := true) (by assumption) ?_) | (refine KXw.isalnum (b := false) (by assumption) ?_)))
section
namespace Mine
theorem read_navA (w : World) (n : Nat) (k : Str) (x : Str) (t ta : Tok) (pre post : List Nat) (I : Int) (hk : k ∈ WORDS) (hx : cds x = pre ++ (cds k ++ post)) (hpost : StopE post) (hlen : x.length ≤ 10000000) (hI : I = (pre.length : Int)) :
    Calls w (dR n) (uR n) (.ref 492) [.str x t, .int I ta] [] (fun _ => True) (fun _ _ tl r => ∃ T v t2, r = .ref T ∧ (T, tupOf [v, .int ((pre.length + (cds k).length : Nat) : Int) t2]) ∈ tl ∧ (El.nav k true none).In tl v) := by
  have hd1 : 10 ≤ dR n := by unfold dR; omega
  have hu1 : 100 ≤ uR n := by unfold uR; omega
  unfold Calls
  w_top off
  k_fill
  intro p loose mean mg mb dp un gd cn cs a ccd cl outer A₀ base h₀ L m news s Q E B F X TG N T hcs hd hu hoff hpre hret
  have hcode := TG.t1
  simp only [List.nil_append] at N
  obtain ⟨q0, qr, hq, q1, q2, q3⟩ := words_head k hk
  have n1 : one q0 ≠ Str.ofString "(" := one_ne q1
  have n2 : one q0 ≠ Str.ofString "'" := one_ne q2
  have n3 : one q0 ≠ Str.ofString "~" := one_ne q3
  have n7 := words_7 k hk post hpost
  have c0 : Cut 0 x pre.length 1 (one q0) := cut_mk 0 1 hx (by rw [hq]; rfl)
  have c1 : Cut 1 x pre.length 7 ⟨((cds k ++ post).take 7).toArray⟩ := cut_mk 1 7 hx rfl
  generalize (⟨((cds k ++ post).take 7).toArray⟩ : Str) = y7 at n7 c1
  refine wpAny_call ?_
  k_dflt (refine' code_def (binds := [("text", .str x t), ("at", .int I ta)]) B F X N T ?kA ?kF ?kK ?k6 ?k7 ?k8 ?k9 ?kB ?_ ?c2 ?c3 ?c4 ?c5)
  walk_at "enter"
  intro g' L' h' FG' F' N' B' X' T'
  have TG' := TG.keeps FG'.keep
  have hcode' := TG'.t1
  walk_at "begin"
  k_steps
  unfold Hold
  rename_i kF kN
  refine Mine.While_up (cds k).length kF kN ?step ?last
  case step =>
    intro j t1 h1 tk1 hj F1 N1
    clear kF kN
    obtain ⟨c, hc, c2⟩ := cut_at 2 hx j hj
    have usc := usc_alnum
    rcases words_ch k hk c hc with rfl | hal
    · have c2' : Cut 2 x (pre.length + j) 1 "_" := c2
      clear c2
      k_steps
      rename_i kF kN
      exact Mine.turnU_mk kF kN (fun p hp => hp)
    · k_steps
      rename_i kF kN
      exact Mine.turnU_mk kF kN (fun p hp => hp)
  case last =>
    intro t1 h1 tk1 F1 N1
    clear kF kN
    have hx2 : cds x = (pre ++ cds k) ++ post := by rw [hx, List.append_assoc]
    have hpl : (pre ++ cds k).length = pre.length + (cds k).length := List.length_append
    obtain ⟨y, hy, hy1, hy2⟩ := cut_stop 2 hx2 hpost
    rw [hpl] at hy
    obtain ⟨hal, hus⟩ := stop_alnum hy2
    have c3 : Cut 3 x pre.length (cds k).length k := cut_mk 3 (cds k).length hx (by rw [List.take_left])
    k_steps
    rename_i kF kN Tc kX
    have e : (I + ((cds k).length : Int)) = ((pre.length + (cds k).length : Nat) : Int) := by omega
    rw [e] at kN
    have e2 : (one q0 == Str.ofString "~") = false := beq_eq_false_iff_ne.mpr n3
    rw [e2] at kN
    obtain ⟨T9, hT9, kN9⟩ := Mine.led_two (n := news) (tl := []) kN
    subst hT9
    refine hret _ [] _ _ _ kF kN9 ?ord rfl ⟨_, _, _, rfl, .head _, ?inn⟩
    case ord =>
      clear kF kN kN9 hret
      show ∀ p ∈ (_ : Mine.Led), Mine.Ap p.1 news
      try simp only [Mine.allLt_append, AllLt] at *
      walk_at "ord"
    case inn => exact ⟨_, _, _, _, rfl, .tail _ (.head _), rfl⟩
end Mine
end
section
namespace Mine
theorem read_navB (w : World) (n : Nat) (k : Str) (x : Str) (t ta : Tok) (pre post : List Nat) (I : Int) (hk : k ∈ WORDS) (hx : cds x = pre ++ (126 :: (cds k ++ post))) (hpost : StopE post) (hlen : x.length ≤ 10000000) (hI : I = (pre.length : Int)) :
    Calls w (dR n) (uR n) (.ref 492) [.str x t, .int I ta] [] (fun _ => True) (fun _ _ tl r => ∃ T v t2, r = .ref T ∧ (T, tupOf [v, .int ((pre.length + ((cds k).length + 1) : Nat) : Int) t2]) ∈ tl ∧ (El.nav k false none).In tl v) := by
  have hd1 : 10 ≤ dR n := by unfold dR; omega
  have hu1 : 100 ≤ uR n := by unfold uR; omega
  unfold Calls
  w_top off
  k_fill
  intro p loose mean mg mb dp un gd cn cs a ccd cl outer A₀ base h₀ L m news s Q E B F X TG N T hcs hd hu hoff hpre hret
  have hcode := TG.t1
  simp only [List.nil_append] at N
  have n7 := ne_par7 126 (cds k ++ post) (by decide)
  have c0 : Cut 0 x pre.length 1 "~" := cut_mk 0 1 hx rfl
  have c1 : Cut 1 x pre.length 7 ⟨((126 :: (cds k ++ post)).take 7).toArray⟩ := cut_mk 1 7 hx rfl
  generalize (⟨((126 :: (cds k ++ post)).take 7).toArray⟩ : Str) = y7 at n7 c1
  have hx1 : cds x = (pre ++ [126]) ++ (cds k ++ post) := by rw [hx, List.append_assoc]; rfl
  have hp1 : (pre ++ [126]).length = pre.length + 1 := by rw [List.length_append]; rfl
  refine wpAny_call ?_
  k_dflt (refine' code_def (binds := [("text", .str x t), ("at", .int I ta)]) B F X N T ?kA ?kF ?kK ?k6 ?k7 ?k8 ?k9 ?kB ?_ ?c2 ?c3 ?c4 ?c5)
  walk_at "enter"
  intro g' L' h' FG' F' N' B' X' T'
  have TG' := TG.keeps FG'.keep
  have hcode' := TG'.t1
  walk_at "begin"
  k_steps
  unfold Hold
  rename_i kF kN
  refine Mine.While_up (cds k).length kF kN ?step ?last
  case step =>
    intro j t1 h1 tk1 hj F1 N1
    clear kF kN
    obtain ⟨c, hc, c2⟩ := cut_at 2 hx1 j hj
    rw [hp1] at c2
    have usc := usc_alnum
    rcases words_ch k hk c hc with rfl | hal
    · have c2' : Cut 2 x (pre.length + 1 + j) 1 "_" := c2
      clear c2
      k_steps
      rename_i kF kN
      exact Mine.turnU_mk kF kN (fun p hp => hp)
    · k_steps
      rename_i kF kN
      exact Mine.turnU_mk kF kN (fun p hp => hp)
  case last =>
    intro t1 h1 tk1 F1 N1
    clear kF kN
    have hx2 : cds x = ((pre ++ [126]) ++ cds k) ++ post := by rw [hx1, List.append_assoc (pre ++ [126])]
    have hpl : ((pre ++ [126]) ++ cds k).length = pre.length + 1 + (cds k).length := by rw [List.length_append, hp1]
    obtain ⟨y, hy, hy1, hy2⟩ := cut_stop 2 hx2 hpost
    rw [hpl] at hy
    obtain ⟨hal, hus⟩ := stop_alnum hy2
    have c3 : Cut 3 x (pre.length + 1) (cds k).length k := hp1 ▸ cut_mk 3 (cds k).length hx1 (by rw [List.take_left])
    k_steps
    rename_i kF kN Tc kX
    have e : (I + 1 + ((cds k).length : Int)) = ((pre.length + ((cds k).length + 1) : Nat) : Int) := by omega
    rw [e] at kN
    obtain ⟨T9, hT9, kN9⟩ := Mine.led_two (n := news) (tl := []) kN
    subst hT9
    refine hret _ [] _ _ _ kF kN9 ?ord rfl ⟨_, _, _, rfl, .head _, ?inn⟩
    case ord =>
      clear kF kN kN9 hret
      show ∀ p ∈ (_ : Mine.Led), Mine.Ap p.1 news
      try simp only [Mine.allLt_append, AllLt] at *
      walk_at "ord"
    case inn => exact ⟨_, _, _, _, rfl, .tail _ (.head _), rfl⟩
end Mine
end
section
namespace Mine
theorem read_navC (w : World) (n : Nat) (k z : Str) (x : Str) (t ta : Tok) (pre post : List Nat) (I : Int) (hk : k ∈ WORDS) (hz : z ∈ FIXED) (hx : cds x = pre ++ (39 :: (cds z ++ (39 :: 126 :: (cds k ++ post))))) (hpost : StopE post) (hlen : x.length ≤ 10000000) (hI : I = (pre.length : Int)) :
    Calls w (dR n) (uR n) (.ref 492) [.str x t, .int I ta] [] (fun _ => True) (fun _ _ tl r => ∃ T v t2, r = .ref T ∧ (T, tupOf [v, .int ((pre.length + ((cds z).length + (cds k).length + 3) : Nat) : Int) t2]) ∈ tl ∧ (El.nav k false (some z)).In tl v) := by
  have hd1 : 10 ≤ dR n := by unfold dR; omega
  have hu1 : 100 ≤ uR n := by unfold uR; omega
  unfold Calls
  w_top off
  k_fill
  intro p loose mean mg mb dp un gd cn cs a ccd cl outer A₀ base h₀ L m news s Q E B F X TG N T hcs hd hu hoff hpre hret
  have hcode := TG.t1
  simp only [List.nil_append] at N
  have n7 := ne_par7 39 (cds z ++ (39 :: 126 :: (cds k ++ post))) (by decide)
  have c0 : Cut 0 x pre.length 1 "'" := cut_mk 0 1 hx rfl
  have c1 : Cut 1 x pre.length 7 ⟨((39 :: (cds z ++ (39 :: 126 :: (cds k ++ post)))).take 7).toArray⟩ := cut_mk 1 7 hx rfl
  generalize (⟨((39 :: (cds z ++ (39 :: 126 :: (cds k ++ post)))).take 7).toArray⟩ : Str) = y7 at n7 c1
  have hx1 : cds x = (pre ++ [39]) ++ (cds z ++ (39 :: 126 :: (cds k ++ post))) := by rw [hx, List.append_assoc]; rfl
  have hp1 : (pre ++ [39]).length = pre.length + 1 := by rw [List.length_append]; rfl
  have hx2 : cds x = ((pre ++ [39]) ++ cds z) ++ (39 :: 126 :: (cds k ++ post)) := by rw [hx1, List.append_assoc (pre ++ [39])]
  have hp2 : ((pre ++ [39]) ++ cds z).length = pre.length + 1 + (cds z).length := by rw [List.length_append, hp1]
  have hx3 : cds x = (((pre ++ [39]) ++ cds z) ++ [39]) ++ (126 :: (cds k ++ post)) := by rw [hx2, List.append_assoc ((pre ++ [39]) ++ cds z) [39]]; rfl
  have hp3 : (((pre ++ [39]) ++ cds z) ++ [39]).length = pre.length + 1 + (cds z).length + 1 := by rw [List.length_append, hp2]; rfl
  have hx4 : cds x = ((((pre ++ [39]) ++ cds z) ++ [39]) ++ [126]) ++ (cds k ++ post) := by rw [hx3, List.append_assoc (((pre ++ [39]) ++ cds z) ++ [39]) [126]]; rfl
  have hp4 : ((((pre ++ [39]) ++ cds z) ++ [39]) ++ [126]).length = pre.length + 1 + (cds z).length + 1 + 1 := by rw [List.length_append, hp3]; rfl
  have hx5 : cds x = (((((pre ++ [39]) ++ cds z) ++ [39]) ++ [126]) ++ cds k) ++ post := by rw [hx4, List.append_assoc ((((pre ++ [39]) ++ cds z) ++ [39]) ++ [126]) (cds k)]
  have hp5 : (((((pre ++ [39]) ++ cds z) ++ [39]) ++ [126]) ++ cds k).length = pre.length + 1 + (cds z).length + 1 + 1 + (cds k).length := by rw [List.length_append, hp4]
  clear hx
  refine wpAny_call ?_
  k_dflt (refine' code_def (binds := [("text", .str x t), ("at", .int I ta)]) B F X N T ?kA ?kF ?kK ?k6 ?k7 ?k8 ?k9 ?kB ?_ ?c2 ?c3 ?c4 ?c5)
  walk_at "enter"
  intro g' L' h' FG' F' N' B' X' T'
  have TG' := TG.keeps FG'.keep
  have hcode' := TG'.t1
  walk_at "begin"
  k_steps
  unfold Hold
  rename_i kF kN
  refine Mine.While_up (cds z).length kF kN ?step ?last
  case step =>
    intro j t1 h1 tk1 hj F1 N1
    clear kF kN
    obtain ⟨c, hc, c2⟩ := cut_at 2 hx1 j hj
    rw [hp1] at c2
    have hne1 : one c ≠ Str.ofString "'" := one_ne (fixed_no39 z hz c hc)
    have hne0 : one c ≠ Str.ofString "" := one_ne0
    k_steps
    · rename_i kF kN
      exact Mine.turnU_mk kF kN (fun p hp => List.Mem.tail _ hp)
    · exact Mine.no_any hne0 hne1 (by assumption)
  intro t1 h1 tk1 F1 N1
  clear kF kN c0 c1
  have c2 : Cut 2 x (pre.length + 1 + (cds z).length) 1 "'" := hp2 ▸ cut_mk 2 1 hx2 rfl
  have c3 : Cut 3 x (pre.length + 1) (cds z).length z := hp1 ▸ cut_mk 3 (cds z).length hx1 (by rw [List.take_left])
  have c0 : Cut 0 x (pre.length + 1 + (cds z).length + 1) 1 "~" := hp3 ▸ cut_mk 0 1 hx3 rfl
  k_steps
  all_goals first | exact Mine.yes_any rfl (by assumption) | skip
  unfold Hold
  rename_i kF kN
  clear c2 c3
  refine Mine.While_up (cds k).length kF kN ?step2 ?last2
  case step2 =>
    intro j t1 h1 tk1 hj F1 N1
    clear kF kN
    obtain ⟨c, hc, c2⟩ := cut_at 2 hx4 j hj
    rw [hp4] at c2
    have usc := usc_alnum
    rcases words_ch k hk c hc with rfl | hal
    · have c2' : Cut 2 x (pre.length + 1 + (cds z).length + 1 + 1 + j) 1 "_" := c2
      clear c2
      k_steps
      rename_i kF kN
      exact Mine.turnU_mk kF kN (fun p hp => hp)
    · k_steps
      rename_i kF kN
      exact Mine.turnU_mk kF kN (fun p hp => hp)
  case last2 =>
    intro t1 h1 tk1 F1 N1
    clear kF kN
    obtain ⟨y, hy, hy1, hy2⟩ := cut_stop 2 hx5 hpost
    rw [hp5] at hy
    obtain ⟨hal, hus⟩ := stop_alnum hy2
    have c3 : Cut 3 x (pre.length + 1 + (cds z).length + 1 + 1) (cds k).length k := hp4 ▸ cut_mk 3 (cds k).length hx4 (by rw [List.take_left])
    k_steps
    rename_i kF kN Tc kX
    have e : (I + 1 + ((cds z).length : Int) + 1 + 1 + ((cds k).length : Int)) = ((pre.length + ((cds z).length + (cds k).length + 3) : Nat) : Int) := by omega
    rw [e] at kN
    obtain ⟨T9, hT9, kN9⟩ := Mine.led_three (n := news) (tl := []) kN
    subst hT9
    refine hret _ [] _ _ _ kF kN9 ?ord rfl ⟨_, _, _, rfl, .head _, ?inn⟩
    case ord =>
      clear kF kN kN9 hret
      show ∀ p ∈ (_ : Mine.Led), Mine.Ap p.1 news
      try simp only [Mine.allLt_append, AllLt] at *
      walk_at "ord"
    case inn => exact ⟨_, _, _, _, rfl, .tail _ (.head _), _, rfl⟩
end Mine
end
section
namespace Mine
theorem append_led {prog : Program} {w : World} {A : Around} {E : Value → Shared → Prop} {s : Shared} {h₀ : Heap} {L : Addr} {m : Str → Option Value} {Q : Value → Shared → Prop} {all rest : Led} {l : Addr} {its : Array Value} {n : Nat} {x : Value} (F : Fr h₀ L s.heap m) (N : News h₀ L s.heap all) (D : Del l (W.listOf its n) all rest) (off : ∀ q ∈ rest, q.1 ≠ l) (hsz : its.size ≤ sizeLine)
    (h : ∀ h', Fr h₀ L h' m → News h₀ L h' ((l, W.listOf (its.push x) (n + 1)) :: rest) → Q .none { s with heap := h' }) : wpAny (model prog w) A (call (.builtin "list.append") [.ref l, x]) Q E s := by
  have N2 : News h₀ L s.heap ((l, W.listOf its n) :: rest) := fun p hp => by
    rcases List.mem_cons.mp hp with rfl | hp
    · exact N _ D.mem
    · exact N p (D.sub p hp)
  exact append_head F N2 off h hsz
end Mine
end
end
section
local macro_rules | `(tactic| k_all) => `(tactic| assumption)
local macro_rules | `(tactic| k_mem) => `(tactic| first
  | with_reducible assumption
  | exact List.Mem.head _
  | ((with_reducible refine List.mem_cons_of_mem _ ?_); k_mem)
  | ((with_reducible refine List.mem_append.mpr (Or.inr ?_)); k_mem)
  | ((with_reducible refine List.mem_append.mpr (Or.inl ?_)); k_mem))
local macro_rules | `(tactic| k_room) => `(tactic| ((try simp only [depth_under_make, depth_under_kw, depth_in1, depth_deeper, depth_caller]); (try dsimp only); omega))
local macro_rules | `(tactic| k_units) => `(tactic| ((try simp only [units_under_make, units_in1, units_deeper, Around.mark_units, units_caller]); (try dsimp only); omega))
local macro_rules | `(tactic| walk_at "subscriptTail") => `(tactic| (k_here; (with_reducible show wpAny _ _ (subscriptTail _ _ (Value.ref _) (Value.int _ _)) _ _ _); k_dflt ((show wpAny _ _ (subscriptTail _ _ (Value.ref 433) (Value.int _ _)) _ _ _); refine' Mine.menu_K Mine.IsWord ?F ?X ?l ?a ?b ?f ?c ?_ ?hs; (case hs => with_unfolding_all rfl); (case F => k_asm); (case X => k_asm); (case l => k_is); (case a => omega); (case b => exact Int.lt_of_lt_of_le (by assumption) (by decide)); (case f => decide); (case c => exact List.forall_mem_cons.mpr ⟨⟨_, _, rfl, by decide⟩, List.forall_mem_cons.mpr ⟨⟨_, _, rfl, by decide⟩, List.forall_mem_cons.mpr ⟨⟨_, _, rfl, by decide⟩, List.forall_mem_cons.mpr ⟨⟨_, _, rfl, by decide⟩, List.forall_mem_nil _⟩⟩⟩⟩); rintro _ ⟨wd', wt', hx', hw'⟩; subst hx')))
local macro_rules | `(tactic| walk_at "subscriptTail") => `(tactic| (k_here; (with_reducible show wpAny _ _ (subscriptTail _ _ (Value.ref _) (Value.int _ _)) _ _ _); k_dflt ((show wpAny _ _ (subscriptTail _ _ (Value.ref 434) (Value.int _ _)) _ _ _); refine' Mine.menu_K Mine.IsFixed ?F ?X ?l ?a ?b ?f ?c ?_ ?hs; (case hs => with_unfolding_all rfl); (case F => k_asm); (case X => k_asm); (case l => k_is); (case a => omega); (case b => exact Int.lt_of_lt_of_le (by assumption) (by decide)); (case f => decide); (case c => exact List.forall_mem_cons.mpr ⟨⟨_, _, rfl, by decide⟩, List.forall_mem_cons.mpr ⟨⟨_, _, rfl, by decide⟩, List.forall_mem_cons.mpr ⟨⟨_, _, rfl, by decide⟩, List.forall_mem_cons.mpr ⟨⟨_, _, rfl, by decide⟩, List.forall_mem_nil _⟩⟩⟩⟩); rintro _ ⟨wd', wt', hx', hw'⟩; subst hx')))
local macro_rules | `(tactic| walk_at "subscriptTail") => `(tactic| (k_here; (with_reducible show wpAny _ _ (subscriptTail _ _ (Value.ref _) (Value.int _ _)) _ _ _); k_dflt ((show wpAny _ _ (subscriptTail _ _ (Value.ref 435) (Value.int _ _)) _ _ _); refine' Mine.menu_K Mine.IsKind ?F ?X ?l ?a ?b ?f ?c ?_ ?hs; (case hs => with_unfolding_all rfl); (case F => k_asm); (case X => k_asm); (case l => k_is); (case a => omega); (case b => exact Int.lt_of_lt_of_le (by assumption) (by decide)); (case f => decide); (case c => exact List.forall_mem_cons.mpr ⟨⟨_, _, rfl, by decide⟩, List.forall_mem_cons.mpr ⟨⟨_, _, rfl, by decide⟩, List.forall_mem_nil _⟩⟩); rintro _ ⟨wd', wt', hx', hw'⟩; subst hx')))
local macro_rules | `(tactic| walk_at "enter") => `(tactic| ((case kA => exact rfl); (case kF => exact rfl); (case kK => first | exact rfl | assumption); (case k6 => k_is); (case k7 => k_is); (case k8 => k_room); (case k9 => exact BindsTo.of_eq rfl); (case c5 => decide); (case kB => exact locs rfl); (case c2 => exact rfl); (case c3 => exact rfl); (case c4 => exact rfl); k_whole))
local macro_rules | `(tactic| walk_at "begin") => `(tactic| ((try dsimp only); (try k_unmd); (try k_fold)))
local macro_rules | `(tactic| walk_at "enterC") => `(tactic| ((case kA => exact rfl); (case kF => exact rfl); (case kK => first | exact rfl | assumption); (case k6 => k_is); (case k7 => k_is); (case k8 => k_room); (case k9 => exact BindsTo.of_eq rfl); (case kB => exact rfl); (case kD => decide +kernel); (case c2 => exact rfl); (case c3 => exact rfl); (case c4 => exact rfl); k_whole))
local macro_rules | `(tactic| walk_at "ite") => `(tactic| first | (exfalso; omega) | (with_reducible refine Mine.if_pos' (by first | omega | decide | (simp only [beq_iff_eq, bne_iff_ne, ne_eq, decide_eq_true_eq, not_true_eq_false, not_false_eq_true]; done) | (simp only [beq_iff_eq, bne_iff_ne, ne_eq, decide_eq_true_eq]; omega)) ?_) | (with_reducible refine Mine.if_neg' (by first | omega | decide | (simp only [beq_iff_eq, bne_iff_ne, ne_eq, decide_eq_true_eq, not_true_eq_false, not_false_eq_true]; done) | (simp only [beq_iff_eq, bne_iff_ne, ne_eq, decide_eq_true_eq]; omega)) ?_) | ((with_reducible refine Mine.if_both ?_ ?_) <;> (intro hc'; (try simp only [beq_iff_eq, bne_iff_ne, ne_eq, decide_eq_true_eq, Bool.not_eq_true, beq_eq_false_iff_ne, bne_eq_false_iff_eq, decide_eq_false_iff_not, Decidable.not_not] at hc'))))
local macro_rules | `(tactic| walk_at "wpAt") => `(tactic| (ks_step "exec Expr"; k_dflt (refine ks_wpAt_Expr_any ?_)))
local macro_rules | `(tactic| walk_at "wpAt") => `(tactic| (ks_step "eval Call"; k_dflt (refine ks_wpAt_MethodCall ?_)))
local macro_rules | `(tactic| walk_at "callWith ref") => `(tactic| (k_here; k_dflt (first
  | ((with_reducible refine' callWith_K0 ?k1 ?k2 ?_); (case k1 => exact Frag.In.keeps (by with_reducible assumption) (Fr.keep (by with_reducible assumption))); (case k2 => k_is); k_whole)
  | ((with_reducible refine' callWith_K ?k1 ?k2 ?_ ?k3 ?k4); (case k3 => exact rfl); (case k4 => exact rfl); (case k1 => with_reducible assumption); (case k2 => k_is); k_whole))))
local macro_rules | `(tactic| walk_at "eval Name") => `(tactic| (k_here; k_dflt (first
  | ((with_reducible refine' Mine.nameO_L ?F ?v ?_ ?a ?b ?d); (case b => rfl); (case F => k_asm); (case a => rfl); (case d => decide); (case v => rfl); k_whole)
  | ((with_reducible refine' Mine.nameO_K ?F ?X ?T ?e ?_ ?a ?b ?d); (case b => rfl); (case F => k_asm); (case X => k_asm); (case T => k_asm); (case a => rfl); (case d => decide); (case e => k_is); k_whole)
  | ((with_reducible refine' Mine.nameO_B ?F ?X ?T ?e ?v ?n ?_ ?a ?b ?d); (case b => rfl); (case F => k_asm); (case X => k_asm); (case T => k_asm); (case a => rfl); (case d => decide); (case e => k_is); (case v => boot_fast); (case n => decide); k_whole)
  | ((with_reducible refine' nameX_L ?F ?v ?_ ?a ?b); (case b => rfl); (case F => k_asm); (case a => rfl); (case v => rfl); k_whole)
  | ((with_reducible refine' nameX_K ?F ?X ?T ?e ?_ ?a ?b); (case b => rfl); (case F => k_asm); (case X => k_asm); (case T => k_asm); (case a => rfl); (case e => k_is); k_whole)
  | ((with_reducible refine' nameX_B ?F ?X ?T ?e ?v ?n ?_ ?a ?b); (case b => rfl); (case F => k_asm); (case X => k_asm); (case T => k_asm); (case a => rfl); (case e => k_is); (case v => boot_fast); (case n => decide); k_whole))))
local macro_rules | `(tactic| walk_at "ap") => `(tactic| first
  | exact List.forall_mem_nil _
  | assumption
  | exact Mine.allLt_ne (by tbn_find)
  | exact Mine.ap_lt (by assumption)
  | exact Mine.ap_lt2 (by assumption) (by assumption)
  | exact Mine.ap_lt2 (by assumption) (Mine.allLt_mem (by tbn_find))
  | exact Mine.ap_memLt (by assumption) (by intro q9 h9; k_mem)
  | exact Mine.off1_mem (by first | assumption | exact And.left (by assumption) | exact And.right (by assumption))
  | ((refine List.forall_mem_cons.mpr ⟨?_, ?_⟩); (focus (try dsimp only); first | assumption | k_ne | exact Ne.symm (by assumption) | exact Mine.ne_lt2 (by assumption) (by tbn_find) | exact Ne.symm (Mine.ne_memLt (by assumption) (by k_mem))); walk_at "ap")
  | ((refine List.forall_mem_append.mpr ⟨?_, ?_⟩) <;> walk_at "ap")
  | fail "ap: no order")
local macro_rules | `(tactic| walk_at "ord") => `(tactic| first
  | exact List.forall_mem_nil _
  | assumption
  | ((refine List.forall_mem_cons.mpr ⟨?_, ?_⟩); (focus walk_at "ap"); walk_at "ord")
  | exact Mine.aps (by assumption) (by intro q9 h9; k_mem)
  | exact Mine.aps2 (by assumption) (by k_mem) (by intro q9 h9; k_mem)
  | ((refine List.forall_mem_append.mpr ⟨?_, ?_⟩) <;> walk_at "ord")
  | fail "ord")
local macro_rules | `(tactic| walk_at "sub") => `(tactic| (intro q9 h9; simp only [List.mem_append, List.mem_cons, List.not_mem_nil, or_false, false_or, List.nil_append, List.cons_append] at h9 ⊢; first | exact h9 | grind))
local macro_rules | `(tactic| walk_at "eval ListComp") => `(tactic| (k_here; k_dflt (refine LCg.ListComp_U (F₀ := by k_asm) (by with_unfolding_all rfl) (by decide) (by rfl) (by decide) (by rfl) ?_)))
local macro_rules | `(tactic| walk_at "CompSrc") => `(tactic| (k_here; k_dflt (first
  | (refine LCg.CompSrc.ledger (by rfl) (by k_asm) (by k_asm) (by k_mem) (by first | size_fits | exact Nat.le_of_ble_eq_true rfl) ?_; intro g'; lcg_lit)
  | (refine LCg.CompSrc.range (by rfl) (by k_asm) (by k_asm) (by assumption) (by first | decide | rfl) (by first | rfl | decide) (by first | size_fits | exact Nat.le_of_ble_eq_true rfl) ?_; intro g'; lcg_lit))))
local macro_rules | `(tactic| walk_at "compareOp Eq ref ref") => `(tactic| (k_here; k_dflt ((first | (with_reducible refine' Mine.up_eq ?N ?he ?ok ?dp ?m1 ?m2 ?m3 ?m4 ?hu ?_) | (refine' Mine.up_eq ?N ?he ?ok ?dp ?m1 ?m2 ?m3 ?m4 ?hu ?_)); (case N => k_asm); (case he => (refine Mine.El.In.mono ?hs9 _ _ (by assumption); (case hs9 => (intro q9 h9; k_mem)))); (case ok => first | assumption | exact Or.inr (by assumption)); (case dp => omega); (case m1 => k_mem); (case m2 => k_mem); (case m3 => k_mem); (case m4 => k_mem); (case hu => k_units); k_whole)))
local macro_rules | `(tactic| walk_at "call ref") => `(tactic| (k_here; (show wpAny _ _ (call (Value.ref 466) _) _ _ _); k_dflt (first | (refine' Mine.new_turn ((by assumption : Mine.MadeSpec _ _) _ _ ?ok ?dp) ?B ?F ?X ?TG ?N ?sub ?T ?hk ?hd ?hu ?pre ?off ?hS ?_; (case B => k_asm); (case F => k_asm); (case X => k_asm); (case TG => k_asm); (case N => k_asm); (case sub => (intro q9 h9; k_mem)); (case T => k_asm); (case hk => first | exact rfl | assumption); (case pre => (refine Mine.El.In.mono ?hs9 _ _ (by assumption); (case hs9 => (intro q9 h9; k_mem)))); (case ok => first | assumption | exact Or.inr (by assumption)); (case dp => omega); (case hd => (unfold Mine.dM; k_room)); (case hu => (unfold Mine.uM; k_units)); (case off => first | assumption | (simp only [LCg.Off3, and_true]; assumption)); (case hS => exact fun _ => trivial); k_whole; (intro r' tl' ht' hoff' hp'); (try dsimp only)) | (refine Mine.hold ?_))))
local macro_rules | `(tactic| walk_at "subscriptTail") => `(tactic| (k_here; (with_reducible show wpAny _ _ (subscriptTail _ _ (Value.ref _) (Value.int _ _)) _ _ _); k_dflt (first | ((first | (with_reducible refine' Mine.item_led0 ?l ?_ ?hs) | (refine' Mine.item_led0 ?l ?_ ?hs)); (case l => exact News.isList (by k_asm) (by k_mem)); (case hs => with_unfolding_all rfl); k_whole) | ((first | (with_reducible refine' Mine.item_led1 ?l ?_ ?hs) | (refine' Mine.item_led1 ?l ?_ ?hs)); (case l => exact News.isList (by k_asm) (by k_mem)); (case hs => with_unfolding_all rfl); k_whole) | ((first | (with_reducible refine' Mine.item_led2 ?l ?_ ?hs) | (refine' Mine.item_led2 ?l ?_ ?hs)); (case l => exact News.isList (by k_asm) (by k_mem)); (case hs => with_unfolding_all rfl); k_whole))))
local macro_rules | `(tactic| walk_at "subscriptTail") => `(tactic| ((with_reducible show wpAny _ _ (subscriptTail _ _ _ (Value.int (0 + (Nat.cast _ : Int)) _)) _ _ _); k_dflt (first | refine Mine.sub_int (j := 0) (by decide) ?_ | refine Mine.sub_int (j := 1) (by decide) ?_ | refine Mine.sub_int (j := 2) (by decide) ?_)))
local macro_rules | `(tactic| walk_at "CompEnd") => `(tactic| (k_here; k_dflt (refine' Mine.compEnd_cut ?F ?N ?sub ?off ?hS ?_; (case F => k_asm); (case N => k_asm); (case sub => (intro q9 h9; k_mem)); (case off => first | assumption | (simp only [LCg.Off3, and_true]; assumption)); (case hS => trivial); k_whole)))
local macro_rules | `(tactic| walk_at "neq") => `(tactic| ((try dsimp only); first | assumption | k_ne | exact Mine.ne_allLt (by first | assumption | exact And.left (by assumption) | exact (And.right (by assumption)) | tbn_find) (by k_mem) | exact Mine.ne_memLt (by assumption) (by k_mem)))
local macro_rules | `(tactic| walk_at "tabs") => `(tactic| first | assumption | (refine Mine.TabsG.keeps ?_ (Fr.keep (by assumption)); walk_at "tabs"))
local macro_rules | `(tactic| walk_at "call ref") => `(tactic| (k_here; (show wpAny _ _ (call (Value.ref 302) _) _ _ _); k_dflt ((first | (with_reducible refine' Mine.Calls.use0 (Mine.mkSeq _ _) ?B ?F ?X ?TG ?N ?T ?hk ?hd ?hu ?pre ?_) | (refine' Mine.Calls.use0 (Mine.mkSeq _ _) ?B ?F ?X ?TG ?N ?T ?hk ?hd ?hu ?pre ?_)); (case B => k_asm); (case F => k_asm); (case X => k_asm); (case TG => walk_at "tabs"); (case N => k_asm); (case T => k_asm); (case hk => first | exact rfl | assumption); (case hd => k_room); (case hu => k_units); (case pre => exact True.intro); k_whole; (rintro _ tl' h' tk' F' N' ht' ⟨a', d', t', n', hr', m1', m2'⟩); subst hr'; (try dsimp only))))
local macro_rules | `(tactic| walk_at "call ref") => `(tactic| (k_here; (show wpAny _ _ (call (Value.ref 402) _) _ _ _); k_dflt ((first | (with_reducible refine' Mine.Calls.use0 (Mine.mkPath _ _ _ _ _) ?B ?F ?X ?TG ?N ?T ?hk ?hd ?hu ?pre ?_) | (refine' Mine.Calls.use0 (Mine.mkPath _ _ _ _ _) ?B ?F ?X ?TG ?N ?T ?hk ?hd ?hu ?pre ?_)); (case B => k_asm); (case F => k_asm); (case X => k_asm); (case TG => walk_at "tabs"); (case N => k_asm); (case T => k_asm); (case hk => first | exact rfl | assumption); (case hd => k_room); (case hu => k_units); (case pre => exact ⟨by k_mem, by first | assumption | exact ⟨_, _, _, _, _, rfl, by k_mem, by k_mem, by first | assumption | exact Mine.elCls_dots _ | exact Mine.elCls_nav _ | exact Mine.elCls_par _⟩⟩); k_whole; (rintro _ tl' h' tk' F' N' ht' ⟨a', d', t', n', hr', m1', m2'⟩); subst hr'; (try dsimp only))))
local macro_rules | `(tactic| walk_at "call ref") => `(tactic| (k_here; (show wpAny _ _ (call (Value.ref 203) _) _ _ _); k_dflt ((first | (with_reducible refine' Mine.Calls.use0 (Mine.mkBr _ _ _ _ _) ?B ?F ?X ?TG ?N ?T ?hk ?hd ?hu ?pre ?_) | (refine' Mine.Calls.use0 (Mine.mkBr _ _ _ _ _) ?B ?F ?X ?TG ?N ?T ?hk ?hd ?hu ?pre ?_)); (case B => k_asm); (case F => k_asm); (case X => k_asm); (case TG => walk_at "tabs"); (case N => k_asm); (case T => k_asm); (case hk => first | exact rfl | assumption); (case hd => k_room); (case hu => k_units); (case pre => exact ⟨by k_mem, by k_mem⟩); k_whole; (rintro _ tl' h' tk' F' N' ht' ⟨a', d', t', n', hr', m1', m2'⟩); subst hr'; (try dsimp only))))
local macro_rules | `(tactic| walk_at "call ref") => `(tactic| (k_here; (show wpAny _ _ (call (Value.ref 352) _) _ _ _); k_dflt ((first | (with_reducible refine' Mine.Calls.use0 (Mine.mkSt _ _ _ _ _) ?B ?F ?X ?TG ?N ?T ?hk ?hd ?hu ?pre ?_) | (refine' Mine.Calls.use0 (Mine.mkSt _ _ _ _ _) ?B ?F ?X ?TG ?N ?T ?hk ?hd ?hu ?pre ?_)); (case B => k_asm); (case F => k_asm); (case X => k_asm); (case TG => walk_at "tabs"); (case N => k_asm); (case T => k_asm); (case hk => first | exact rfl | assumption); (case hd => k_room); (case hu => k_units); (case pre => exact ⟨by k_mem, by k_mem⟩); k_whole; (rintro _ tl' h' tk' F' N' ht' ⟨a', d', t', n', hr', m1', m2'⟩); subst hr'; (try dsimp only))))
local macro_rules | `(tactic| walk_at "offl") => `(tactic| first
  | exact List.forall_mem_nil _
  | assumption
  | exact Mine.offl_of (by assumption) (by k_mem)
  | exact Mine.ap_lt (by assumption)
  | exact Mine.allLt_ne (by tbn_find)
  | ((refine List.forall_mem_cons.mpr ⟨?_, ?_⟩); (focus walk_at "neq"); walk_at "offl")
  | ((refine List.forall_mem_append.mpr ⟨?_, ?_⟩) <;> walk_at "offl"))
local macro_rules | `(tactic| walk_at "front") => `(tactic| (repeat first | with_reducible exact Mine.Front.nil | with_reducible apply Mine.Front.cons | with_reducible apply Mine.Front.app))
local macro_rules | `(tactic| walk_at "del") => `(tactic| (repeat first | with_reducible exact Mine.Del.head | with_reducible apply Mine.Del.cons | with_reducible apply Mine.Del.app))
local macro_rules | `(tactic| walk_at "upd") => `(tactic| first
  | (with_reducible apply Upd.head; walk_at "offl")
  | ((with_reducible apply Upd.tail); (focus walk_at "neq"); walk_at "upd")
  | ((with_reducible apply Mine.upd_app); (focus walk_at "offl"); walk_at "upd"))
local macro_rules | `(tactic| k_upd) => `(tactic| walk_at "upd")
local macro_rules | `(tactic| walk_at "subscriptTail Name Slice str ref") => `(tactic| (k_here; (with_reducible show wpAny _ _ (subscriptTail _ _ (Value.str _ _) (Value.ref _)) _ _ _); (refine Mine.hold ?_)))
local macro_rules | `(tactic| walk_at "subscriptTail Name Slice str ref") => `(tactic| (k_here; (with_reducible show wpAny _ _ (subscriptTail _ _ (Value.str _ _) (Value.ref _)) _ _ _); k_dflt (first | ((with_reducible refine' Mine.slice_cut (k := 0) (by with_reducible assumption) ?i ?j ?S ?a ?F ?N ?z ?_ ?s ?t); (case S => ((try dsimp only) <;> exact rfl)); (case i => omega); (case j => omega); (case a => ((try dsimp only) <;> exact rfl)); (case F => k_asm); (case N => k_asm); (case z => exact Nat.le_trans (by assumption) (Nat.le_of_ble_eq_true rfl)); (case s => with_unfolding_all rfl); (case t => (intro _; with_unfolding_all rfl)); k_whole) | ((with_reducible refine' Mine.slice_cut (k := 1) (by with_reducible assumption) ?i ?j ?S ?a ?F ?N ?z ?_ ?s ?t); (case S => ((try dsimp only) <;> exact rfl)); (case i => omega); (case j => omega); (case a => ((try dsimp only) <;> exact rfl)); (case F => k_asm); (case N => k_asm); (case z => exact Nat.le_trans (by assumption) (Nat.le_of_ble_eq_true rfl)); (case s => with_unfolding_all rfl); (case t => (intro _; with_unfolding_all rfl)); k_whole) | ((with_reducible refine' Mine.slice_cut (k := 2) (by with_reducible assumption) ?i ?j ?S ?a ?F ?N ?z ?_ ?s ?t); (case S => ((try dsimp only) <;> exact rfl)); (case i => omega); (case j => omega); (case a => ((try dsimp only) <;> exact rfl)); (case F => k_asm); (case N => k_asm); (case z => exact Nat.le_trans (by assumption) (Nat.le_of_ble_eq_true rfl)); (case s => with_unfolding_all rfl); (case t => (intro _; with_unfolding_all rfl)); k_whole) | ((with_reducible refine' Mine.slice_cut (k := 3) (by with_reducible assumption) ?i ?j ?S ?a ?F ?N ?z ?_ ?s ?t); (case S => ((try dsimp only) <;> exact rfl)); (case i => omega); (case j => omega); (case a => ((try dsimp only) <;> exact rfl)); (case F => k_asm); (case N => k_asm); (case z => exact Nat.le_trans (by assumption) (Nat.le_of_ble_eq_true rfl)); (case s => with_unfolding_all rfl); (case t => (intro _; with_unfolding_all rfl)); k_whole)); intro h9' t9' tk9' F' N'; (try dsimp only)))
local macro_rules | `(tactic| walk_at "ite") => `(tactic| first | (with_reducible refine Mine.if_neg' (by (simp only [beq_iff_eq, bne_iff_ne, ne_eq, decide_eq_true_eq]); assumption) ?_) | (with_reducible refine Mine.if_pos' (by (simp only [beq_iff_eq, bne_iff_ne, ne_eq, decide_eq_true_eq]); assumption) ?_))
local macro_rules | `(tactic| walk_at "subscriptTail") => `(tactic| (k_here; (with_reducible show wpAny _ _ (subscriptTail _ _ (Value.ref _) (Value.int _ _)) _ _ _); k_dflt (refine' item_tupleT ?t ?a ?b ?c ?d ?_; (case t => exact News.isTup (by k_asm) (by first | exact List.Mem.head _ | (with_reducible k_mem))); (case a => decide); (case b => decide); (case c => rfl); (case d => rfl); k_whole)))
local macro_rules | `(tactic| walk_at "subscriptTail Name Constant ref int") => `(tactic| (k_here; (with_reducible show wpAny _ _ (subscriptTail _ _ (Value.ref _) (Value.int _ _)) _ _ _); k_dflt (refine' item_tupleT ?t ?a ?b ?c ?d ?_; (case t => exact News.isTup (by k_asm) (by first | exact List.Mem.head _ | (with_reducible k_mem))); (case a => decide); (case b => decide); (case c => rfl); (case d => rfl); k_whole)))
section
namespace Mine
def joinL (c : Nat) : List (List Nat) → List Nat
  | [] => []
  | [a] => a
  | a :: b :: r => a ++ c :: joinL c (b :: r)
inductive All2 {α : Type} (R : α → Value → Prop) : List α → List Value → Prop
  | nil : All2 R [] []
  | snoc {ds vs d v} : All2 R ds vs → R d v → All2 R (ds ++ [d]) (vs ++ [v])
theorem All2.mono {α : Type} {R R' : α → Value → Prop} (k : ∀ d v, R d v → R' d v) {ds : List α} {vs : List Value} (h : All2 R ds vs) : All2 R' ds vs := by
  induction h with
  | nil => exact .nil
  | snoc _ hr ih => exact .snoc ih (k _ _ hr)
theorem All2.len {α : Type} {R : α → Value → Prop} {ds : List α} {vs : List Value} (h : All2 R ds vs) : vs.length = ds.length := by
  induction h with
  | nil => rfl
  | snoc _ _ ih => rw [List.length_append, List.length_append, ih]; rfl
theorem All2.inv {α : Type} {R : α → Value → Prop} {es : List α} {vs : List Value} (h : All2 R es vs) : (es = [] ∧ vs = []) ∨ ∃ ds d vs' v, es = ds ++ [d] ∧ vs = vs' ++ [v] ∧ All2 R ds vs' ∧ R d v := by
  cases h with
  | nil => exact .inl ⟨rfl, rfl⟩
  | snoc a b => exact .inr ⟨_, _, _, _, rfl, rfl, a, b⟩
theorem All2.one {α : Type} {R : α → Value → Prop} {p : α} {vs : List Value} (h : All2 R [p] vs) : ∃ v, vs = [v] ∧ R p v := by
  rcases h.inv with ⟨h, -⟩ | ⟨ds, d, vs', v, e, rfl, h1, h2⟩
  · exact absurd h (by simp)
  · have e' : [] ++ [p] = ds ++ [d] := e
    obtain ⟨e1, e2⟩ := List.append_inj' e' rfl
    subst e1
    cases e2
    have : vs' = [] := List.length_eq_zero_iff.mp h1.len
    exact ⟨v, by rw [this]; rfl, h2⟩
theorem All2.two {α : Type} {R : α → Value → Prop} {p q : α} {vs : List Value} (h : All2 R [p, q] vs) : ∃ u v, vs = [u, v] ∧ R p u ∧ R q v := by
  rcases h.inv with ⟨h, -⟩ | ⟨ds, d, vs', v, e, rfl, h1, h2⟩
  · exact absurd h (by simp)
  · have e' : [p] ++ [q] = ds ++ [d] := e
    obtain ⟨e1, e2⟩ := List.append_inj' e' rfl
    subst e1
    cases e2
    obtain ⟨u, rfl, hu⟩ := h1.one
    exact ⟨u, v, rfl, hu, h2⟩
theorem All2.thr {α : Type} {R : α → Value → Prop} {p q r : α} {vs : List Value} (h : All2 R [p, q, r] vs) : ∃ u v z, vs = [u, v, z] ∧ R p u ∧ R q v ∧ R r z := by
  rcases h.inv with ⟨h, -⟩ | ⟨ds, d, vs', v, e, rfl, h1, h2⟩
  · exact absurd h (by simp)
  · have e' : [p, q] ++ [r] = ds ++ [d] := e
    obtain ⟨e1, e2⟩ := List.append_inj' e' rfl
    subst e1
    cases e2
    obtain ⟨u, v', rfl, hu, hv⟩ := h1.two
    exact ⟨u, v', v, rfl, hu, hv, h2⟩
/-- the state of a reading loop: what is read, what is left -/
structure LoopJ {α : Type} (c : Nat) (txt : α → Str) (InV : Led → α → Value → Prop) (ps : List α) (xs post : List Nat) (news : Led) (l : Addr) (r : Nat) (ns : Led) (i : Int) : Prop where
  ex : ∃ (ds rs : List α) (p : α) (done : List Value) (cap : Nat) (tl : Led) (pre : List Nat),
    ns = (l, W.listOf done.toArray cap) :: (tl ++ news) ∧ (∀ q ∈ tl ++ news, q.1 ≠ l) ∧ (∀ q ∈ tl, Ap q.1 news) ∧ ds ++ (p :: rs) = ps ∧ r = rs.length ∧ All2 (InV tl) ds done ∧ done.length ≤ 8 ∧
    xs = pre ++ (joinL c ((p :: rs).map fun e => cds (txt e)) ++ post) ∧ i = (pre.length : Int)
def tailL (c : Nat) : List (List Nat) → List Nat
  | [] => []
  | a :: r => c :: joinL c (a :: r)
theorem joinL_cons (c : Nat) (a : List Nat) (r : List (List Nat)) : joinL c (a :: r) = a ++ tailL c r := by
  cases r with
  | nil => show a = a ++ []; rw [List.append_nil]
  | cons b r => rfl
def Ways.toL : Ways → List Pth
  | .one p => [p]
  | .two p q => [p, q]
theorem Ways.show_toL (e : Ways) : cds e.show = joinL 44 (e.toL.map fun p => cds p.show) := by
  cases e with
  | one p => rfl
  | two p q =>
    show (p.show.cps ++ (Str.ofString ",").cps ++ q.show.cps).toList = _
    rw [Array.toList_append, Array.toList_append, List.append_assoc]; rfl
theorem Ways.toL_ok {e : Ways} {n : Nat} (h : e.ok) (hd : e.dep ≤ n) : ∀ p ∈ e.toL, p.ok ∧ p.dep ≤ n := by
  cases e with
  | one p => intro q hq; simp only [Ways.toL, List.mem_cons, List.not_mem_nil, or_false] at hq; subst hq; exact ⟨h, hd⟩
  | two p r =>
    obtain ⟨h1, h2⟩ := h
    simp only [Ways.dep] at hd
    intro q hq; simp only [Ways.toL, List.mem_cons, List.not_mem_nil, or_false] at hq
    rcases hq with rfl | rfl
    · exact ⟨h1, by omega⟩
    · exact ⟨h2, by omega⟩
theorem Ways.toL_len (e : Ways) : e.toL.length ≤ 2 ∧ e.toL ≠ [] := by
  cases e <;> exact ⟨by simp [Ways.toL], by simp [Ways.toL]⟩
theorem cut_stopS (k : Nat) {x : Str} {pre post : List Nat} (h : cds x = pre ++ post) (hs : StopS post) : ∃ y, Cut k x pre.length 1 y ∧ y ≠ Str.ofString "," := by
  cases post with
  | nil => exact ⟨"", cut_mk k 1 h rfl, by decide⟩
  | cons c r =>
    obtain rfl := hs c r rfl
    exact ⟨")", cut_mk k 1 h rfl, by decide⟩
theorem cut_stopP (k : Nat) {x : Str} {pre post : List Nat} (h : cds x = pre ++ post) (hs : StopP post) : ∃ y, Cut k x pre.length 1 y ∧ y ≠ Str.ofString "." := by
  cases post with
  | nil => exact ⟨"", cut_mk k 1 h rfl, by decide⟩
  | cons c r =>
    rcases hs c r rfl with rfl | rfl
    · exact ⟨",", cut_mk k 1 h rfl, by decide⟩
    · exact ⟨")", cut_mk k 1 h rfl, by decide⟩
theorem size_small {l : List Value} (h : l.length ≤ 8) : l.toArray.size ≤ sizeLine := by
  rw [List.size_toArray]; exact Nat.le_trans h (Nat.le_of_ble_eq_true rfl)
def MSeq (x : Str) (t : Tok) (l : Addr) (I : Int) (ta : Tok) (i : Int) (ti : Tok) (pv : Option Value) : Str → Option Value :=
  fun y => if y = Str.ofString "at" then some (.int i ti) else if y = Str.ofString "path" then pv else if y = Str.ofString "paths" then some (.ref l) else List.lookup y [(Str.ofString "text", Value.str x t), (Str.ofString "at", Value.int I ta)].reverse
theorem MSeq_start (x : Str) (t : Tok) (l : Addr) (I : Int) (ta : Tok) : (fun y => if y = Str.ofString "paths" then some (Value.ref l) else List.lookup y [(Str.ofString "text", Value.str x t), (Str.ofString "at", Value.int I ta)].reverse) = MSeq x t l I ta I ta none := by
  funext y
  unfold MSeq
  by_cases h1 : y = Str.ofString "at"
  · subst h1; rfl
  · rw [if_neg h1]
    by_cases h2 : y = Str.ofString "path"
    · subst h2; rfl
    · rw [if_neg h2]
theorem LoopJ.start {α : Type} {c : Nat} {txt : α → Str} {InV : Led → α → Value → Prop} {ps : List α} {pre post xs : List Nat} {news : Led} {l : Addr} (hp : ps ≠ []) (hl : ∀ p ∈ news, p.1 < l) (hx : xs = pre ++ (joinL c (ps.map fun e => cds (txt e)) ++ post)) : LoopJ c txt InV ps xs post news l (ps.length - 1) ((l, W.listOf #[] 0) :: news) (pre.length : Int) := by
  cases ps with
  | nil => exact absurd rfl hp
  | cons p r => exact ⟨[], r, p, [], 0, [], pre, rfl, fun q hq => Nat.ne_of_lt (hl q hq), fun _ h => absurd h List.not_mem_nil, rfl, rfl, .nil, Nat.zero_le _, hx, rfl⟩
theorem LoopJ.next {α : Type} {c : Nat} {txt : α → Str} {InV : Led → α → Value → Prop} (mono : ∀ {P P' : Led}, (∀ q ∈ P, q ∈ P') → ∀ d v, InV P d v → InV P' d v) {ps ds rs : List α} {p b : α} {pre post xs : List Nat} {news tl tl2 : Led} {l : Addr} {done : List Value} {cap : Nat} {v : Value} {i : Int} (h8 : ps.length ≤ 8)
    (hps : ds ++ p :: b :: rs = ps) (hall : All2 (InV tl) ds done) (hv : InV tl2 p v) (hoff : ∀ q ∈ tl ++ news, q.1 ≠ l) (hap : ∀ q ∈ tl, Ap q.1 news) (ap2 : ∀ q ∈ tl2, Ap q.1 ((l, W.listOf done.toArray cap) :: (tl ++ news)))
    (hx : xs = (pre ++ cds (txt p)) ++ (tailL c ((b :: rs).map fun e => cds (txt e)) ++ post)) (hi : i = ((pre.length + (cds (txt p)).length : Nat) : Int) + 1) :
    LoopJ c txt InV ps xs post news l rs.length ((l, W.listOf (done.toArray.push v) (cap + 1)) :: (tl2 ++ (tl ++ news))) i := by
  refine ⟨ds ++ [p], rs, b, done ++ [v], cap + 1, tl2 ++ tl, (pre ++ cds (txt p)) ++ [c], ?_, ?_, ?_, ?_, rfl, ?_, ?_, ?_, ?_⟩
  · rw [List.append_assoc tl2]; congr 3; simp
  · intro q hq
    rw [List.append_assoc] at hq
    rcases List.mem_append.mp hq with hq | hq
    · exact Ne.symm (ap2 q hq _ (.head _))
    · exact hoff q hq
  · intro q hq
    rcases List.mem_append.mp hq with hq | hq
    · exact fun z hz => ap2 q hq z (.tail _ (List.mem_append_right _ hz))
    · exact hap q hq
  · rw [List.append_assoc]; exact hps
  · exact .snoc (hall.mono fun d v h => mono (fun q hq => List.mem_append_right _ hq) d v h) (mono (fun q hq => List.mem_append_left _ hq) p v hv)
  · rw [List.length_append, hall.len]
    have := congrArg List.length hps
    rw [List.length_append, List.length_cons, List.length_cons] at this
    show ds.length + 1 ≤ 8
    omega
  · rw [hx, List.append_assoc _ [c]]; rfl
  · rw [hi, List.length_append, List.length_append]; rfl
theorem step_next {h₀ h' : Heap} {L : Addr} {s : Shared} {J : Nat → (Str → Option Value) → Led → Prop} {Q : Flow → Shared → Prop} {n n' : Nat} {m₂ : Str → Option Value} {ns : Led} {tk : Nat} (F : Fr h₀ L h' m₂) (N : News h₀ L h' ns) (hn : n' < n) (hJ : J n' m₂ ns) : WhileStep2 h₀ L s J Q n .next { s with heap := h', toks := tk } :=
  ⟨h', tk, m₂, ns, n', rfl, F, N, hn, hJ⟩
theorem step_ret {h₀ : Heap} {L : Addr} {s s₃ : Shared} {J : Nat → (Str → Option Value) → Led → Prop} {Q : Flow → Shared → Prop} {n : Nat} {v : Value} (h : Q (.ret v) s₃) : WhileStep2 h₀ L s J Q n (.ret v) s₃ := h
theorem MSeq_next (x : Str) (t : Tok) (l : Addr) (I : Int) (ta : Tok) (i j k : Int) (ti tj tk : Tok) (pv qv : Option Value) : (fun y => if y = Str.ofString "at" then some (Value.int k tk) else if y = Str.ofString "at" then some (Value.int j tj) else if y = Str.ofString "path" then qv else if y = Str.ofString "at" then some (Value.int i ti) else if y = Str.ofString "path" then pv else if y = Str.ofString "paths" then some (Value.ref l) else List.lookup y [(Str.ofString "text", Value.str x t), (Str.ofString "at", Value.int I ta)].reverse) = MSeq x t l I ta k tk qv := by
  funext y
  unfold MSeq
  by_cases h1 : y = Str.ofString "at"
  · subst h1; rfl
  · by_cases h2 : y = Str.ofString "path"
    · subst h2; rfl
    · simp only [if_neg h1, if_neg h2]
theorem Ways.in_of {P : Led} {e : Ways} {l : Addr} {vs : List Value} {n : Nat} (h : All2 (fun d v => ∃ a, v = .ref a ∧ d.In P a) e.toL vs) (hl : (l, W.listOf vs.toArray n) ∈ P) : e.In P l := by
  cases e with
  | one p =>
    obtain ⟨v, rfl, a, rfl, h1⟩ := All2.one h
    exact ⟨_, _, hl, h1⟩
  | two p q =>
    obtain ⟨u, v, rfl, ⟨a, rfl, h1⟩, ⟨b, rfl, h2⟩⟩ := All2.two h
    exact ⟨_, _, _, hl, h1, h2⟩
theorem lists_sum {α : Type} (f : α → List Nat) (c : Nat) (ds : List α) (p : α) {pre pre1 post xs : List Nat} (h1 : xs = pre ++ (joinL c ((ds ++ [p]).map f) ++ post)) (h2 : xs = pre1 ++ (f p ++ post)) : pre1.length + (f p).length = pre.length + (joinL c ((ds ++ [p]).map f)).length := by
  have := congrArg List.length (h1.symm.trans h2)
  simp only [List.length_append] at this
  omega
end Mine
end
end
section
local macro_rules | `(tactic| k_all) => `(tactic| assumption)
local macro_rules | `(tactic| k_mem) => `(tactic| first
  | with_reducible assumption
  | exact List.Mem.head _
  | ((with_reducible refine List.mem_cons_of_mem _ ?_); k_mem)
  | ((with_reducible refine List.mem_append.mpr (Or.inr ?_)); k_mem)
  | ((with_reducible refine List.mem_append.mpr (Or.inl ?_)); k_mem))
local macro_rules | `(tactic| k_room) => `(tactic| ((try simp only [depth_under_make, depth_under_kw, depth_in1, depth_deeper, depth_caller]); (try dsimp only); omega))
local macro_rules | `(tactic| k_units) => `(tactic| ((try simp only [units_under_make, units_in1, units_deeper, Around.mark_units, units_caller]); (try dsimp only); omega))
local macro_rules | `(tactic| walk_at "subscriptTail") => `(tactic| (k_here; (with_reducible show wpAny _ _ (subscriptTail _ _ (Value.ref _) (Value.int _ _)) _ _ _); k_dflt ((show wpAny _ _ (subscriptTail _ _ (Value.ref 433) (Value.int _ _)) _ _ _); refine' Mine.menu_K Mine.IsWord ?F ?X ?l ?a ?b ?f ?c ?_ ?hs; (case hs => with_unfolding_all rfl); (case F => k_asm); (case X => k_asm); (case l => k_is); (case a => omega); (case b => exact Int.lt_of_lt_of_le (by assumption) (by decide)); (case f => decide); (case c => exact List.forall_mem_cons.mpr ⟨⟨_, _, rfl, by decide⟩, List.forall_mem_cons.mpr ⟨⟨_, _, rfl, by decide⟩, List.forall_mem_cons.mpr ⟨⟨_, _, rfl, by decide⟩, List.forall_mem_cons.mpr ⟨⟨_, _, rfl, by decide⟩, List.forall_mem_nil _⟩⟩⟩⟩); rintro _ ⟨wd', wt', hx', hw'⟩; subst hx')))
local macro_rules | `(tactic| walk_at "subscriptTail") => `(tactic| (k_here; (with_reducible show wpAny _ _ (subscriptTail _ _ (Value.ref _) (Value.int _ _)) _ _ _); k_dflt ((show wpAny _ _ (subscriptTail _ _ (Value.ref 434) (Value.int _ _)) _ _ _); refine' Mine.menu_K Mine.IsFixed ?F ?X ?l ?a ?b ?f ?c ?_ ?hs; (case hs => with_unfolding_all rfl); (case F => k_asm); (case X => k_asm); (case l => k_is); (case a => omega); (case b => exact Int.lt_of_lt_of_le (by assumption) (by decide)); (case f => decide); (case c => exact List.forall_mem_cons.mpr ⟨⟨_, _, rfl, by decide⟩, List.forall_mem_cons.mpr ⟨⟨_, _, rfl, by decide⟩, List.forall_mem_cons.mpr ⟨⟨_, _, rfl, by decide⟩, List.forall_mem_cons.mpr ⟨⟨_, _, rfl, by decide⟩, List.forall_mem_nil _⟩⟩⟩⟩); rintro _ ⟨wd', wt', hx', hw'⟩; subst hx')))
local macro_rules | `(tactic| walk_at "subscriptTail") => `(tactic| (k_here; (with_reducible show wpAny _ _ (subscriptTail _ _ (Value.ref _) (Value.int _ _)) _ _ _); k_dflt ((show wpAny _ _ (subscriptTail _ _ (Value.ref 435) (Value.int _ _)) _ _ _); refine' Mine.menu_K Mine.IsKind ?F ?X ?l ?a ?b ?f ?c ?_ ?hs; (case hs => with_unfolding_all rfl); (case F => k_asm); (case X => k_asm); (case l => k_is); (case a => omega); (case b => exact Int.lt_of_lt_of_le (by assumption) (by decide)); (case f => decide); (case c => exact List.forall_mem_cons.mpr ⟨⟨_, _, rfl, by decide⟩, List.forall_mem_cons.mpr ⟨⟨_, _, rfl, by decide⟩, List.forall_mem_nil _⟩⟩); rintro _ ⟨wd', wt', hx', hw'⟩; subst hx')))
local macro_rules | `(tactic| walk_at "enter") => `(tactic| ((case kA => exact rfl); (case kF => exact rfl); (case kK => first | exact rfl | assumption); (case k6 => k_is); (case k7 => k_is); (case k8 => k_room); (case k9 => exact BindsTo.of_eq rfl); (case c5 => decide); (case kB => exact locs rfl); (case c2 => exact rfl); (case c3 => exact rfl); (case c4 => exact rfl); k_whole))
local macro_rules | `(tactic| walk_at "begin") => `(tactic| ((try dsimp only); (try k_unmd); (try k_fold)))
local macro_rules | `(tactic| walk_at "enterC") => `(tactic| ((case kA => exact rfl); (case kF => exact rfl); (case kK => first | exact rfl | assumption); (case k6 => k_is); (case k7 => k_is); (case k8 => k_room); (case k9 => exact BindsTo.of_eq rfl); (case kB => exact rfl); (case kD => decide +kernel); (case c2 => exact rfl); (case c3 => exact rfl); (case c4 => exact rfl); k_whole))
local macro_rules | `(tactic| walk_at "ite") => `(tactic| first | (exfalso; omega) | (with_reducible refine Mine.if_pos' (by first | omega | decide | (simp only [beq_iff_eq, bne_iff_ne, ne_eq, decide_eq_true_eq, not_true_eq_false, not_false_eq_true]; done) | (simp only [beq_iff_eq, bne_iff_ne, ne_eq, decide_eq_true_eq]; omega)) ?_) | (with_reducible refine Mine.if_neg' (by first | omega | decide | (simp only [beq_iff_eq, bne_iff_ne, ne_eq, decide_eq_true_eq, not_true_eq_false, not_false_eq_true]; done) | (simp only [beq_iff_eq, bne_iff_ne, ne_eq, decide_eq_true_eq]; omega)) ?_) | ((with_reducible refine Mine.if_both ?_ ?_) <;> (intro hc'; (try simp only [beq_iff_eq, bne_iff_ne, ne_eq, decide_eq_true_eq, Bool.not_eq_true, beq_eq_false_iff_ne, bne_eq_false_iff_eq, decide_eq_false_iff_not, Decidable.not_not] at hc'))))
local macro_rules | `(tactic| walk_at "wpAt") => `(tactic| (ks_step "exec Expr"; k_dflt (refine ks_wpAt_Expr_any ?_)))
local macro_rules | `(tactic| walk_at "wpAt") => `(tactic| (ks_step "eval Call"; k_dflt (refine ks_wpAt_MethodCall ?_)))
local macro_rules | `(tactic| walk_at "callWith ref") => `(tactic| (k_here; k_dflt (first
  | ((with_reducible refine' callWith_K0 ?k1 ?k2 ?_); (case k1 => exact Frag.In.keeps (by with_reducible assumption) (Fr.keep (by with_reducible assumption))); (case k2 => k_is); k_whole)
  | ((with_reducible refine' callWith_K ?k1 ?k2 ?_ ?k3 ?k4); (case k3 => exact rfl); (case k4 => exact rfl); (case k1 => with_reducible assumption); (case k2 => k_is); k_whole))))
local macro_rules | `(tactic| walk_at "eval Name") => `(tactic| (k_here; k_dflt (first
  | ((with_reducible refine' Mine.nameO_L ?F ?v ?_ ?a ?b ?d); (case b => rfl); (case F => k_asm); (case a => rfl); (case d => decide); (case v => rfl); k_whole)
  | ((with_reducible refine' Mine.nameO_K ?F ?X ?T ?e ?_ ?a ?b ?d); (case b => rfl); (case F => k_asm); (case X => k_asm); (case T => k_asm); (case a => rfl); (case d => decide); (case e => k_is); k_whole)
  | ((with_reducible refine' Mine.nameO_B ?F ?X ?T ?e ?v ?n ?_ ?a ?b ?d); (case b => rfl); (case F => k_asm); (case X => k_asm); (case T => k_asm); (case a => rfl); (case d => decide); (case e => k_is); (case v => boot_fast); (case n => decide); k_whole)
  | ((with_reducible refine' nameX_L ?F ?v ?_ ?a ?b); (case b => rfl); (case F => k_asm); (case a => rfl); (case v => rfl); k_whole)
  | ((with_reducible refine' nameX_K ?F ?X ?T ?e ?_ ?a ?b); (case b => rfl); (case F => k_asm); (case X => k_asm); (case T => k_asm); (case a => rfl); (case e => k_is); k_whole)
  | ((with_reducible refine' nameX_B ?F ?X ?T ?e ?v ?n ?_ ?a ?b); (case b => rfl); (case F => k_asm); (case X => k_asm); (case T => k_asm); (case a => rfl); (case e => k_is); (case v => boot_fast); (case n => decide); k_whole))))
local macro_rules | `(tactic| walk_at "ap") => `(tactic| first
  | exact List.forall_mem_nil _
  | assumption
  | exact Mine.allLt_ne (by tbn_find)
  | exact Mine.ap_lt (by assumption)
  | exact Mine.ap_lt2 (by assumption) (by assumption)
  | exact Mine.ap_lt2 (by assumption) (Mine.allLt_mem (by tbn_find))
  | exact Mine.ap_memLt (by assumption) (by intro q9 h9; k_mem)
  | exact Mine.off1_mem (by first | assumption | exact And.left (by assumption) | exact And.right (by assumption))
  | ((refine List.forall_mem_cons.mpr ⟨?_, ?_⟩); (focus (try dsimp only); first | assumption | k_ne | exact Ne.symm (by assumption) | exact Mine.ne_lt2 (by assumption) (by tbn_find) | exact Ne.symm (Mine.ne_memLt (by assumption) (by k_mem))); walk_at "ap")
  | ((refine List.forall_mem_append.mpr ⟨?_, ?_⟩) <;> walk_at "ap")
  | fail "ap: no order")
local macro_rules | `(tactic| walk_at "ord") => `(tactic| first
  | exact List.forall_mem_nil _
  | assumption
  | ((refine List.forall_mem_cons.mpr ⟨?_, ?_⟩); (focus walk_at "ap"); walk_at "ord")
  | exact Mine.aps (by assumption) (by intro q9 h9; k_mem)
  | exact Mine.aps2 (by assumption) (by k_mem) (by intro q9 h9; k_mem)
  | ((refine List.forall_mem_append.mpr ⟨?_, ?_⟩) <;> walk_at "ord")
  | fail "ord")
local macro_rules | `(tactic| walk_at "sub") => `(tactic| (intro q9 h9; simp only [List.mem_append, List.mem_cons, List.not_mem_nil, or_false, false_or, List.nil_append, List.cons_append] at h9 ⊢; first | exact h9 | grind))
local macro_rules | `(tactic| walk_at "eval ListComp") => `(tactic| (k_here; k_dflt (refine LCg.ListComp_U (F₀ := by k_asm) (by with_unfolding_all rfl) (by decide) (by rfl) (by decide) (by rfl) ?_)))
local macro_rules | `(tactic| walk_at "CompSrc") => `(tactic| (k_here; k_dflt (first
  | (refine LCg.CompSrc.ledger (by rfl) (by k_asm) (by k_asm) (by k_mem) (by first | size_fits | exact Nat.le_of_ble_eq_true rfl) ?_; intro g'; lcg_lit)
  | (refine LCg.CompSrc.range (by rfl) (by k_asm) (by k_asm) (by assumption) (by first | decide | rfl) (by first | rfl | decide) (by first | size_fits | exact Nat.le_of_ble_eq_true rfl) ?_; intro g'; lcg_lit))))
local macro_rules | `(tactic| walk_at "compareOp Eq ref ref") => `(tactic| (k_here; k_dflt ((first | (with_reducible refine' Mine.up_eq ?N ?he ?ok ?dp ?m1 ?m2 ?m3 ?m4 ?hu ?_) | (refine' Mine.up_eq ?N ?he ?ok ?dp ?m1 ?m2 ?m3 ?m4 ?hu ?_)); (case N => k_asm); (case he => (refine Mine.El.In.mono ?hs9 _ _ (by assumption); (case hs9 => (intro q9 h9; k_mem)))); (case ok => first | assumption | exact Or.inr (by assumption)); (case dp => omega); (case m1 => k_mem); (case m2 => k_mem); (case m3 => k_mem); (case m4 => k_mem); (case hu => k_units); k_whole)))
local macro_rules | `(tactic| walk_at "call ref") => `(tactic| (k_here; (show wpAny _ _ (call (Value.ref 466) _) _ _ _); k_dflt (first | (refine' Mine.new_turn ((by assumption : Mine.MadeSpec _ _) _ _ ?ok ?dp) ?B ?F ?X ?TG ?N ?sub ?T ?hk ?hd ?hu ?pre ?off ?hS ?_; (case B => k_asm); (case F => k_asm); (case X => k_asm); (case TG => k_asm); (case N => k_asm); (case sub => (intro q9 h9; k_mem)); (case T => k_asm); (case hk => first | exact rfl | assumption); (case pre => (refine Mine.El.In.mono ?hs9 _ _ (by assumption); (case hs9 => (intro q9 h9; k_mem)))); (case ok => first | assumption | exact Or.inr (by assumption)); (case dp => omega); (case hd => (unfold Mine.dM; k_room)); (case hu => (unfold Mine.uM; k_units)); (case off => first | assumption | (simp only [LCg.Off3, and_true]; assumption)); (case hS => exact fun _ => trivial); k_whole; (intro r' tl' ht' hoff' hp'); (try dsimp only)) | (refine Mine.hold ?_))))
local macro_rules | `(tactic| walk_at "subscriptTail") => `(tactic| (k_here; (with_reducible show wpAny _ _ (subscriptTail _ _ (Value.ref _) (Value.int _ _)) _ _ _); k_dflt (first | ((first | (with_reducible refine' Mine.item_led0 ?l ?_ ?hs) | (refine' Mine.item_led0 ?l ?_ ?hs)); (case l => exact News.isList (by k_asm) (by k_mem)); (case hs => with_unfolding_all rfl); k_whole) | ((first | (with_reducible refine' Mine.item_led1 ?l ?_ ?hs) | (refine' Mine.item_led1 ?l ?_ ?hs)); (case l => exact News.isList (by k_asm) (by k_mem)); (case hs => with_unfolding_all rfl); k_whole) | ((first | (with_reducible refine' Mine.item_led2 ?l ?_ ?hs) | (refine' Mine.item_led2 ?l ?_ ?hs)); (case l => exact News.isList (by k_asm) (by k_mem)); (case hs => with_unfolding_all rfl); k_whole))))
local macro_rules | `(tactic| walk_at "subscriptTail") => `(tactic| ((with_reducible show wpAny _ _ (subscriptTail _ _ _ (Value.int (0 + (Nat.cast _ : Int)) _)) _ _ _); k_dflt (first | refine Mine.sub_int (j := 0) (by decide) ?_ | refine Mine.sub_int (j := 1) (by decide) ?_ | refine Mine.sub_int (j := 2) (by decide) ?_)))
local macro_rules | `(tactic| walk_at "CompEnd") => `(tactic| (k_here; k_dflt (refine' Mine.compEnd_cut ?F ?N ?sub ?off ?hS ?_; (case F => k_asm); (case N => k_asm); (case sub => (intro q9 h9; k_mem)); (case off => first | assumption | (simp only [LCg.Off3, and_true]; assumption)); (case hS => trivial); k_whole)))
local macro_rules | `(tactic| walk_at "neq") => `(tactic| ((try dsimp only); first | assumption | k_ne | exact Mine.ne_allLt (by first | assumption | exact And.left (by assumption) | exact (And.right (by assumption)) | tbn_find) (by k_mem) | exact Mine.ne_memLt (by assumption) (by k_mem)))
local macro_rules | `(tactic| walk_at "tabs") => `(tactic| first | assumption | (refine Mine.TabsG.keeps ?_ (Fr.keep (by assumption)); walk_at "tabs"))
local macro_rules | `(tactic| walk_at "call ref") => `(tactic| (k_here; (show wpAny _ _ (call (Value.ref 302) _) _ _ _); k_dflt ((first | (with_reducible refine' Mine.Calls.use0 (Mine.mkSeq _ _) ?B ?F ?X ?TG ?N ?T ?hk ?hd ?hu ?pre ?_) | (refine' Mine.Calls.use0 (Mine.mkSeq _ _) ?B ?F ?X ?TG ?N ?T ?hk ?hd ?hu ?pre ?_)); (case B => k_asm); (case F => k_asm); (case X => k_asm); (case TG => walk_at "tabs"); (case N => k_asm); (case T => k_asm); (case hk => first | exact rfl | assumption); (case hd => k_room); (case hu => k_units); (case pre => exact True.intro); k_whole; (rintro _ tl' h' tk' F' N' ht' ⟨a', d', t', n', hr', m1', m2'⟩); subst hr'; (try dsimp only))))
local macro_rules | `(tactic| walk_at "call ref") => `(tactic| (k_here; (show wpAny _ _ (call (Value.ref 402) _) _ _ _); k_dflt ((first | (with_reducible refine' Mine.Calls.use0 (Mine.mkPath _ _ _ _ _) ?B ?F ?X ?TG ?N ?T ?hk ?hd ?hu ?pre ?_) | (refine' Mine.Calls.use0 (Mine.mkPath _ _ _ _ _) ?B ?F ?X ?TG ?N ?T ?hk ?hd ?hu ?pre ?_)); (case B => k_asm); (case F => k_asm); (case X => k_asm); (case TG => walk_at "tabs"); (case N => k_asm); (case T => k_asm); (case hk => first | exact rfl | assumption); (case hd => k_room); (case hu => k_units); (case pre => exact ⟨by k_mem, by first | assumption | exact ⟨_, _, _, _, _, rfl, by k_mem, by k_mem, by first | assumption | exact Mine.elCls_dots _ | exact Mine.elCls_nav _ | exact Mine.elCls_par _⟩⟩); k_whole; (rintro _ tl' h' tk' F' N' ht' ⟨a', d', t', n', hr', m1', m2'⟩); subst hr'; (try dsimp only))))
local macro_rules | `(tactic| walk_at "call ref") => `(tactic| (k_here; (show wpAny _ _ (call (Value.ref 203) _) _ _ _); k_dflt ((first | (with_reducible refine' Mine.Calls.use0 (Mine.mkBr _ _ _ _ _) ?B ?F ?X ?TG ?N ?T ?hk ?hd ?hu ?pre ?_) | (refine' Mine.Calls.use0 (Mine.mkBr _ _ _ _ _) ?B ?F ?X ?TG ?N ?T ?hk ?hd ?hu ?pre ?_)); (case B => k_asm); (case F => k_asm); (case X => k_asm); (case TG => walk_at "tabs"); (case N => k_asm); (case T => k_asm); (case hk => first | exact rfl | assumption); (case hd => k_room); (case hu => k_units); (case pre => exact ⟨by k_mem, by k_mem⟩); k_whole; (rintro _ tl' h' tk' F' N' ht' ⟨a', d', t', n', hr', m1', m2'⟩); subst hr'; (try dsimp only))))
local macro_rules | `(tactic| walk_at "call ref") => `(tactic| (k_here; (show wpAny _ _ (call (Value.ref 352) _) _ _ _); k_dflt ((first | (with_reducible refine' Mine.Calls.use0 (Mine.mkSt _ _ _ _ _) ?B ?F ?X ?TG ?N ?T ?hk ?hd ?hu ?pre ?_) | (refine' Mine.Calls.use0 (Mine.mkSt _ _ _ _ _) ?B ?F ?X ?TG ?N ?T ?hk ?hd ?hu ?pre ?_)); (case B => k_asm); (case F => k_asm); (case X => k_asm); (case TG => walk_at "tabs"); (case N => k_asm); (case T => k_asm); (case hk => first | exact rfl | assumption); (case hd => k_room); (case hu => k_units); (case pre => exact ⟨by k_mem, by k_mem⟩); k_whole; (rintro _ tl' h' tk' F' N' ht' ⟨a', d', t', n', hr', m1', m2'⟩); subst hr'; (try dsimp only))))
local macro_rules | `(tactic| walk_at "offl") => `(tactic| first
  | exact List.forall_mem_nil _
  | assumption
  | exact Mine.offl_of (by assumption) (by k_mem)
  | exact Mine.ap_lt (by assumption)
  | exact Mine.allLt_ne (by tbn_find)
  | ((refine List.forall_mem_cons.mpr ⟨?_, ?_⟩); (focus walk_at "neq"); walk_at "offl")
  | ((refine List.forall_mem_append.mpr ⟨?_, ?_⟩) <;> walk_at "offl"))
local macro_rules | `(tactic| walk_at "front") => `(tactic| (repeat first | with_reducible exact Mine.Front.nil | with_reducible apply Mine.Front.cons | with_reducible apply Mine.Front.app))
local macro_rules | `(tactic| walk_at "del") => `(tactic| (repeat first | with_reducible exact Mine.Del.head | with_reducible apply Mine.Del.cons | with_reducible apply Mine.Del.app))
local macro_rules | `(tactic| walk_at "upd") => `(tactic| first
  | (with_reducible apply Upd.head; walk_at "offl")
  | ((with_reducible apply Upd.tail); (focus walk_at "neq"); walk_at "upd")
  | ((with_reducible apply Mine.upd_app); (focus walk_at "offl"); walk_at "upd"))
local macro_rules | `(tactic| k_upd) => `(tactic| walk_at "upd")
local macro_rules | `(tactic| walk_at "subscriptTail Name Slice str ref") => `(tactic| (k_here; (with_reducible show wpAny _ _ (subscriptTail _ _ (Value.str _ _) (Value.ref _)) _ _ _); (refine Mine.hold ?_)))
local macro_rules | `(tactic| walk_at "subscriptTail Name Slice str ref") => `(tactic| (k_here; (with_reducible show wpAny _ _ (subscriptTail _ _ (Value.str _ _) (Value.ref _)) _ _ _); k_dflt (first | ((with_reducible refine' Mine.slice_cut (k := 0) (by with_reducible assumption) ?i ?j ?S ?a ?F ?N ?z ?_ ?s ?t); (case S => ((try dsimp only) <;> exact rfl)); (case i => omega); (case j => omega); (case a => ((try dsimp only) <;> exact rfl)); (case F => k_asm); (case N => k_asm); (case z => exact Nat.le_trans (by assumption) (Nat.le_of_ble_eq_true rfl)); (case s => with_unfolding_all rfl); (case t => (intro _; with_unfolding_all rfl)); k_whole) | ((with_reducible refine' Mine.slice_cut (k := 1) (by with_reducible assumption) ?i ?j ?S ?a ?F ?N ?z ?_ ?s ?t); (case S => ((try dsimp only) <;> exact rfl)); (case i => omega); (case j => omega); (case a => ((try dsimp only) <;> exact rfl)); (case F => k_asm); (case N => k_asm); (case z => exact Nat.le_trans (by assumption) (Nat.le_of_ble_eq_true rfl)); (case s => with_unfolding_all rfl); (case t => (intro _; with_unfolding_all rfl)); k_whole) | ((with_reducible refine' Mine.slice_cut (k := 2) (by with_reducible assumption) ?i ?j ?S ?a ?F ?N ?z ?_ ?s ?t); (case S => ((try dsimp only) <;> exact rfl)); (case i => omega); (case j => omega); (case a => ((try dsimp only) <;> exact rfl)); (case F => k_asm); (case N => k_asm); (case z => exact Nat.le_trans (by assumption) (Nat.le_of_ble_eq_true rfl)); (case s => with_unfolding_all rfl); (case t => (intro _; with_unfolding_all rfl)); k_whole) | ((with_reducible refine' Mine.slice_cut (k := 3) (by with_reducible assumption) ?i ?j ?S ?a ?F ?N ?z ?_ ?s ?t); (case S => ((try dsimp only) <;> exact rfl)); (case i => omega); (case j => omega); (case a => ((try dsimp only) <;> exact rfl)); (case F => k_asm); (case N => k_asm); (case z => exact Nat.le_trans (by assumption) (Nat.le_of_ble_eq_true rfl)); (case s => with_unfolding_all rfl); (case t => (intro _; with_unfolding_all rfl)); k_whole)); intro h9' t9' tk9' F' N'; (try dsimp only)))
local macro_rules | `(tactic| walk_at "ite") => `(tactic| first | (with_reducible refine Mine.if_neg' (by (simp only [beq_iff_eq, bne_iff_ne, ne_eq, decide_eq_true_eq]); assumption) ?_) | (with_reducible refine Mine.if_pos' (by (simp only [beq_iff_eq, bne_iff_ne, ne_eq, decide_eq_true_eq]); assumption) ?_))
local macro_rules | `(tactic| walk_at "subscriptTail") => `(tactic| (k_here; (with_reducible show wpAny _ _ (subscriptTail _ _ (Value.ref _) (Value.int _ _)) _ _ _); k_dflt (refine' item_tupleT ?t ?a ?b ?c ?d ?_; (case t => exact News.isTup (by k_asm) (by first | exact List.Mem.head _ | (with_reducible k_mem))); (case a => decide); (case b => decide); (case c => rfl); (case d => rfl); k_whole)))
local macro_rules | `(tactic| walk_at "subscriptTail Name Constant ref int") => `(tactic| (k_here; (with_reducible show wpAny _ _ (subscriptTail _ _ (Value.ref _) (Value.int _ _)) _ _ _); k_dflt (refine' item_tupleT ?t ?a ?b ?c ?d ?_; (case t => exact News.isTup (by k_asm) (by first | exact List.Mem.head _ | (with_reducible k_mem))); (case a => decide); (case b => decide); (case c => rfl); (case d => rfl); k_whole)))
local macro_rules | `(tactic| walk_at "exec While") => `(tactic| (refine Mine.hold ?_))
local macro_rules | `(tactic| walk_at "exec While Constant") => `(tactic| (refine Mine.hold ?_))
local macro_rules | `(tactic| walk_at "exec While Constant cons nil") => `(tactic| (refine Mine.hold ?_))
local macro_rules | `(tactic| walk_at "exec While Constant cons cons") => `(tactic| (refine Mine.hold ?_))
local macro_rules | `(tactic| walk_at "call ref") => `(tactic| (k_here; (show wpAny _ _ (call (Value.ref 485) _) _ _ _); (refine Mine.hold ?_)))
local macro_rules | `(tactic| walk_at "call ref") => `(tactic| (k_here; (show wpAny _ _ (call (Value.ref 492) _) _ _ _); (refine Mine.hold ?_)))
local macro_rules | `(tactic| walk_at "call builtin:list.append") => `(tactic| (k_here; (with_reducible show wpAny _ _ (call (Value.builtin "list.append") [Value.ref _, _]) _ _ _); k_dflt (refine' Mine.append_led ?F ?N ?D ?o ?z ?_; (case F => k_asm); (case N => k_asm); (case D => walk_at "del"); (case o => walk_at "offl"); (case z => (refine Mine.size_small ?_; assumption)); k_whole); intro h9' F' N'; (try dsimp only)))
section
namespace Mine
theorem read_seq (w : World) (n : Nat) (hn : n ≤ 8) (H : ReadPth w n) : ReadSeq w n := by
  intro e x t ta pre post I hok hdep hx hpost hlen hI
  have hd1 : dR n + 20 = 40 * n + 30 := by unfold dR; omega
  have hu1 : uR n + 120 = 300 * n + 220 := by unfold uR; omega
  rw [hd1, hu1]
  unfold Calls
  w_top off
  k_fill
  intro p loose mean mg mb dp un gd cn cs a ccd cl outer A₀ base h₀ L m news s Q E B F X TG N T hcs hd hu hoff hpre hret
  have hcode := TG.t1
  simp only [List.nil_append] at N
  refine wpAny_call ?_
  k_dflt (refine' code_def (binds := [("text", .str x t), ("at", .int I ta)]) B F X N T ?kA ?kF ?kK ?k6 ?k7 ?k8 ?k9 ?kB ?_ ?c2 ?c3 ?c4 ?c5)
  walk_at "enter"
  intro g' L' h' FG' F' N' B' X' T'
  have TG' := TG.keeps FG'.keep
  have hcode' := TG'.t1
  walk_at "begin"
  k_steps
  unfold Hold
  rename_i l hh hl0 hh2 kF kN
  have hxs : cds x = pre ++ (joinL 44 (e.toL.map fun p => cds p.show) ++ post) := by rw [← Ways.show_toL]; exact hx
  refine While_inv2 (fun r m₁ ns => ∃ i ti pv, m₁ = MSeq x t l I ta i ti pv ∧ LoopJ 44 Pth.show (fun P d v => ∃ a, v = .ref a ∧ d.In P a) e.toL (cds x) post news l r ns i) (n₀ := e.toL.length - 1) kF kN ⟨I, ta, none, MSeq_start .., hI ▸ LoopJ.start e.toL_len.2 hl0 hxs⟩ ?turn
  intro r m₁ ns h1 tk1 F1 N1 ⟨i, ti, pv, hm, ⟨ds, rs, p, done, cap, tl, pre1, hns, hoff1, hap1, hps, hr, hall, hdone, hx1, hi⟩⟩
  subst hm hns
  unfold MSeq at F1
  clear kF kN
  obtain ⟨hokp, hdp⟩ := Ways.toL_ok hok hdep p (hps ▸ List.mem_append_right _ (.head _))
  rw [List.map_cons, joinL_cons, List.append_assoc] at hx1
  have hstop : StopP (tailL 44 (rs.map fun e => cds e.show) ++ post) := by
    cases rs with
    | nil => exact fun c r e => .inr (hpost c r e)
    | cons b r => intro c r' e; cases e; exact .inl rfl
  k_steps
  unfold Hold
  refine Mine.Calls.use0 (H p x t _ pre1 (tailL 44 (rs.map fun e => cds e.show) ++ post) _ hokp hdp hx1 hstop hlen hi) (by k_asm) (by k_asm) (by k_asm) (by walk_at "tabs") (by k_asm) (by k_asm) rfl ?room ?units trivial ?_
  case room => unfold dR; k_room
  case units => unfold uR; k_units
  rintro _ tl2 h2 tk2 F2 N2 ap2 ⟨T2, l2, t2, rfl, m1, m2⟩
  have hx3 : cds x = (pre1 ++ cds p.show) ++ (tailL 44 (rs.map fun e => cds e.show) ++ post) := by rw [hx1, List.append_assoc]
  have hp3 : (pre1 ++ cds p.show).length = pre1.length + (cds p.show).length := List.length_append
  cases rs with
  | nil =>
    obtain ⟨y, hy, hy1⟩ := cut_stopS 0 hx3 hpost
    rw [hp3] at hy
    k_steps
    refine Mine.step_ret ?_
    k_steps
    rename_i kF kN Tc kX
    have hps2 : ds ++ [p] = e.toL := hps
    have hsum := lists_sum (fun p : Pth => cds p.show) 44 ds p (pre := pre) (pre1 := pre1) (by rw [hps2]; exact hxs) hx1
    rw [hps2, ← Ways.show_toL] at hsum
    rw [hsum, ← List.append_assoc tl2] at kN
    obtain ⟨T9, hT9, kN9⟩ := Mine.led_two kN
    subst hT9
    refine hret _ [] _ _ _ kF kN9 ?ord rfl ⟨_, _, _, rfl, .head _, ?inn⟩
    case ord =>
      clear kF kN kN9 hret
      show ∀ p ∈ (_ : Mine.Led), Mine.Ap p.1 news
      try simp only [Mine.allLt_append, AllLt] at *
      walk_at "ord"
    case inn =>
      refine Ways.in_of (vs := done ++ [.ref l2]) (n := cap + 1) ?all ?mem
      case mem => exact .tail _ (by rw [show (done ++ [Value.ref l2]).toArray = done.toArray.push (.ref l2) by simp]; exact .head _)
      case all =>
        rw [← hps2]
        refine .snoc (hall.mono ?_) ⟨l2, rfl, Pth.In.mono (fun q hq => .tail _ (.tail _ (List.mem_append_left _ hq))) _ _ m2⟩
        rintro d v ⟨a1, rfl, h1⟩
        exact ⟨a1, rfl, Pth.In.mono (fun q hq => .tail _ (.tail _ (List.mem_append_right _ hq))) _ _ h1⟩
  | cons b rs =>
    have c0 : Cut 0 x (pre1.length + (cds p.show).length) 1 "," := hp3 ▸ cut_mk 0 1 hx3 rfl
    k_steps
    rename_i kF kN
    refine Mine.step_next (n' := rs.length) kF kN (by rw [hr]; exact Nat.lt_succ_self _) ⟨_, _, _, MSeq_next _ _ _ _ _ _ _ _ _ _ _ _ _, ?_⟩
    refine LoopJ.next (fun k d v ⟨a1, e1, h1⟩ => ⟨a1, e1, Pth.In.mono k _ _ h1⟩) (Nat.le_trans e.toL_len.1 (by decide)) hps hall ⟨l2, rfl, m2⟩ hoff1 hap1 ap2 hx3 rfl
end Mine
end
section
namespace Mine
def Pth.toL : Pth → List El
  | .one a => [a]
  | .two a b => [a, b]
  | .thr a b c => [a, b, c]
def El.dn : El → Nat
  | .dots k => k
  | _ => 0
def Pth.hd : Pth → El
  | .one a => a
  | .two a _ => a
  | .thr a _ _ => a
def Pth.tl : Pth → List El
  | .one _ => []
  | .two _ b => [b]
  | .thr _ b c => [b, c]
theorem first_ne (e : El) (h : e.ok) : ∃ c r, cds e.show = c :: r ∧ c ≠ 46 ∧ c ≠ 44 ∧ c ≠ 41 := by
  cases e with
  | nav x c f =>
    obtain ⟨hx, hf⟩ := h
    cases f with
    | none =>
      cases c with
      | true =>
        have hw : ∀ k ∈ WORDS, ∃ c ∈ cds k, c ≠ 46 ∧ c ≠ 44 ∧ c ≠ 41 ∧ (cds k).take 1 = [c] := by decide
        obtain ⟨c, -, h1, h2, h3, h4⟩ := hw x hx
        show ∃ c r, cds x = c :: r ∧ _
        cases e : cds x with
        | nil => rw [e] at h4; exact absurd h4 (by simp)
        | cons d r =>
          rw [e] at h4
          have : d = c := by simpa using h4
          subst this
          exact ⟨d, r, rfl, h1, h2, h3⟩
      | false => exact ⟨126, cds x, by show ((Str.ofString "~").cps ++ x.cps).toList = _; rw [Array.toList_append]; rfl, by decide, by decide, by decide⟩
    | some y => exact ⟨39, cds (y ++ (Str.ofString "'~") ++ x), by show ((Str.ofString "'").cps ++ y.cps ++ (Str.ofString "'~").cps ++ x.cps).toList = 39 :: (y.cps ++ (Str.ofString "'~").cps ++ x.cps).toList; simp only [Array.toList_append, List.append_assoc]; rfl, by decide, by decide, by decide⟩
  | par k => exact ⟨112, _, by show ((Str.ofString "parent(").cps ++ k.cps ++ (Str.ofString ")").cps).toList = _; simp only [Array.toList_append, List.append_assoc]; rfl, by decide, by decide, by decide⟩
  | dots k => exact absurd h id
  | br ws => exact ⟨40, _, by show ((Str.ofString "(").cps ++ ws.show.cps ++ (Str.ofString ")").cps).toList = _; simp only [Array.toList_append, List.append_assoc]; rfl, by decide, by decide, by decide⟩
  | st ws => exact ⟨40, _, by show ((Str.ofString "(").cps ++ ws.show.cps ++ (Str.ofString ")").cps ++ (Str.ofString "*").cps).toList = _; simp only [Array.toList_append, List.append_assoc]; rfl, by decide, by decide, by decide⟩
theorem El.not_dots {a : El} (h : a.ok) : a.isD = false := by cases a <;> first | rfl | exact absurd h id
/-- a path read: dots, then steps -/
theorem Pth.split (e : Pth) (n : Nat) (h : e.ok) (hd : e.dep ≤ n) : ∃ (d : Nat) (es fr : List El), e.toL = fr ++ es ∧ cds e.show = List.replicate d 46 ++ joinL 46 (es.map fun a => cds a.show) ∧ (∀ a ∈ es, a.ok ∧ a.dep ≤ n) ∧ es.length ≤ 3 ∧ ((d = 0 ∧ fr = [] ∧ es ≠ []) ∨ (1 ≤ d ∧ d ≤ 3 ∧ fr = [El.dots d])) := by
  have hr : ∀ k, cds (El.dots k).show = List.replicate k 46 := fun k => Array.toList_replicate
  have ap : ∀ a b : Str, cds (a ++ b) = cds a ++ cds b := fun a b => Array.toList_append
  cases e with
  | one a =>
    rcases h with h | h
    · cases a with
      | dots k => exact ⟨k, [], [.dots k], rfl, by show cds (El.dots k).show = _; rw [hr]; exact (List.append_nil _).symm, by simp, by simp, .inr ⟨h.1, h.2, rfl⟩⟩
      | _ => exact absurd h id
    · exact ⟨0, [a], [], rfl, rfl, by intro q hq; simp at hq; subst hq; exact ⟨h, hd⟩, by simp, .inl ⟨rfl, rfl, by simp⟩⟩
  | two a b =>
    simp only [Pth.dep] at hd
    obtain ⟨h, hb⟩ := h
    rcases h with h | h
    · cases a with
      | dots k => exact ⟨k, [b], [.dots k], rfl, by show cds ((El.dots k).show ++ Str.ofString "" ++ b.show) = _; rw [ap, ap, hr]; show List.replicate k 46 ++ [] ++ cds b.show = _; rw [List.append_nil]; rfl, by intro q hq; simp at hq; subst hq; exact ⟨hb, by omega⟩, by simp, .inr ⟨h.1, h.2, rfl⟩⟩
      | _ => exact absurd h id
    · exact ⟨0, [a, b], [], rfl, by show cds (a.show ++ Str.ofString (if a.isD = true then "" else ".") ++ b.show) = _; rw [El.not_dots h, if_neg (by decide), ap, ap, List.append_assoc]; rfl, by intro q hq; simp at hq; rcases hq with rfl | rfl; exact ⟨h, by omega⟩; exact ⟨hb, by omega⟩, by simp, .inl ⟨rfl, rfl, by simp⟩⟩
  | thr a b c =>
    simp only [Pth.dep] at hd
    obtain ⟨h, hb, hc⟩ := h
    rcases h with h | h
    · cases a with
      | dots k => exact ⟨k, [b, c], [.dots k], rfl, by show cds ((El.dots k).show ++ Str.ofString "" ++ b.show ++ Str.ofString "." ++ c.show) = _; rw [ap, ap, ap, ap, hr]; show List.replicate k 46 ++ [] ++ cds b.show ++ [46] ++ cds c.show = _; rw [List.append_nil, List.append_assoc, List.append_assoc]; rfl, by intro q hq; simp at hq; rcases hq with rfl | rfl; exact ⟨hb, by omega⟩; exact ⟨hc, by omega⟩, by simp, .inr ⟨h.1, h.2, rfl⟩⟩
      | _ => exact absurd h id
    · exact ⟨0, [a, b, c], [], rfl, by show cds (a.show ++ Str.ofString (if a.isD = true then "" else ".") ++ b.show ++ Str.ofString "." ++ c.show) = _; rw [El.not_dots h, if_neg (by decide), ap, ap, ap, ap, List.append_assoc, List.append_assoc, List.append_assoc]; rfl, by intro q hq; simp at hq; rcases hq with rfl | rfl | rfl; exact ⟨h, by omega⟩; exact ⟨hb, by omega⟩; exact ⟨hc, by omega⟩, by simp, .inl ⟨rfl, rfl, by simp⟩⟩
theorem Pth.in_of {P : Led} {e : Pth} {l : Addr} {vs : List Value} {n : Nat} (h : All2 (fun d v => El.In P d v) e.toL vs) (hl : (l, W.listOf vs.toArray n) ∈ P) : e.In P l := by
  cases e with
  | one p =>
    obtain ⟨v, rfl, h1⟩ := All2.one h
    exact ⟨_, _, hl, h1⟩
  | two p q =>
    obtain ⟨u, v, rfl, h1, h2⟩ := All2.two h
    exact ⟨_, _, _, hl, h1, h2⟩
  | thr p q r =>
    obtain ⟨u, v, z, rfl, h1, h2, h3⟩ := All2.thr h
    exact ⟨_, _, _, _, hl, h1, h2, h3⟩
def MPth (x : Str) (t : Tok) (l : Addr) (I : Int) (ta : Tok) (d : Int) (td : Tok) (i : Int) (ti : Tok) (ev : Option Value) : Str → Option Value :=
  fun y => if y = Str.ofString "at" then some (.int i ti) else if y = Str.ofString "e" then ev else if y = Str.ofString "dots" then some (.int d td) else if y = Str.ofString "path" then some (.ref l) else List.lookup y [(Str.ofString "text", Value.str x t), (Str.ofString "at", Value.int I ta)].reverse
theorem MPth_start (x : Str) (t : Tok) (l : Addr) (I : Int) (ta td : Tok) (d i : Int) (ti : Tok) : (fun y => if y = Str.ofString "at" then some (.int i ti) else if y = Str.ofString "dots" then some (.int d td) else if y = Str.ofString "path" then some (Value.ref l) else List.lookup y [(Str.ofString "text", Value.str x t), (Str.ofString "at", Value.int I ta)].reverse) = MPth x t l I ta d td i ti none := by
  funext y
  unfold MPth
  by_cases h2 : y = Str.ofString "e"
  · subst h2; rfl
  · rw [if_neg h2]
theorem MPth_next (x : Str) (t : Tok) (l : Addr) (I : Int) (ta : Tok) (d : Int) (td : Tok) (i j k : Int) (ti tj tk : Tok) (pv qv : Option Value) : (fun y => if y = Str.ofString "at" then some (Value.int k tk) else if y = Str.ofString "at" then some (Value.int j tj) else if y = Str.ofString "e" then qv else if y = Str.ofString "at" then some (Value.int i ti) else if y = Str.ofString "e" then pv else if y = Str.ofString "dots" then some (.int d td) else if y = Str.ofString "path" then some (Value.ref l) else List.lookup y [(Str.ofString "text", Value.str x t), (Str.ofString "at", Value.int I ta)].reverse) = MPth x t l I ta d td k tk qv := by
  funext y
  unfold MPth
  by_cases h1 : y = Str.ofString "at"
  · subst h1; rfl
  · by_cases h2 : y = Str.ofString "e"
    · subst h2; rfl
    · simp only [if_neg h1, if_neg h2]
def MD (x : Str) (t : Tok) (l : Addr) (I : Int) (ta : Tok) (j : Nat) (T : Nat → Tok) : Str → Option Value :=
  fun y => if y = Str.ofString "at" then some (.int (I + (j : Int)) (T 0)) else if y = Str.ofString "dots" then some (.int (j : Int) (T 1)) else if y = Str.ofString "path" then some (.ref l) else List.lookup y [(Str.ofString "text", Value.str x t), (Str.ofString "at", Value.int I ta)].reverse
theorem MD_first (x : Str) (t : Tok) (l : Addr) (I : Int) (ta td : Tok) : ∃ T, (fun y => if y = Str.ofString "dots" then some (.int 0 td) else if y = Str.ofString "path" then some (Value.ref l) else List.lookup y [(Str.ofString "text", Value.str x t), (Str.ofString "at", Value.int I ta)].reverse) = MD x t l I ta 0 T := by
  refine ⟨fun n => if n = 0 then ta else td, ?_⟩
  funext y
  unfold MD
  by_cases h1 : y = Str.ofString "at"
  · subst h1
    rw [if_pos rfl, Int.ofNat_zero, Int.add_zero]; rfl
  · rw [if_neg h1]; rfl
theorem MD_next {h₀ h : Heap} {L : Addr} {s : Shared} {x : Str} {t : Tok} {l : Addr} {I : Int} {ta : Tok} {j : Nat} {T : Nat → Tok} {ta' td' : Tok} {news : Led} {tk : Nat}
    (F : Fr h₀ L h (fun y => if y = Str.ofString "at" then some (.int (I + (j : Int) + 1) ta') else if y = Str.ofString "dots" then some (.int ((j : Int) + 1) td') else if y = Str.ofString "at" then some (.int (I + (j : Int)) (T 0)) else if y = Str.ofString "dots" then some (.int (j : Int) (T 1)) else if y = Str.ofString "path" then some (.ref l) else List.lookup y [(Str.ofString "text", Value.str x t), (Str.ofString "at", Value.int I ta)].reverse))
    (N : News h₀ L h news) : TurnM h₀ L s (MD x t l I ta (j + 1)) news .next { s with heap := h, toks := tk } := by
  refine ⟨h, tk, fun n => if n = 0 then ta' else td', rfl, ?_, N⟩
  have e : MD x t l I ta (j + 1) (fun n => if n = 0 then ta' else td') = (fun y => if y = Str.ofString "at" then some (.int (I + (j : Int) + 1) ta') else if y = Str.ofString "dots" then some (.int ((j : Int) + 1) td') else if y = Str.ofString "at" then some (.int (I + (j : Int)) (T 0)) else if y = Str.ofString "dots" then some (.int (j : Int) (T 1)) else if y = Str.ofString "path" then some (.ref l) else List.lookup y [(Str.ofString "text", Value.str x t), (Str.ofString "at", Value.int I ta)].reverse) := by
    funext y
    unfold MD
    have e1 : I + ((j + 1 : Nat) : Int) = I + (j : Int) + 1 := by omega
    have e2 : ((j + 1 : Nat) : Int) = (j : Int) + 1 := by omega
    rw [e1, e2]
    by_cases h1 : y = Str.ofString "at"
    · simp only [if_pos h1, if_true]
    · by_cases h2 : y = Str.ofString "dots"
      · simp only [if_neg h1, if_pos h2]; rfl
      · simp only [if_neg h1, if_neg h2]
  rw [e]; exact F
theorem dots_first {d : Nat} {post pre : List Nat} {es : List El} {n : Nat} (hes : ∀ a ∈ es, a.ok ∧ a.dep ≤ n) (hpost : StopP post) {x : Str} (k : Nat) (hx : cds x = (pre ++ List.replicate d 46) ++ (joinL 46 (es.map fun a => cds a.show) ++ post)) : ∃ y, Cut k x (pre.length + d) 1 y ∧ y ≠ Str.ofString "." ∧ (es ≠ [] → y ≠ "" ∧ y ≠ Str.ofString "," ∧ y ≠ Str.ofString ")") ∧ (es = [] → y = "" ∨ y = Str.ofString "," ∨ y = Str.ofString ")") := by
  have hl : (pre ++ List.replicate d 46).length = pre.length + d := by rw [List.length_append, List.length_replicate]
  cases es with
  | nil =>
    cases post with
    | nil => exact ⟨"", hl ▸ cut_mk k 1 hx rfl, by decide, fun h => absurd rfl h, fun _ => .inl rfl⟩
    | cons c r =>
      rcases hpost c r rfl with rfl | rfl
      · exact ⟨",", hl ▸ cut_mk k 1 hx rfl, by decide, fun h => absurd rfl h, fun _ => .inr (.inl rfl)⟩
      · exact ⟨")", hl ▸ cut_mk k 1 hx rfl, by decide, fun h => absurd rfl h, fun _ => .inr (.inr rfl)⟩
  | cons a r =>
    obtain ⟨c, r', h1, h2, h3, h4⟩ := first_ne a (hes a (.head _)).1
    refine ⟨one c, hl ▸ cut_mk k 1 hx (by rw [List.map_cons, joinL_cons, h1]; rfl), one_ne h2, fun _ => ⟨one_ne0, one_ne h3, one_ne h4⟩, fun h => absurd h (by simp)⟩
theorem any3_no {a b c y : Str} (h1 : y ≠ a) (h2 : y ≠ b) (h3 : y ≠ c) {p : Prop} (h : ([a, b, c].any fun x => x == y) = true) : p := by
  have e1 : (a == y) = false := by simp [Ne.symm h1]
  have e2 : (b == y) = false := by simp [Ne.symm h2]
  have e3 : (c == y) = false := by simp [Ne.symm h3]
  rw [List.any_cons, List.any_cons, List.any_cons, List.any_nil, e1, e2, e3] at h
  exact absurd h (by decide)
theorem any3_yes {a b c y : Str} (h1 : y = a ∨ y = b ∨ y = c) {p : Prop} (h : ([a, b, c].any fun x => x == y) = false) : p := by
  have : ([a, b, c].any fun x => x == y) = true := by
    rw [List.any_eq_true]
    rcases h1 with rfl | rfl | rfl
    · exact ⟨_, .head _, beq_self_eq_true _⟩
    · exact ⟨_, .tail _ (.head _), beq_self_eq_true _⟩
    · exact ⟨_, .tail _ (.tail _ (.head _)), beq_self_eq_true _⟩
  rw [this] at h; exact absurd h (by decide)
def MidP (h₀ : Heap) (L : Addr) (s : Shared) (M : Str → Option Value) (l : Addr) (news : Led) (fr : List El) (f : Flow) (s₃ : Shared) : Prop :=
  f = .next ∧ ∃ h' tk vs cap tl, s₃ = { s with heap := h', toks := tk } ∧ Fr h₀ L h' M ∧ News h₀ L h' ((l, W.listOf (List.toArray vs) cap) :: (tl ++ news)) ∧ (∀ q ∈ tl ++ news, q.1 ≠ l) ∧ (∀ q ∈ tl, Ap q.1 news) ∧ All2 (fun d v => El.In tl d v) fr vs
theorem midP_dots {h₀ h' : Heap} {L l D D1 : Addr} {s : Shared} {x : Str} {t ta td ti t1 : Tok} {I i : Int} {d : Nat} {news : Led} {o : Obj} {tk : Nat}
    (F : Fr h₀ L h' (fun y => if y = Str.ofString "at" then some (.int i ti) else if y = Str.ofString "dots" then some (.int (d : Int) td) else if y = Str.ofString "path" then some (Value.ref l) else List.lookup y [(Str.ofString "text", Value.str x t), (Str.ofString "at", Value.int I ta)].reverse))
    (N : News h₀ L h' ((D, o) :: (D1, tupOf [.str "d" t1, .int (d : Int) td]) :: (l, W.listOf (#[].push (.ref D1)) (0 + 1)) :: news)) (l1 : D1 < D ∧ l < D ∧ AllLt D news) (l2 : l < D1 ∧ AllLt D1 news) (hl0 : ∀ p ∈ news, p.1 < l) :
    MidP h₀ L s (MPth x t l I ta d td i ti none) l news [El.dots d] .next { s with heap := h', toks := tk } := by
  rw [MPth_start] at F
  refine ⟨rfl, h', tk, [.ref D1], 1, [(D, o), (D1, tupOf [.str "d" t1, .int (d : Int) td])], rfl, F, ?_, ?_, ?_, ?_⟩
  · intro p hp
    apply N
    simp only [List.mem_cons, List.cons_append, List.nil_append] at hp ⊢
    rcases hp with h | h | h | h
    · exact .inr (.inr (.inl h))
    · exact .inl h
    · exact .inr (.inl h)
    · exact .inr (.inr (.inr h))
  · intro q hq
    simp only [List.mem_cons, List.cons_append, List.nil_append] at hq
    rcases hq with rfl | rfl | h
    · exact Nat.ne_of_gt l1.2.1
    · exact Nat.ne_of_gt l2.1
    · exact Nat.ne_of_lt (hl0 q h)
  · intro q hq
    simp only [List.mem_cons, List.not_mem_nil, or_false] at hq
    rcases hq with rfl | rfl
    · exact fun z hz => Nat.ne_of_lt (allLt_mem l1.2.2 z hz)
    · exact fun z hz => Nat.ne_of_lt (allLt_mem l2.2 z hz)
  · exact .snoc .nil ⟨D1, t1, td, rfl, .tail _ (.head _)⟩
theorem midP_none {h₀ h' : Heap} {L l : Addr} {s : Shared} {x : Str} {t ta td ti : Tok} {I i d : Int} {news : Led} {tk : Nat}
    (F : Fr h₀ L h' (fun y => if y = Str.ofString "at" then some (.int i ti) else if y = Str.ofString "dots" then some (.int d td) else if y = Str.ofString "path" then some (Value.ref l) else List.lookup y [(Str.ofString "text", Value.str x t), (Str.ofString "at", Value.int I ta)].reverse))
    (N : News h₀ L h' ((l, W.listOf #[] 0) :: news)) (hl0 : ∀ p ∈ news, p.1 < l) :
    MidP h₀ L s (MPth x t l I ta d td i ti none) l news [] .next { s with heap := h', toks := tk } := by
  rw [MPth_start] at F
  exact ⟨rfl, h', tk, [], 0, [], rfl, F, N, fun q hq => Nat.ne_of_lt (hl0 q hq), fun q hq => absurd hq List.not_mem_nil, .nil⟩
end Mine
namespace Mine
theorem led_four {h₀ h : Heap} {L : Addr} {a b c d : Addr × Obj} {tl n : Led} (N : News h₀ L h (a :: b :: c :: d :: (tl ++ n))) : ∃ x : Led, x = a :: b :: c :: d :: tl ∧ News h₀ L h (x ++ ([] ++ n)) := ⟨_, rfl, N⟩
end Mine
namespace Mine
theorem mem_late {α : Type} {ds rs fr es : List α} {p : α} (h : ds ++ p :: rs = fr ++ es) (hl : fr.length ≤ ds.length) : p ∈ es := by
  have e : es = (fr ++ es).drop fr.length := (List.drop_left ..).symm
  rw [e, ← h, List.drop_append_of_le_length hl]
  exact List.mem_append_right _ (.head _)
end Mine
end
section
local macro_rules | `(tactic| walk_at "exec If") => `(tactic| (k_here; (with_reducible show wpAny _ _ (exec (Stmt.If (Expr.Compare (Expr.Name (Str.ofString "dots") _) _ _ _) _ _ _) _) _ _ _); (refine Mine.hold ?_)))
local macro_rules | `(tactic| walk_at "exec If Compare") => `(tactic| (k_here; (with_reducible show wpAny _ _ (exec (Stmt.If (Expr.Compare (Expr.Name (Str.ofString "dots") _) _ _ _) _ _ _) _) _ _ _); (refine Mine.hold ?_)))
local macro_rules | `(tactic| walk_at "exec While Compare") => `(tactic| (refine Mine.hold ?_))
local macro_rules | `(tactic| walk_at "exec While Compare cons nil") => `(tactic| (refine Mine.hold ?_))
local macro_rules | `(tactic| walk_at "exec While Compare cons cons") => `(tactic| (refine Mine.hold ?_))
namespace Mine
theorem read_path (w : World) (n : Nat) (hn : n ≤ 8) (H : ReadEl w n) : ReadPth w n := by
  intro e x t ta pre post I hok hdep hx hpost hlen hI
  have hd1 : dR n + 10 = 40 * n + 20 := by unfold dR; omega
  have hu1 : uR n + 60 = 300 * n + 160 := by unfold uR; omega
  rw [hd1, hu1]
  obtain ⟨d, es, fr, htoL, hshow, hes, hes3, hd0⟩ := e.split n hok hdep
  unfold Calls
  w_top off
  k_fill
  intro p loose mean mg mb dp un gd cn cs a ccd cl outer A₀ base h₀ L m news s Q E B F X TG N T hcs hd hu hoff hpre hret
  have hcode := TG.t1
  simp only [List.nil_append] at N
  refine wpAny_call ?_
  k_dflt (refine' code_def (binds := [("text", .str x t), ("at", .int I ta)]) B F X N T ?kA ?kF ?kK ?k6 ?k7 ?k8 ?k9 ?kB ?_ ?c2 ?c3 ?c4 ?c5)
  walk_at "enter"
  intro g' L' h' FG' F' N' B' X' T'
  have TG' := TG.keeps FG'.keep
  have hcode' := TG'.t1
  walk_at "begin"
  k_steps
  unfold Hold
  rename_i l hA hl0 hB hC kF kN
  have hx0 := hx
  rw [hshow, List.append_assoc] at hx
  have hx1 : cds x = (pre ++ List.replicate d 46) ++ (joinL 46 (es.map fun a => cds a.show) ++ post) := by rw [hx, List.append_assoc]
  obtain ⟨T0, e0⟩ := MD_first x t l I ta _
  refine Mine.While_cnt (MD x t l I ta) d T0 kF kN e0 ?step ?last
  case step =>
    intro j T1 h1 tk1 hj F1 N1
    clear kF kN
    unfold MD at F1
    obtain ⟨c, hc, c2⟩ := cut_at 0 hx j (by rw [List.length_replicate]; exact hj)
    obtain rfl := List.eq_of_mem_replicate hc
    have c0 : Cut 0 x (pre.length + j) 1 "." := c2
    clear c2
    k_steps
    rename_i kF kN
    exact Mine.MD_next kF kN
  case last =>
    intro T1 h1 tk1 F1 N1
    clear kF kN
    unfold MD at F1
    obtain ⟨y, c0, hy1, hy2, hy3⟩ := dots_first (n := n) hes hpost 0 hx1
    k_steps
    unfold Hold
    rename_i kF kN
    cases es with
    | nil =>
      have hyy := hy3 rfl
      have hd2 : 1 ≤ d ∧ d ≤ 3 ∧ fr = [El.dots d] := by
        rcases hd0 with ⟨-, -, h⟩ | h
        · exact absurd rfl h
        · exact h
      have hpos : (0 : Int) < (d : Int) := by omega
      refine wpAny_If ?_
      k_steps
      all_goals first | exact Mine.any3_yes hyy (by assumption) | skip
      rename_i kF kN Tc kX
      have e5 : I + (d : Int) = ((pre.length + (cds e.show).length : Nat) : Int) := by
        have e6 : (cds e.show).length = d := by rw [hshow, List.length_append, List.length_replicate]; rfl
        rw [e6]; omega
      rw [e5] at kN
      obtain ⟨T9, hT9, kN9⟩ := Mine.led_four (n := news) (tl := []) kN
      subst hT9
      refine hret _ [] _ _ _ kF kN9 ?ord rfl ⟨_, _, _, rfl, .head _, ?inn⟩
      case ord =>
        clear kF kN kN9 hret
        show ∀ p ∈ (_ : Mine.Led), Mine.Ap p.1 news
        try simp only [Mine.allLt_append, AllLt] at *
        walk_at "ord"
      case inn =>
        refine Pth.in_of (vs := [_]) (n := 1) ?all (.tail _ (.tail _ (.tail _ (.head _))))
        rw [htoL, hd2.2.2]
        exact .snoc .nil ⟨_, _, _, rfl, .tail _ (.tail _ (.head _))⟩
    | cons b es =>
      obtain ⟨z1, z2, z3⟩ := hy2 (by simp)
      refine wpAny_mono (Q := MidP g' L' s (MPth x t l I ta d (T1 1) (I + d) (T1 0) none) l news fr) ?first (fun f s₃ h => ?rest) (fun _ _ h => h)
      case first =>
        rcases hd0 with ⟨rfl, rfl, -⟩ | ⟨hd1, hd3, rfl⟩
        · refine wpAny_If ?_
          k_steps
          exact Mine.midP_none kF kN hl0
        · have hpos : (0 : Int) < (d : Int) := by omega
          refine wpAny_If ?_
          k_steps
          · exact Mine.any3_no z1 z2 z3 (by assumption)
          · rename_i l2 _ _ _ _ _ _ _ kF kN l1 _
            exact Mine.midP_dots kF kN l1 l2 hl0
      case rest =>
        clear kF kN
        obtain ⟨rfl, h', tk, vs, cap, tl, rfl, F1, N1, off1, ap1, hall⟩ := h
        k_steps
        unfold Hold
        have hfr : fr.length ≤ 1 := by rcases hd0 with ⟨-, rfl, -⟩ | ⟨-, -, rfl⟩ <;> simp
        have hpd : (pre ++ List.replicate d 46).length = pre.length + d := by rw [List.length_append, List.length_replicate]
        refine While_inv2 (fun r m₁ ns => ∃ i ti ev, m₁ = MPth x t l I ta d (T1 1) i ti ev ∧ LoopJ 46 El.show (fun P d v => El.In P d v) e.toL (cds x) post news l r ns i ∧ r ≤ es.length) (n₀ := es.length) F1 N1 ⟨_, _, none, rfl, ⟨fr, es, b, vs, cap, tl, pre ++ List.replicate d 46, rfl, off1, ap1, htoL.symm, rfl, hall, by rw [hall.len]; omega, hx1, by rw [hpd]; omega⟩, Nat.le_refl _⟩ ?turn
        clear F1 N1 off1 ap1 hall
        intro r m₁ ns h1 tk1 F1 N1 ⟨i, ti, ev, hm, ⟨ds, rs, p, done, cap, tl, pre1, hns, hoff1, hap1, hps, hr, hall, hdone, hx1, hi⟩, hrle⟩
        subst hm hns
        unfold MPth at F1
        have hokp : p.ok ∧ p.dep ≤ n := by
          have h5 := congrArg List.length hps
          rw [htoL, List.length_append, List.length_append, List.length_cons, List.length_cons] at h5
          exact hes p (mem_late (hps.trans htoL) (by omega))
        rw [List.map_cons, joinL_cons, List.append_assoc] at hx1
        have hstop : StopE (tailL 46 (rs.map fun e => cds e.show) ++ post) := by
          cases rs with
          | nil => exact fun c r e => .inr (hpost c r e)
          | cons b r => intro c r' e; cases e; exact .inl rfl
        k_steps
        unfold Hold
        refine Mine.Calls.use0 (H p x t _ pre1 (tailL 46 (rs.map fun e => cds e.show) ++ post) _ hokp.1 hokp.2 hx1 hstop hlen hi) (by k_asm) (by k_asm) (by k_asm) (by walk_at "tabs") (by k_asm) (by k_asm) rfl ?room ?units trivial ?_
        case room => unfold dR; k_room
        case units => unfold uR; k_units
        rintro _ tl2 h2 tk2 F2 N2 ap2 ⟨T2, v2, t2, rfl, m1, m2⟩
        have hx3 : cds x = (pre1 ++ cds p.show) ++ (tailL 46 (rs.map fun e => cds e.show) ++ post) := by rw [hx1, List.append_assoc]
        have hp3 : (pre1 ++ cds p.show).length = pre1.length + (cds p.show).length := List.length_append
        cases rs with
        | nil =>
          obtain ⟨y, hy, hy1⟩ := cut_stopP 0 hx3 hpost
          rw [hp3] at hy
          clear c0
          k_steps
          refine Mine.step_ret ?_
          k_steps
          rename_i kF kN Tc kX
          have hps2 : ds ++ [p] = e.toL := hps
          have hsum : pre1.length + (cds p.show).length = pre.length + (cds e.show).length := by
            have h6 := congrArg List.length (hx0.symm.trans hx1)
            simp only [List.length_append, List.map_nil, tailL, List.nil_append] at h6
            omega
          rw [hsum, ← List.append_assoc tl2] at kN
          obtain ⟨T9, hT9, kN9⟩ := Mine.led_two kN
          subst hT9
          refine hret _ [] _ _ _ kF kN9 ?ord2 rfl ⟨_, _, _, rfl, .head _, ?inn2⟩
          case ord2 =>
            clear kF kN kN9 hret
            show ∀ p ∈ (_ : Mine.Led), Mine.Ap p.1 news
            try simp only [Mine.allLt_append, AllLt] at *
            walk_at "ord"
          case inn2 =>
            refine Pth.in_of (vs := done ++ [v2]) (n := cap + 1) ?all2 ?mem2
            case mem2 => exact .tail _ (by rw [show (done ++ [v2]).toArray = done.toArray.push v2 by simp]; exact .head _)
            case all2 =>
              rw [← hps2]
              exact .snoc (hall.mono fun d v h1 => El.In.mono (fun q hq => .tail _ (.tail _ (List.mem_append_right _ hq))) _ _ h1) (El.In.mono (fun q hq => .tail _ (.tail _ (List.mem_append_left _ hq))) _ _ m2)
        | cons b rs =>
          clear c0
          have c0 : Cut 0 x (pre1.length + (cds p.show).length) 1 "." := hp3 ▸ cut_mk 0 1 hx3 rfl
          k_steps
          rename_i kF kN
          refine Mine.step_next (n' := rs.length) kF kN (by rw [hr]; exact Nat.lt_succ_self _) ⟨_, _, _, MPth_next _ _ _ _ _ _ _ _ _ _ _ _ _ _ _, ?_, by rw [hr, List.length_cons] at hrle; omega⟩
          refine LoopJ.next (InV := fun P d v => El.In P d v) (fun k d v h1 => El.In.mono k _ _ h1) ?_ hps hall m2 hoff1 hap1 ap2 hx3 rfl
          have := congrArg List.length htoL
          rw [this, List.length_append]; omega
end Mine
end
section
namespace Mine
theorem Calls.len_eq {w : World} {d u : Nat} {f : Value} {args : List Value} {e : El} {a b : Nat} (h : a = b)
    (C : Calls w d u f args [] (fun _ => True) (fun _ _ tl r => ∃ T v t2, r = .ref T ∧ (T, tupOf [v, .int ((a : Nat) : Int) t2]) ∈ tl ∧ e.In tl v)) :
    Calls w d u f args [] (fun _ => True) (fun _ _ tl r => ∃ T v t2, r = .ref T ∧ (T, tupOf [v, .int ((b : Nat) : Int) t2]) ∈ tl ∧ e.In tl v) := h ▸ C
theorem apS (a b : Str) : cds (a ++ b) = cds a ++ cds b := Array.toList_append
theorem read_leaf (w : World) (n : Nat) (e : El) (x : Str) (t ta : Tok) (pre post : List Nat) (I : Int) (hok : e.ok) (hd : e.dep = 0) (hx : cds x = pre ++ (cds e.show ++ post)) (hpost : StopE post) (hlen : x.length ≤ 10000000) (hI : I = (pre.length : Int)) :
    Calls w (dR n) (uR n) (.ref 492) [.str x t, .int I ta] [] (fun _ => True) (fun _ _ tl r => ∃ T v t2, r = .ref T ∧ (T, tupOf [v, .int ((pre.length + (cds e.show).length : Nat) : Int) t2]) ∈ tl ∧ e.In tl v) := by
  cases e with
  | par k => exact read_par w n k x t ta pre post I hok hx hpost hlen hI
  | nav k c f =>
    obtain ⟨hk, hf⟩ := hok
    cases f with
    | none =>
      cases c with
      | true => exact read_navA w n k x t ta pre post I hk hx hpost hlen hI
      | false =>
        have hs : cds (El.nav k false none).show = 126 :: cds k := by show cds (Str.ofString "~" ++ k) = _; rw [apS]; rfl
        rw [hs] at hx ⊢
        exact read_navB w n k x t ta pre post I hk hx hpost hlen hI
    | some z =>
      obtain ⟨rfl, hz⟩ := hf
      have hs : cds (El.nav k false (some z)).show = 39 :: (cds z ++ (39 :: 126 :: cds k)) := by
        show cds (Str.ofString "'" ++ z ++ Str.ofString "'~" ++ k) = _
        rw [apS, apS, apS, List.append_assoc, List.append_assoc]; rfl
      rw [hs] at hx ⊢
      have hx' : cds x = pre ++ (39 :: (cds z ++ (39 :: 126 :: (cds k ++ post)))) := by rw [hx]; simp
      refine Calls.len_eq ?_ (read_navC w n k z x t ta pre post I hk hz hx' hpost hlen hI)
      simp only [List.length_cons, List.length_append]; omega
  | dots k => exact absurd hok id
  | br ws => simp [El.dep] at hd
  | st ws => simp [El.dep] at hd
theorem read_el0 (w : World) : ReadEl w 0 := by
  intro e x t ta pre post I hok hdep hx hpost hlen hI
  exact read_leaf w 0 e x t ta pre post I hok (Nat.le_zero.mp hdep) hx hpost hlen hI
theorem read_succ (w : World) (n : Nat) (hn : n ≤ 8) (H : ReadSeq w n) : ReadEl w (n + 1) := by
  intro e x t ta pre post I hok hdep hx hpost hlen hI
  cases e with
  | br ws =>
    have hs : cds (El.br ws).show = 40 :: (cds ws.show ++ [41]) := by
      show cds (Str.ofString "(" ++ ws.show ++ Str.ofString ")") = _
      rw [apS, apS, List.append_assoc]; rfl
    rw [hs] at hx ⊢
    simp only [El.dep] at hdep
    refine Calls.len_eq ?_ (read_br w n hn H ws false x t ta pre post I hok (by omega) (by rw [hx]; simp) hpost hlen hI)
    simp
    omega
  | st ws =>
    have hs : cds (El.st ws).show = 40 :: (cds ws.show ++ [41, 42]) := by
      show cds (Str.ofString "(" ++ ws.show ++ Str.ofString ")" ++ Str.ofString "*") = _
      rw [apS, apS, apS, List.append_assoc, List.append_assoc]; rfl
    rw [hs] at hx ⊢
    simp only [El.dep] at hdep
    refine Calls.len_eq ?_ (read_br w n hn H ws true x t ta pre post I hok (by omega) (by rw [hx]; simp) hpost hlen hI)
    simp
    omega
  | dots k => exact absurd hok id
  | par k => exact read_leaf w _ _ x t ta pre post I hok rfl hx hpost hlen hI
  | nav k c f => exact read_leaf w _ _ x t ta pre post I hok rfl hx hpost hlen hI
theorem read_all (w : World) : ∀ n, n ≤ 6 → ReadEl w n
  | 0, _ => read_el0 w
  | n + 1, h => read_succ w n (by omega) (read_seq w n (by omega) (read_path w n (by omega) (read_all w n (by omega))))
theorem read_ways (w : World) (n : Nat) (h : n ≤ 6) : ReadSeq w n := read_seq w n (by omega) (read_path w n (by omega) (read_all w n h))
end Mine
end
end
section
local macro_rules | `(tactic| k_all) => `(tactic| assumption)
local macro_rules | `(tactic| k_mem) => `(tactic| first
  | with_reducible assumption
  | exact List.Mem.head _
  | ((with_reducible refine List.mem_cons_of_mem _ ?_); k_mem)
  | ((with_reducible refine List.mem_append.mpr (Or.inr ?_)); k_mem)
  | ((with_reducible refine List.mem_append.mpr (Or.inl ?_)); k_mem))
local macro_rules | `(tactic| k_room) => `(tactic| ((try simp only [depth_under_make, depth_under_kw, depth_in1, depth_deeper, depth_caller]); (try dsimp only); omega))
local macro_rules | `(tactic| k_units) => `(tactic| ((try simp only [units_under_make, units_in1, units_deeper, Around.mark_units, units_caller]); (try dsimp only); omega))
local macro_rules | `(tactic| walk_at "subscriptTail") => `(tactic| (k_here; (with_reducible show wpAny _ _ (subscriptTail _ _ (Value.ref _) (Value.int _ _)) _ _ _); k_dflt ((show wpAny _ _ (subscriptTail _ _ (Value.ref 433) (Value.int _ _)) _ _ _); refine' Mine.menu_K Mine.IsWord ?F ?X ?l ?a ?b ?f ?c ?_ ?hs; (case hs => with_unfolding_all rfl); (case F => k_asm); (case X => k_asm); (case l => k_is); (case a => omega); (case b => exact Int.lt_of_lt_of_le (by assumption) (by decide)); (case f => decide); (case c => exact List.forall_mem_cons.mpr ⟨⟨_, _, rfl, by decide⟩, List.forall_mem_cons.mpr ⟨⟨_, _, rfl, by decide⟩, List.forall_mem_cons.mpr ⟨⟨_, _, rfl, by decide⟩, List.forall_mem_cons.mpr ⟨⟨_, _, rfl, by decide⟩, List.forall_mem_nil _⟩⟩⟩⟩); rintro _ ⟨wd', wt', hx', hw'⟩; subst hx')))
local macro_rules | `(tactic| walk_at "subscriptTail") => `(tactic| (k_here; (with_reducible show wpAny _ _ (subscriptTail _ _ (Value.ref _) (Value.int _ _)) _ _ _); k_dflt ((show wpAny _ _ (subscriptTail _ _ (Value.ref 434) (Value.int _ _)) _ _ _); refine' Mine.menu_K Mine.IsFixed ?F ?X ?l ?a ?b ?f ?c ?_ ?hs; (case hs => with_unfolding_all rfl); (case F => k_asm); (case X => k_asm); (case l => k_is); (case a => omega); (case b => exact Int.lt_of_lt_of_le (by assumption) (by decide)); (case f => decide); (case c => exact List.forall_mem_cons.mpr ⟨⟨_, _, rfl, by decide⟩, List.forall_mem_cons.mpr ⟨⟨_, _, rfl, by decide⟩, List.forall_mem_cons.mpr ⟨⟨_, _, rfl, by decide⟩, List.forall_mem_cons.mpr ⟨⟨_, _, rfl, by decide⟩, List.forall_mem_nil _⟩⟩⟩⟩); rintro _ ⟨wd', wt', hx', hw'⟩; subst hx')))
local macro_rules | `(tactic| walk_at "subscriptTail") => `(tactic| (k_here; (with_reducible show wpAny _ _ (subscriptTail _ _ (Value.ref _) (Value.int _ _)) _ _ _); k_dflt ((show wpAny _ _ (subscriptTail _ _ (Value.ref 435) (Value.int _ _)) _ _ _); refine' Mine.menu_K Mine.IsKind ?F ?X ?l ?a ?b ?f ?c ?_ ?hs; (case hs => with_unfolding_all rfl); (case F => k_asm); (case X => k_asm); (case l => k_is); (case a => omega); (case b => exact Int.lt_of_lt_of_le (by assumption) (by decide)); (case f => decide); (case c => exact List.forall_mem_cons.mpr ⟨⟨_, _, rfl, by decide⟩, List.forall_mem_cons.mpr ⟨⟨_, _, rfl, by decide⟩, List.forall_mem_nil _⟩⟩); rintro _ ⟨wd', wt', hx', hw'⟩; subst hx')))
local macro_rules | `(tactic| walk_at "enter") => `(tactic| ((case kA => exact rfl); (case kF => exact rfl); (case kK => first | exact rfl | assumption); (case k6 => k_is); (case k7 => k_is); (case k8 => k_room); (case k9 => exact BindsTo.of_eq rfl); (case c5 => decide); (case kB => exact locs rfl); (case c2 => exact rfl); (case c3 => exact rfl); (case c4 => exact rfl); k_whole))
local macro_rules | `(tactic| walk_at "begin") => `(tactic| ((try dsimp only); (try k_unmd); (try k_fold)))
local macro_rules | `(tactic| walk_at "enterC") => `(tactic| ((case kA => exact rfl); (case kF => exact rfl); (case kK => first | exact rfl | assumption); (case k6 => k_is); (case k7 => k_is); (case k8 => k_room); (case k9 => exact BindsTo.of_eq rfl); (case kB => exact rfl); (case kD => decide +kernel); (case c2 => exact rfl); (case c3 => exact rfl); (case c4 => exact rfl); k_whole))
local macro_rules | `(tactic| walk_at "ite") => `(tactic| first | (exfalso; omega) | (with_reducible refine Mine.if_pos' (by first | omega | decide | (simp only [beq_iff_eq, bne_iff_ne, ne_eq, decide_eq_true_eq, not_true_eq_false, not_false_eq_true]; done) | (simp only [beq_iff_eq, bne_iff_ne, ne_eq, decide_eq_true_eq]; omega)) ?_) | (with_reducible refine Mine.if_neg' (by first | omega | decide | (simp only [beq_iff_eq, bne_iff_ne, ne_eq, decide_eq_true_eq, not_true_eq_false, not_false_eq_true]; done) | (simp only [beq_iff_eq, bne_iff_ne, ne_eq, decide_eq_true_eq]; omega)) ?_) | ((with_reducible refine Mine.if_both ?_ ?_) <;> (intro hc'; (try simp only [beq_iff_eq, bne_iff_ne, ne_eq, decide_eq_true_eq, Bool.not_eq_true, beq_eq_false_iff_ne, bne_eq_false_iff_eq, decide_eq_false_iff_not, Decidable.not_not] at hc'))))
local macro_rules | `(tactic| walk_at "wpAt") => `(tactic| (ks_step "exec Expr"; k_dflt (refine ks_wpAt_Expr_any ?_)))
local macro_rules | `(tactic| walk_at "wpAt") => `(tactic| (ks_step "eval Call"; k_dflt (refine ks_wpAt_MethodCall ?_)))
local macro_rules | `(tactic| walk_at "callWith ref") => `(tactic| (k_here; k_dflt (first
  | ((with_reducible refine' callWith_K0 ?k1 ?k2 ?_); (case k1 => exact Frag.In.keeps (by with_reducible assumption) (Fr.keep (by with_reducible assumption))); (case k2 => k_is); k_whole)
  | ((with_reducible refine' callWith_K ?k1 ?k2 ?_ ?k3 ?k4); (case k3 => exact rfl); (case k4 => exact rfl); (case k1 => with_reducible assumption); (case k2 => k_is); k_whole))))
local macro_rules | `(tactic| walk_at "eval Name") => `(tactic| (k_here; k_dflt (first
  | ((with_reducible refine' Mine.nameO_L ?F ?v ?_ ?a ?b ?d); (case b => rfl); (case F => k_asm); (case a => rfl); (case d => decide); (case v => rfl); k_whole)
  | ((with_reducible refine' Mine.nameO_K ?F ?X ?T ?e ?_ ?a ?b ?d); (case b => rfl); (case F => k_asm); (case X => k_asm); (case T => k_asm); (case a => rfl); (case d => decide); (case e => k_is); k_whole)
  | ((with_reducible refine' Mine.nameO_B ?F ?X ?T ?e ?v ?n ?_ ?a ?b ?d); (case b => rfl); (case F => k_asm); (case X => k_asm); (case T => k_asm); (case a => rfl); (case d => decide); (case e => k_is); (case v => boot_fast); (case n => decide); k_whole)
  | ((with_reducible refine' nameX_L ?F ?v ?_ ?a ?b); (case b => rfl); (case F => k_asm); (case a => rfl); (case v => rfl); k_whole)
  | ((with_reducible refine' nameX_K ?F ?X ?T ?e ?_ ?a ?b); (case b => rfl); (case F => k_asm); (case X => k_asm); (case T => k_asm); (case a => rfl); (case e => k_is); k_whole)
  | ((with_reducible refine' nameX_B ?F ?X ?T ?e ?v ?n ?_ ?a ?b); (case b => rfl); (case F => k_asm); (case X => k_asm); (case T => k_asm); (case a => rfl); (case e => k_is); (case v => boot_fast); (case n => decide); k_whole))))
local macro_rules | `(tactic| walk_at "ap") => `(tactic| first
  | exact List.forall_mem_nil _
  | assumption
  | exact Mine.allLt_ne (by tbn_find)
  | exact Mine.ap_lt (by assumption)
  | exact Mine.ap_lt2 (by assumption) (by assumption)
  | exact Mine.ap_lt2 (by assumption) (Mine.allLt_mem (by tbn_find))
  | exact Mine.ap_memLt (by assumption) (by intro q9 h9; k_mem)
  | exact Mine.off1_mem (by first | assumption | exact And.left (by assumption) | exact And.right (by assumption))
  | ((refine List.forall_mem_cons.mpr ⟨?_, ?_⟩); (focus (try dsimp only); first | assumption | k_ne | exact Ne.symm (by assumption) | exact Mine.ne_lt2 (by assumption) (by tbn_find) | exact Ne.symm (Mine.ne_memLt (by assumption) (by k_mem))); walk_at "ap")
  | ((refine List.forall_mem_append.mpr ⟨?_, ?_⟩) <;> walk_at "ap")
  | fail "ap: no order")
local macro_rules | `(tactic| walk_at "ord") => `(tactic| first
  | exact List.forall_mem_nil _
  | assumption
  | ((refine List.forall_mem_cons.mpr ⟨?_, ?_⟩); (focus walk_at "ap"); walk_at "ord")
  | exact Mine.aps (by assumption) (by intro q9 h9; k_mem)
  | exact Mine.aps2 (by assumption) (by k_mem) (by intro q9 h9; k_mem)
  | ((refine List.forall_mem_append.mpr ⟨?_, ?_⟩) <;> walk_at "ord")
  | fail "ord")
local macro_rules | `(tactic| walk_at "sub") => `(tactic| (intro q9 h9; simp only [List.mem_append, List.mem_cons, List.not_mem_nil, or_false, false_or, List.nil_append, List.cons_append] at h9 ⊢; first | exact h9 | grind))
local macro_rules | `(tactic| walk_at "eval ListComp") => `(tactic| (k_here; k_dflt (refine LCg.ListComp_U (F₀ := by k_asm) (by with_unfolding_all rfl) (by decide) (by rfl) (by decide) (by rfl) ?_)))
local macro_rules | `(tactic| walk_at "CompSrc") => `(tactic| (k_here; k_dflt (first
  | (refine LCg.CompSrc.ledger (by rfl) (by k_asm) (by k_asm) (by k_mem) (by first | size_fits | exact Nat.le_of_ble_eq_true rfl) ?_; intro g'; lcg_lit)
  | (refine LCg.CompSrc.range (by rfl) (by k_asm) (by k_asm) (by assumption) (by first | decide | rfl) (by first | rfl | decide) (by first | size_fits | exact Nat.le_of_ble_eq_true rfl) ?_; intro g'; lcg_lit))))
local macro_rules | `(tactic| walk_at "compareOp Eq ref ref") => `(tactic| (k_here; k_dflt ((first | (with_reducible refine' Mine.up_eq ?N ?he ?ok ?dp ?m1 ?m2 ?m3 ?m4 ?hu ?_) | (refine' Mine.up_eq ?N ?he ?ok ?dp ?m1 ?m2 ?m3 ?m4 ?hu ?_)); (case N => k_asm); (case he => (refine Mine.El.In.mono ?hs9 _ _ (by assumption); (case hs9 => (intro q9 h9; k_mem)))); (case ok => first | assumption | exact Or.inr (by assumption)); (case dp => omega); (case m1 => k_mem); (case m2 => k_mem); (case m3 => k_mem); (case m4 => k_mem); (case hu => k_units); k_whole)))
local macro_rules | `(tactic| walk_at "call ref") => `(tactic| (k_here; (show wpAny _ _ (call (Value.ref 466) _) _ _ _); k_dflt (first | (refine' Mine.new_turn ((by assumption : Mine.MadeSpec _ _) _ _ ?ok ?dp) ?B ?F ?X ?TG ?N ?sub ?T ?hk ?hd ?hu ?pre ?off ?hS ?_; (case B => k_asm); (case F => k_asm); (case X => k_asm); (case TG => k_asm); (case N => k_asm); (case sub => (intro q9 h9; k_mem)); (case T => k_asm); (case hk => first | exact rfl | assumption); (case pre => (refine Mine.El.In.mono ?hs9 _ _ (by assumption); (case hs9 => (intro q9 h9; k_mem)))); (case ok => first | assumption | exact Or.inr (by assumption)); (case dp => omega); (case hd => (unfold Mine.dM; k_room)); (case hu => (unfold Mine.uM; k_units)); (case off => first | assumption | (simp only [LCg.Off3, and_true]; assumption)); (case hS => exact fun _ => trivial); k_whole; (intro r' tl' ht' hoff' hp'); (try dsimp only)) | (refine Mine.hold ?_))))
local macro_rules | `(tactic| walk_at "subscriptTail") => `(tactic| (k_here; (with_reducible show wpAny _ _ (subscriptTail _ _ (Value.ref _) (Value.int _ _)) _ _ _); k_dflt (first | ((first | (with_reducible refine' Mine.item_led0 ?l ?_ ?hs) | (refine' Mine.item_led0 ?l ?_ ?hs)); (case l => exact News.isList (by k_asm) (by k_mem)); (case hs => with_unfolding_all rfl); k_whole) | ((first | (with_reducible refine' Mine.item_led1 ?l ?_ ?hs) | (refine' Mine.item_led1 ?l ?_ ?hs)); (case l => exact News.isList (by k_asm) (by k_mem)); (case hs => with_unfolding_all rfl); k_whole) | ((first | (with_reducible refine' Mine.item_led2 ?l ?_ ?hs) | (refine' Mine.item_led2 ?l ?_ ?hs)); (case l => exact News.isList (by k_asm) (by k_mem)); (case hs => with_unfolding_all rfl); k_whole))))
local macro_rules | `(tactic| walk_at "subscriptTail") => `(tactic| ((with_reducible show wpAny _ _ (subscriptTail _ _ _ (Value.int (0 + (Nat.cast _ : Int)) _)) _ _ _); k_dflt (first | refine Mine.sub_int (j := 0) (by decide) ?_ | refine Mine.sub_int (j := 1) (by decide) ?_ | refine Mine.sub_int (j := 2) (by decide) ?_)))
local macro_rules | `(tactic| walk_at "CompEnd") => `(tactic| (k_here; k_dflt (refine' Mine.compEnd_cut ?F ?N ?sub ?off ?hS ?_; (case F => k_asm); (case N => k_asm); (case sub => (intro q9 h9; k_mem)); (case off => first | assumption | (simp only [LCg.Off3, and_true]; assumption)); (case hS => trivial); k_whole)))
local macro_rules | `(tactic| walk_at "neq") => `(tactic| ((try dsimp only); first | assumption | k_ne | exact Mine.ne_allLt (by first | assumption | exact And.left (by assumption) | exact (And.right (by assumption)) | tbn_find) (by k_mem) | exact Mine.ne_memLt (by assumption) (by k_mem)))
local macro_rules | `(tactic| walk_at "tabs") => `(tactic| first | assumption | (refine Mine.TabsG.keeps ?_ (Fr.keep (by assumption)); walk_at "tabs"))
local macro_rules | `(tactic| walk_at "call ref") => `(tactic| (k_here; (show wpAny _ _ (call (Value.ref 302) _) _ _ _); k_dflt ((first | (with_reducible refine' Mine.Calls.use0 (Mine.mkSeq _ _) ?B ?F ?X ?TG ?N ?T ?hk ?hd ?hu ?pre ?_) | (refine' Mine.Calls.use0 (Mine.mkSeq _ _) ?B ?F ?X ?TG ?N ?T ?hk ?hd ?hu ?pre ?_)); (case B => k_asm); (case F => k_asm); (case X => k_asm); (case TG => walk_at "tabs"); (case N => k_asm); (case T => k_asm); (case hk => first | exact rfl | assumption); (case hd => k_room); (case hu => k_units); (case pre => exact True.intro); k_whole; (rintro _ tl' h' tk' F' N' ht' ⟨a', d', t', n', hr', m1', m2'⟩); subst hr'; (try dsimp only))))
local macro_rules | `(tactic| walk_at "call ref") => `(tactic| (k_here; (show wpAny _ _ (call (Value.ref 402) _) _ _ _); k_dflt ((first | (with_reducible refine' Mine.Calls.use0 (Mine.mkPath _ _ _ _ _) ?B ?F ?X ?TG ?N ?T ?hk ?hd ?hu ?pre ?_) | (refine' Mine.Calls.use0 (Mine.mkPath _ _ _ _ _) ?B ?F ?X ?TG ?N ?T ?hk ?hd ?hu ?pre ?_)); (case B => k_asm); (case F => k_asm); (case X => k_asm); (case TG => walk_at "tabs"); (case N => k_asm); (case T => k_asm); (case hk => first | exact rfl | assumption); (case hd => k_room); (case hu => k_units); (case pre => exact ⟨by k_mem, by first | assumption | exact ⟨_, _, _, _, _, rfl, by k_mem, by k_mem, by first | assumption | exact Mine.elCls_dots _ | exact Mine.elCls_nav _ | exact Mine.elCls_par _⟩⟩); k_whole; (rintro _ tl' h' tk' F' N' ht' ⟨a', d', t', n', hr', m1', m2'⟩); subst hr'; (try dsimp only))))
local macro_rules | `(tactic| walk_at "call ref") => `(tactic| (k_here; (show wpAny _ _ (call (Value.ref 203) _) _ _ _); k_dflt ((first | (with_reducible refine' Mine.Calls.use0 (Mine.mkBr _ _ _ _ _) ?B ?F ?X ?TG ?N ?T ?hk ?hd ?hu ?pre ?_) | (refine' Mine.Calls.use0 (Mine.mkBr _ _ _ _ _) ?B ?F ?X ?TG ?N ?T ?hk ?hd ?hu ?pre ?_)); (case B => k_asm); (case F => k_asm); (case X => k_asm); (case TG => walk_at "tabs"); (case N => k_asm); (case T => k_asm); (case hk => first | exact rfl | assumption); (case hd => k_room); (case hu => k_units); (case pre => exact ⟨by k_mem, by k_mem⟩); k_whole; (rintro _ tl' h' tk' F' N' ht' ⟨a', d', t', n', hr', m1', m2'⟩); subst hr'; (try dsimp only))))
local macro_rules | `(tactic| walk_at "call ref") => `(tactic| (k_here; (show wpAny _ _ (call (Value.ref 352) _) _ _ _); k_dflt ((first | (with_reducible refine' Mine.Calls.use0 (Mine.mkSt _ _ _ _ _) ?B ?F ?X ?TG ?N ?T ?hk ?hd ?hu ?pre ?_) | (refine' Mine.Calls.use0 (Mine.mkSt _ _ _ _ _) ?B ?F ?X ?TG ?N ?T ?hk ?hd ?hu ?pre ?_)); (case B => k_asm); (case F => k_asm); (case X => k_asm); (case TG => walk_at "tabs"); (case N => k_asm); (case T => k_asm); (case hk => first | exact rfl | assumption); (case hd => k_room); (case hu => k_units); (case pre => exact ⟨by k_mem, by k_mem⟩); k_whole; (rintro _ tl' h' tk' F' N' ht' ⟨a', d', t', n', hr', m1', m2'⟩); subst hr'; (try dsimp only))))
local macro_rules | `(tactic| walk_at "offl") => `(tactic| first
  | exact List.forall_mem_nil _
  | assumption
  | exact Mine.offl_of (by assumption) (by k_mem)
  | exact Mine.ap_lt (by assumption)
  | exact Mine.allLt_ne (by tbn_find)
  | ((refine List.forall_mem_cons.mpr ⟨?_, ?_⟩); (focus walk_at "neq"); walk_at "offl")
  | ((refine List.forall_mem_append.mpr ⟨?_, ?_⟩) <;> walk_at "offl"))
local macro_rules | `(tactic| walk_at "front") => `(tactic| (repeat first | with_reducible exact Mine.Front.nil | with_reducible apply Mine.Front.cons | with_reducible apply Mine.Front.app))
local macro_rules | `(tactic| walk_at "del") => `(tactic| (repeat first | with_reducible exact Mine.Del.head | with_reducible apply Mine.Del.cons | with_reducible apply Mine.Del.app))
local macro_rules | `(tactic| walk_at "upd") => `(tactic| first
  | (with_reducible apply Upd.head; walk_at "offl")
  | ((with_reducible apply Upd.tail); (focus walk_at "neq"); walk_at "upd")
  | ((with_reducible apply Mine.upd_app); (focus walk_at "offl"); walk_at "upd"))
local macro_rules | `(tactic| k_upd) => `(tactic| walk_at "upd")
local macro_rules | `(tactic| walk_at "call type:str") => `(tactic| (k_here; (with_reducible show wpAny _ _ (call (Value.type "str") [_]) _ _ _); k_dflt (refine' Mine.StrSpec.use (by assumption) ?B ?F ?X ?TG ?N ?sub ?off ?hnt ?tab1 ?tab2 ?T ?hk ?hd ?hu ?pre ?_; (case B => k_asm); (case F => k_asm); (case X => k_asm); (case TG => walk_at "tabs"); (case N => k_asm); (case sub => exact fun _ h => h); (case off => assumption); (case hnt => assumption); (case tab1 => assumption); (case tab2 => assumption); (case T => k_asm); (case hk => first | exact rfl | assumption); (case hd => k_room); (case hu => k_units); (case pre => assumption); k_whole); intro ps1' ps2' tl' u' h' tk' F' N' tab1' tab2' ap'; (try dsimp only)))
section
namespace Mine
def exShow (fl : Str) (ws : Ways) : Str := if fl = "" then ws.show else "+" ++ fl ++ ":" ++ ws.show
theorem show_expr (w : World) (d0 u0 : Nat) (hd0 : d0 ≤ 900) (hu0 : u0 ≤ 9000) (ws : Ways) (H : ∀ q, StrSpec w d0 u0 (.ref q) ws.show (fun news => ws.Made w news q)) (hl : ws.show.length ≤ 1000000) (fl : Str) (hf : flagOf fl) (v : Value) :
    StrSpec w (d0 + 5) (u0 + 50) v (exShow fl ws) (fun news => ∃ q, ws.Made w news q ∧ ExprObj w news q fl v) := by
  have f0 : has1 "" "m" = false := by decide +kernel
  have f1 : has1 "m" "m" = true := by decide +kernel
  have f2 : has1 "mp" "m" = true := by decide +kernel
  have f3 : has1 "pm" "m" = true := by decide +kernel
  unfold StrSpec
  w_top off
  k_fill
  intro p loose mean mg mb dp un gd cn cs a ccd cl outer A₀ base h₀ L m ps1 ps2 news nt s Q E B F X TG N hoff hnt tab1 tab2 T hcs hd hu hpre hret
  have hcode := TG.t1
  obtain ⟨_, _, _, _, _⟩ := cs; dsimp only at hcs; subst hcs
  obtain ⟨sq, h3, a, d, t1, t2, t3, t4, tf, n, rfl, h1, h2⟩ := hpre
  replace H := H sq
  rcases hf with rfl | rfl | rfl | rfl
  · rw [f0] at h2
    k_steps
    rename_i kF kN Tc kX
    exact hret _ _ _ _ _ _ kF kN (by assumption) (by assumption) (by assumption)
  · rw [f1] at h2
    k_steps
    rename_i kF kN Tc kX
    exact Mine.str_eq (Q := Q) (by unfold exShow; rw [if_neg (by decide)]) (hret _ _ _ _ _ _ kF kN (by assumption) (by assumption) (by assumption))
  · rw [f2] at h2
    k_steps
    rename_i kF kN Tc kX
    exact Mine.str_eq (Q := Q) (by unfold exShow; rw [if_neg (by decide)]) (hret _ _ _ _ _ _ kF kN (by assumption) (by assumption) (by assumption))
  · rw [f3] at h2
    k_steps
    rename_i kF kN Tc kX
    exact Mine.str_eq (Q := Q) (by unfold exShow; rw [if_neg (by decide)]) (hret _ _ _ _ _ _ kF kN (by assumption) (by assumption) (by assumption))
end Mine
end
end
section
local macro_rules | `(tactic| k_all) => `(tactic| assumption)
local macro_rules | `(tactic| k_mem) => `(tactic| first
  | with_reducible assumption
  | exact List.Mem.head _
  | ((with_reducible refine List.mem_cons_of_mem _ ?_); k_mem)
  | ((with_reducible refine List.mem_append.mpr (Or.inr ?_)); k_mem)
  | ((with_reducible refine List.mem_append.mpr (Or.inl ?_)); k_mem))
local macro_rules | `(tactic| k_room) => `(tactic| ((try simp only [depth_under_make, depth_under_kw, depth_in1, depth_deeper, depth_caller]); (try dsimp only); omega))
local macro_rules | `(tactic| k_units) => `(tactic| ((try simp only [units_under_make, units_in1, units_deeper, Around.mark_units, units_caller]); (try dsimp only); omega))
local macro_rules | `(tactic| walk_at "subscriptTail") => `(tactic| (k_here; (with_reducible show wpAny _ _ (subscriptTail _ _ (Value.ref _) (Value.int _ _)) _ _ _); k_dflt ((show wpAny _ _ (subscriptTail _ _ (Value.ref 433) (Value.int _ _)) _ _ _); refine' Mine.menu_K Mine.IsWord ?F ?X ?l ?a ?b ?f ?c ?_ ?hs; (case hs => with_unfolding_all rfl); (case F => k_asm); (case X => k_asm); (case l => k_is); (case a => omega); (case b => exact Int.lt_of_lt_of_le (by assumption) (by decide)); (case f => decide); (case c => exact List.forall_mem_cons.mpr ⟨⟨_, _, rfl, by decide⟩, List.forall_mem_cons.mpr ⟨⟨_, _, rfl, by decide⟩, List.forall_mem_cons.mpr ⟨⟨_, _, rfl, by decide⟩, List.forall_mem_cons.mpr ⟨⟨_, _, rfl, by decide⟩, List.forall_mem_nil _⟩⟩⟩⟩); rintro _ ⟨wd', wt', hx', hw'⟩; subst hx')))
local macro_rules | `(tactic| walk_at "subscriptTail") => `(tactic| (k_here; (with_reducible show wpAny _ _ (subscriptTail _ _ (Value.ref _) (Value.int _ _)) _ _ _); k_dflt ((show wpAny _ _ (subscriptTail _ _ (Value.ref 434) (Value.int _ _)) _ _ _); refine' Mine.menu_K Mine.IsFixed ?F ?X ?l ?a ?b ?f ?c ?_ ?hs; (case hs => with_unfolding_all rfl); (case F => k_asm); (case X => k_asm); (case l => k_is); (case a => omega); (case b => exact Int.lt_of_lt_of_le (by assumption) (by decide)); (case f => decide); (case c => exact List.forall_mem_cons.mpr ⟨⟨_, _, rfl, by decide⟩, List.forall_mem_cons.mpr ⟨⟨_, _, rfl, by decide⟩, List.forall_mem_cons.mpr ⟨⟨_, _, rfl, by decide⟩, List.forall_mem_cons.mpr ⟨⟨_, _, rfl, by decide⟩, List.forall_mem_nil _⟩⟩⟩⟩); rintro _ ⟨wd', wt', hx', hw'⟩; subst hx')))
local macro_rules | `(tactic| walk_at "subscriptTail") => `(tactic| (k_here; (with_reducible show wpAny _ _ (subscriptTail _ _ (Value.ref _) (Value.int _ _)) _ _ _); k_dflt ((show wpAny _ _ (subscriptTail _ _ (Value.ref 435) (Value.int _ _)) _ _ _); refine' Mine.menu_K Mine.IsKind ?F ?X ?l ?a ?b ?f ?c ?_ ?hs; (case hs => with_unfolding_all rfl); (case F => k_asm); (case X => k_asm); (case l => k_is); (case a => omega); (case b => exact Int.lt_of_lt_of_le (by assumption) (by decide)); (case f => decide); (case c => exact List.forall_mem_cons.mpr ⟨⟨_, _, rfl, by decide⟩, List.forall_mem_cons.mpr ⟨⟨_, _, rfl, by decide⟩, List.forall_mem_nil _⟩⟩); rintro _ ⟨wd', wt', hx', hw'⟩; subst hx')))
local macro_rules | `(tactic| walk_at "enter") => `(tactic| ((case kA => exact rfl); (case kF => exact rfl); (case kK => first | exact rfl | assumption); (case k6 => k_is); (case k7 => k_is); (case k8 => k_room); (case k9 => exact BindsTo.of_eq rfl); (case c5 => decide); (case kB => exact locs rfl); (case c2 => exact rfl); (case c3 => exact rfl); (case c4 => exact rfl); k_whole))
local macro_rules | `(tactic| walk_at "begin") => `(tactic| ((try dsimp only); (try k_unmd); (try k_fold)))
local macro_rules | `(tactic| walk_at "enterC") => `(tactic| ((case kA => exact rfl); (case kF => exact rfl); (case kK => first | exact rfl | assumption); (case k6 => k_is); (case k7 => k_is); (case k8 => k_room); (case k9 => exact BindsTo.of_eq rfl); (case kB => exact rfl); (case kD => decide +kernel); (case c2 => exact rfl); (case c3 => exact rfl); (case c4 => exact rfl); k_whole))
local macro_rules | `(tactic| walk_at "ite") => `(tactic| first | (exfalso; omega) | (with_reducible refine Mine.if_pos' (by first | omega | decide | (simp only [beq_iff_eq, bne_iff_ne, ne_eq, decide_eq_true_eq, not_true_eq_false, not_false_eq_true]; done) | (simp only [beq_iff_eq, bne_iff_ne, ne_eq, decide_eq_true_eq]; omega)) ?_) | (with_reducible refine Mine.if_neg' (by first | omega | decide | (simp only [beq_iff_eq, bne_iff_ne, ne_eq, decide_eq_true_eq, not_true_eq_false, not_false_eq_true]; done) | (simp only [beq_iff_eq, bne_iff_ne, ne_eq, decide_eq_true_eq]; omega)) ?_) | ((with_reducible refine Mine.if_both ?_ ?_) <;> (intro hc'; (try simp only [beq_iff_eq, bne_iff_ne, ne_eq, decide_eq_true_eq, Bool.not_eq_true, beq_eq_false_iff_ne, bne_eq_false_iff_eq, decide_eq_false_iff_not, Decidable.not_not] at hc'))))
local macro_rules | `(tactic| walk_at "wpAt") => `(tactic| (ks_step "exec Expr"; k_dflt (refine ks_wpAt_Expr_any ?_)))
local macro_rules | `(tactic| walk_at "wpAt") => `(tactic| (ks_step "eval Call"; k_dflt (refine ks_wpAt_MethodCall ?_)))
local macro_rules | `(tactic| walk_at "callWith ref") => `(tactic| (k_here; k_dflt (first
  | ((with_reducible refine' callWith_K0 ?k1 ?k2 ?_); (case k1 => exact Frag.In.keeps (by with_reducible assumption) (Fr.keep (by with_reducible assumption))); (case k2 => k_is); k_whole)
  | ((with_reducible refine' callWith_K ?k1 ?k2 ?_ ?k3 ?k4); (case k3 => exact rfl); (case k4 => exact rfl); (case k1 => with_reducible assumption); (case k2 => k_is); k_whole))))
local macro_rules | `(tactic| walk_at "eval Name") => `(tactic| (k_here; k_dflt (first
  | ((with_reducible refine' Mine.nameO_L ?F ?v ?_ ?a ?b ?d); (case b => rfl); (case F => k_asm); (case a => rfl); (case d => decide); (case v => rfl); k_whole)
  | ((with_reducible refine' Mine.nameO_K ?F ?X ?T ?e ?_ ?a ?b ?d); (case b => rfl); (case F => k_asm); (case X => k_asm); (case T => k_asm); (case a => rfl); (case d => decide); (case e => k_is); k_whole)
  | ((with_reducible refine' Mine.nameO_B ?F ?X ?T ?e ?v ?n ?_ ?a ?b ?d); (case b => rfl); (case F => k_asm); (case X => k_asm); (case T => k_asm); (case a => rfl); (case d => decide); (case e => k_is); (case v => boot_fast); (case n => decide); k_whole)
  | ((with_reducible refine' nameX_L ?F ?v ?_ ?a ?b); (case b => rfl); (case F => k_asm); (case a => rfl); (case v => rfl); k_whole)
  | ((with_reducible refine' nameX_K ?F ?X ?T ?e ?_ ?a ?b); (case b => rfl); (case F => k_asm); (case X => k_asm); (case T => k_asm); (case a => rfl); (case e => k_is); k_whole)
  | ((with_reducible refine' nameX_B ?F ?X ?T ?e ?v ?n ?_ ?a ?b); (case b => rfl); (case F => k_asm); (case X => k_asm); (case T => k_asm); (case a => rfl); (case e => k_is); (case v => boot_fast); (case n => decide); k_whole))))
local macro_rules | `(tactic| walk_at "ap") => `(tactic| first
  | exact List.forall_mem_nil _
  | assumption
  | exact Mine.allLt_ne (by tbn_find)
  | exact Mine.ap_lt (by assumption)
  | exact Mine.ap_lt2 (by assumption) (by assumption)
  | exact Mine.ap_lt2 (by assumption) (Mine.allLt_mem (by tbn_find))
  | exact Mine.ap_memLt (by assumption) (by intro q9 h9; k_mem)
  | exact Mine.off1_mem (by first | assumption | exact And.left (by assumption) | exact And.right (by assumption))
  | ((refine List.forall_mem_cons.mpr ⟨?_, ?_⟩); (focus (try dsimp only); first | assumption | k_ne | exact Ne.symm (by assumption) | exact Mine.ne_lt2 (by assumption) (by tbn_find) | exact Ne.symm (Mine.ne_memLt (by assumption) (by k_mem))); walk_at "ap")
  | ((refine List.forall_mem_append.mpr ⟨?_, ?_⟩) <;> walk_at "ap")
  | fail "ap: no order")
local macro_rules | `(tactic| walk_at "ord") => `(tactic| first
  | exact List.forall_mem_nil _
  | assumption
  | ((refine List.forall_mem_cons.mpr ⟨?_, ?_⟩); (focus walk_at "ap"); walk_at "ord")
  | exact Mine.aps (by assumption) (by intro q9 h9; k_mem)
  | exact Mine.aps2 (by assumption) (by k_mem) (by intro q9 h9; k_mem)
  | ((refine List.forall_mem_append.mpr ⟨?_, ?_⟩) <;> walk_at "ord")
  | fail "ord")
local macro_rules | `(tactic| walk_at "sub") => `(tactic| (intro q9 h9; simp only [List.mem_append, List.mem_cons, List.not_mem_nil, or_false, false_or, List.nil_append, List.cons_append] at h9 ⊢; first | exact h9 | grind))
local macro_rules | `(tactic| walk_at "eval ListComp") => `(tactic| (k_here; k_dflt (refine LCg.ListComp_U (F₀ := by k_asm) (by with_unfolding_all rfl) (by decide) (by rfl) (by decide) (by rfl) ?_)))
local macro_rules | `(tactic| walk_at "CompSrc") => `(tactic| (k_here; k_dflt (first
  | (refine LCg.CompSrc.ledger (by rfl) (by k_asm) (by k_asm) (by k_mem) (by first | size_fits | exact Nat.le_of_ble_eq_true rfl) ?_; intro g'; lcg_lit)
  | (refine LCg.CompSrc.range (by rfl) (by k_asm) (by k_asm) (by assumption) (by first | decide | rfl) (by first | rfl | decide) (by first | size_fits | exact Nat.le_of_ble_eq_true rfl) ?_; intro g'; lcg_lit))))
local macro_rules | `(tactic| walk_at "compareOp Eq ref ref") => `(tactic| (k_here; k_dflt ((first | (with_reducible refine' Mine.up_eq ?N ?he ?ok ?dp ?m1 ?m2 ?m3 ?m4 ?hu ?_) | (refine' Mine.up_eq ?N ?he ?ok ?dp ?m1 ?m2 ?m3 ?m4 ?hu ?_)); (case N => k_asm); (case he => (refine Mine.El.In.mono ?hs9 _ _ (by assumption); (case hs9 => (intro q9 h9; k_mem)))); (case ok => first | assumption | exact Or.inr (by assumption)); (case dp => omega); (case m1 => k_mem); (case m2 => k_mem); (case m3 => k_mem); (case m4 => k_mem); (case hu => k_units); k_whole)))
local macro_rules | `(tactic| walk_at "call ref") => `(tactic| (k_here; (show wpAny _ _ (call (Value.ref 466) _) _ _ _); k_dflt (first | (refine' Mine.new_turn ((by assumption : Mine.MadeSpec _ _) _ _ ?ok ?dp) ?B ?F ?X ?TG ?N ?sub ?T ?hk ?hd ?hu ?pre ?off ?hS ?_; (case B => k_asm); (case F => k_asm); (case X => k_asm); (case TG => k_asm); (case N => k_asm); (case sub => (intro q9 h9; k_mem)); (case T => k_asm); (case hk => first | exact rfl | assumption); (case pre => (refine Mine.El.In.mono ?hs9 _ _ (by assumption); (case hs9 => (intro q9 h9; k_mem)))); (case ok => first | assumption | exact Or.inr (by assumption)); (case dp => omega); (case hd => (unfold Mine.dM; k_room)); (case hu => (unfold Mine.uM; k_units)); (case off => first | assumption | (simp only [LCg.Off3, and_true]; assumption)); (case hS => exact fun _ => trivial); k_whole; (intro r' tl' ht' hoff' hp'); (try dsimp only)) | (refine Mine.hold ?_))))
local macro_rules | `(tactic| walk_at "subscriptTail") => `(tactic| (k_here; (with_reducible show wpAny _ _ (subscriptTail _ _ (Value.ref _) (Value.int _ _)) _ _ _); k_dflt (first | ((first | (with_reducible refine' Mine.item_led0 ?l ?_ ?hs) | (refine' Mine.item_led0 ?l ?_ ?hs)); (case l => exact News.isList (by k_asm) (by k_mem)); (case hs => with_unfolding_all rfl); k_whole) | ((first | (with_reducible refine' Mine.item_led1 ?l ?_ ?hs) | (refine' Mine.item_led1 ?l ?_ ?hs)); (case l => exact News.isList (by k_asm) (by k_mem)); (case hs => with_unfolding_all rfl); k_whole) | ((first | (with_reducible refine' Mine.item_led2 ?l ?_ ?hs) | (refine' Mine.item_led2 ?l ?_ ?hs)); (case l => exact News.isList (by k_asm) (by k_mem)); (case hs => with_unfolding_all rfl); k_whole))))
local macro_rules | `(tactic| walk_at "subscriptTail") => `(tactic| ((with_reducible show wpAny _ _ (subscriptTail _ _ _ (Value.int (0 + (Nat.cast _ : Int)) _)) _ _ _); k_dflt (first | refine Mine.sub_int (j := 0) (by decide) ?_ | refine Mine.sub_int (j := 1) (by decide) ?_ | refine Mine.sub_int (j := 2) (by decide) ?_)))
local macro_rules | `(tactic| walk_at "CompEnd") => `(tactic| (k_here; k_dflt (refine' Mine.compEnd_cut ?F ?N ?sub ?off ?hS ?_; (case F => k_asm); (case N => k_asm); (case sub => (intro q9 h9; k_mem)); (case off => first | assumption | (simp only [LCg.Off3, and_true]; assumption)); (case hS => trivial); k_whole)))
local macro_rules | `(tactic| walk_at "neq") => `(tactic| ((try dsimp only); first | assumption | k_ne | exact Mine.ne_allLt (by first | assumption | exact And.left (by assumption) | exact (And.right (by assumption)) | tbn_find) (by k_mem) | exact Mine.ne_memLt (by assumption) (by k_mem)))
local macro_rules | `(tactic| walk_at "tabs") => `(tactic| first | assumption | (refine Mine.TabsG.keeps ?_ (Fr.keep (by assumption)); walk_at "tabs"))
local macro_rules | `(tactic| walk_at "call ref") => `(tactic| (k_here; (show wpAny _ _ (call (Value.ref 302) _) _ _ _); k_dflt ((first | (with_reducible refine' Mine.Calls.use0 (Mine.mkSeq _ _) ?B ?F ?X ?TG ?N ?T ?hk ?hd ?hu ?pre ?_) | (refine' Mine.Calls.use0 (Mine.mkSeq _ _) ?B ?F ?X ?TG ?N ?T ?hk ?hd ?hu ?pre ?_)); (case B => k_asm); (case F => k_asm); (case X => k_asm); (case TG => walk_at "tabs"); (case N => k_asm); (case T => k_asm); (case hk => first | exact rfl | assumption); (case hd => k_room); (case hu => k_units); (case pre => exact True.intro); k_whole; (rintro _ tl' h' tk' F' N' ht' ⟨a', d', t', n', hr', m1', m2'⟩); subst hr'; (try dsimp only))))
local macro_rules | `(tactic| walk_at "call ref") => `(tactic| (k_here; (show wpAny _ _ (call (Value.ref 402) _) _ _ _); k_dflt ((first | (with_reducible refine' Mine.Calls.use0 (Mine.mkPath _ _ _ _ _) ?B ?F ?X ?TG ?N ?T ?hk ?hd ?hu ?pre ?_) | (refine' Mine.Calls.use0 (Mine.mkPath _ _ _ _ _) ?B ?F ?X ?TG ?N ?T ?hk ?hd ?hu ?pre ?_)); (case B => k_asm); (case F => k_asm); (case X => k_asm); (case TG => walk_at "tabs"); (case N => k_asm); (case T => k_asm); (case hk => first | exact rfl | assumption); (case hd => k_room); (case hu => k_units); (case pre => exact ⟨by k_mem, by first | assumption | exact ⟨_, _, _, _, _, rfl, by k_mem, by k_mem, by first | assumption | exact Mine.elCls_dots _ | exact Mine.elCls_nav _ | exact Mine.elCls_par _⟩⟩); k_whole; (rintro _ tl' h' tk' F' N' ht' ⟨a', d', t', n', hr', m1', m2'⟩); subst hr'; (try dsimp only))))
local macro_rules | `(tactic| walk_at "call ref") => `(tactic| (k_here; (show wpAny _ _ (call (Value.ref 203) _) _ _ _); k_dflt ((first | (with_reducible refine' Mine.Calls.use0 (Mine.mkBr _ _ _ _ _) ?B ?F ?X ?TG ?N ?T ?hk ?hd ?hu ?pre ?_) | (refine' Mine.Calls.use0 (Mine.mkBr _ _ _ _ _) ?B ?F ?X ?TG ?N ?T ?hk ?hd ?hu ?pre ?_)); (case B => k_asm); (case F => k_asm); (case X => k_asm); (case TG => walk_at "tabs"); (case N => k_asm); (case T => k_asm); (case hk => first | exact rfl | assumption); (case hd => k_room); (case hu => k_units); (case pre => exact ⟨by k_mem, by k_mem⟩); k_whole; (rintro _ tl' h' tk' F' N' ht' ⟨a', d', t', n', hr', m1', m2'⟩); subst hr'; (try dsimp only))))
local macro_rules | `(tactic| walk_at "call ref") => `(tactic| (k_here; (show wpAny _ _ (call (Value.ref 352) _) _ _ _); k_dflt ((first | (with_reducible refine' Mine.Calls.use0 (Mine.mkSt _ _ _ _ _) ?B ?F ?X ?TG ?N ?T ?hk ?hd ?hu ?pre ?_) | (refine' Mine.Calls.use0 (Mine.mkSt _ _ _ _ _) ?B ?F ?X ?TG ?N ?T ?hk ?hd ?hu ?pre ?_)); (case B => k_asm); (case F => k_asm); (case X => k_asm); (case TG => walk_at "tabs"); (case N => k_asm); (case T => k_asm); (case hk => first | exact rfl | assumption); (case hd => k_room); (case hu => k_units); (case pre => exact ⟨by k_mem, by k_mem⟩); k_whole; (rintro _ tl' h' tk' F' N' ht' ⟨a', d', t', n', hr', m1', m2'⟩); subst hr'; (try dsimp only))))
local macro_rules | `(tactic| walk_at "offl") => `(tactic| first
  | exact List.forall_mem_nil _
  | assumption
  | exact Mine.offl_of (by assumption) (by k_mem)
  | exact Mine.ap_lt (by assumption)
  | exact Mine.allLt_ne (by tbn_find)
  | ((refine List.forall_mem_cons.mpr ⟨?_, ?_⟩); (focus walk_at "neq"); walk_at "offl")
  | ((refine List.forall_mem_append.mpr ⟨?_, ?_⟩) <;> walk_at "offl"))
local macro_rules | `(tactic| walk_at "front") => `(tactic| (repeat first | with_reducible exact Mine.Front.nil | with_reducible apply Mine.Front.cons | with_reducible apply Mine.Front.app))
local macro_rules | `(tactic| walk_at "del") => `(tactic| (repeat first | with_reducible exact Mine.Del.head | with_reducible apply Mine.Del.cons | with_reducible apply Mine.Del.app))
local macro_rules | `(tactic| walk_at "upd") => `(tactic| first
  | (with_reducible apply Upd.head; walk_at "offl")
  | ((with_reducible apply Upd.tail); (focus walk_at "neq"); walk_at "upd")
  | ((with_reducible apply Mine.upd_app); (focus walk_at "offl"); walk_at "upd"))
local macro_rules | `(tactic| k_upd) => `(tactic| walk_at "upd")
local macro_rules | `(tactic| walk_at "subscriptTail Name Slice str ref") => `(tactic| (k_here; (with_reducible show wpAny _ _ (subscriptTail _ _ (Value.str _ _) (Value.ref _)) _ _ _); (refine Mine.hold ?_)))
local macro_rules | `(tactic| walk_at "subscriptTail Name Slice str ref") => `(tactic| (k_here; (with_reducible show wpAny _ _ (subscriptTail _ _ (Value.str _ _) (Value.ref _)) _ _ _); k_dflt (first | ((with_reducible refine' Mine.slice_cut (k := 0) (by with_reducible assumption) ?i ?j ?S ?a ?F ?N ?z ?_ ?s ?t); (case S => ((try dsimp only) <;> exact rfl)); (case i => omega); (case j => omega); (case a => ((try dsimp only) <;> exact rfl)); (case F => k_asm); (case N => k_asm); (case z => exact Nat.le_trans (by assumption) (Nat.le_of_ble_eq_true rfl)); (case s => with_unfolding_all rfl); (case t => (intro _; with_unfolding_all rfl)); k_whole) | ((with_reducible refine' Mine.slice_cut (k := 1) (by with_reducible assumption) ?i ?j ?S ?a ?F ?N ?z ?_ ?s ?t); (case S => ((try dsimp only) <;> exact rfl)); (case i => omega); (case j => omega); (case a => ((try dsimp only) <;> exact rfl)); (case F => k_asm); (case N => k_asm); (case z => exact Nat.le_trans (by assumption) (Nat.le_of_ble_eq_true rfl)); (case s => with_unfolding_all rfl); (case t => (intro _; with_unfolding_all rfl)); k_whole) | ((with_reducible refine' Mine.slice_cut (k := 2) (by with_reducible assumption) ?i ?j ?S ?a ?F ?N ?z ?_ ?s ?t); (case S => ((try dsimp only) <;> exact rfl)); (case i => omega); (case j => omega); (case a => ((try dsimp only) <;> exact rfl)); (case F => k_asm); (case N => k_asm); (case z => exact Nat.le_trans (by assumption) (Nat.le_of_ble_eq_true rfl)); (case s => with_unfolding_all rfl); (case t => (intro _; with_unfolding_all rfl)); k_whole) | ((with_reducible refine' Mine.slice_cut (k := 3) (by with_reducible assumption) ?i ?j ?S ?a ?F ?N ?z ?_ ?s ?t); (case S => ((try dsimp only) <;> exact rfl)); (case i => omega); (case j => omega); (case a => ((try dsimp only) <;> exact rfl)); (case F => k_asm); (case N => k_asm); (case z => exact Nat.le_trans (by assumption) (Nat.le_of_ble_eq_true rfl)); (case s => with_unfolding_all rfl); (case t => (intro _; with_unfolding_all rfl)); k_whole)); intro h9' t9' tk9' F' N'; (try dsimp only)))
local macro_rules | `(tactic| walk_at "ite") => `(tactic| first | (with_reducible refine Mine.if_neg' (by (simp only [beq_iff_eq, bne_iff_ne, ne_eq, decide_eq_true_eq]); assumption) ?_) | (with_reducible refine Mine.if_pos' (by (simp only [beq_iff_eq, bne_iff_ne, ne_eq, decide_eq_true_eq]); assumption) ?_))
local macro_rules | `(tactic| walk_at "subscriptTail") => `(tactic| (k_here; (with_reducible show wpAny _ _ (subscriptTail _ _ (Value.ref _) (Value.int _ _)) _ _ _); k_dflt (refine' item_tupleT ?t ?a ?b ?c ?d ?_; (case t => exact News.isTup (by k_asm) (by first | exact List.Mem.head _ | (with_reducible k_mem))); (case a => decide); (case b => decide); (case c => rfl); (case d => rfl); k_whole)))
local macro_rules | `(tactic| walk_at "subscriptTail Name Constant ref int") => `(tactic| (k_here; (with_reducible show wpAny _ _ (subscriptTail _ _ (Value.ref _) (Value.int _ _)) _ _ _); k_dflt (refine' item_tupleT ?t ?a ?b ?c ?d ?_; (case t => exact News.isTup (by k_asm) (by first | exact List.Mem.head _ | (with_reducible k_mem))); (case a => decide); (case b => decide); (case c => rfl); (case d => rfl); k_whole)))
section
namespace Mine
mutual
def El.sl : El → Bool
  | .nav _ _ _ => false
  | .par _ => true
  | .dots _ => true
  | .br ws => ws.sl
  | .st ws => ws.sl
def Ways.sl : Ways → Bool
  | .one p => p.sl
  | .two p q => p.sl || q.sl
def Pth.sl : Pth → Bool
  | .one a => a.sl
  | .two a _ => a.sl
  | .thr a _ _ => a.sl
end
mutual
def El.sr : El → Bool
  | .nav _ _ _ => true
  | .par _ => false
  | .dots _ => false
  | .br ws => ws.sr
  | .st ws => ws.sr
def Ways.sr : Ways → Bool
  | .one p => p.sr
  | .two p q => p.sr || q.sr
def Pth.sr : Pth → Bool
  | .one a => a.sr
  | .two a _ => a.sr
  | .thr a _ _ => a.sr
end
/-- a call that gives a truth value and leaves nothing -/
def BoolSpec (w : World) (dN uN : Nat) (f v : Value) (b : Bool) (Pre : Led → Prop) : Prop :=
  Calls w dN uN f [v] [] Pre (fun _ _ _ r => r = .bool b)
theorem Pth.Made.dict {w : World} {P : Led} {p : Pth} {a : Addr} (h : p.Made w P a) : ∃ d t n l, (a, instObj 402 d) ∈ P ∧ (d, dictOf [ent w "path_elements" t (.ref l)] n) ∈ P := by
  cases p with
  | one x => simp only [Pth.Made] at h; obtain ⟨d, t, n, l, k, u, h1, h2, _⟩ := h; exact ⟨d, t, n, l, h1, h2⟩
  | two x y => simp only [Pth.Made] at h; obtain ⟨d, t, n, l, k, u, v, h1, h2, _⟩ := h; exact ⟨d, t, n, l, h1, h2⟩
  | thr x y z => simp only [Pth.Made] at h; obtain ⟨d, t, n, l, k, u, v, r, h1, h2, _⟩ := h; exact ⟨d, t, n, l, h1, h2⟩
theorem Ways.Made.dict {w : World} {P : Led} {p : Ways} {a : Addr} (h : p.Made w P a) : ∃ d t n l, (a, instObj 302 d) ∈ P ∧ (d, dictOf [ent w "paths" t (.ref l)] n) ∈ P := by
  cases p with
  | one x => simp only [Ways.Made] at h; obtain ⟨d, t, n, l, k, u, h1, h2, _⟩ := h; exact ⟨d, t, n, l, h1, h2⟩
  | two x y => simp only [Ways.Made] at h; obtain ⟨d, t, n, l, k, u, v, h1, h2, _⟩ := h; exact ⟨d, t, n, l, h1, h2⟩
theorem res_p {b b' : Bool} {v : Value} {pv : Option Value} {g : Str → Option Value} :
    (fun (y : Str) => if y = "res" then some (Value.bool b') else if y = "p" then some v else if y = "res" then some (Value.bool b) else if y = "p" then pv else g y) = fun (y : Str) => if y = "res" then some (Value.bool b') else if y = "p" then some v else g y := by
  funext y
  by_cases h1 : y = "res"
  · simp only [if_pos h1]
  · by_cases h2 : y = "p"
    · simp only [if_neg h1, if_pos h2]
    · simp only [if_neg h1, if_neg h2]
theorem Ways.sl_any (ws : Ways) : ws.sl = ws.pths.any Pth.sl := by cases ws <;> simp [Ways.sl, Ways.pths]
theorem Ways.sr_any (ws : Ways) : ws.sr = ws.pths.any Pth.sr := by cases ws <;> simp [Ways.sr, Ways.pths]
def Pth.first : Pth → El
  | .one a => a
  | .two a _ => a
  | .thr a _ _ => a
theorem Pth.sl_first (e : Pth) : e.sl = e.first.sl := by cases e <;> simp [Pth.sl, Pth.first]
theorem Pth.sr_first (e : Pth) : e.sr = e.first.sr := by cases e <;> simp [Pth.sr, Pth.first]
theorem Pth.first_dep (e : Pth) : e.first.dep ≤ e.dep := by cases e <;> simp only [Pth.dep, Pth.first] <;> omega
theorem Pth.Made.first {w : World} {P : Led} {p : Pth} {a : Addr} (h : p.Made w P a) : ∃ d t n l k v r, (a, instObj 402 d) ∈ P ∧ (d, dictOf [ent w "path_elements" t (.ref l)] n) ∈ P ∧ (l, W.listOf (v :: r).toArray k) ∈ P ∧ p.first.Made w P v := by
  cases p with
  | one x => obtain ⟨d, t, n, l, k, u, h1, h2, h3, h4⟩ := h; exact ⟨d, t, n, l, k, u, _, h1, h2, h3, h4⟩
  | two x y => obtain ⟨d, t, n, l, k, u, v, h1, h2, h3, h4, _⟩ := h; exact ⟨d, t, n, l, k, u, _, h1, h2, h3, h4⟩
  | thr x y z => obtain ⟨d, t, n, l, k, u, v, r, h1, h2, h3, h4, _⟩ := h; exact ⟨d, t, n, l, k, u, _, h1, h2, h3, h4⟩
theorem Calls.wider {w : World} {d u d' u' : Nat} {f : Value} {vs : List Value} {mu : Led} {Pre : Led → Prop} {Post : Led → Led → Led → Value → Prop} (C : Calls w d u f vs mu Pre Post) (h1 : d ≤ d') (h2 : u ≤ u') : Calls w d' u' f vs mu Pre Post :=
  fun _ _ _ _ _ _ _ _ _ _ _ _ _ _ _ _ _ _ _ _ _ _ _ B F X TG N T hk hd hu => C _ _ _ _ _ _ _ _ _ _ _ _ _ _ _ _ _ _ _ _ _ _ _ B F X TG N T hk (by omega) (by omega)
theorem Pth.In.first {P : Led} {p : Pth} {a : Addr} (h : p.In P a) : ∃ n v r, (a, W.listOf (v :: r).toArray n) ∈ P ∧ p.first.In P v := by
  cases p with
  | one x => obtain ⟨n, u, h1, h2⟩ := h; exact ⟨n, u, _, h1, h2⟩
  | two x y => obtain ⟨n, u, v, h1, h2, _⟩ := h; exact ⟨n, u, _, h1, h2⟩
  | thr x y z => obtain ⟨n, u, v, r, h1, h2, _⟩ := h; exact ⟨n, u, _, h1, h2⟩
open PyProof.Rows.LCg in
/-- a turn of a comprehension whose element is a call that turns nothing -/
theorem new_turn2 {w : World} {dN uN : Nat} {f : Value} {vs : List Value} {Pre : Led → Prop} {Post : Led → Value → Prop}
    (C : Calls w dN uN f vs [] Pre (fun _ _ tl r => Post tl r))
    {p : Program} {loose : List Str} {mean : ExcName → Option Value} {mg mb : Str → Option Value} {dp un : Nat} {gd : Option (List Code)} {cn : Str} {cs : Scope} {a : Addr} {ccd : Value} {cl : List (Str × Addr)} {outer : List Env}
    {A₀ : Around} {base h₀ : Heap} {L : Addr} {m : Str → Option Value} {rest : Led} {s : Shared} {E : Value → Shared → Prop} {I C' D : Addr} {oI oC oD : Obj} {S : Led → Prop} {Rest : Value → Led → Prop}
    (B : Below A₀ base outer h₀) (F : Fr h₀ L s.heap m) (X : (hd.heap_39 w.params).In h₀) (TG : TabsG h₀) {all : Led} (N : News h₀ L s.heap all) (hsub : ∀ p ∈ (I, oI) :: (C', oC) :: (D, oD) :: rest, p ∈ all) (T : Top p loose mean mg mb h₀) (hk : cs.kind = .function)
    (hd : dp + dN < recursionLimit) (hu : un + uN < cLine) (pre : Pre ((I, oI) :: (C', oC) :: (D, oD) :: rest)) (off : Off3 I C' D rest) (hS : ∀ tl, S (tl ++ rest))
    (cont : ∀ r tl, (∀ p ∈ tl, Ap p.1 ((I, oI) :: (C', oC) :: (D, oD) :: rest)) → Off3 I C' D (tl ++ rest) → Post tl r → Rest r (tl ++ rest)) :
    wpAny (model PySem.Challenge.rw_wx0015_01.row.prog w) (ktrTop dp un gd cn cs L a ccd cl outer) (call f vs) (CompEnd h₀ L m s I oI C' oC D oD S Rest) E s := by
  have offm := Off3.mem off
  refine C.use ((I, oI) :: (C', oC) :: (D, oD) :: rest) B F X TG N T hk hd hu (fun p hp => hsub p hp) (List.forall_mem_nil _) pre ?_
  rintro r mu' tl h' tk' F' N' ht hmu hp
  obtain rfl : mu' = [] := by cases mu' with | nil => rfl | cons _ _ => cases hmu
  simp only [List.nil_append] at N' ht
  have off' : Off3 I C' D (tl ++ rest) := Off3.of fun q hq => by
    rcases List.mem_append.mp hq with h | h
    · exact ⟨Ne.symm (ht q h _ (.head _)), Ne.symm (ht q h _ (.tail _ (.head _))), Ne.symm (ht q h _ (.tail _ (.tail _ (.head _))))⟩
    · exact offm q h
  refine CompEnd.intro F' N' (tl ++ rest) ?_ off' (hS _) (cont r tl ht off' hp)
  intro p hp
  simp only [List.mem_append, List.mem_cons] at hp ⊢
  rcases hp with h | h | h | h | h <;> simp only [h, true_or, or_true]
end Mine
end
section
local macro_rules | `(tactic| walk_at "call ref") => `(tactic| (k_here; (show wpAny _ _ (call (Value.ref 284) _) _ _ _); (refine Mine.hold ?_)))
namespace Mine
theorem sl_pth (w : World) (d0 u0 : Nat) (hd0 : d0 ≤ 900) (hu0 : u0 ≤ 9000) (e : Pth) (H : ∀ ws, (e.first = .br ws ∨ e.first = .st ws) → ∀ a, BoolSpec w d0 u0 (.ref 284) (.ref a) ws.sl (fun news => ws.Made w news a)) (q : Addr) :
    BoolSpec w (d0 + 10) (u0 + 100) (.ref 384) (.ref q) e.sl (fun news => e.Made w news q) := by
  unfold BoolSpec Calls
  w_top off
  k_fill
  intro p loose mean mg mb dp un gd cn cs a ccd cl outer A₀ base h₀ L m news s Q E B F X TG N T hcs hd hu hoff hpre hret
  have hcode := TG.t1
  simp only [List.nil_append] at N
  obtain ⟨_, _, _, _, _⟩ := cs; dsimp only at hcs; subst hcs
  obtain ⟨d, t1, n, l, k, v, r, h1, h2, h3, h4⟩ := hpre.first
  rw [Pth.sl_first] at hret
  cases hf : e.first with
  | nav x c f =>
    rw [hf] at h4 hret
    obtain ⟨a5, d5, t5, t6, t7, t8, t9, n5, fv, ev, rfl, h5, h6, h7⟩ := h4
    k_steps
    rename_i kF kN Tc kX
    exact hret _ [] [] _ _ kF kN (List.forall_mem_nil _) rfl rfl
  | par x =>
    rw [hf] at h4 hret
    obtain ⟨a5, d5, t5, t6, n5, rfl, h5, h6⟩ := h4
    k_steps
    rename_i kF kN Tc kX
    exact hret _ [] [] _ _ kF kN (List.forall_mem_nil _) rfl rfl
  | dots x =>
    rw [hf] at h4 hret
    obtain ⟨a5, d5, t5, t6, n5, rfl, h5, h6⟩ := h4
    k_steps
    rename_i kF kN Tc kX
    exact hret _ [] [] _ _ kF kN (List.forall_mem_nil _) rfl rfl
  | br ws =>
    rw [hf] at h4 hret
    replace H := H ws (.inl hf)
    obtain ⟨a5, d5, t5, n5, q5, rfl, h5, h6, h7⟩ := h4
    obtain ⟨dq, tq, nq, lq, hq1, hq2⟩ := Ways.Made.dict h7
    k_steps
    unfold Hold
    refine Mine.Calls.use0 (H q5) (by k_asm) (by k_asm) (by k_asm) (by walk_at "tabs") (by k_asm) (by k_asm) rfl ?hd2 ?hu2 ?pre2 ?_
    case hd2 => k_room
    case hu2 => k_units
    case pre2 => exact h7
    rintro _ tl6 h6 tk6 F6 N6 ap6 rfl
    k_steps
    rename_i kF kN Tc kX
    exact hret _ [] tl6 _ _ kF kN ap6 rfl rfl
  | st ws =>
    rw [hf] at h4 hret
    replace H := H ws (.inr hf)
    obtain ⟨a5, d5, t5, n5, b5, d8, t8, n8, q5, rfl, h5, h6, h8, h9, h7⟩ := h4
    obtain ⟨dq, tq, nq, lq, hq1, hq2⟩ := Ways.Made.dict h7
    k_steps
    unfold Hold
    refine Mine.Calls.use0 (H q5) (by k_asm) (by k_asm) (by k_asm) (by walk_at "tabs") (by k_asm) (by k_asm) rfl ?hd2 ?hu2 ?pre2 ?_
    case hd2 => k_room
    case hu2 => k_units
    case pre2 => exact h7
    rintro _ tl6 h6 tk6 F6 N6 ap6 rfl
    k_steps
    rename_i kF kN Tc kX
    exact hret _ [] tl6 _ _ kF kN ap6 rfl rfl
end Mine
local macro_rules | `(tactic| walk_at "call ref") => `(tactic| (k_here; (show wpAny _ _ (call (Value.ref 384) _) _ _ _); (refine Mine.hold ?_)))
local macro_rules | `(tactic| walk_at "pyIter ref") => `(tactic| refine Mine.hold ?_)
local macro_rules | `(tactic| walk_at "UnrEnd") => `(tactic| refine Mine.hold ?_)
namespace Mine
theorem sl_seq (w : World) (d0 u0 : Nat) (hd0 : d0 ≤ 900) (hu0 : u0 ≤ 9000) (ws : Ways) (H : ∀ (i : Nat) (p : Pth), ws.pths[i]? = some p → ∀ a, BoolSpec w d0 u0 (.ref 384) (.ref a) p.sl (fun news => p.Made w news a)) (q : Addr) :
    BoolSpec w (d0 + 5) (u0 + 60) (.ref 284) (.ref q) ws.sl (fun news => ws.Made w news q) := by
  unfold BoolSpec Calls
  k_fill
  intro p loose mean mg mb dp un gd cn cs a ccd cl outer A₀ base h₀ L m news s Q E B F X TG N T hcs hd hu hoff hpre hret
  have hcode := TG.t1
  simp only [List.nil_append] at N
  obtain ⟨d, t1, n, l, k, us, h1, h2, h3, hlen, hus⟩ := hpre.list
  refine wpAny_call ?_
  k_dflt (refine' code_def (binds := [("self", .ref q)]) B F X N T ?kA ?kF ?kK ?k6 ?k7 ?k8 ?k9 ?kB ?_ ?c2 ?c3 ?c4 ?c5)
  walk_at "enter"
  intro g' L' h' FG' F' N' B' X' T'
  have TG' := TG.keeps FG'.keep
  have hcode' := TG'.t1
  walk_at "begin"
  k_steps
  unfold Hold
  rename_i kF kN
  refine iter_listUnr (lo := W.listOf us.toArray k) (vs := us) (by rfl) kF kN h3 rfl rfl (fun I hI => ?_)
  refine Mine.listRest_fold (fun i m1 ns => ns = news ∧ ∃ pv, m1 = fun (y : Str) => if y = "res" then some (Value.bool ((ws.pths.take i).any Pth.sl)) else if y = "p" then pv else List.lookup y [(("self" : Str), Value.ref q)].reverse) ⟨rfl, none, ?_⟩ ?step h3 ?done
  case step =>
    rintro i v m1 ns it h5 tk5 hv ⟨rfl, pv, rfl⟩ hl hc F5 N5
    obtain ⟨pp, b, hpp, rfl, hmd⟩ := hus i v hv
    obtain ⟨d6, t6, n6, l6, h6, h7⟩ := Pth.Made.dict hmd
    have hb : (ws.pths.take (i + 1)).any Pth.sl = ((ws.pths.take i).any Pth.sl || pp.sl) := by
      rw [List.take_add_one, hpp, List.any_append]; simp
    cases hv9 : (ws.pths.take i).any Pth.sl with
    | true =>
      rw [hv9] at F5 hb
      k_steps
      unfold Hold
      rename_i kF kN
      exact UnrEnd.intro kF kN ns (fun p hp => hp) (fun p hp => Nat.ne_of_lt (hI p hp)) ⟨hl, rfl, some (.ref b), by rw [hb]; exact res_p⟩
    | false =>
      rw [hv9] at F5 hb
      k_steps
      unfold Hold
      refine Mine.Calls.use0 (H i pp hpp b) (by k_asm) (by k_asm) (by k_asm) (by walk_at "tabs") N5 (by k_asm) rfl ?hd2 ?hu2 ?pre2 ?_
      case hd2 => k_room
      case hu2 => k_units
      case pre2 => exact Pth.Made.mono (fun z hz => .tail _ hz) _ _ hmd
      rintro _ tl6 h6 tk6 F6 N6 ap6 rfl
      k_steps
      unfold Hold
      rename_i kF kN
      exact UnrEnd.intro kF kN ns (fun z hz => List.mem_append.mpr (.inr hz)) (fun p hp => Nat.ne_of_lt (hI p hp)) ⟨hl, rfl, some (.ref b), by rw [hb]; exact res_p⟩
  case done =>
    rintro m1 ns h5 tk5 ⟨rfl, pv, rfl⟩ F5 N5
    k_steps
    rename_i kF kN Tc kX
    refine hret _ [] [] _ _ kF kN (List.forall_mem_nil _) rfl ?_
    rw [Ways.sl_any, hlen, List.take_length]
  · funext y
    by_cases h1 : y = "p"
    · subst h1; rfl
    · simp only [if_neg h1]; rfl
theorem sl_all (w : World) : ∀ n, n ≤ 8 → ∀ ws : Ways, ws.dep ≤ n → ∀ a, BoolSpec w (30 * n + 20) (300 * n + 200) (.ref 284) (.ref a) ws.sl (fun news => ws.Made w news a)
  | 0, _, ws, hw, a => by
    refine Calls.wider (sl_seq w 15 140 (by omega) (by omega) ws (fun i p hp b => Calls.wider (sl_pth w 5 40 (by omega) (by omega) p (fun ws2 h2 => ?_) b) (by omega) (by omega)) a) (by omega) (by omega)
    exfalso
    have h1 := Pth.first_dep p
    have h3 := ws.dep_el hp
    rcases h2 with h2 | h2 <;> rw [h2] at h1 <;> simp only [El.dep] at h1 <;> omega
  | n + 1, hn, ws, hw, a => by
    refine Calls.wider (sl_seq w (30 * n + 30) (300 * n + 300) (by omega) (by omega) ws (fun i p hp b => Calls.wider (sl_pth w (30 * n + 20) (300 * n + 200) (by omega) (by omega) p (fun ws2 h2 => ?_) b) (by omega) (by omega)) a) (by omega) (by omega)
    refine sl_all w n (by omega) ws2 ?_
    have h1 := Pth.first_dep p
    have h3 := ws.dep_el hp
    rcases h2 with h2 | h2 <;> rw [h2] at h1 <;> simp only [El.dep] at h1 <;> omega
theorem sl_path (w : World) (n : Nat) (hn : n ≤ 7) (e : Pth) (he : e.dep ≤ n) (a : Addr) : BoolSpec w (30 * n + 30) (300 * n + 300) (.ref 384) (.ref a) e.sl (fun news => e.Made w news a) := by
  refine sl_pth w (30 * n + 20) (300 * n + 200) (by omega) (by omega) e (fun ws2 h2 => sl_all w n (by omega) ws2 ?_) a
  have h1 := Pth.first_dep e
  rcases h2 with h2 | h2 <;> rw [h2] at h1 <;> simp only [El.dep] at h1 <;> omega
end Mine
end
section
local macro_rules | `(tactic| walk_at "call ref") => `(tactic| (k_here; (show wpAny _ _ (call (Value.ref 291) _) _ _ _); (refine Mine.hold ?_)))
namespace Mine
theorem sr_pth (w : World) (d0 u0 : Nat) (hd0 : d0 ≤ 900) (hu0 : u0 ≤ 9000) (e : Pth) (H : ∀ ws, (e.first = .br ws ∨ e.first = .st ws) → ∀ a, BoolSpec w d0 u0 (.ref 291) (.ref a) ws.sr (fun news => ws.Made w news a)) (q : Addr) :
    BoolSpec w (d0 + 10) (u0 + 100) (.ref 391) (.ref q) e.sr (fun news => e.Made w news q) := by
  unfold BoolSpec Calls
  w_top off
  k_fill
  intro p loose mean mg mb dp un gd cn cs a ccd cl outer A₀ base h₀ L m news s Q E B F X TG N T hcs hd hu hoff hpre hret
  have hcode := TG.t1
  simp only [List.nil_append] at N
  obtain ⟨_, _, _, _, _⟩ := cs; dsimp only at hcs; subst hcs
  obtain ⟨d, t1, n, l, k, v, r, h1, h2, h3, h4⟩ := hpre.first
  rw [Pth.sr_first] at hret
  cases hf : e.first with
  | nav x c f =>
    rw [hf] at h4 hret
    obtain ⟨a5, d5, t5, t6, t7, t8, t9, n5, fv, ev, rfl, h5, h6, h7⟩ := h4
    k_steps
    rename_i kF kN Tc kX
    exact hret _ [] [] _ _ kF kN (List.forall_mem_nil _) rfl rfl
  | par x =>
    rw [hf] at h4 hret
    obtain ⟨a5, d5, t5, t6, n5, rfl, h5, h6⟩ := h4
    k_steps
    rename_i kF kN Tc kX
    exact hret _ [] [] _ _ kF kN (List.forall_mem_nil _) rfl rfl
  | dots x =>
    rw [hf] at h4 hret
    obtain ⟨a5, d5, t5, t6, n5, rfl, h5, h6⟩ := h4
    k_steps
    rename_i kF kN Tc kX
    exact hret _ [] [] _ _ kF kN (List.forall_mem_nil _) rfl rfl
  | br ws =>
    rw [hf] at h4 hret
    replace H := H ws (.inl hf)
    obtain ⟨a5, d5, t5, n5, q5, rfl, h5, h6, h7⟩ := h4
    obtain ⟨dq, tq, nq, lq, hq1, hq2⟩ := Ways.Made.dict h7
    k_steps
    unfold Hold
    refine Mine.Calls.use0 (H q5) (by k_asm) (by k_asm) (by k_asm) (by walk_at "tabs") (by k_asm) (by k_asm) rfl ?hd2 ?hu2 ?pre2 ?_
    case hd2 => k_room
    case hu2 => k_units
    case pre2 => exact h7
    rintro _ tl6 h6 tk6 F6 N6 ap6 rfl
    k_steps
    rename_i kF kN Tc kX
    exact hret _ [] tl6 _ _ kF kN ap6 rfl rfl
  | st ws =>
    rw [hf] at h4 hret
    replace H := H ws (.inr hf)
    obtain ⟨a5, d5, t5, n5, b5, d8, t8, n8, q5, rfl, h5, h6, h8, h9, h7⟩ := h4
    obtain ⟨dq, tq, nq, lq, hq1, hq2⟩ := Ways.Made.dict h7
    k_steps
    unfold Hold
    refine Mine.Calls.use0 (H q5) (by k_asm) (by k_asm) (by k_asm) (by walk_at "tabs") (by k_asm) (by k_asm) rfl ?hd2 ?hu2 ?pre2 ?_
    case hd2 => k_room
    case hu2 => k_units
    case pre2 => exact h7
    rintro _ tl6 h6 tk6 F6 N6 ap6 rfl
    k_steps
    rename_i kF kN Tc kX
    exact hret _ [] tl6 _ _ kF kN ap6 rfl rfl
end Mine
local macro_rules | `(tactic| walk_at "call ref") => `(tactic| (k_here; (show wpAny _ _ (call (Value.ref 391) _) _ _ _); (refine Mine.hold ?_)))
local macro_rules | `(tactic| walk_at "pyIter ref") => `(tactic| refine Mine.hold ?_)
local macro_rules | `(tactic| walk_at "UnrEnd") => `(tactic| refine Mine.hold ?_)
namespace Mine
theorem sr_seq (w : World) (d0 u0 : Nat) (hd0 : d0 ≤ 900) (hu0 : u0 ≤ 9000) (ws : Ways) (H : ∀ (i : Nat) (p : Pth), ws.pths[i]? = some p → ∀ a, BoolSpec w d0 u0 (.ref 391) (.ref a) p.sr (fun news => p.Made w news a)) (q : Addr) :
    BoolSpec w (d0 + 5) (u0 + 60) (.ref 291) (.ref q) ws.sr (fun news => ws.Made w news q) := by
  unfold BoolSpec Calls
  k_fill
  intro p loose mean mg mb dp un gd cn cs a ccd cl outer A₀ base h₀ L m news s Q E B F X TG N T hcs hd hu hoff hpre hret
  have hcode := TG.t1
  simp only [List.nil_append] at N
  obtain ⟨d, t1, n, l, k, us, h1, h2, h3, hlen, hus⟩ := hpre.list
  refine wpAny_call ?_
  k_dflt (refine' code_def (binds := [("self", .ref q)]) B F X N T ?kA ?kF ?kK ?k6 ?k7 ?k8 ?k9 ?kB ?_ ?c2 ?c3 ?c4 ?c5)
  walk_at "enter"
  intro g' L' h' FG' F' N' B' X' T'
  have TG' := TG.keeps FG'.keep
  have hcode' := TG'.t1
  walk_at "begin"
  k_steps
  unfold Hold
  rename_i kF kN
  refine iter_listUnr (lo := W.listOf us.toArray k) (vs := us) (by rfl) kF kN h3 rfl rfl (fun I hI => ?_)
  refine Mine.listRest_fold (fun i m1 ns => ns = news ∧ ∃ pv, m1 = fun (y : Str) => if y = "res" then some (Value.bool ((ws.pths.take i).any Pth.sr)) else if y = "p" then pv else List.lookup y [(("self" : Str), Value.ref q)].reverse) ⟨rfl, none, ?_⟩ ?step h3 ?done
  case step =>
    rintro i v m1 ns it h5 tk5 hv ⟨rfl, pv, rfl⟩ hl hc F5 N5
    obtain ⟨pp, b, hpp, rfl, hmd⟩ := hus i v hv
    obtain ⟨d6, t6, n6, l6, h6, h7⟩ := Pth.Made.dict hmd
    have hb : (ws.pths.take (i + 1)).any Pth.sr = ((ws.pths.take i).any Pth.sr || pp.sr) := by
      rw [List.take_add_one, hpp, List.any_append]; simp
    cases hv9 : (ws.pths.take i).any Pth.sr with
    | true =>
      rw [hv9] at F5 hb
      k_steps
      unfold Hold
      rename_i kF kN
      exact UnrEnd.intro kF kN ns (fun p hp => hp) (fun p hp => Nat.ne_of_lt (hI p hp)) ⟨hl, rfl, some (.ref b), by rw [hb]; exact res_p⟩
    | false =>
      rw [hv9] at F5 hb
      k_steps
      unfold Hold
      refine Mine.Calls.use0 (H i pp hpp b) (by k_asm) (by k_asm) (by k_asm) (by walk_at "tabs") N5 (by k_asm) rfl ?hd2 ?hu2 ?pre2 ?_
      case hd2 => k_room
      case hu2 => k_units
      case pre2 => exact Pth.Made.mono (fun z hz => .tail _ hz) _ _ hmd
      rintro _ tl6 h6 tk6 F6 N6 ap6 rfl
      k_steps
      unfold Hold
      rename_i kF kN
      exact UnrEnd.intro kF kN ns (fun z hz => List.mem_append.mpr (.inr hz)) (fun p hp => Nat.ne_of_lt (hI p hp)) ⟨hl, rfl, some (.ref b), by rw [hb]; exact res_p⟩
  case done =>
    rintro m1 ns h5 tk5 ⟨rfl, pv, rfl⟩ F5 N5
    k_steps
    rename_i kF kN Tc kX
    refine hret _ [] [] _ _ kF kN (List.forall_mem_nil _) rfl ?_
    rw [Ways.sr_any, hlen, List.take_length]
  · funext y
    by_cases h1 : y = "p"
    · subst h1; rfl
    · simp only [if_neg h1]; rfl
theorem sr_all (w : World) : ∀ n, n ≤ 8 → ∀ ws : Ways, ws.dep ≤ n → ∀ a, BoolSpec w (30 * n + 20) (300 * n + 200) (.ref 291) (.ref a) ws.sr (fun news => ws.Made w news a)
  | 0, _, ws, hw, a => by
    refine Calls.wider (sr_seq w 15 140 (by omega) (by omega) ws (fun i p hp b => Calls.wider (sr_pth w 5 40 (by omega) (by omega) p (fun ws2 h2 => ?_) b) (by omega) (by omega)) a) (by omega) (by omega)
    exfalso
    have h1 := Pth.first_dep p
    have h3 := ws.dep_el hp
    rcases h2 with h2 | h2 <;> rw [h2] at h1 <;> simp only [El.dep] at h1 <;> omega
  | n + 1, hn, ws, hw, a => by
    refine Calls.wider (sr_seq w (30 * n + 30) (300 * n + 300) (by omega) (by omega) ws (fun i p hp b => Calls.wider (sr_pth w (30 * n + 20) (300 * n + 200) (by omega) (by omega) p (fun ws2 h2 => ?_) b) (by omega) (by omega)) a) (by omega) (by omega)
    refine sr_all w n (by omega) ws2 ?_
    have h1 := Pth.first_dep p
    have h3 := ws.dep_el hp
    rcases h2 with h2 | h2 <;> rw [h2] at h1 <;> simp only [El.dep] at h1 <;> omega
theorem sr_path (w : World) (n : Nat) (hn : n ≤ 7) (e : Pth) (he : e.dep ≤ n) (a : Addr) : BoolSpec w (30 * n + 30) (300 * n + 300) (.ref 391) (.ref a) e.sr (fun news => e.Made w news a) := by
  refine sr_pth w (30 * n + 20) (300 * n + 200) (by omega) (by omega) e (fun ws2 h2 => sr_all w n (by omega) ws2 ?_) a
  have h1 := Pth.first_dep e
  rcases h2 with h2 | h2 <;> rw [h2] at h1 <;> simp only [El.dep] at h1 <;> omega
end Mine
end
section
local macro_rules | `(tactic| walk_at "unused 0") => `(tactic| fail)
local macro_rules | `(tactic| walk_at "call ref") => `(tactic| (k_here; (show wpAny _ _ (call (Value.ref 497) _) _ _ _); (refine Mine.hold ?_)))
local macro_rules | `(tactic| walk_at "CompSrc") => `(tactic| (refine Mine.hold ?_))
local macro_rules | `(tactic| walk_at "eval ListComp") => `(tactic| (k_here; lcp_look; k_dflt (refine LCp.ListComp_P (F₀ := by k_asm) (by with_unfolding_all rfl) (by decide) (by rfl) (by decide) (by rfl) (by rfl) (by decide) ?_)))
local macro_rules | `(tactic| walk_at "CompEnd") => `(tactic| (k_here; k_dflt (refine' Mine.compEnd_cut ?F ?N ?sub ?off ?hS ?_; (case F => k_asm); (case N => k_asm); (case sub => (intro q9 h9; k_mem)); (case off => first | assumption | (simp only [LCg.Off3, and_true]; assumption)); (case hS => exact Or.inr ⟨_, by k_mem, rfl, _, rfl⟩); k_whole)))
namespace Mine
theorem fin4 {h₀ h : Heap} {L : Addr} {a b c d e : Addr × Obj} {tl news : Led} (N : News h₀ L h (a :: b :: c :: d :: (tl ++ e :: news))) : News h₀ L h ((a :: b :: c :: d :: (tl ++ [e])) ++ ([] ++ news)) := by
  simpa only [List.append_assoc, List.cons_append, List.nil_append] using N
theorem ap_off {D : Addr} {tl news : Led} {e : Addr × Obj} (o : LCg.Off1 D (tl ++ e :: news)) : Ap D ([] ++ news) := fun q hq => off1_mem o q (List.mem_append.mpr (.inr (.tail _ hq)))
theorem aps4 {a b c d e : Addr × Obj} {tl news : Led} (h1 : AllLt a.1 (tl ++ e :: news)) (h2 : LCg.Off1 b.1 (tl ++ e :: news)) (h3 : LCg.Off1 c.1 (tl ++ e :: news)) (h4 : LCg.Off1 d.1 (tl ++ e :: news)) (h5 : ∀ p ∈ tl, Ap p.1 (e :: news)) (h6 : ∀ q ∈ news, q.1 < e.1) :
    ∀ p ∈ a :: b :: c :: d :: (tl ++ [e]), Ap p.1 ([] ++ news) :=
  List.forall_mem_cons.mpr ⟨fun q hq => allLt_ne h1 q (List.mem_append.mpr (.inr (.tail _ hq))), List.forall_mem_cons.mpr ⟨ap_off h2, List.forall_mem_cons.mpr ⟨ap_off h3, List.forall_mem_cons.mpr ⟨ap_off h4,
    List.forall_mem_append.mpr ⟨fun p hp q hq => h5 p hp q (.tail _ hq), List.forall_mem_cons.mpr ⟨ap_lt h6, List.forall_mem_nil _⟩⟩⟩⟩⟩⟩
def StartsSpec (w : World) (n : Nat) : Prop := ∀ (e : El) (v : Value), e.dep ≤ n →
  Calls w (30 * n + 20) (300 * n + 200) (.ref 497) [v] [] (fun news => e.In news v) (fun _ _ tl r => ∃ T, r = .ref T ∧ (T, tupOf [.bool e.sl, .bool e.sr]) ∈ tl)
theorem starts_leaf (w : World) (e : El) (hdep : e.dep = 0) (v : Value) : Calls w 20 200 (.ref 497) [v] [] (fun news => e.In news v) (fun _ _ tl r => ∃ T, r = .ref T ∧ (T, tupOf [.bool e.sl, .bool e.sr]) ∈ tl) := by
  unfold Calls
  w_top off
  k_fill
  intro p loose mean mg mb dp un gd cn cs a ccd cl outer A₀ base h₀ L m news s Q E B F X TG N T hcs hd hu hoff hpre hret
  have hcode := TG.t1
  simp only [List.nil_append] at N
  obtain ⟨_, _, _, _, _⟩ := cs; dsimp only at hcs; subst hcs
  refine wpAny_call ?_
  k_dflt (refine' code_def (binds := [("e", v)]) B F X N T ?kA ?kF ?kK ?k6 ?k7 ?k8 ?k9 ?kB ?_ ?c2 ?c3 ?c4 ?c5)
  walk_at "enter"
  intro g' L' h' FG' F' N' B' X' T'
  have TG' := TG.keeps FG'.keep
  have hcode' := TG'.t1
  walk_at "begin"
  cases e with
  | nav x c f =>
    obtain ⟨a5, t1, t2, fv, rfl, h5, h6⟩ := hpre
    k_steps
    rename_i kF kN Tc kX
    exact hret _ [] [_] _ _ kF kN (Mine.aps_one (Mine.ap_lt (by assumption))) rfl ⟨_, rfl, .head _⟩
  | par x =>
    obtain ⟨a5, t1, t2, rfl, h5⟩ := hpre
    k_steps
    rename_i kF kN Tc kX
    exact hret _ [] [_, _] _ _ kF kN (by walk_at "ord") rfl ⟨_, rfl, .head _⟩
  | dots x =>
    obtain ⟨a5, t1, t2, rfl, h5⟩ := hpre
    k_steps
    rename_i kF kN Tc kX
    exact hret _ [] [_, _] _ _ kF kN (by walk_at "ord") rfl ⟨_, rfl, .head _⟩
  | br ws => simp only [El.dep] at hdep; omega
  | st ws => simp only [El.dep] at hdep; omega
theorem starts_in (w : World) (d0 u0 : Nat) (hd0 : d0 ≤ 900) (hu0 : u0 ≤ 9000) (e : El) (ws : Ways) (he : e = .br ws ∨ e = .st ws) (v : Value)
    (H : ∀ (i : Nat) (p : Pth), ws.pths[i]? = some p → ∀ v, Calls w d0 u0 (.ref 497) [v] [] (fun news => p.first.In news v) (fun _ _ tl r => ∃ T, r = .ref T ∧ (T, tupOf [.bool p.sl, .bool p.sr]) ∈ tl)) :
    Calls w (d0 + 20) (u0 + 200) (.ref 497) [v] [] (fun news => e.In news v) (fun _ _ tl r => ∃ T, r = .ref T ∧ (T, tupOf [.bool ws.sl, .bool ws.sr]) ∈ tl) := by
  unfold Calls
  k_fill
  intro p loose mean mg mb dp un gd cn cs a ccd cl outer A₀ base h₀ L m news s Q E B F X TG N T hcs hd hu hoff hpre hret
  have hcode := TG.t1
  simp only [List.nil_append] at N
  obtain ⟨_, _, _, _, _⟩ := cs; dsimp only at hcs; subst hcs
  refine wpAny_call ?_
  k_dflt (refine' code_def (binds := [("e", v)]) B F X N T ?kA ?kF ?kK ?k6 ?k7 ?k8 ?k9 ?kB ?_ ?c2 ?c3 ?c4 ?c5)
  walk_at "enter"
  intro g' L' h' FG' F' N' B' X' T'
  have TG' := TG.keeps FG'.keep
  have hcode' := TG'.t1
  walk_at "begin"
  have hcase : ∃ a t l c, v = .ref a ∧ (a, tupOf [.str c t, .ref l]) ∈ news ∧ ws.In news l ∧ (c = "b" ∨ c = "s") := by
    rcases he with rfl | rfl
    · obtain ⟨a, t, l, h1, h2, h3⟩ := hpre; exact ⟨a, t, l, _, h1, h2, h3, .inl rfl⟩
    · obtain ⟨a, t, l, h1, h2, h3⟩ := hpre; exact ⟨a, t, l, _, h1, h2, h3, .inr rfl⟩
  obtain ⟨a5, t5, l, c, rfl, h5, h6, hc⟩ := hcase
  have hc1 : (c : Str) ≠ "n" := by rcases hc with rfl | rfl <;> decide
  have hc2 : (c : Str) ≠ "p" := by rcases hc with rfl | rfl <;> decide
  have hc3 : (c : Str) ≠ "d" := by rcases hc with rfl | rfl <;> decide
  obtain ⟨nl, its, hl, hlen, hits⟩ := Ways.In.list h6
  have hplen := ws.pths_len
  k_steps
  · exfalso
    have h9 : ((["p", "d"] : List Str).any fun x => x == c) = true := by assumption
    rcases hc with rfl | rfl <;> exact absurd h9 (by decide)
  unfold Hold
  refine LCg.CompSrc.ledger (by rfl) (by k_asm) (by k_asm) (List.mem_cons_of_mem _ hl) ?sz (fun g2 => ?_)
  case sz =>
    rw [List.size_toArray]
    exact Nat.le_trans (by omega : its.length ≤ 2) (Nat.le_of_ble_eq_true rfl)
  refine Mine.compRest_fold (fun i tl y => ∃ p T, ws.pths[i]? = some p ∧ y = .ref T ∧ (T, tupOf [.bool p.sl, .bool p.sr]) ∈ tl) ?mono ?step ?fin
  case mono => exact fun i tl tl' y hs ⟨p, T, h1, h2, h3⟩ => ⟨p, T, h1, h2, hs _ h3⟩
  case step =>
    intro i v ns ys I oI C oC D m2 h2 tk2 E2 hi hsub hP hC hm F2 N2 off2 ne2
    obtain ⟨pp, b, hpp, rfl, hin⟩ := hits i v (by simpa using hP)
    obtain ⟨n8, v8, r8, h8, hin8⟩ := hin.first
    have h8' := hsub _ (List.mem_cons_of_mem _ h8)
    replace hin8 := El.In.mono (fun z hz => hsub _ (List.mem_cons_of_mem _ hz)) _ _ hin8
    k_steps
    unfold Hold
    refine Mine.new_turn2 (H i pp hpp v8) (by k_asm) (by k_asm) (by k_asm) (by walk_at "tabs") (by k_asm) (fun z hz => hz) (by k_asm) rfl ?hd2 ?hu2 ?pre2 off2 ?hS2 ?_
    case hd2 => k_room
    case hu2 => k_units
    case pre2 => exact El.In.mono (fun z hz => .tail _ (.tail _ (.tail _ hz))) _ _ hin8
    case hS2 => exact fun tl => .inr ⟨_, List.mem_append.mpr (.inr (hsub _ (List.mem_cons_of_mem _ hl))), rfl, _, rfl⟩
    intro r tl ap2 off3 ⟨T8, hr, hm8⟩
    exact ⟨tl, rfl, fun z hz y hy => ap2 z hz y (.tail _ (.tail _ (.tail _ hy))), pp, T8, hpp, hr, hm8⟩
  case fin =>
    intro ys tl hyl hpost hap
    have hyl2 : ys.length = ws.pths.length := by rw [hyl, List.size_toArray, hlen]
    clear H h6 hits hpre
    cases ws with
    | one p1 =>
      match ys, hyl2 with
      | [y0], _ =>
        obtain ⟨pp, T0, hpp, rfl, hm0⟩ := hpost 0 y0 rfl
        cases hpp
        have hm0' : (T0, tupOf [.bool p1.sl, .bool p1.sr]) ∈ tl := hm0
        unfold LCg.FinA
        intro D5 h5' tk5 F5 N5 o5
        k_steps
        rename_i l1 kF kN Tc kX
        refine hret _ [] _ _ _ kF (fin4 kN) ?ap rfl ⟨_, rfl, .head _⟩
        exact aps4 l1.2.2.2 (And.right (And.right (by assumption))) (And.right (by assumption)) o5 hap (by assumption)
    | two p1 p2 =>
      match ys, hyl2 with
      | [y0, y1], _ =>
        obtain ⟨pp, T0, hpp, rfl, hm0⟩ := hpost 0 y0 rfl
        cases hpp
        have hm0' : (T0, tupOf [.bool p1.sl, .bool p1.sr]) ∈ tl := hm0
        obtain ⟨pp, T1, hpp, rfl, hm1⟩ := hpost 1 y1 rfl
        cases hpp
        have hm1' : (T1, tupOf [.bool p2.sl, .bool p2.sr]) ∈ tl := hm1
        unfold LCg.FinA
        intro D5 h5' tk5 F5 N5 o5
        k_steps
        rename_i l1 kF kN Tc kX
        refine hret _ [] _ _ _ kF (fin4 kN) ?ap2 rfl ⟨_, rfl, .head _⟩
        exact aps4 l1.2.2.2 (And.right (And.right (by assumption))) (And.right (by assumption)) o5 hap (by assumption)
theorem starts_all (w : World) : ∀ n, n ≤ 8 → StartsSpec w n
  | 0, _, e, v, he => starts_leaf w e (Nat.le_zero.mp he) v
  | n + 1, hn, e, v, he => by
    have key : ∀ ws : Ways, (e = .br ws ∨ e = .st ws) → Calls w (30 * (n + 1) + 20) (300 * (n + 1) + 200) (.ref 497) [v] [] (fun news => e.In news v) (fun _ _ tl r => ∃ T, r = .ref T ∧ (T, tupOf [.bool ws.sl, .bool ws.sr]) ∈ tl) := by
      intro ws hws
      have hw : ws.dep ≤ n := by
        rcases hws with rfl | rfl <;> simp only [El.dep] at he <;> omega
      refine Calls.wider (starts_in w (30 * n + 20) (300 * n + 200) (by omega) (by omega) e ws hws v (fun i p hp u => ?_)) (by omega) (by omega)
      have h1 := Pth.first_dep p
      have h3 := ws.dep_el hp
      have := starts_all w n (by omega) p.first u (by omega)
      rw [Pth.sl_first, Pth.sr_first]
      exact this
    cases e with
    | br ws => exact key ws (.inl rfl)
    | st ws => exact key ws (.inr rfl)
    | nav x c f => exact Calls.wider (starts_leaf w _ rfl v) (by omega) (by omega)
    | par x => exact Calls.wider (starts_leaf w _ rfl v) (by omega) (by omega)
    | dots x => exact Calls.wider (starts_leaf w _ rfl v) (by omega) (by omega)
end Mine
end
section
namespace Mine
def LawL (t1 t2 t3 : Array Value) (R : Led) : Prop := (∀ q ∈ R, q.1 ≠ 372 ∧ q.1 ≠ 272 ∧ q.1 ≠ 413) ∧ Tab R PQ7 t1.toList ∧ Tab R PQ2 t2.toList ∧ Tab R PQ t3.toList
abbrev T3 (t1 t2 t3 : Array Value) (R : Led) : Led := (372, tabObj t1) :: (272, tabObj t2) :: (413, tabObj t3) :: R
theorem LawL.cons {t1 t2 t3 : Array Value} {R : Led} {x : Addr × Obj} (K : LawL t1 t2 t3 R) (h1 : x.1 ≠ 372) (h2 : x.1 ≠ 272) (h3 : x.1 ≠ 413) : LawL t1 t2 t3 (x :: R) :=
  ⟨List.forall_mem_cons.mpr ⟨⟨h1, h2, h3⟩, K.1⟩, K.2.1.mono fun _ h => .tail _ h, K.2.2.1.mono fun _ h => .tail _ h, K.2.2.2.mono fun _ h => .tail _ h⟩
theorem LawL.gt {t1 t2 t3 : Array Value} {R : Led} {x : Addr × Obj} (K : LawL t1 t2 t3 R) (h1 : 372 < x.1) (h2 : 272 < x.1) (h3 : 413 < x.1) : LawL t1 t2 t3 (x :: R) :=
  K.cons (Nat.ne_of_gt h1) (Nat.ne_of_gt h2) (Nat.ne_of_gt h3)
theorem LawL.app {t1 t2 t3 : Array Value} {R tl : Led} (K : LawL t1 t2 t3 R) (ap : ∀ p ∈ tl, Ap p.1 (T3 t1 t2 t3 R)) : LawL t1 t2 t3 (tl ++ R) :=
  ⟨List.forall_mem_append.mpr ⟨fun p hp => ⟨Ne.symm (ap p hp _ (.head _)), Ne.symm (ap p hp _ (.tail _ (.head _))), Ne.symm (ap p hp _ (.tail _ (.tail _ (.head _))))⟩, K.1⟩,
    K.2.1.mono fun _ h => List.mem_append.mpr (.inr h), K.2.2.1.mono fun _ h => List.mem_append.mpr (.inr h), K.2.2.2.mono fun _ h => List.mem_append.mpr (.inr h)⟩
theorem T3.of {t1 t2 t3 : Array Value} {R tl : Led} {h₀ h : Heap} {L : Addr} {all : Led} (N : News h₀ L h (tl ++ all)) (sub : ∀ q ∈ T3 t1 t2 t3 R, q ∈ all) : News h₀ L h (T3 t1 t2 t3 (tl ++ R)) := fun q hq => N q (by
  rcases List.mem_cons.mp hq with rfl | hq
  · exact List.mem_append.mpr (.inr (sub _ (.head _)))
  · rcases List.mem_cons.mp hq with rfl | hq
    · exact List.mem_append.mpr (.inr (sub _ (.tail _ (.head _))))
    · rcases List.mem_cons.mp hq with rfl | hq
      · exact List.mem_append.mpr (.inr (sub _ (.tail _ (.tail _ (.head _)))))
      · rcases List.mem_append.mp hq with hq | hq
        · exact List.mem_append.mpr (.inl hq)
        · exact List.mem_append.mpr (.inr (sub _ (.tail _ (.tail _ (.tail _ hq))))))
theorem Tab.cut {P P' : Led} {qual : Str} {l : List Value} (h : Tab P qual l) (k : ∀ p ∈ P, p ∈ P' ∨ ∀ vs, p.2.data = .fields vs → ∀ z u, vs[1]? ≠ some (.str z u)) : Tab P' qual l := by
  induction h with
  | nil => exact .nil
  | cons h1 h2 h3 _ ih =>
    rcases k _ h1 with h | h
    · exact .cons h h2 h3 ih
    · exact absurd h3 (h _ h2 _ _)
theorem tab_nf {P : Led} {qual : Str} {t : Array Value} (h : Tab P qual t.toList) : ∀ vs, (tabObj t).data = .fields vs → ∀ z u, vs[1]? ≠ some (.str z u) := by
  intro vs e z u
  obtain rfl : t = vs := by cases e; rfl
  rw [← Array.getElem?_toList]
  generalize t.toList = l at h
  cases h with
  | nil => intro h; cases h
  | cons _ _ _ _ => intro h; cases h
section
variable {w : World} {p : Program} {loose : List Str} {mean : ExcName → Option Value} {mg mb : Str → Option Value} {dp un : Nat} {gd : Option (List Code)} {cn : Str} {cs : Scope} {a : Addr} {ccd : Value} {cl : List (Str × Addr)} {outer : List Env}
  {A₀ : Around} {base h₀ : Heap} {L : Addr} {m : Str → Option Value} {all R : Led} {t1 t2 t3 : Array Value} {s : Shared} {Q E : Value → Shared → Prop}
theorem law_new {dN uN : Nat} {f : Value} {vs : List Value} {Pre : Led → Prop} {Post : Led → Value → Prop} (C : Calls w dN uN f vs [] Pre (fun _ _ tl r => Post tl r))
    (B : Below A₀ base outer h₀) (F : Fr h₀ L s.heap m) (X : (hd.heap_39 w.params).In h₀) (TG : TabsG h₀) (N : News h₀ L s.heap all) (T : Top p loose mean mg mb h₀) (hk : cs.kind = .function)
    (hd : dp + dN < recursionLimit) (hu : un + uN < cLine) (K : LawL t1 t2 t3 R) (sub : ∀ q ∈ T3 t1 t2 t3 R, q ∈ all) (pre : Pre all)
    (ret : ∀ r tl R' h' tk', Fr h₀ L h' m → News h₀ L h' (T3 t1 t2 t3 R') → LawL t1 t2 t3 R' → (∀ q ∈ R, q ∈ R') → (∀ q ∈ tl, q ∈ R') → Post tl r → Q r { s with heap := h', toks := tk' }) :
    wpAny (model PySem.Challenge.rw_wx0015_01.row.prog w) (ktrTop dp un gd cn cs L a ccd cl outer) (call f vs) Q E s := by
  refine Calls.use0 C B F X TG N T hk hd hu pre ?_
  intro r tl h' tk' F' N' ap hp
  exact ret r tl (tl ++ R) h' tk' F' (T3.of N' sub) (K.app fun p hp q hq => ap p hp q (sub q hq)) (fun _ h => List.mem_append.mpr (.inr h)) (fun _ h => List.mem_append.mpr (.inl h)) hp
theorem law_str {dN uN : Nat} {v : Value} {txt : Str} {Pre : Led → Prop} (C : StrSpec w dN uN v txt Pre)
    (B : Below A₀ base outer h₀) (F : Fr h₀ L s.heap m) (X : (hd.heap_39 w.params).In h₀) (TG : TabsG h₀) (N : News h₀ L s.heap all) (T : Top p loose mean mg mb h₀) (hk : cs.kind = .function)
    (hd : dp + dN < recursionLimit) (hu : un + uN < cLine) (K : LawL t1 t2 t3 R) (sub : ∀ q ∈ T3 t1 t2 t3 R, q ∈ all) (pre : ∀ P, (∀ q ∈ R, q ∈ P) → Pre P)
    (ret : ∀ t1' t2' R' u h' tk', Fr h₀ L h' m → News h₀ L h' (T3 t1' t2' t3 R') → LawL t1' t2' t3 R' → (∀ q ∈ R, q ∈ R') → Q (.str txt u) { s with heap := h', toks := tk' }) :
    wpAny (model PySem.Challenge.rw_wx0015_01.row.prog w) (ktrTop dp un gd cn cs L a ccd cl outer) (call (.type "str") [v]) Q E s := by
  refine StrSpec.use C (ps1 := t1) (ps2 := t2) (news := (413, tabObj t3) :: R) (nt := R) B F X TG N sub ?off (fun q hq => .tail _ hq) K.2.1 K.2.2.1 T hk hd hu (pre _ fun q hq => .tail _ hq) ?_
  case off => exact List.forall_mem_cons.mpr ⟨⟨by show (413 : Nat) ≠ 372; decide, by show (413 : Nat) ≠ 272; decide⟩, fun q hq => ⟨(K.1 q hq).1, (K.1 q hq).2.1⟩⟩
  intro t1' t2' tl u h' tk' F' N' b1 b2 ap
  refine ret t1' t2' (tl ++ R) u h' tk' F' (fun q hq => N' q ?_) ⟨List.forall_mem_append.mpr ⟨fun p hp => ⟨Ne.symm (ap p hp _ (.head _)), Ne.symm (ap p hp _ (.tail _ (.head _))), Ne.symm (ap p hp _ (.tail _ (.tail _ (.head _))))⟩, K.1⟩, b1, b2, K.2.2.2.mono fun _ h => List.mem_append.mpr (.inr h)⟩ (fun _ h => List.mem_append.mpr (.inr h))
  simp only [List.mem_append, List.mem_cons] at hq ⊢
  rcases hq with h | h | h | h | h <;> simp only [h, true_or, or_true]
theorem law_expr {q : Addr} {fl : Str} {tf : Tok} {e : Ways}
    (B : Below A₀ base outer h₀) (F : Fr h₀ L s.heap m) (X : (hd.heap_39 w.params).In h₀) (TG : TabsG h₀) (N : News h₀ L s.heap all) (T : Top p loose mean mg mb h₀) (hk : cs.kind = .function)
    (hd : dp + 300 < recursionLimit) (hu : un + 2000 < cLine) (K : LawL t1 t2 t3 R) (sub : ∀ q ∈ T3 t1 t2 t3 R, q ∈ all) (he : e.Made w R q) (hdep : e.dep ≤ 5)
    (ret : ∀ r t3' R' RT h' tk', Fr h₀ L h' m → News h₀ L h' (T3 t1 t2 t3' R') → LawL t1 t2 t3' R' → Turned w R RT → (∀ q ∈ RT, q ∈ R') → ExprObj w R' q fl r → Q r { s with heap := h', toks := tk' }) :
    wpAny (model PySem.Challenge.rw_wx0015_01.row.prog w) (ktrTop dp un gd cn cs L a ccd cl outer) (call (.ref 428) [.ref q, .str fl tf]) Q E s := by
  refine mkExpr w q fl tf p loose mean mg mb dp un gd cn cs a ccd cl outer A₀ base h₀ L m t3 ((372, tabObj t1) :: (272, tabObj t2) :: R) s Q E B F X TG (fun z hz => N z (sub z ?s1)) ?off (K.2.2.2.mono fun _ h => .tail _ (.tail _ h)) T hk hd hu ⟨e, Ways.Made.mono (fun _ h => .tail _ (.tail _ h)) _ _ he, hdep⟩ ?_
  case s1 =>
    simp only [List.mem_cons] at hz ⊢
    rcases hz with h | h | h | h <;> simp only [h, true_or, or_true]
  case off => exact List.forall_mem_cons.mpr ⟨by show (372 : Nat) ≠ 413; decide, List.forall_mem_cons.mpr ⟨by show (272 : Nat) ≠ 413; decide, fun z hz => (K.1 z hz).2.2⟩⟩
  intro r t3' tl news' h' tk' F' N' ap ht tab ho
  obtain ⟨RT, rfl, hT⟩ := Turned.own (x := [(372, tabObj t1), (272, tabObj t2)]) ht (List.forall_mem_cons.mpr ⟨rfl, List.forall_mem_cons.mpr ⟨rfl, List.forall_mem_nil _⟩⟩)
  obtain ⟨x, d, a1, a2, a3, a4, a5, a6, hr, m1, m2⟩ := ho
  refine ret r t3' (tl ++ RT) RT h' tk' F' (fun z hz => N' z ?_) ⟨List.forall_mem_append.mpr ⟨fun p hp => ⟨Ne.symm (ap p hp _ (.tail _ (.head _))), Ne.symm (ap p hp _ (.tail _ (.tail _ (.head _)))), Ne.symm (ap p hp _ (.head _))⟩, fun z hz => ?_⟩,
    (K.2.1.turn hT).mono fun _ h => List.mem_append.mpr (.inr h), (K.2.2.1.turn hT).mono fun _ h => List.mem_append.mpr (.inr h), tab.cut fun z hz => ?_⟩ hT (fun _ h => List.mem_append.mpr (.inr h))
    ⟨x, d, a1, a2, a3, a4, a5, a6, hr, List.mem_append.mpr (.inl m1), List.mem_append.mpr (.inl m2)⟩
  · simp only [List.mem_append, List.mem_cons, List.not_mem_nil, or_false] at hz ⊢
    rcases hz with h | h | h | h | h <;> simp only [h, true_or, or_true]
  · have h1 : Ap 372 RT := hT.ap fun z hz => (K.1 z hz).1
    have h2 : Ap 272 RT := hT.ap fun z hz => (K.1 z hz).2.1
    have h3 : Ap 413 RT := hT.ap fun z hz => (K.1 z hz).2.2
    exact ⟨h1 z hz, h2 z hz, h3 z hz⟩
  · simp only [List.mem_append, List.mem_cons, List.not_mem_nil, or_false] at hz ⊢
    rcases hz with h | (h | h) | h
    · exact .inl (.inl h)
    · exact .inr (by rw [h]; exact tab_nf K.2.1)
    · exact .inr (by rw [h]; exact tab_nf K.2.2.1)
    · exact .inl (.inr h)
end
end Mine
end
end
section
local macro_rules | `(tactic| k_all) => `(tactic| assumption)
local macro_rules | `(tactic| k_mem) => `(tactic| first
  | with_reducible assumption
  | exact List.Mem.head _
  | ((with_reducible refine List.mem_cons_of_mem _ ?_); k_mem)
  | ((with_reducible refine List.mem_append.mpr (Or.inr ?_)); k_mem)
  | ((with_reducible refine List.mem_append.mpr (Or.inl ?_)); k_mem))
local macro_rules | `(tactic| k_room) => `(tactic| ((try simp only [depth_under_make, depth_under_kw, depth_in1, depth_deeper, depth_caller]); (try dsimp only); omega))
local macro_rules | `(tactic| k_units) => `(tactic| ((try simp only [units_under_make, units_in1, units_deeper, Around.mark_units, units_caller]); (try dsimp only); omega))
local macro_rules | `(tactic| walk_at "subscriptTail") => `(tactic| (k_here; (with_reducible show wpAny _ _ (subscriptTail _ _ (Value.ref _) (Value.int _ _)) _ _ _); k_dflt ((show wpAny _ _ (subscriptTail _ _ (Value.ref 433) (Value.int _ _)) _ _ _); refine' Mine.menu_K Mine.IsWord ?F ?X ?l ?a ?b ?f ?c ?_ ?hs; (case hs => with_unfolding_all rfl); (case F => k_asm); (case X => k_asm); (case l => k_is); (case a => omega); (case b => exact Int.lt_of_lt_of_le (by assumption) (by decide)); (case f => decide); (case c => exact List.forall_mem_cons.mpr ⟨⟨_, _, rfl, by decide⟩, List.forall_mem_cons.mpr ⟨⟨_, _, rfl, by decide⟩, List.forall_mem_cons.mpr ⟨⟨_, _, rfl, by decide⟩, List.forall_mem_cons.mpr ⟨⟨_, _, rfl, by decide⟩, List.forall_mem_nil _⟩⟩⟩⟩); rintro _ ⟨wd', wt', hx', hw'⟩; subst hx')))
local macro_rules | `(tactic| walk_at "subscriptTail") => `(tactic| (k_here; (with_reducible show wpAny _ _ (subscriptTail _ _ (Value.ref _) (Value.int _ _)) _ _ _); k_dflt ((show wpAny _ _ (subscriptTail _ _ (Value.ref 434) (Value.int _ _)) _ _ _); refine' Mine.menu_K Mine.IsFixed ?F ?X ?l ?a ?b ?f ?c ?_ ?hs; (case hs => with_unfolding_all rfl); (case F => k_asm); (case X => k_asm); (case l => k_is); (case a => omega); (case b => exact Int.lt_of_lt_of_le (by assumption) (by decide)); (case f => decide); (case c => exact List.forall_mem_cons.mpr ⟨⟨_, _, rfl, by decide⟩, List.forall_mem_cons.mpr ⟨⟨_, _, rfl, by decide⟩, List.forall_mem_cons.mpr ⟨⟨_, _, rfl, by decide⟩, List.forall_mem_cons.mpr ⟨⟨_, _, rfl, by decide⟩, List.forall_mem_nil _⟩⟩⟩⟩); rintro _ ⟨wd', wt', hx', hw'⟩; subst hx')))
local macro_rules | `(tactic| walk_at "subscriptTail") => `(tactic| (k_here; (with_reducible show wpAny _ _ (subscriptTail _ _ (Value.ref _) (Value.int _ _)) _ _ _); k_dflt ((show wpAny _ _ (subscriptTail _ _ (Value.ref 435) (Value.int _ _)) _ _ _); refine' Mine.menu_K Mine.IsKind ?F ?X ?l ?a ?b ?f ?c ?_ ?hs; (case hs => with_unfolding_all rfl); (case F => k_asm); (case X => k_asm); (case l => k_is); (case a => omega); (case b => exact Int.lt_of_lt_of_le (by assumption) (by decide)); (case f => decide); (case c => exact List.forall_mem_cons.mpr ⟨⟨_, _, rfl, by decide⟩, List.forall_mem_cons.mpr ⟨⟨_, _, rfl, by decide⟩, List.forall_mem_nil _⟩⟩); rintro _ ⟨wd', wt', hx', hw'⟩; subst hx')))
local macro_rules | `(tactic| walk_at "enter") => `(tactic| ((case kA => exact rfl); (case kF => exact rfl); (case kK => first | exact rfl | assumption); (case k6 => k_is); (case k7 => k_is); (case k8 => k_room); (case k9 => exact BindsTo.of_eq rfl); (case c5 => decide); (case kB => exact locs rfl); (case c2 => exact rfl); (case c3 => exact rfl); (case c4 => exact rfl); k_whole))
local macro_rules | `(tactic| walk_at "begin") => `(tactic| ((try dsimp only); (try k_unmd); (try k_fold)))
local macro_rules | `(tactic| walk_at "enterC") => `(tactic| ((case kA => exact rfl); (case kF => exact rfl); (case kK => first | exact rfl | assumption); (case k6 => k_is); (case k7 => k_is); (case k8 => k_room); (case k9 => exact BindsTo.of_eq rfl); (case kB => exact rfl); (case kD => decide +kernel); (case c2 => exact rfl); (case c3 => exact rfl); (case c4 => exact rfl); k_whole))
local macro_rules | `(tactic| walk_at "ite") => `(tactic| first | (exfalso; omega) | (with_reducible refine Mine.if_pos' (by first | omega | decide | (simp only [beq_iff_eq, bne_iff_ne, ne_eq, decide_eq_true_eq, not_true_eq_false, not_false_eq_true]; done) | (simp only [beq_iff_eq, bne_iff_ne, ne_eq, decide_eq_true_eq]; omega)) ?_) | (with_reducible refine Mine.if_neg' (by first | omega | decide | (simp only [beq_iff_eq, bne_iff_ne, ne_eq, decide_eq_true_eq, not_true_eq_false, not_false_eq_true]; done) | (simp only [beq_iff_eq, bne_iff_ne, ne_eq, decide_eq_true_eq]; omega)) ?_) | ((with_reducible refine Mine.if_both ?_ ?_) <;> (intro hc'; (try simp only [beq_iff_eq, bne_iff_ne, ne_eq, decide_eq_true_eq, Bool.not_eq_true, beq_eq_false_iff_ne, bne_eq_false_iff_eq, decide_eq_false_iff_not, Decidable.not_not] at hc'))))
local macro_rules | `(tactic| walk_at "wpAt") => `(tactic| (ks_step "exec Expr"; k_dflt (refine ks_wpAt_Expr_any ?_)))
local macro_rules | `(tactic| walk_at "wpAt") => `(tactic| (ks_step "eval Call"; k_dflt (refine ks_wpAt_MethodCall ?_)))
local macro_rules | `(tactic| walk_at "callWith ref") => `(tactic| (k_here; k_dflt (first
  | ((with_reducible refine' callWith_K0 ?k1 ?k2 ?_); (case k1 => exact Frag.In.keeps (by with_reducible assumption) (Fr.keep (by with_reducible assumption))); (case k2 => k_is); k_whole)
  | ((with_reducible refine' callWith_K ?k1 ?k2 ?_ ?k3 ?k4); (case k3 => exact rfl); (case k4 => exact rfl); (case k1 => with_reducible assumption); (case k2 => k_is); k_whole))))
local macro_rules | `(tactic| walk_at "eval Name") => `(tactic| (k_here; k_dflt (first
  | ((with_reducible refine' Mine.nameO_L ?F ?v ?_ ?a ?b ?d); (case b => rfl); (case F => k_asm); (case a => rfl); (case d => decide); (case v => rfl); k_whole)
  | ((with_reducible refine' Mine.nameO_K ?F ?X ?T ?e ?_ ?a ?b ?d); (case b => rfl); (case F => k_asm); (case X => k_asm); (case T => k_asm); (case a => rfl); (case d => decide); (case e => k_is); k_whole)
  | ((with_reducible refine' Mine.nameO_B ?F ?X ?T ?e ?v ?n ?_ ?a ?b ?d); (case b => rfl); (case F => k_asm); (case X => k_asm); (case T => k_asm); (case a => rfl); (case d => decide); (case e => k_is); (case v => boot_fast); (case n => decide); k_whole)
  | ((with_reducible refine' nameX_L ?F ?v ?_ ?a ?b); (case b => rfl); (case F => k_asm); (case a => rfl); (case v => rfl); k_whole)
  | ((with_reducible refine' nameX_K ?F ?X ?T ?e ?_ ?a ?b); (case b => rfl); (case F => k_asm); (case X => k_asm); (case T => k_asm); (case a => rfl); (case e => k_is); k_whole)
  | ((with_reducible refine' nameX_B ?F ?X ?T ?e ?v ?n ?_ ?a ?b); (case b => rfl); (case F => k_asm); (case X => k_asm); (case T => k_asm); (case a => rfl); (case e => k_is); (case v => boot_fast); (case n => decide); k_whole))))
section
namespace Mine
theorem draw_spec (w : World) (fd at' : Addr) (mu : Led) (hmu : DrawAt at' mu) (M : Int) (tm : Tok) (hM : 0 < M) (hM8 : M < 8) :
    Calls w 1 8 (.ref fd) [.int M tm] mu (fun news => DrawFix news fd at') (fun _ mu' tl r => DrawAt at' mu' ∧ tl = [] ∧ ∃ v tv, r = .int v tv ∧ 0 ≤ v ∧ v < M) := by
  have hdp : drawParts = drawParts := rfl
  conv at hdp => lhs; whnf
  unfold Calls DrawFix drawObj
  rw [← hdp]
  clear hdp
  dsimp only
  w_top off
  k_fill
  intro p loose mean mg mb dp un gd cn cs a ccd cl outer A₀ base h₀ L m news s Q E B F X TG N T hcs hd hu hoff hpre hret
  obtain ⟨k, tk, n, rfl, hk⟩ := hmu
  obtain ⟨cA, cN, D, c', oA, oN, oc, vs, t, doc, pm, ctv, qual, nD, vs', ns, hfd, hcA, hcN, hcD, hcc, hA, hN, hoc, hq, hI, hns⟩ := hpre
  have hnn : ∀ q ∈ news, q.1 ≠ at' := fun q hq => hoff _ (.head _) q hq
  have hcode := TG.t1
  simp only [List.cons_append, List.nil_append] at N
  refine wpAny_call ?_
  refine' code_nest B F X N T rfl rfl hcs (.tail _ hfd) (codeRec_news N (.tail _ hcc) hoc hq) ?k8 (BindsTo.of_eq rfl) (locs rfl) ?_ rfl rfl rfl ?c5
  case k8 => dsimp only; omega
  case c5 => decide
  intro g' L' h' FG' F' N' B' X' T'
  dsimp only
  k_fold
  have hlen : vs'.length = ns.length := IntsAre.length hI
  set_option maxHeartbeats 1000000 in
  k_steps
  refine len_list (News.isList (by assumption) (.tail _ hcD)) ?_ ?_
  · rw [List.size_toArray]; omega
  set_option maxHeartbeats 1000000 in
  k_steps
  · exact hret _ [(at', atObj (k + 1) _ n)] [] _ _ (by assumption) (by assumption) (fun _ h => nomatch h) rfl ⟨⟨_, _, n, rfl, by omega⟩, rfl, 0, _, rfl, Int.le_refl 0, hM⟩
  · rename (¬ (_ < _)) => hle
    have hle' : ¬ ((vs'.length : Int) < k + 1) := hle
    have hlt : k.toNat < vs'.length := by omega
    obtain ⟨x, t, hx, _⟩ := IntsAre.at hI k.toNat _ (List.getElem?_eq_getElem hlt)
    have hx' : vs'[(k + 1 - 1).toNat]? = some (.int x t) := by rw [Int.add_sub_cancel, List.getElem?_eq_getElem hlt, hx]
    refine item_listL (k := k + 1 - 1) (News.isList (by assumption) (.tail _ hcD)) (by omega) (by omega) hx' ?_
    k_steps
    exact hret _ [(at', atObj (k + 1) _ n)] [] _ _ (by assumption) (by assumption) (fun _ h => nomatch h) rfl ⟨⟨_, _, n, rfl, by omega⟩, rfl, _, _, rfl, Int.fmod_nonneg_of_pos _ hM, Int.fmod_lt_of_pos _ hM⟩
end Mine
end
end
section
local macro_rules | `(tactic| k_all) => `(tactic| assumption)
local macro_rules | `(tactic| k_mem) => `(tactic| first
  | with_reducible assumption
  | exact List.Mem.head _
  | ((with_reducible refine List.mem_cons_of_mem _ ?_); k_mem)
  | ((with_reducible refine List.mem_append.mpr (Or.inr ?_)); k_mem)
  | ((with_reducible refine List.mem_append.mpr (Or.inl ?_)); k_mem))
local macro_rules | `(tactic| k_room) => `(tactic| ((try simp only [depth_under_make, depth_under_kw, depth_in1, depth_deeper, depth_caller]); (try dsimp only); omega))
local macro_rules | `(tactic| k_units) => `(tactic| ((try simp only [units_under_make, units_in1, units_deeper, Around.mark_units, units_caller]); (try dsimp only); omega))
local macro_rules | `(tactic| walk_at "subscriptTail") => `(tactic| (k_here; (with_reducible show wpAny _ _ (subscriptTail _ _ (Value.ref _) (Value.int _ _)) _ _ _); k_dflt ((show wpAny _ _ (subscriptTail _ _ (Value.ref 433) (Value.int _ _)) _ _ _); refine' Mine.menu_K Mine.IsWord ?F ?X ?l ?a ?b ?f ?c ?_ ?hs; (case hs => with_unfolding_all rfl); (case F => k_asm); (case X => k_asm); (case l => k_is); (case a => omega); (case b => exact Int.lt_of_lt_of_le (by assumption) (by decide)); (case f => decide); (case c => exact List.forall_mem_cons.mpr ⟨⟨_, _, rfl, by decide⟩, List.forall_mem_cons.mpr ⟨⟨_, _, rfl, by decide⟩, List.forall_mem_cons.mpr ⟨⟨_, _, rfl, by decide⟩, List.forall_mem_cons.mpr ⟨⟨_, _, rfl, by decide⟩, List.forall_mem_nil _⟩⟩⟩⟩); rintro _ ⟨wd', wt', hx', hw'⟩; subst hx')))
local macro_rules | `(tactic| walk_at "subscriptTail") => `(tactic| (k_here; (with_reducible show wpAny _ _ (subscriptTail _ _ (Value.ref _) (Value.int _ _)) _ _ _); k_dflt ((show wpAny _ _ (subscriptTail _ _ (Value.ref 434) (Value.int _ _)) _ _ _); refine' Mine.menu_K Mine.IsFixed ?F ?X ?l ?a ?b ?f ?c ?_ ?hs; (case hs => with_unfolding_all rfl); (case F => k_asm); (case X => k_asm); (case l => k_is); (case a => omega); (case b => exact Int.lt_of_lt_of_le (by assumption) (by decide)); (case f => decide); (case c => exact List.forall_mem_cons.mpr ⟨⟨_, _, rfl, by decide⟩, List.forall_mem_cons.mpr ⟨⟨_, _, rfl, by decide⟩, List.forall_mem_cons.mpr ⟨⟨_, _, rfl, by decide⟩, List.forall_mem_cons.mpr ⟨⟨_, _, rfl, by decide⟩, List.forall_mem_nil _⟩⟩⟩⟩); rintro _ ⟨wd', wt', hx', hw'⟩; subst hx')))
local macro_rules | `(tactic| walk_at "subscriptTail") => `(tactic| (k_here; (with_reducible show wpAny _ _ (subscriptTail _ _ (Value.ref _) (Value.int _ _)) _ _ _); k_dflt ((show wpAny _ _ (subscriptTail _ _ (Value.ref 435) (Value.int _ _)) _ _ _); refine' Mine.menu_K Mine.IsKind ?F ?X ?l ?a ?b ?f ?c ?_ ?hs; (case hs => with_unfolding_all rfl); (case F => k_asm); (case X => k_asm); (case l => k_is); (case a => omega); (case b => exact Int.lt_of_lt_of_le (by assumption) (by decide)); (case f => decide); (case c => exact List.forall_mem_cons.mpr ⟨⟨_, _, rfl, by decide⟩, List.forall_mem_cons.mpr ⟨⟨_, _, rfl, by decide⟩, List.forall_mem_nil _⟩⟩); rintro _ ⟨wd', wt', hx', hw'⟩; subst hx')))
local macro_rules | `(tactic| walk_at "enter") => `(tactic| ((case kA => exact rfl); (case kF => exact rfl); (case kK => first | exact rfl | assumption); (case k6 => k_is); (case k7 => k_is); (case k8 => k_room); (case k9 => exact BindsTo.of_eq rfl); (case c5 => decide); (case kB => exact locs rfl); (case c2 => exact rfl); (case c3 => exact rfl); (case c4 => exact rfl); k_whole))
local macro_rules | `(tactic| walk_at "begin") => `(tactic| ((try dsimp only); (try k_unmd); (try k_fold)))
local macro_rules | `(tactic| walk_at "enterC") => `(tactic| ((case kA => exact rfl); (case kF => exact rfl); (case kK => first | exact rfl | assumption); (case k6 => k_is); (case k7 => k_is); (case k8 => k_room); (case k9 => exact BindsTo.of_eq rfl); (case kB => exact rfl); (case kD => decide +kernel); (case c2 => exact rfl); (case c3 => exact rfl); (case c4 => exact rfl); k_whole))
local macro_rules | `(tactic| walk_at "ite") => `(tactic| first | (exfalso; omega) | (with_reducible refine Mine.if_pos' (by first | omega | decide | (simp only [beq_iff_eq, bne_iff_ne, ne_eq, decide_eq_true_eq, not_true_eq_false, not_false_eq_true]; done) | (simp only [beq_iff_eq, bne_iff_ne, ne_eq, decide_eq_true_eq]; omega)) ?_) | (with_reducible refine Mine.if_neg' (by first | omega | decide | (simp only [beq_iff_eq, bne_iff_ne, ne_eq, decide_eq_true_eq, not_true_eq_false, not_false_eq_true]; done) | (simp only [beq_iff_eq, bne_iff_ne, ne_eq, decide_eq_true_eq]; omega)) ?_) | ((with_reducible refine Mine.if_both ?_ ?_) <;> (intro hc'; (try simp only [beq_iff_eq, bne_iff_ne, ne_eq, decide_eq_true_eq, Bool.not_eq_true, beq_eq_false_iff_ne, bne_eq_false_iff_eq, decide_eq_false_iff_not, Decidable.not_not] at hc'))))
local macro_rules | `(tactic| walk_at "wpAt") => `(tactic| (ks_step "exec Expr"; k_dflt (refine ks_wpAt_Expr_any ?_)))
local macro_rules | `(tactic| walk_at "wpAt") => `(tactic| (ks_step "eval Call"; k_dflt (refine ks_wpAt_MethodCall ?_)))
local macro_rules | `(tactic| walk_at "callWith ref") => `(tactic| (k_here; k_dflt (first
  | ((with_reducible refine' callWith_K0 ?k1 ?k2 ?_); (case k1 => exact Frag.In.keeps (by with_reducible assumption) (Fr.keep (by with_reducible assumption))); (case k2 => k_is); k_whole)
  | ((with_reducible refine' callWith_K ?k1 ?k2 ?_ ?k3 ?k4); (case k3 => exact rfl); (case k4 => exact rfl); (case k1 => with_reducible assumption); (case k2 => k_is); k_whole))))
local macro_rules | `(tactic| walk_at "eval Name") => `(tactic| (k_here; k_dflt (first
  | ((with_reducible refine' Mine.nameO_L ?F ?v ?_ ?a ?b ?d); (case b => rfl); (case F => k_asm); (case a => rfl); (case d => decide); (case v => rfl); k_whole)
  | ((with_reducible refine' Mine.nameO_K ?F ?X ?T ?e ?_ ?a ?b ?d); (case b => rfl); (case F => k_asm); (case X => k_asm); (case T => k_asm); (case a => rfl); (case d => decide); (case e => k_is); k_whole)
  | ((with_reducible refine' Mine.nameO_B ?F ?X ?T ?e ?v ?n ?_ ?a ?b ?d); (case b => rfl); (case F => k_asm); (case X => k_asm); (case T => k_asm); (case a => rfl); (case d => decide); (case e => k_is); (case v => boot_fast); (case n => decide); k_whole)
  | ((with_reducible refine' nameX_L ?F ?v ?_ ?a ?b); (case b => rfl); (case F => k_asm); (case a => rfl); (case v => rfl); k_whole)
  | ((with_reducible refine' nameX_K ?F ?X ?T ?e ?_ ?a ?b); (case b => rfl); (case F => k_asm); (case X => k_asm); (case T => k_asm); (case a => rfl); (case e => k_is); k_whole)
  | ((with_reducible refine' nameX_B ?F ?X ?T ?e ?v ?n ?_ ?a ?b); (case b => rfl); (case F => k_asm); (case X => k_asm); (case T => k_asm); (case a => rfl); (case e => k_is); (case v => boot_fast); (case n => decide); k_whole))))
local macro_rules | `(tactic| walk_at "call ref") => `(tactic| (k_here; k_dflt (refine' Mine.Calls.use (Mine.draw_spec _ _ _ _ (by assumption) _ _ ?hM ?hM8) _ ?B ?F ?X ?TG ?N ?T ?hk ?hd ?hu ?sub ?off ?pre ?_; (case hM => decide); (case hM8 => decide); (case B => k_asm); (case F => k_asm); (case X => k_asm); (case TG => k_asm); (case N => k_asm); (case T => k_asm); (case hk => first | exact rfl | assumption); (case hd => k_room); (case hu => k_units); (case pre => assumption); (case sub => exact fun _ h => h); (case off => exact Mine.off1 (by assumption)); k_whole; (rintro _ mu' tl' h' tk' F' N' - - ⟨hmu', htl', v', tv', hr', hv0', hv1'⟩); subst htl'; subst hr'; (have hmq' := hmu'); (obtain ⟨k', tk9', n', he', hk'⟩ := hmq'); subst he'; (try simp only [List.nil_append, List.cons_append] at N'); (try dsimp only))))
local macro_rules | `(tactic| walk_at "call ref") => `(tactic| (k_here; k_dflt (refine' Mine.Calls.use ((by assumption : Mine.WaysSpec _ _) _ _ _ _ (by assumption)) _ ?B ?F ?X ?TG ?N ?T ?hk ?hd ?hu ?sub ?off ?pre ?_; (case B => k_asm); (case F => k_asm); (case X => k_asm); (case TG => k_asm); (case N => k_asm); (case T => k_asm); (case hk => first | exact rfl | assumption); (case hd => (unfold Mine.dW; k_room)); (case hu => (unfold Mine.uW; k_units)); (case pre => assumption); (case sub => exact fun _ h => h); (case off => exact Mine.off1 (by assumption)); k_whole; (rintro _ mu' tl' h' tk' F' N' ht' - ⟨hmu', hr'⟩); (have hmq' := hmu'); (obtain ⟨k', tk9', n', he', hk'⟩ := hmq'); subst he'; (obtain ⟨ws', l', ok', dp', hv', in'⟩ := hr'); subst hv'; (try simp only [List.nil_append, List.cons_append] at N' ht'); (replace N' := Mine.news_rot N'); (try dsimp only))))
local macro_rules | `(tactic| walk_at "call ref") => `(tactic| (k_here; k_dflt (refine' Mine.Calls.use ((by assumption : Mine.ElemSpec _ _) _ _ _ _ (by assumption)) _ ?B ?F ?X ?TG ?N ?T ?hk ?hd ?hu ?sub ?off ?pre ?_; (case B => k_asm); (case F => k_asm); (case X => k_asm); (case TG => k_asm); (case N => k_asm); (case T => k_asm); (case hk => first | exact rfl | assumption); (case hd => (unfold Mine.dE; k_room)); (case hu => (unfold Mine.uE; k_units)); (case pre => assumption); (case sub => exact fun _ h => h); (case off => exact Mine.off1 (by assumption)); k_whole; (rintro _ mu' tl' h' tk' F' N' ht' - ⟨hmu', hr'⟩); (have hmq' := hmu'); (obtain ⟨k', tk9', n', he', hk'⟩ := hmq'); subst he'; (obtain ⟨e', ok', dp', in'⟩ := hr'); (try simp only [List.nil_append, List.cons_append] at N' ht'); (replace N' := Mine.news_rot N'); (try dsimp only))))
local macro_rules | `(tactic| walk_at "ap") => `(tactic| first
  | exact List.forall_mem_nil _
  | assumption
  | exact Mine.allLt_ne (by tbn_find)
  | exact Mine.ap_lt (by assumption)
  | exact Mine.ap_lt2 (by assumption) (by assumption)
  | exact Mine.ap_lt2 (by assumption) (Mine.allLt_mem (by tbn_find))
  | exact Mine.ap_memLt (by assumption) (by intro q9 h9; k_mem)
  | exact Mine.off1_mem (by first | assumption | exact And.left (by assumption) | exact And.right (by assumption))
  | ((refine List.forall_mem_cons.mpr ⟨?_, ?_⟩); (focus (try dsimp only); first | assumption | k_ne | exact Ne.symm (by assumption) | exact Mine.ne_lt2 (by assumption) (by tbn_find) | exact Ne.symm (Mine.ne_memLt (by assumption) (by k_mem))); walk_at "ap")
  | ((refine List.forall_mem_append.mpr ⟨?_, ?_⟩) <;> walk_at "ap")
  | fail "ap: no order")
local macro_rules | `(tactic| walk_at "ord") => `(tactic| first
  | exact List.forall_mem_nil _
  | assumption
  | ((refine List.forall_mem_cons.mpr ⟨?_, ?_⟩); (focus walk_at "ap"); walk_at "ord")
  | exact Mine.aps (by assumption) (by intro q9 h9; k_mem)
  | exact Mine.aps2 (by assumption) (by k_mem) (by intro q9 h9; k_mem)
  | ((refine List.forall_mem_append.mpr ⟨?_, ?_⟩) <;> walk_at "ord")
  | fail "ord")
local macro_rules | `(tactic| walk_at "sub") => `(tactic| (intro q9 h9; simp only [List.mem_append, List.mem_cons, List.not_mem_nil, or_false, false_or, List.nil_append, List.cons_append] at h9 ⊢; first | exact h9 | grind))
section
namespace Mine
def dE (n : Int) : Nat := 10 * n.toNat + 10
def uE (n : Int) : Nat := 40 * n.toNat + 40
def ElemSpec (w : World) (n : Int) : Prop := ∀ (fd at' : Addr) (mu : Led) (td : Tok), DrawAt at' mu →
  Calls w (dE n) (uE n) (.ref 449) [.ref fd, .int n td] mu (fun news => DrawFix news fd at')
    (fun _ mu' tl r => DrawAt at' mu' ∧ ∃ e : El, e.ok ∧ (e.dep : Int) ≤ 2 * n ∧ e.In tl r)
def dW (n : Int) : Nat := 10 * n.toNat + 16
def uW (n : Int) : Nat := 40 * n.toNat + 64
def WaysSpec (w : World) (n : Int) : Prop := ∀ (fd at' : Addr) (mu : Led) (td : Tok), DrawAt at' mu →
  Calls w (dW n) (uW n) (.ref 454) [.ref fd, .int n td] mu (fun news => DrawFix news fd at')
    (fun _ mu' tl r => DrawAt at' mu' ∧ ∃ (ws : Ways) (l : Addr), ws.ok ∧ (ws.dep : Int) ≤ 2 * n + 1 ∧ r = .ref l ∧ ws.In tl l)
theorem elem0 (w : World) : ElemSpec w 0 := by
  unfold ElemSpec
  intro fd at' mu td hmu

  unfold Calls
  w_top off
  k_fill
  intro p loose mean mg mb dp un gd cn cs a ccd cl outer A₀ base h₀ L m news s Q E B F X TG N T hcs hd hu hoff hpre hret
  obtain ⟨oF, dF, fF, sF, hfn⟩ := hpre.fn
  have hd' : dp + 10 < recursionLimit := hd
  have hu' : un + 40 < cLine := hu
  have hcode := TG.t1
  have hmq := hmu
  obtain ⟨k, tk, n0, rfl, hk⟩ := hmq
  have hat : ∀ q ∈ news, q.1 ≠ at' := fun q hq => hoff _ (.head _) q hq
  simp only [List.nil_append, List.cons_append] at N
  refine wpAny_call ?_
  k_dflt (refine' code_def (binds := [("draw", .ref fd), ("deep", .int 0 td)]) B F X N T ?kA ?kF ?kK ?k6 ?k7 ?k8 ?k9 ?kB ?_ ?c2 ?c3 ?c4 ?c5)
  walk_at "enter"
  intro g' L' h' FG' F' N' B' X' T'
  have TG' := TG.keeps FG'.keep
  have hcode' := TG'.t1
  walk_at "begin"
  k_steps
  all_goals (try simp only [allLt_append, off1_append] at *)
  · exact hret _ [(at', atObj _ _ _)] [(_, _)] _ _ (by assumption) (by assumption) (by walk_at "ord") (by rfl)
      ⟨by assumption, El.nav _ _ none, ⟨by assumption, trivial⟩, Int.le_refl 0, ⟨_, _, _, _, rfl, .head _, rfl⟩⟩
  · exact hret _ [(at', atObj _ _ _)] [(_, _)] _ _ (by assumption) (by assumption) (by walk_at "ord") (by rfl)
      ⟨by assumption, El.nav _ _ none, ⟨by assumption, trivial⟩, Int.le_refl 0, ⟨_, _, _, _, rfl, .head _, rfl⟩⟩
  · exact hret _ [(at', atObj _ _ _)] [(_, _)] _ _ (by assumption) (by assumption) (by walk_at "ord") (by rfl)
      ⟨by assumption, El.nav _ _ (some _), ⟨by assumption, rfl, by assumption⟩, Int.le_refl 0, ⟨_, _, _, _, rfl, .head _, ⟨_, rfl⟩⟩⟩
  · exact hret _ [(at', atObj _ _ _)] [(_, _)] _ _ (by assumption) (by assumption) (by walk_at "ord") (by rfl)
      ⟨by assumption, El.par _, by assumption, Int.le_refl 0, ⟨_, _, _, rfl, .head _⟩⟩
end Mine
end
end
section
local macro_rules | `(tactic| k_all) => `(tactic| assumption)
local macro_rules | `(tactic| k_mem) => `(tactic| first
  | with_reducible assumption
  | exact List.Mem.head _
  | ((with_reducible refine List.mem_cons_of_mem _ ?_); k_mem)
  | ((with_reducible refine List.mem_append.mpr (Or.inr ?_)); k_mem)
  | ((with_reducible refine List.mem_append.mpr (Or.inl ?_)); k_mem))
local macro_rules | `(tactic| k_room) => `(tactic| ((try simp only [depth_under_make, depth_under_kw, depth_in1, depth_deeper, depth_caller]); (try dsimp only); omega))
local macro_rules | `(tactic| k_units) => `(tactic| ((try simp only [units_under_make, units_in1, units_deeper, Around.mark_units, units_caller]); (try dsimp only); omega))
local macro_rules | `(tactic| walk_at "subscriptTail") => `(tactic| (k_here; (with_reducible show wpAny _ _ (subscriptTail _ _ (Value.ref _) (Value.int _ _)) _ _ _); k_dflt ((show wpAny _ _ (subscriptTail _ _ (Value.ref 433) (Value.int _ _)) _ _ _); refine' Mine.menu_K Mine.IsWord ?F ?X ?l ?a ?b ?f ?c ?_ ?hs; (case hs => with_unfolding_all rfl); (case F => k_asm); (case X => k_asm); (case l => k_is); (case a => omega); (case b => exact Int.lt_of_lt_of_le (by assumption) (by decide)); (case f => decide); (case c => exact List.forall_mem_cons.mpr ⟨⟨_, _, rfl, by decide⟩, List.forall_mem_cons.mpr ⟨⟨_, _, rfl, by decide⟩, List.forall_mem_cons.mpr ⟨⟨_, _, rfl, by decide⟩, List.forall_mem_cons.mpr ⟨⟨_, _, rfl, by decide⟩, List.forall_mem_nil _⟩⟩⟩⟩); rintro _ ⟨wd', wt', hx', hw'⟩; subst hx')))
local macro_rules | `(tactic| walk_at "subscriptTail") => `(tactic| (k_here; (with_reducible show wpAny _ _ (subscriptTail _ _ (Value.ref _) (Value.int _ _)) _ _ _); k_dflt ((show wpAny _ _ (subscriptTail _ _ (Value.ref 434) (Value.int _ _)) _ _ _); refine' Mine.menu_K Mine.IsFixed ?F ?X ?l ?a ?b ?f ?c ?_ ?hs; (case hs => with_unfolding_all rfl); (case F => k_asm); (case X => k_asm); (case l => k_is); (case a => omega); (case b => exact Int.lt_of_lt_of_le (by assumption) (by decide)); (case f => decide); (case c => exact List.forall_mem_cons.mpr ⟨⟨_, _, rfl, by decide⟩, List.forall_mem_cons.mpr ⟨⟨_, _, rfl, by decide⟩, List.forall_mem_cons.mpr ⟨⟨_, _, rfl, by decide⟩, List.forall_mem_cons.mpr ⟨⟨_, _, rfl, by decide⟩, List.forall_mem_nil _⟩⟩⟩⟩); rintro _ ⟨wd', wt', hx', hw'⟩; subst hx')))
local macro_rules | `(tactic| walk_at "subscriptTail") => `(tactic| (k_here; (with_reducible show wpAny _ _ (subscriptTail _ _ (Value.ref _) (Value.int _ _)) _ _ _); k_dflt ((show wpAny _ _ (subscriptTail _ _ (Value.ref 435) (Value.int _ _)) _ _ _); refine' Mine.menu_K Mine.IsKind ?F ?X ?l ?a ?b ?f ?c ?_ ?hs; (case hs => with_unfolding_all rfl); (case F => k_asm); (case X => k_asm); (case l => k_is); (case a => omega); (case b => exact Int.lt_of_lt_of_le (by assumption) (by decide)); (case f => decide); (case c => exact List.forall_mem_cons.mpr ⟨⟨_, _, rfl, by decide⟩, List.forall_mem_cons.mpr ⟨⟨_, _, rfl, by decide⟩, List.forall_mem_nil _⟩⟩); rintro _ ⟨wd', wt', hx', hw'⟩; subst hx')))
local macro_rules | `(tactic| walk_at "enter") => `(tactic| ((case kA => exact rfl); (case kF => exact rfl); (case kK => first | exact rfl | assumption); (case k6 => k_is); (case k7 => k_is); (case k8 => k_room); (case k9 => exact BindsTo.of_eq rfl); (case c5 => decide); (case kB => exact locs rfl); (case c2 => exact rfl); (case c3 => exact rfl); (case c4 => exact rfl); k_whole))
local macro_rules | `(tactic| walk_at "begin") => `(tactic| ((try dsimp only); (try k_unmd); (try k_fold)))
local macro_rules | `(tactic| walk_at "enterC") => `(tactic| ((case kA => exact rfl); (case kF => exact rfl); (case kK => first | exact rfl | assumption); (case k6 => k_is); (case k7 => k_is); (case k8 => k_room); (case k9 => exact BindsTo.of_eq rfl); (case kB => exact rfl); (case kD => decide +kernel); (case c2 => exact rfl); (case c3 => exact rfl); (case c4 => exact rfl); k_whole))
local macro_rules | `(tactic| walk_at "ite") => `(tactic| first | (exfalso; omega) | (with_reducible refine Mine.if_pos' (by first | omega | decide | (simp only [beq_iff_eq, bne_iff_ne, ne_eq, decide_eq_true_eq, not_true_eq_false, not_false_eq_true]; done) | (simp only [beq_iff_eq, bne_iff_ne, ne_eq, decide_eq_true_eq]; omega)) ?_) | (with_reducible refine Mine.if_neg' (by first | omega | decide | (simp only [beq_iff_eq, bne_iff_ne, ne_eq, decide_eq_true_eq, not_true_eq_false, not_false_eq_true]; done) | (simp only [beq_iff_eq, bne_iff_ne, ne_eq, decide_eq_true_eq]; omega)) ?_) | ((with_reducible refine Mine.if_both ?_ ?_) <;> (intro hc'; (try simp only [beq_iff_eq, bne_iff_ne, ne_eq, decide_eq_true_eq, Bool.not_eq_true, beq_eq_false_iff_ne, bne_eq_false_iff_eq, decide_eq_false_iff_not, Decidable.not_not] at hc'))))
local macro_rules | `(tactic| walk_at "wpAt") => `(tactic| (ks_step "exec Expr"; k_dflt (refine ks_wpAt_Expr_any ?_)))
local macro_rules | `(tactic| walk_at "wpAt") => `(tactic| (ks_step "eval Call"; k_dflt (refine ks_wpAt_MethodCall ?_)))
local macro_rules | `(tactic| walk_at "callWith ref") => `(tactic| (k_here; k_dflt (first
  | ((with_reducible refine' callWith_K0 ?k1 ?k2 ?_); (case k1 => exact Frag.In.keeps (by with_reducible assumption) (Fr.keep (by with_reducible assumption))); (case k2 => k_is); k_whole)
  | ((with_reducible refine' callWith_K ?k1 ?k2 ?_ ?k3 ?k4); (case k3 => exact rfl); (case k4 => exact rfl); (case k1 => with_reducible assumption); (case k2 => k_is); k_whole))))
local macro_rules | `(tactic| walk_at "eval Name") => `(tactic| (k_here; k_dflt (first
  | ((with_reducible refine' Mine.nameO_L ?F ?v ?_ ?a ?b ?d); (case b => rfl); (case F => k_asm); (case a => rfl); (case d => decide); (case v => rfl); k_whole)
  | ((with_reducible refine' Mine.nameO_K ?F ?X ?T ?e ?_ ?a ?b ?d); (case b => rfl); (case F => k_asm); (case X => k_asm); (case T => k_asm); (case a => rfl); (case d => decide); (case e => k_is); k_whole)
  | ((with_reducible refine' Mine.nameO_B ?F ?X ?T ?e ?v ?n ?_ ?a ?b ?d); (case b => rfl); (case F => k_asm); (case X => k_asm); (case T => k_asm); (case a => rfl); (case d => decide); (case e => k_is); (case v => boot_fast); (case n => decide); k_whole)
  | ((with_reducible refine' nameX_L ?F ?v ?_ ?a ?b); (case b => rfl); (case F => k_asm); (case a => rfl); (case v => rfl); k_whole)
  | ((with_reducible refine' nameX_K ?F ?X ?T ?e ?_ ?a ?b); (case b => rfl); (case F => k_asm); (case X => k_asm); (case T => k_asm); (case a => rfl); (case e => k_is); k_whole)
  | ((with_reducible refine' nameX_B ?F ?X ?T ?e ?v ?n ?_ ?a ?b); (case b => rfl); (case F => k_asm); (case X => k_asm); (case T => k_asm); (case a => rfl); (case e => k_is); (case v => boot_fast); (case n => decide); k_whole))))
local macro_rules | `(tactic| walk_at "call ref") => `(tactic| (k_here; k_dflt (refine' Mine.Calls.use (Mine.draw_spec _ _ _ _ (by assumption) _ _ ?hM ?hM8) _ ?B ?F ?X ?TG ?N ?T ?hk ?hd ?hu ?sub ?off ?pre ?_; (case hM => decide); (case hM8 => decide); (case B => k_asm); (case F => k_asm); (case X => k_asm); (case TG => k_asm); (case N => k_asm); (case T => k_asm); (case hk => first | exact rfl | assumption); (case hd => k_room); (case hu => k_units); (case pre => assumption); (case sub => exact fun _ h => h); (case off => exact Mine.off1 (by assumption)); k_whole; (rintro _ mu' tl' h' tk' F' N' - - ⟨hmu', htl', v', tv', hr', hv0', hv1'⟩); subst htl'; subst hr'; (have hmq' := hmu'); (obtain ⟨k', tk9', n', he', hk'⟩ := hmq'); subst he'; (try simp only [List.nil_append, List.cons_append] at N'); (try dsimp only))))
local macro_rules | `(tactic| walk_at "call ref") => `(tactic| (k_here; k_dflt (refine' Mine.Calls.use ((by assumption : Mine.WaysSpec _ _) _ _ _ _ (by assumption)) _ ?B ?F ?X ?TG ?N ?T ?hk ?hd ?hu ?sub ?off ?pre ?_; (case B => k_asm); (case F => k_asm); (case X => k_asm); (case TG => k_asm); (case N => k_asm); (case T => k_asm); (case hk => first | exact rfl | assumption); (case hd => (unfold Mine.dW; k_room)); (case hu => (unfold Mine.uW; k_units)); (case pre => assumption); (case sub => exact fun _ h => h); (case off => exact Mine.off1 (by assumption)); k_whole; (rintro _ mu' tl' h' tk' F' N' ht' - ⟨hmu', hr'⟩); (have hmq' := hmu'); (obtain ⟨k', tk9', n', he', hk'⟩ := hmq'); subst he'; (obtain ⟨ws', l', ok', dp', hv', in'⟩ := hr'); subst hv'; (try simp only [List.nil_append, List.cons_append] at N' ht'); (replace N' := Mine.news_rot N'); (try dsimp only))))
local macro_rules | `(tactic| walk_at "call ref") => `(tactic| (k_here; k_dflt (refine' Mine.Calls.use ((by assumption : Mine.ElemSpec _ _) _ _ _ _ (by assumption)) _ ?B ?F ?X ?TG ?N ?T ?hk ?hd ?hu ?sub ?off ?pre ?_; (case B => k_asm); (case F => k_asm); (case X => k_asm); (case TG => k_asm); (case N => k_asm); (case T => k_asm); (case hk => first | exact rfl | assumption); (case hd => (unfold Mine.dE; k_room)); (case hu => (unfold Mine.uE; k_units)); (case pre => assumption); (case sub => exact fun _ h => h); (case off => exact Mine.off1 (by assumption)); k_whole; (rintro _ mu' tl' h' tk' F' N' ht' - ⟨hmu', hr'⟩); (have hmq' := hmu'); (obtain ⟨k', tk9', n', he', hk'⟩ := hmq'); subst he'; (obtain ⟨e', ok', dp', in'⟩ := hr'); (try simp only [List.nil_append, List.cons_append] at N' ht'); (replace N' := Mine.news_rot N'); (try dsimp only))))
local macro_rules | `(tactic| walk_at "ap") => `(tactic| first
  | exact List.forall_mem_nil _
  | assumption
  | exact Mine.allLt_ne (by tbn_find)
  | exact Mine.ap_lt (by assumption)
  | exact Mine.ap_lt2 (by assumption) (by assumption)
  | exact Mine.ap_lt2 (by assumption) (Mine.allLt_mem (by tbn_find))
  | exact Mine.ap_memLt (by assumption) (by intro q9 h9; k_mem)
  | exact Mine.off1_mem (by first | assumption | exact And.left (by assumption) | exact And.right (by assumption))
  | ((refine List.forall_mem_cons.mpr ⟨?_, ?_⟩); (focus (try dsimp only); first | assumption | k_ne | exact Ne.symm (by assumption) | exact Mine.ne_lt2 (by assumption) (by tbn_find) | exact Ne.symm (Mine.ne_memLt (by assumption) (by k_mem))); walk_at "ap")
  | ((refine List.forall_mem_append.mpr ⟨?_, ?_⟩) <;> walk_at "ap")
  | fail "ap: no order")
local macro_rules | `(tactic| walk_at "ord") => `(tactic| first
  | exact List.forall_mem_nil _
  | assumption
  | ((refine List.forall_mem_cons.mpr ⟨?_, ?_⟩); (focus walk_at "ap"); walk_at "ord")
  | exact Mine.aps (by assumption) (by intro q9 h9; k_mem)
  | exact Mine.aps2 (by assumption) (by k_mem) (by intro q9 h9; k_mem)
  | ((refine List.forall_mem_append.mpr ⟨?_, ?_⟩) <;> walk_at "ord")
  | fail "ord")
local macro_rules | `(tactic| walk_at "sub") => `(tactic| (intro q9 h9; simp only [List.mem_append, List.mem_cons, List.not_mem_nil, or_false, false_or, List.nil_append, List.cons_append] at h9 ⊢; first | exact h9 | grind))
section
local macro_rules | `(tactic| walk_at "unused 0") => `(tactic| fail)
namespace Mine
theorem elem_succ (w : World) (n : Int) (hn : 0 < n) (H0 : ElemSpec w 0) (Hw : WaysSpec w (n - 1)) : ElemSpec w n := by
  unfold ElemSpec
  intro fd at' mu td hmu
  unfold Calls
  w_top off
  k_fill
  intro p loose mean mg mb dp un gd cn cs a ccd cl outer A₀ base h₀ L m news s Q E B F X TG N T hcs hd hu hoff hpre hret
  obtain ⟨oF, dF, fF, sF, hfn⟩ := hpre.fn
  have hd' : dp + (10 * n.toNat + 10) < recursionLimit := hd
  have hu' : un + (40 * n.toNat + 40) < cLine := hu
  have hcode := TG.t1
  have hmq := hmu
  obtain ⟨k, tk, n0, rfl, hk⟩ := hmq
  have hat : ∀ q ∈ news, q.1 ≠ at' := fun q hq => hoff _ (.head _) q hq
  simp only [List.nil_append, List.cons_append] at N
  refine wpAny_call ?_
  k_dflt (refine' code_def (binds := [("draw", .ref fd), ("deep", .int n td)]) B F X N T ?kA ?kF ?kK ?k6 ?k7 ?k8 ?k9 ?kB ?_ ?c2 ?c3 ?c4 ?c5)
  walk_at "enter"
  intro g' L' h' FG' F' N' B' X' T'
  have TG' := TG.keeps FG'.keep
  have hcode' := TG'.t1
  walk_at "begin"
  k_steps
  all_goals (try simp only [allLt_append, off1_append] at *)
  · exact hret _ [(at', atObj _ _ _)] [(_, _)] _ _ (by assumption) (by assumption) (by walk_at "ord") (by rfl)
      ⟨by assumption, El.nav _ _ none, ⟨by assumption, trivial⟩, by simp only [El.dep]; omega, ⟨_, _, _, _, rfl, .head _, rfl⟩⟩
  · exact hret _ [(at', atObj _ _ _)] [(_, _)] _ _ (by assumption) (by assumption) (by walk_at "ord") (by rfl)
      ⟨by assumption, El.nav _ _ none, ⟨by assumption, trivial⟩, by simp only [El.dep]; omega, ⟨_, _, _, _, rfl, .head _, rfl⟩⟩
  · exact hret _ [(at', atObj _ _ _)] [(_, _)] _ _ (by assumption) (by assumption) (by walk_at "ord") (by rfl)
      ⟨by assumption, El.nav _ _ (some _), ⟨by assumption, rfl, by assumption⟩, by simp only [El.dep]; omega, ⟨_, _, _, _, rfl, .head _, ⟨_, rfl⟩⟩⟩
  · exact hret _ [(at', atObj _ _ _)] [(_, _)] _ _ (by assumption) (by assumption) (by walk_at "ord") (by rfl)
      ⟨by assumption, El.par _, by assumption, by simp only [El.dep]; omega, ⟨_, _, _, rfl, .head _⟩⟩
  · rename Ways.In _ _ _ => hin
    rename List (Addr × Obj) => tl0
    rename ((Ways.dep _ : Int) ≤ _) => hdp
    exact hret _ [(at', atObj _ _ _)] ([(_, _)] ++ tl0) _ _ (by assumption) (Mine.fin_own [_] (by assumption)) (by walk_at "ord") (by rfl)
      ⟨by assumption, El.br _, by assumption, by simp only [El.dep]; omega, ⟨_, _, _, rfl, .head _, Ways.In.mono (fun _ h => .tail _ h) _ _ hin⟩⟩
  · rename Ways.In _ _ _ => hin
    rename List (Addr × Obj) => tl0
    rename ((Ways.dep _ : Int) ≤ _) => hdp
    exact hret _ [(at', atObj _ _ _)] ([(_, _)] ++ tl0) _ _ (by assumption) (Mine.fin_own [_] (by assumption)) (by walk_at "ord") (by rfl)
      ⟨by assumption, El.st _, by assumption, by simp only [El.dep]; omega, ⟨_, _, _, rfl, .head _, Ways.In.mono (fun _ h => .tail _ h) _ _ hin⟩⟩
  · rename El.In _ _ _ => hin
    rename List (Addr × Obj) => tl0
    rename (El.ok _) => hok
    rename ((El.dep _ : Int) ≤ _) => hdp
    exact hret _ [(at', atObj _ _ _)] ([(_, _), (_, _), (_, _)] ++ tl0) _ _ (by assumption) (Mine.fin_own [_, _, _] (by assumption)) (by walk_at "ord") (by rfl)
      ⟨by assumption, El.st (.one (.one _)), .inr hok, by simp only [El.dep, Ways.dep, Pth.dep]; omega, ⟨_, _, _, rfl, .head _, ⟨_, _, .tail _ (.head _), ⟨_, _, .tail _ (.tail _ (.head _)), El.In.mono (fun _ h => .tail _ (.tail _ (.tail _ h))) _ _ hin⟩⟩⟩⟩
end Mine
end
section
namespace Mine
def dP (n : Int) : Nat := 10 * n.toNat + 13
def uP (n : Int) : Nat := 40 * n.toNat + 52
def PathSpec (w : World) (n : Int) : Prop := ∀ (fd at' : Addr) (mu : Led) (td : Tok), DrawAt at' mu →
  Calls w (dP n) (uP n) (.ref 459) [.ref fd, .int n td] mu (fun news => DrawFix news fd at')
    (fun _ mu' tl r => DrawAt at' mu' ∧ ∃ (x : Pth) (l : Addr), x.ok ∧ (x.dep : Int) ≤ 2 * n + 1 ∧ r = .ref l ∧ x.In tl l)
open PyProof.Rows.LCg in
/-- a turn of a comprehension whose element is a call of the drawing kind -/
theorem draw_turn {w : World} {dN uN : Nat} {f : Value} {vs : List Value} {fd at' : Addr} {k : Int} {tk : Tok} {n0 : Nat} {Post : Led → Value → Prop}
    (C : Calls w dN uN f vs [(at', atObj k tk n0)] (fun news => DrawFix news fd at') (fun _ mu' tl r => DrawAt at' mu' ∧ Post tl r))
    {p : Program} {loose : List Str} {mean : ExcName → Option Value} {mg mb : Str → Option Value} {dp un : Nat} {gd : Option (List Code)} {cn : Str} {cs : Scope} {a : Addr} {ccd : Value} {cl : List (Str × Addr)} {outer : List Env}
    {A₀ : Around} {base h₀ : Heap} {L : Addr} {m : Str → Option Value} {rest : Led} {s : Shared} {E : Value → Shared → Prop} {I C' D : Addr} {oI oC oD : Obj} {S : Led → Prop} {Rest : Value → Led → Prop}
    (B : Below A₀ base outer h₀) (F : Fr h₀ L s.heap m) (X : (hd.heap_39 w.params).In h₀) (TG : TabsG h₀) (N : News h₀ L s.heap ((I, oI) :: (C', oC) :: (D, oD) :: (at', atObj k tk n0) :: rest)) (T : Top p loose mean mg mb h₀) (hk : cs.kind = .function)
    (hd : dp + dN < recursionLimit) (hu : un + uN < cLine) (pre : DrawFix rest fd at') (hat : ∀ q ∈ rest, q.1 ≠ at') (off : Off3 I C' D ((at', atObj k tk n0) :: rest)) (hS : ∀ l, S l)
    (cont : ∀ r k' tk' n' tl, DrawAt at' [(at', atObj k' tk' n')] → (∀ p ∈ tl, Ap p.1 ((at', atObj k' tk' n') :: (I, oI) :: (C', oC) :: (D, oD) :: rest)) → (∀ q ∈ tl ++ rest, q.1 ≠ at') → DrawFix (tl ++ rest) fd at' → Off3 I C' D ((at', atObj k' tk' n') :: (tl ++ rest)) → Post tl r →
      Rest r ((at', atObj k' tk' n') :: (tl ++ rest))) :
    wpAny (model PySem.Challenge.rw_wx0015_01.row.prog w) (ktrTop dp un gd cn cs L a ccd cl outer) (call f vs) (CompEnd h₀ L m s I oI C' oC D oD S Rest) E s := by
  have offm := Off3.mem off
  have o1 := offm _ (.head _)
  refine C.use ((I, oI) :: (C', oC) :: (D, oD) :: rest) B F X TG N T hk hd hu ?_ ?_ (pre.mono fun _ h => .tail _ (.tail _ (.tail _ h))) ?_
  · intro p hp
    simp only [List.mem_append, List.mem_cons, List.not_mem_nil, or_false] at hp ⊢
    rcases hp with h | h | h | h | h <;> simp only [h, true_or, or_true]
  · refine off1 fun q hq => ?_
    simp only [List.mem_cons] at hq
    rcases hq with rfl | rfl | rfl | h
    · exact Ne.symm o1.1
    · exact Ne.symm o1.2.1
    · exact Ne.symm o1.2.2
    · exact hat q h
  · rintro r mu' tl h' tk' F' N' ht - ⟨⟨k', tk'', n', rfl, hk'⟩, hp⟩
    have hat' : ∀ q ∈ tl ++ rest, q.1 ≠ at' := fun q hq => by
      rcases List.mem_append.mp hq with h | h
      · exact Ne.symm (ht q h _ (.head _))
      · exact hat q h
    have off' : Off3 I C' D ((at', atObj k' tk'' n') :: (tl ++ rest)) := Off3.of fun q hq => by
      rcases List.mem_cons.mp hq with rfl | hq
      · exact o1
      · rcases List.mem_append.mp hq with h | h
        · exact ⟨Ne.symm (ht q h _ (.tail _ (.head _))), Ne.symm (ht q h _ (.tail _ (.tail _ (.head _)))), Ne.symm (ht q h _ (.tail _ (.tail _ (.tail _ (.head _)))))⟩
        · exact offm q (.tail _ h)
    refine CompEnd.intro F' N' ((at', atObj k' tk'' n') :: (tl ++ rest)) ?_ off' (hS _) (cont r k' tk'' n' tl ⟨k', tk'', n', rfl, hk'⟩ ht hat' (pre.mono fun _ h => List.mem_append.mpr (.inr h)) off' hp)
    intro p hp
    simp only [List.mem_append, List.mem_cons] at hp ⊢
    rcases hp with h | h | h | h | h | h <;> simp only [h, true_or, or_true]
theorem allLt_sub {a : Addr} {x y : Led} (k : ∀ p ∈ y, p ∈ x) (h : AllLt a x) : AllLt a y := allLt_of fun q hq => allLt_mem h q (k q hq)
end Mine
end
end
section
local macro_rules | `(tactic| k_all) => `(tactic| assumption)
local macro_rules | `(tactic| k_mem) => `(tactic| first
  | with_reducible assumption
  | exact List.Mem.head _
  | ((with_reducible refine List.mem_cons_of_mem _ ?_); k_mem)
  | ((with_reducible refine List.mem_append.mpr (Or.inr ?_)); k_mem)
  | ((with_reducible refine List.mem_append.mpr (Or.inl ?_)); k_mem))
local macro_rules | `(tactic| k_room) => `(tactic| ((try simp only [depth_under_make, depth_under_kw, depth_in1, depth_deeper, depth_caller]); (try dsimp only); omega))
local macro_rules | `(tactic| k_units) => `(tactic| ((try simp only [units_under_make, units_in1, units_deeper, Around.mark_units, units_caller]); (try dsimp only); omega))
local macro_rules | `(tactic| walk_at "subscriptTail") => `(tactic| (k_here; (with_reducible show wpAny _ _ (subscriptTail _ _ (Value.ref _) (Value.int _ _)) _ _ _); k_dflt ((show wpAny _ _ (subscriptTail _ _ (Value.ref 433) (Value.int _ _)) _ _ _); refine' Mine.menu_K Mine.IsWord ?F ?X ?l ?a ?b ?f ?c ?_ ?hs; (case hs => with_unfolding_all rfl); (case F => k_asm); (case X => k_asm); (case l => k_is); (case a => omega); (case b => exact Int.lt_of_lt_of_le (by assumption) (by decide)); (case f => decide); (case c => exact List.forall_mem_cons.mpr ⟨⟨_, _, rfl, by decide⟩, List.forall_mem_cons.mpr ⟨⟨_, _, rfl, by decide⟩, List.forall_mem_cons.mpr ⟨⟨_, _, rfl, by decide⟩, List.forall_mem_cons.mpr ⟨⟨_, _, rfl, by decide⟩, List.forall_mem_nil _⟩⟩⟩⟩); rintro _ ⟨wd', wt', hx', hw'⟩; subst hx')))
local macro_rules | `(tactic| walk_at "subscriptTail") => `(tactic| (k_here; (with_reducible show wpAny _ _ (subscriptTail _ _ (Value.ref _) (Value.int _ _)) _ _ _); k_dflt ((show wpAny _ _ (subscriptTail _ _ (Value.ref 434) (Value.int _ _)) _ _ _); refine' Mine.menu_K Mine.IsFixed ?F ?X ?l ?a ?b ?f ?c ?_ ?hs; (case hs => with_unfolding_all rfl); (case F => k_asm); (case X => k_asm); (case l => k_is); (case a => omega); (case b => exact Int.lt_of_lt_of_le (by assumption) (by decide)); (case f => decide); (case c => exact List.forall_mem_cons.mpr ⟨⟨_, _, rfl, by decide⟩, List.forall_mem_cons.mpr ⟨⟨_, _, rfl, by decide⟩, List.forall_mem_cons.mpr ⟨⟨_, _, rfl, by decide⟩, List.forall_mem_cons.mpr ⟨⟨_, _, rfl, by decide⟩, List.forall_mem_nil _⟩⟩⟩⟩); rintro _ ⟨wd', wt', hx', hw'⟩; subst hx')))
local macro_rules | `(tactic| walk_at "subscriptTail") => `(tactic| (k_here; (with_reducible show wpAny _ _ (subscriptTail _ _ (Value.ref _) (Value.int _ _)) _ _ _); k_dflt ((show wpAny _ _ (subscriptTail _ _ (Value.ref 435) (Value.int _ _)) _ _ _); refine' Mine.menu_K Mine.IsKind ?F ?X ?l ?a ?b ?f ?c ?_ ?hs; (case hs => with_unfolding_all rfl); (case F => k_asm); (case X => k_asm); (case l => k_is); (case a => omega); (case b => exact Int.lt_of_lt_of_le (by assumption) (by decide)); (case f => decide); (case c => exact List.forall_mem_cons.mpr ⟨⟨_, _, rfl, by decide⟩, List.forall_mem_cons.mpr ⟨⟨_, _, rfl, by decide⟩, List.forall_mem_nil _⟩⟩); rintro _ ⟨wd', wt', hx', hw'⟩; subst hx')))
local macro_rules | `(tactic| walk_at "enter") => `(tactic| ((case kA => exact rfl); (case kF => exact rfl); (case kK => first | exact rfl | assumption); (case k6 => k_is); (case k7 => k_is); (case k8 => k_room); (case k9 => exact BindsTo.of_eq rfl); (case c5 => decide); (case kB => exact locs rfl); (case c2 => exact rfl); (case c3 => exact rfl); (case c4 => exact rfl); k_whole))
local macro_rules | `(tactic| walk_at "begin") => `(tactic| ((try dsimp only); (try k_unmd); (try k_fold)))
local macro_rules | `(tactic| walk_at "enterC") => `(tactic| ((case kA => exact rfl); (case kF => exact rfl); (case kK => first | exact rfl | assumption); (case k6 => k_is); (case k7 => k_is); (case k8 => k_room); (case k9 => exact BindsTo.of_eq rfl); (case kB => exact rfl); (case kD => decide +kernel); (case c2 => exact rfl); (case c3 => exact rfl); (case c4 => exact rfl); k_whole))
local macro_rules | `(tactic| walk_at "ite") => `(tactic| first | (exfalso; omega) | (with_reducible refine Mine.if_pos' (by first | omega | decide | (simp only [beq_iff_eq, bne_iff_ne, ne_eq, decide_eq_true_eq, not_true_eq_false, not_false_eq_true]; done) | (simp only [beq_iff_eq, bne_iff_ne, ne_eq, decide_eq_true_eq]; omega)) ?_) | (with_reducible refine Mine.if_neg' (by first | omega | decide | (simp only [beq_iff_eq, bne_iff_ne, ne_eq, decide_eq_true_eq, not_true_eq_false, not_false_eq_true]; done) | (simp only [beq_iff_eq, bne_iff_ne, ne_eq, decide_eq_true_eq]; omega)) ?_) | ((with_reducible refine Mine.if_both ?_ ?_) <;> (intro hc'; (try simp only [beq_iff_eq, bne_iff_ne, ne_eq, decide_eq_true_eq, Bool.not_eq_true, beq_eq_false_iff_ne, bne_eq_false_iff_eq, decide_eq_false_iff_not, Decidable.not_not] at hc'))))
local macro_rules | `(tactic| walk_at "wpAt") => `(tactic| (ks_step "exec Expr"; k_dflt (refine ks_wpAt_Expr_any ?_)))
local macro_rules | `(tactic| walk_at "wpAt") => `(tactic| (ks_step "eval Call"; k_dflt (refine ks_wpAt_MethodCall ?_)))
local macro_rules | `(tactic| walk_at "callWith ref") => `(tactic| (k_here; k_dflt (first
  | ((with_reducible refine' callWith_K0 ?k1 ?k2 ?_); (case k1 => exact Frag.In.keeps (by with_reducible assumption) (Fr.keep (by with_reducible assumption))); (case k2 => k_is); k_whole)
  | ((with_reducible refine' callWith_K ?k1 ?k2 ?_ ?k3 ?k4); (case k3 => exact rfl); (case k4 => exact rfl); (case k1 => with_reducible assumption); (case k2 => k_is); k_whole))))
local macro_rules | `(tactic| walk_at "eval Name") => `(tactic| (k_here; k_dflt (first
  | ((with_reducible refine' Mine.nameO_L ?F ?v ?_ ?a ?b ?d); (case b => rfl); (case F => k_asm); (case a => rfl); (case d => decide); (case v => rfl); k_whole)
  | ((with_reducible refine' Mine.nameO_K ?F ?X ?T ?e ?_ ?a ?b ?d); (case b => rfl); (case F => k_asm); (case X => k_asm); (case T => k_asm); (case a => rfl); (case d => decide); (case e => k_is); k_whole)
  | ((with_reducible refine' Mine.nameO_B ?F ?X ?T ?e ?v ?n ?_ ?a ?b ?d); (case b => rfl); (case F => k_asm); (case X => k_asm); (case T => k_asm); (case a => rfl); (case d => decide); (case e => k_is); (case v => boot_fast); (case n => decide); k_whole)
  | ((with_reducible refine' nameX_L ?F ?v ?_ ?a ?b); (case b => rfl); (case F => k_asm); (case a => rfl); (case v => rfl); k_whole)
  | ((with_reducible refine' nameX_K ?F ?X ?T ?e ?_ ?a ?b); (case b => rfl); (case F => k_asm); (case X => k_asm); (case T => k_asm); (case a => rfl); (case e => k_is); k_whole)
  | ((with_reducible refine' nameX_B ?F ?X ?T ?e ?v ?n ?_ ?a ?b); (case b => rfl); (case F => k_asm); (case X => k_asm); (case T => k_asm); (case a => rfl); (case e => k_is); (case v => boot_fast); (case n => decide); k_whole))))
local macro_rules | `(tactic| walk_at "call ref") => `(tactic| (k_here; k_dflt (refine' Mine.Calls.use (Mine.draw_spec _ _ _ _ (by assumption) _ _ ?hM ?hM8) _ ?B ?F ?X ?TG ?N ?T ?hk ?hd ?hu ?sub ?off ?pre ?_; (case hM => decide); (case hM8 => decide); (case B => k_asm); (case F => k_asm); (case X => k_asm); (case TG => k_asm); (case N => k_asm); (case T => k_asm); (case hk => first | exact rfl | assumption); (case hd => k_room); (case hu => k_units); (case pre => assumption); (case sub => exact fun _ h => h); (case off => exact Mine.off1 (by assumption)); k_whole; (rintro _ mu' tl' h' tk' F' N' - - ⟨hmu', htl', v', tv', hr', hv0', hv1'⟩); subst htl'; subst hr'; (have hmq' := hmu'); (obtain ⟨k', tk9', n', he', hk'⟩ := hmq'); subst he'; (try simp only [List.nil_append, List.cons_append] at N'); (try dsimp only))))
local macro_rules | `(tactic| walk_at "call ref") => `(tactic| (k_here; k_dflt (refine' Mine.Calls.use ((by assumption : Mine.WaysSpec _ _) _ _ _ _ (by assumption)) _ ?B ?F ?X ?TG ?N ?T ?hk ?hd ?hu ?sub ?off ?pre ?_; (case B => k_asm); (case F => k_asm); (case X => k_asm); (case TG => k_asm); (case N => k_asm); (case T => k_asm); (case hk => first | exact rfl | assumption); (case hd => (unfold Mine.dW; k_room)); (case hu => (unfold Mine.uW; k_units)); (case pre => assumption); (case sub => exact fun _ h => h); (case off => exact Mine.off1 (by assumption)); k_whole; (rintro _ mu' tl' h' tk' F' N' ht' - ⟨hmu', hr'⟩); (have hmq' := hmu'); (obtain ⟨k', tk9', n', he', hk'⟩ := hmq'); subst he'; (obtain ⟨ws', l', ok', dp', hv', in'⟩ := hr'); subst hv'; (try simp only [List.nil_append, List.cons_append] at N' ht'); (replace N' := Mine.news_rot N'); (try dsimp only))))
local macro_rules | `(tactic| walk_at "call ref") => `(tactic| (k_here; k_dflt (refine' Mine.Calls.use ((by assumption : Mine.ElemSpec _ _) _ _ _ _ (by assumption)) _ ?B ?F ?X ?TG ?N ?T ?hk ?hd ?hu ?sub ?off ?pre ?_; (case B => k_asm); (case F => k_asm); (case X => k_asm); (case TG => k_asm); (case N => k_asm); (case T => k_asm); (case hk => first | exact rfl | assumption); (case hd => (unfold Mine.dE; k_room)); (case hu => (unfold Mine.uE; k_units)); (case pre => assumption); (case sub => exact fun _ h => h); (case off => exact Mine.off1 (by assumption)); k_whole; (rintro _ mu' tl' h' tk' F' N' ht' - ⟨hmu', hr'⟩); (have hmq' := hmu'); (obtain ⟨k', tk9', n', he', hk'⟩ := hmq'); subst he'; (obtain ⟨e', ok', dp', in'⟩ := hr'); (try simp only [List.nil_append, List.cons_append] at N' ht'); (replace N' := Mine.news_rot N'); (try dsimp only))))
local macro_rules | `(tactic| walk_at "ap") => `(tactic| first
  | exact List.forall_mem_nil _
  | assumption
  | exact Mine.allLt_ne (by tbn_find)
  | exact Mine.ap_lt (by assumption)
  | exact Mine.ap_lt2 (by assumption) (by assumption)
  | exact Mine.ap_lt2 (by assumption) (Mine.allLt_mem (by tbn_find))
  | exact Mine.ap_memLt (by assumption) (by intro q9 h9; k_mem)
  | exact Mine.off1_mem (by first | assumption | exact And.left (by assumption) | exact And.right (by assumption))
  | ((refine List.forall_mem_cons.mpr ⟨?_, ?_⟩); (focus (try dsimp only); first | assumption | k_ne | exact Ne.symm (by assumption) | exact Mine.ne_lt2 (by assumption) (by tbn_find) | exact Ne.symm (Mine.ne_memLt (by assumption) (by k_mem))); walk_at "ap")
  | ((refine List.forall_mem_append.mpr ⟨?_, ?_⟩) <;> walk_at "ap")
  | fail "ap: no order")
local macro_rules | `(tactic| walk_at "ord") => `(tactic| first
  | exact List.forall_mem_nil _
  | assumption
  | ((refine List.forall_mem_cons.mpr ⟨?_, ?_⟩); (focus walk_at "ap"); walk_at "ord")
  | exact Mine.aps (by assumption) (by intro q9 h9; k_mem)
  | exact Mine.aps2 (by assumption) (by k_mem) (by intro q9 h9; k_mem)
  | ((refine List.forall_mem_append.mpr ⟨?_, ?_⟩) <;> walk_at "ord")
  | fail "ord")
local macro_rules | `(tactic| walk_at "sub") => `(tactic| (intro q9 h9; simp only [List.mem_append, List.mem_cons, List.not_mem_nil, or_false, false_or, List.nil_append, List.cons_append] at h9 ⊢; first | exact h9 | grind))
local macro_rules | `(tactic| walk_at "eval ListComp") => `(tactic| (k_here; k_dflt (refine LCg.ListComp_U (F₀ := by k_asm) (by with_unfolding_all rfl) (by decide) (by rfl) (by decide) (by rfl) ?_)))
local macro_rules | `(tactic| walk_at "CompSrc") => `(tactic| (k_here; k_dflt (first
  | (refine LCg.CompSrc.ledger (by rfl) (by k_asm) (by k_asm) (by k_mem) (by first | size_fits | exact Nat.le_of_ble_eq_true rfl) ?_; intro g'; lcg_lit)
  | (refine LCg.CompSrc.range (by rfl) (by k_asm) (by k_asm) (by assumption) (by first | decide | rfl) (by first | rfl | decide) (by first | size_fits | exact Nat.le_of_ble_eq_true rfl) ?_; intro g'; lcg_lit))))
local macro_rules | `(tactic| walk_at "call ref") => `(tactic| (k_here; k_dflt (refine' Mine.draw_turn ((by assumption : Mine.PathSpec _ _) _ _ _ _ (by assumption)) ?B ?F ?X ?TG ?N ?T ?hk ?hd ?hu ?pre ?hat ?off ?hS ?_; (case B => k_asm); (case F => k_asm); (case X => k_asm); (case TG => k_asm); (case N => k_asm); (case T => k_asm); (case hk => first | exact rfl | assumption); (case hd => (unfold Mine.dP; k_room)); (case hu => (unfold Mine.uP; k_units)); (case pre => assumption); (case hat => assumption); (case off => first | assumption | (simp only [LCg.Off3, and_true]; assumption)); (case hS => exact fun _ => trivial); k_whole; (intro r' k' tk' n' tl' hmu' ht' hat' hpre' hoff' hp'); (obtain ⟨x', l', ok', dp', hv', in'⟩ := hp'); subst hv'; (try dsimp only))))
local macro_rules | `(tactic| walk_at "call ref") => `(tactic| (k_here; k_dflt (refine' Mine.draw_turn ((by assumption : Mine.ElemSpec _ _) _ _ _ _ (by assumption)) ?B ?F ?X ?TG ?N ?T ?hk ?hd ?hu ?pre ?hat ?off ?hS ?_; (case B => k_asm); (case F => k_asm); (case X => k_asm); (case TG => k_asm); (case N => k_asm); (case T => k_asm); (case hk => first | exact rfl | assumption); (case hd => (unfold Mine.dE; k_room)); (case hu => (unfold Mine.uE; k_units)); (case pre => assumption); (case hat => assumption); (case off => first | assumption | (simp only [LCg.Off3, and_true]; assumption)); (case hS => exact fun _ => trivial); k_whole; (intro r' k' tk' n' tl' hmu' ht' hat' hpre' hoff' hp'); (obtain ⟨e', ok', dp', in'⟩ := hp'); (try dsimp only))))
local macro_rules | `(tactic| walk_at "binaryOp Add ref ref") => `(tactic| (k_dflt (refine' Mine.add_listsK ?F ?N ?l ?b ?z ?_; (case F => k_asm); (case N => k_asm); (case l => exact News.isList (by k_asm) (by k_mem)); (case b => exact News.isList (by k_asm) (by k_mem)); (case z => exact Nat.le_of_ble_eq_true rfl); k_whole; (intro a' h' F' N' l1'); (try k_lt l1'); (try dsimp only))))
section
local macro_rules | `(tactic| walk_at "call type:range") => `(tactic| (k_dflt (((have hv3' := Mine.two' (by assumption) (by assumption)); rcases hv3' with hv' | hv' <;> subst hv'))))
namespace Mine
theorem ways_of (w : World) (n : Int) (hn : 0 ≤ n) (Hp : PathSpec w n) : WaysSpec w n := by
  unfold WaysSpec
  intro fd at' mu td hmu
  unfold Calls
  w_top off
  k_fill
  intro p loose mean mg mb dp un gd cn cs a ccd cl outer A₀ base h₀ L m news s Q E B F X TG N T hcs hd hu hoff hpre hret
  obtain ⟨oF, dF, fF, sF, hfn⟩ := hpre.fn
  have hd' : dp + (10 * n.toNat + 16) < recursionLimit := hd
  have hu' : un + (40 * n.toNat + 64) < cLine := hu
  have hcode := TG.t1
  have hmq := hmu
  obtain ⟨k, tk, n0, rfl, hk⟩ := hmq
  have hat : ∀ q ∈ news, q.1 ≠ at' := fun q hq => hoff _ (.head _) q hq
  simp only [List.nil_append, List.cons_append] at N
  refine wpAny_call ?_
  k_dflt (refine' code_defC (binds := [("draw", .ref fd), ("deep", .int n td)]) B F X N T ?kA ?kF ?kK ?k6 ?k7 ?k8 ?k9 ?kB ?kD ?_ ?c2 ?c3 ?c4)
  walk_at "enterC"
  intro g' L' h' tk1 cells FG' F' N' Y' B' X' T' l1
  obtain ⟨o1, o2, rfl, d1, d2⟩ := CellsAre.two Y'
  have TG' := TG.keeps FG'.keep
  have hcode' := TG'.t1
  have hla : at' < L' := l1 _ (.head _)
  obtain ⟨rest, hrest⟩ : ∃ r : Led, r = (L' + 1 + 1, o1) :: (L' + 1, o2) :: news := ⟨_, rfl⟩
  have hsub : ∀ p ∈ news, p ∈ rest := fun p hp => hrest ▸ .tail _ (.tail _ hp)
  have m1 : (L' + 1 + 1, o1) ∈ rest := hrest ▸ .head _
  have m2 : (L' + 1, o2) ∈ rest := hrest ▸ .tail _ (.head _)
  have d1' : o1.data = .cell (some (.int n td)) := d1
  have d2' : o2.data = .cell (some (.ref fd)) := d2
  clear d1 d2 Y'
  have hat' : ∀ q ∈ rest, q.1 ≠ at' := fun q hq => by
    rw [hrest] at hq
    rcases List.mem_cons.mp hq with rfl | hq
    · exact Nat.ne_of_gt (Nat.lt_succ_of_lt (Nat.lt_succ_of_lt hla))
    · rcases List.mem_cons.mp hq with rfl | hq
      · exact Nat.ne_of_gt (Nat.lt_succ_of_lt hla)
      · exact hat q hq
  have hfn' := hsub _ hfn
  have hpre' := hpre.mono hsub
  have N1 : News g' L' h' ((at', atObj k tk n0) :: rest) := fun q hq => N' q (by
    rw [hrest] at hq
    simp only [List.mem_append, List.mem_cons, List.not_mem_nil, or_false] at hq ⊢
    rcases hq with h | h | h | h <;> simp only [h, true_or, or_true])
  clear N' hfn hrest
  walk_at "begin"
  k_steps
  · rename_i k1 tk1 n1 tl1 hmu1 ht1 hat1 hpre1 hoff1 x1 l1' ok1 dp1 in1 D1 h1 tk2 F1 N2 o1' kF kN Tc kX
    have oo := off1_append.mp o1'.2
    refine hret _ [(at', atObj k1 tk1 n1)] ((D1, _) :: tl1) _ _ kF (fin_one hsub kN) ?_ (by rfl) ⟨hmu1, .one x1, D1, ok1, dp1, rfl, ⟨_, l1', .head _, Pth.In.mono (fun _ h => .tail _ h) _ _ in1⟩⟩
    exact aps_cons (List.forall_mem_cons.mpr ⟨o1'.1, fun q hq => off1_mem oo.2 q (hsub q hq)⟩) (aps_at ht1 fun q hq => .tail _ (.tail _ (.tail _ (hsub q hq))))
  · rename_i k1 tk1 n1 tl1 hmu1 ht1 hat1 hpre1 hoff1 x1 l1' ok1 dp1 in1 I2 oI2 C2 oC2 D2 m2 h2 tk2 E2 hC2 F2 N2 off2 ne2 t92 hx2 cE2 k3 tk3 n3 tl3 hmu3 ht3 hat3 hpre3 hoff3 x3 l3 ok3 dp3 in3 D1 h1 tk4 F1 N4 o1' kF kN Tc kX
    have oo := off1_append.mp o1'.2
    have oo2 := off1_append.mp oo.2
    rw [← List.append_assoc] at kN
    refine hret _ [(at', atObj k3 tk3 n3)] ((D1, _) :: (tl3 ++ tl1)) _ _ kF (fin_one hsub kN) ?_ (by rfl)
      ⟨hmu3, .two x1 x3, D1, ⟨ok1, ok3⟩, by simp only [Ways.dep]; omega, rfl, ⟨_, l1', l3, .head _, Pth.In.mono (fun _ h => .tail _ (List.mem_append.mpr (.inr h))) _ _ in1, Pth.In.mono (fun _ h => .tail _ (List.mem_append.mpr (.inl h))) _ _ in3⟩⟩
    exact aps_cons (List.forall_mem_cons.mpr ⟨o1'.1, fun q hq => off1_mem oo2.2 q (hsub q hq)⟩) (aps_app
      (aps_at ht3 fun q hq => .tail _ (.tail _ (.tail _ (List.mem_append.mpr (.inr (hsub q hq)))))) (aps_at ht1 fun q hq => .tail _ (.tail _ (.tail _ (hsub q hq)))))
end Mine
end
section
local macro_rules | `(tactic| walk_at "unused 0") => `(tactic| fail)
local macro_rules | `(tactic| walk_at "call type:range") => `(tactic| (k_dflt (((have hv3' := Mine.three' (by assumption) (by assumption)); rcases hv3' with hv' | hv' | hv' <;> subst hv'))))
namespace Mine
theorem path_of (w : World) (n : Int) (hn : 0 ≤ n) (He : ElemSpec w n) : PathSpec w n := by
  unfold PathSpec
  intro fd at' mu td hmu
  unfold Calls
  w_top off
  k_fill
  intro p loose mean mg mb dp un gd cn cs a ccd cl outer A₀ base h₀ L m news s Q E B F X TG N T hcs hd hu hoff hpre hret
  obtain ⟨oF, dF, fF, sF, hfn⟩ := hpre.fn
  have hd' : dp + (10 * n.toNat + 13) < recursionLimit := hd
  have hu' : un + (40 * n.toNat + 52) < cLine := hu
  have hcode := TG.t1
  have hmq := hmu
  obtain ⟨k, tk, n0, rfl, hk⟩ := hmq
  have hat : ∀ q ∈ news, q.1 ≠ at' := fun q hq => hoff _ (.head _) q hq
  simp only [List.nil_append, List.cons_append] at N
  refine wpAny_call ?_
  k_dflt (refine' code_defC (binds := [("draw", .ref fd), ("deep", .int n td)]) B F X N T ?kA ?kF ?kK ?k6 ?k7 ?k8 ?k9 ?kB ?kD ?_ ?c2 ?c3 ?c4)
  walk_at "enterC"
  intro g' L' h' tk1 cells FG' F' N' Y' B' X' T' l1
  obtain ⟨o1, o2, rfl, d1, d2⟩ := CellsAre.two Y'
  have TG' := TG.keeps FG'.keep
  have hcode' := TG'.t1
  have hla : at' < L' := l1 _ (.head _)
  obtain ⟨rest, hrest⟩ : ∃ r : Led, r = (L' + 1 + 1, o1) :: (L' + 1, o2) :: news := ⟨_, rfl⟩
  have hsub : ∀ p ∈ news, p ∈ rest := fun p hp => hrest ▸ .tail _ (.tail _ hp)
  have m1 : (L' + 1 + 1, o1) ∈ rest := hrest ▸ .head _
  have m2 : (L' + 1, o2) ∈ rest := hrest ▸ .tail _ (.head _)
  have d1' : o1.data = .cell (some (.int n td)) := d1
  have d2' : o2.data = .cell (some (.ref fd)) := d2
  clear d1 d2 Y'
  have hat' : ∀ q ∈ rest, q.1 ≠ at' := fun q hq => by
    rw [hrest] at hq
    rcases List.mem_cons.mp hq with rfl | hq
    · exact Nat.ne_of_gt (Nat.lt_succ_of_lt (Nat.lt_succ_of_lt hla))
    · rcases List.mem_cons.mp hq with rfl | hq
      · exact Nat.ne_of_gt (Nat.lt_succ_of_lt hla)
      · exact hat q hq
  have hfn' := hsub _ hfn
  have hpre' := hpre.mono hsub
  have N1 : News g' L' h' ((at', atObj k tk n0) :: rest) := fun q hq => N' q (by
    rw [hrest] at hq
    simp only [List.mem_append, List.mem_cons, List.not_mem_nil, or_false] at hq ⊢
    rcases hq with h | h | h | h <;> simp only [h, true_or, or_true])
  clear N' hfn hrest
  walk_at "begin"
  k_steps
  · rename_i r1 k1 tk1 n1 tl1 hmu1 ht1 hat1 hpre1 hoff1 e1 ok1 dp1 in1 D hh tkl FF NN o1l kF kN Tc kX
    refine hret _ [(at', atObj k1 tk1 n1)] ((D, _) :: tl1) _ _ kF (fin_one hsub kN) ?_ (by rfl)
      ⟨hmu1, .one e1, D, (.inr ok1), by simp only [Pth.dep]; omega, rfl, ⟨_, r1, .head _, El.In.mono (fun _ h => .tail _ h) _ _ in1⟩⟩
    exact aps_cons (List.forall_mem_cons.mpr ⟨o1l.1, fun q hq => off1_mem (off1_append.mp o1l.2).2 q (hsub q hq)⟩) (aps_at ht1 fun q hq => .tail _ (.tail _ (.tail _ (hsub q hq))))
  · rename_i r1 k1 tk1 n1 tl1 hmu1 ht1 hat1 hpre1 hoff1 e1 ok1 dp1 in1 I2 oI2 C2 oC2 D2 m2 h2 tkk2 E2 hC2 F2 N2 off2 ne2 t92 hx2 cE2 r2 k2 tk2 n2 tl2 hmu2 ht2 hat2 hpre2 hoff2 e2 ok2 dp2 in2 D hh tkl FF NN o1l kF kN Tc kX
    simp only [← List.append_assoc] at kN o1l hoff2 ht2
    refine hret _ [(at', atObj k2 tk2 n2)] ((D, _) :: (tl2 ++ tl1)) _ _ kF (fin_one hsub kN) ?_ (by rfl)
      ⟨hmu2, .two e1 e2, D, ⟨.inr ok1, ok2⟩, by simp only [Pth.dep]; omega, rfl, ⟨_, r1, r2, .head _, El.In.mono (fun _ h => .tail _ (List.mem_append.mpr (.inr h))) _ _ in1, El.In.mono (fun _ h => .tail _ (List.mem_append.mpr (.inl h))) _ _ in2⟩⟩
    exact aps_cons (List.forall_mem_cons.mpr ⟨o1l.1, fun q hq => off1_mem (off1_append.mp o1l.2).2 q (hsub q hq)⟩) (aps_app (aps_at ht2 fun q hq => .tail _ (.tail _ (.tail _ (List.mem_append.mpr (.inr (hsub q hq)))))) (aps_at ht1 fun q hq => .tail _ (.tail _ (.tail _ (hsub q hq)))))
  · rename_i r1 k1 tk1 n1 tl1 hmu1 ht1 hat1 hpre1 hoff1 e1 ok1 dp1 in1 I2 oI2 C2 oC2 D2 m2 h2 tkk2 E2 hC2 F2 N2 off2 ne2 t92 hx2 cE2 qq2 ee2 r2 k2 tk2 n2 tl2 hmu2 ht2 hat2 hpre2 hoff2 e2 ok2 dp2 in2 I3 oI3 C3 oC3 D3 m3 h3 tkk3 E3 hC3 F3 N3 off3 ne3 t93 hx3 cE3 r3 k3 tk3 n3 tl3 hmu3 ht3 hat3 hpre3 hoff3 e3 ok3 dp3 in3 D hh tkl FF NN o1l kF kN Tc kX
    simp only [← List.append_assoc] at kN o1l hoff2 ht2 hoff3 ht3
    refine hret _ [(at', atObj k3 tk3 n3)] ((D, _) :: (tl3 ++ tl2 ++ tl1)) _ _ kF (fin_one hsub kN) ?_ (by rfl)
      ⟨hmu3, .thr e1 e2 e3, D, ⟨.inr ok1, ok2, ok3⟩, by simp only [Pth.dep]; omega, rfl, ⟨_, r1, r2, r3, .head _, El.In.mono (fun _ h => .tail _ (List.mem_append.mpr (.inr h))) _ _ in1, El.In.mono (fun _ h => .tail _ (List.mem_append.mpr (.inl (List.mem_append.mpr (.inr h))))) _ _ in2, El.In.mono (fun _ h => .tail _ (List.mem_append.mpr (.inl (List.mem_append.mpr (.inl h))))) _ _ in3⟩⟩
    exact aps_cons (List.forall_mem_cons.mpr ⟨o1l.1, fun q hq => off1_mem (off1_append.mp o1l.2).2 q (hsub q hq)⟩) (aps_app (aps_app (aps_at ht3 fun q hq => .tail _ (.tail _ (.tail _ (List.mem_append.mpr (.inr (hsub q hq)))))) (aps_at ht2 fun q hq => .tail _ (.tail _ (.tail _ (List.mem_append.mpr (.inr (hsub q hq))))))) (aps_at ht1 fun q hq => .tail _ (.tail _ (.tail _ (hsub q hq)))))
  · rename_i D1 h1 ll1 lA h2 ll2 lB h3 ll3 D4 h4 ll4 h5 lF h6 F6 N6 ll6
    obtain ⟨own, rest2, hr2, N7, hat2, hpre2, hin, hap, hsr, hor⟩ := regroup [_, _, _, _, _] N6 (by assumption) (by assumption) (by walk_at "ord")
    have hfront : El.In own (.st (.one (.one (.dots 2)))) (.ref D4) :=
      ⟨_, _, lB, rfl, hin _ (.tail _ (.head _)), _, lA, hin _ (.tail _ (.tail _ (.head _))), _, _, hin _ (.tail _ (.tail _ (.tail _ (.head _)))), _, _, _, rfl, hin _ (.tail _ (.tail _ (.tail _ (.tail _ (.head _)))))⟩
    have hfn2 : (fd, (⟨oF, dF, .func fF, sF⟩ : Obj)) ∈ rest2 := hsr _ hfn'
    have m12 : (L' + 1 + 1, o1) ∈ rest2 := hsr _ m1
    have m22 : (L' + 1, o2) ∈ rest2 := hsr _ m2
    have mF : (lF, W.listOf [Value.ref D4].toArray 0) ∈ rest2 := hor _ (hin _ (.head _))
    clear N6 hin
    k_steps
    · rename_i k0 tk0 n0 hk0 hmu0 hv9z hv9y hh0 tkh t9 u9 w9 a9 b9 g9 D9 hh9 tkk9 o19 D hh FF NN l1l kF kN Tc kX
      have l2 := l1l.2.2
      refine hret _ [(at', _)] ((D, _) :: own) _ _ kF (fin_big (tl := []) hr2 hsub kN) ?_ (by rfl)
        ⟨hmu0, .one (.st (.one (.one (.dots 2)))), D, (.inr (.inl ⟨by decide, by decide⟩)), by simp only [Pth.dep, El.dep, Ways.dep]; omega, rfl, ⟨_, _, .head _, El.In.mono (fun _ h => .tail _ h) _ _ hfront⟩⟩
      exact aps_cons (List.forall_mem_cons.mpr ⟨Nat.ne_of_lt l1l.2.1, fun q hq => allLt_ne l2 q (hsr _ (hsub q hq))⟩) (aps_at hap fun q hq => hsub q hq)
    · rename_i r1 k1 tk1 n1 tl1 hmu1 ht1 hat1 hpre1 hoff1 e1 ok1 dp1 in1 D9 hh9 tkk9 o19 D hh FF NN l1l kF kN Tc kX
      have l2 := (allLt_append.mp l1l.2.2).2
      refine hret _ [(at', _)] ((D, _) :: (tl1 ++ own)) _ _ kF (fin_big (tl := tl1) hr2 hsub kN) ?_ (by rfl)
        ⟨hmu1, .two (.st (.one (.one (.dots 2)))) e1, D, ⟨.inr (.inl ⟨by decide, by decide⟩), ok1⟩, by simp only [Pth.dep, El.dep, Ways.dep]; omega, rfl, ⟨_, _, r1, .head _, El.In.mono (fun _ h => .tail _ (List.mem_append.mpr (.inr h))) _ _ hfront, El.In.mono (fun _ h => .tail _ (List.mem_append.mpr (.inl h))) _ _ in1⟩⟩
      exact aps_cons (List.forall_mem_cons.mpr ⟨Nat.ne_of_lt l1l.2.1, fun q hq => allLt_ne l2 q (hsr _ (hsub q hq))⟩) (aps_app (aps_at ht1 fun q hq => .tail _ (.tail _ (.tail _ (hsr _ (hsub q hq))))) (aps_at hap fun q hq => hsub q hq))
    · rename_i r1 k1 tk1 n1 tl1 hmu1 ht1 hat1 hpre1 hoff1 e1 ok1 dp1 in1 I2 oI2 C2 oC2 D2 m2 h2 tkk2 E2 hC2 off2 ne2 t92 hx2 cE2 r2 k2 tk2 n2 tl2 hmu2 ht2 hat2 hpre2 hoff2 e2 ok2 dp2 in2 D9 hh9 tkk9 o19 D hh FF NN l1l kF kN Tc kX
      rw [← List.append_assoc] at kN l1l
      have l2 := (allLt_append.mp l1l.2.2).2
      refine hret _ [(at', _)] ((D, _) :: (tl2 ++ tl1 ++ own)) _ _ kF (fin_big (tl := (tl2 ++ tl1)) hr2 hsub kN) ?_ (by rfl)
        ⟨hmu2, .thr (.st (.one (.one (.dots 2)))) e1 e2, D, ⟨.inr (.inl ⟨by decide, by decide⟩), ok1, ok2⟩, by simp only [Pth.dep, El.dep, Ways.dep]; omega, rfl, ⟨_, _, r1, r2, .head _, El.In.mono (fun _ h => .tail _ (List.mem_append.mpr (.inr h))) _ _ hfront, El.In.mono (fun _ h => .tail _ (List.mem_append.mpr (.inl (List.mem_append.mpr (.inr h))))) _ _ in1, El.In.mono (fun _ h => .tail _ (List.mem_append.mpr (.inl (List.mem_append.mpr (.inl h))))) _ _ in2⟩⟩
      exact aps_cons (List.forall_mem_cons.mpr ⟨Nat.ne_of_lt l1l.2.1, fun q hq => allLt_ne l2 q (hsr _ (hsub q hq))⟩) (aps_app (aps_app (aps_at ht2 fun q hq => .tail _ (.tail _ (.tail _ (List.mem_append.mpr (.inr (hsr _ (hsub q hq))))))) (aps_at ht1 fun q hq => .tail _ (.tail _ (.tail _ (hsr _ (hsub q hq)))))) (aps_at hap fun q hq => hsub q hq))
  · rename_i v9 tv9 hv90 hv91 k9 tk9 n9 hk9 hmu9 D4 h4 ll4 h5 lF h6 F6 N6 ll6
    obtain ⟨nd, hnd, hd1, hd3⟩ : ∃ nd : Nat, 1 + v9 = (nd : Int) ∧ 1 ≤ nd ∧ nd ≤ 3 := ⟨(1 + v9).toNat, by omega, by omega, by omega⟩
    rw [hnd] at N6
    obtain ⟨own, rest2, hr2, N7, hat2, hpre2, hin, hap, hsr, hor⟩ := regroup [_, _] N6 (by assumption) (by assumption) (by walk_at "ord")
    have hfront : El.In own (.dots nd) (.ref D4) := ⟨_, _, _, rfl, hin _ (.tail _ (.head _))⟩
    have hfn2 : (fd, (⟨oF, dF, .func fF, sF⟩ : Obj)) ∈ rest2 := hsr _ hfn'
    have m12 : (L' + 1 + 1, o1) ∈ rest2 := hsr _ m1
    have m22 : (L' + 1, o2) ∈ rest2 := hsr _ m2
    have mF : (lF, W.listOf [Value.ref D4].toArray 0) ∈ rest2 := hor _ (hin _ (.head _))
    clear N6 hin
    k_steps
    · rename_i k0 tk0 n0 hk0 hmu0 hv9z hv9y hh0 tkh t9 u9 w9 a9 b9 g9 D9 hh9 tkk9 o19 D hh FF NN l1l kF kN Tc kX
      have l2 := l1l.2.2
      refine hret _ [(at', _)] ((D, _) :: own) _ _ kF (fin_big (tl := []) hr2 hsub kN) ?_ (by rfl)
        ⟨hmu0, .one (.dots nd), D, (.inl ⟨hd1, hd3⟩), by simp only [Pth.dep, El.dep, Ways.dep]; omega, rfl, ⟨_, _, .head _, El.In.mono (fun _ h => .tail _ h) _ _ hfront⟩⟩
      exact aps_cons (List.forall_mem_cons.mpr ⟨Nat.ne_of_lt l1l.2.1, fun q hq => allLt_ne l2 q (hsr _ (hsub q hq))⟩) (aps_at hap fun q hq => hsub q hq)
    · rename_i r1 k1 tk1 n1 tl1 hmu1 ht1 hat1 hpre1 hoff1 e1 ok1 dp1 in1 D9 hh9 tkk9 o19 D hh FF NN l1l kF kN Tc kX
      have l2 := (allLt_append.mp l1l.2.2).2
      refine hret _ [(at', _)] ((D, _) :: (tl1 ++ own)) _ _ kF (fin_big (tl := tl1) hr2 hsub kN) ?_ (by rfl)
        ⟨hmu1, .two (.dots nd) e1, D, ⟨.inl ⟨hd1, hd3⟩, ok1⟩, by simp only [Pth.dep, El.dep, Ways.dep]; omega, rfl, ⟨_, _, r1, .head _, El.In.mono (fun _ h => .tail _ (List.mem_append.mpr (.inr h))) _ _ hfront, El.In.mono (fun _ h => .tail _ (List.mem_append.mpr (.inl h))) _ _ in1⟩⟩
      exact aps_cons (List.forall_mem_cons.mpr ⟨Nat.ne_of_lt l1l.2.1, fun q hq => allLt_ne l2 q (hsr _ (hsub q hq))⟩) (aps_app (aps_at ht1 fun q hq => .tail _ (.tail _ (.tail _ (hsr _ (hsub q hq))))) (aps_at hap fun q hq => hsub q hq))
    · rename_i r1 k1 tk1 n1 tl1 hmu1 ht1 hat1 hpre1 hoff1 e1 ok1 dp1 in1 I2 oI2 C2 oC2 D2 m2 h2 tkk2 E2 hC2 off2 ne2 t92 hx2 cE2 r2 k2 tk2 n2 tl2 hmu2 ht2 hat2 hpre2 hoff2 e2 ok2 dp2 in2 D9 hh9 tkk9 o19 D hh FF NN l1l kF kN Tc kX
      rw [← List.append_assoc] at kN l1l
      have l2 := (allLt_append.mp l1l.2.2).2
      refine hret _ [(at', _)] ((D, _) :: (tl2 ++ tl1 ++ own)) _ _ kF (fin_big (tl := (tl2 ++ tl1)) hr2 hsub kN) ?_ (by rfl)
        ⟨hmu2, .thr (.dots nd) e1 e2, D, ⟨.inl ⟨hd1, hd3⟩, ok1, ok2⟩, by simp only [Pth.dep, El.dep, Ways.dep]; omega, rfl, ⟨_, _, r1, r2, .head _, El.In.mono (fun _ h => .tail _ (List.mem_append.mpr (.inr h))) _ _ hfront, El.In.mono (fun _ h => .tail _ (List.mem_append.mpr (.inl (List.mem_append.mpr (.inr h))))) _ _ in1, El.In.mono (fun _ h => .tail _ (List.mem_append.mpr (.inl (List.mem_append.mpr (.inl h))))) _ _ in2⟩⟩
      exact aps_cons (List.forall_mem_cons.mpr ⟨Nat.ne_of_lt l1l.2.1, fun q hq => allLt_ne l2 q (hsr _ (hsub q hq))⟩) (aps_app (aps_app (aps_at ht2 fun q hq => .tail _ (.tail _ (.tail _ (List.mem_append.mpr (.inr (hsr _ (hsub q hq))))))) (aps_at ht1 fun q hq => .tail _ (.tail _ (.tail _ (hsr _ (hsub q hq)))))) (aps_at hap fun q hq => hsub q hq))
end Mine
end
end
section
local macro_rules | `(tactic| k_all) => `(tactic| assumption)
local macro_rules | `(tactic| k_mem) => `(tactic| first
  | with_reducible assumption
  | exact List.Mem.head _
  | ((with_reducible refine List.mem_cons_of_mem _ ?_); k_mem)
  | ((with_reducible refine List.mem_append.mpr (Or.inr ?_)); k_mem)
  | ((with_reducible refine List.mem_append.mpr (Or.inl ?_)); k_mem))
local macro_rules | `(tactic| k_room) => `(tactic| ((try simp only [depth_under_make, depth_under_kw, depth_in1, depth_deeper, depth_caller]); (try dsimp only); omega))
local macro_rules | `(tactic| k_units) => `(tactic| ((try simp only [units_under_make, units_in1, units_deeper, Around.mark_units, units_caller]); (try dsimp only); omega))
local macro_rules | `(tactic| walk_at "subscriptTail") => `(tactic| (k_here; (with_reducible show wpAny _ _ (subscriptTail _ _ (Value.ref _) (Value.int _ _)) _ _ _); k_dflt ((show wpAny _ _ (subscriptTail _ _ (Value.ref 433) (Value.int _ _)) _ _ _); refine' Mine.menu_K Mine.IsWord ?F ?X ?l ?a ?b ?f ?c ?_ ?hs; (case hs => with_unfolding_all rfl); (case F => k_asm); (case X => k_asm); (case l => k_is); (case a => omega); (case b => exact Int.lt_of_lt_of_le (by assumption) (by decide)); (case f => decide); (case c => exact List.forall_mem_cons.mpr ⟨⟨_, _, rfl, by decide⟩, List.forall_mem_cons.mpr ⟨⟨_, _, rfl, by decide⟩, List.forall_mem_cons.mpr ⟨⟨_, _, rfl, by decide⟩, List.forall_mem_cons.mpr ⟨⟨_, _, rfl, by decide⟩, List.forall_mem_nil _⟩⟩⟩⟩); rintro _ ⟨wd', wt', hx', hw'⟩; subst hx')))
local macro_rules | `(tactic| walk_at "subscriptTail") => `(tactic| (k_here; (with_reducible show wpAny _ _ (subscriptTail _ _ (Value.ref _) (Value.int _ _)) _ _ _); k_dflt ((show wpAny _ _ (subscriptTail _ _ (Value.ref 434) (Value.int _ _)) _ _ _); refine' Mine.menu_K Mine.IsFixed ?F ?X ?l ?a ?b ?f ?c ?_ ?hs; (case hs => with_unfolding_all rfl); (case F => k_asm); (case X => k_asm); (case l => k_is); (case a => omega); (case b => exact Int.lt_of_lt_of_le (by assumption) (by decide)); (case f => decide); (case c => exact List.forall_mem_cons.mpr ⟨⟨_, _, rfl, by decide⟩, List.forall_mem_cons.mpr ⟨⟨_, _, rfl, by decide⟩, List.forall_mem_cons.mpr ⟨⟨_, _, rfl, by decide⟩, List.forall_mem_cons.mpr ⟨⟨_, _, rfl, by decide⟩, List.forall_mem_nil _⟩⟩⟩⟩); rintro _ ⟨wd', wt', hx', hw'⟩; subst hx')))
local macro_rules | `(tactic| walk_at "subscriptTail") => `(tactic| (k_here; (with_reducible show wpAny _ _ (subscriptTail _ _ (Value.ref _) (Value.int _ _)) _ _ _); k_dflt ((show wpAny _ _ (subscriptTail _ _ (Value.ref 435) (Value.int _ _)) _ _ _); refine' Mine.menu_K Mine.IsKind ?F ?X ?l ?a ?b ?f ?c ?_ ?hs; (case hs => with_unfolding_all rfl); (case F => k_asm); (case X => k_asm); (case l => k_is); (case a => omega); (case b => exact Int.lt_of_lt_of_le (by assumption) (by decide)); (case f => decide); (case c => exact List.forall_mem_cons.mpr ⟨⟨_, _, rfl, by decide⟩, List.forall_mem_cons.mpr ⟨⟨_, _, rfl, by decide⟩, List.forall_mem_nil _⟩⟩); rintro _ ⟨wd', wt', hx', hw'⟩; subst hx')))
local macro_rules | `(tactic| walk_at "enter") => `(tactic| ((case kA => exact rfl); (case kF => exact rfl); (case kK => first | exact rfl | assumption); (case k6 => k_is); (case k7 => k_is); (case k8 => k_room); (case k9 => exact BindsTo.of_eq rfl); (case c5 => decide); (case kB => exact locs rfl); (case c2 => exact rfl); (case c3 => exact rfl); (case c4 => exact rfl); k_whole))
local macro_rules | `(tactic| walk_at "begin") => `(tactic| ((try dsimp only); (try k_unmd); (try k_fold)))
local macro_rules | `(tactic| walk_at "enterC") => `(tactic| ((case kA => exact rfl); (case kF => exact rfl); (case kK => first | exact rfl | assumption); (case k6 => k_is); (case k7 => k_is); (case k8 => k_room); (case k9 => exact BindsTo.of_eq rfl); (case kB => exact rfl); (case kD => decide +kernel); (case c2 => exact rfl); (case c3 => exact rfl); (case c4 => exact rfl); k_whole))
local macro_rules | `(tactic| walk_at "ite") => `(tactic| first | (exfalso; omega) | (with_reducible refine Mine.if_pos' (by first | omega | decide | (simp only [beq_iff_eq, bne_iff_ne, ne_eq, decide_eq_true_eq, not_true_eq_false, not_false_eq_true]; done) | (simp only [beq_iff_eq, bne_iff_ne, ne_eq, decide_eq_true_eq]; omega)) ?_) | (with_reducible refine Mine.if_neg' (by first | omega | decide | (simp only [beq_iff_eq, bne_iff_ne, ne_eq, decide_eq_true_eq, not_true_eq_false, not_false_eq_true]; done) | (simp only [beq_iff_eq, bne_iff_ne, ne_eq, decide_eq_true_eq]; omega)) ?_) | ((with_reducible refine Mine.if_both ?_ ?_) <;> (intro hc'; (try simp only [beq_iff_eq, bne_iff_ne, ne_eq, decide_eq_true_eq, Bool.not_eq_true, beq_eq_false_iff_ne, bne_eq_false_iff_eq, decide_eq_false_iff_not, Decidable.not_not] at hc'))))
local macro_rules | `(tactic| walk_at "wpAt") => `(tactic| (ks_step "exec Expr"; k_dflt (refine ks_wpAt_Expr_any ?_)))
local macro_rules | `(tactic| walk_at "wpAt") => `(tactic| (ks_step "eval Call"; k_dflt (refine ks_wpAt_MethodCall ?_)))
local macro_rules | `(tactic| walk_at "callWith ref") => `(tactic| (k_here; k_dflt (first
  | ((with_reducible refine' callWith_K0 ?k1 ?k2 ?_); (case k1 => exact Frag.In.keeps (by with_reducible assumption) (Fr.keep (by with_reducible assumption))); (case k2 => k_is); k_whole)
  | ((with_reducible refine' callWith_K ?k1 ?k2 ?_ ?k3 ?k4); (case k3 => exact rfl); (case k4 => exact rfl); (case k1 => with_reducible assumption); (case k2 => k_is); k_whole))))
local macro_rules | `(tactic| walk_at "eval Name") => `(tactic| (k_here; k_dflt (first
  | ((with_reducible refine' Mine.nameO_L ?F ?v ?_ ?a ?b ?d); (case b => rfl); (case F => k_asm); (case a => rfl); (case d => decide); (case v => rfl); k_whole)
  | ((with_reducible refine' Mine.nameO_K ?F ?X ?T ?e ?_ ?a ?b ?d); (case b => rfl); (case F => k_asm); (case X => k_asm); (case T => k_asm); (case a => rfl); (case d => decide); (case e => k_is); k_whole)
  | ((with_reducible refine' Mine.nameO_B ?F ?X ?T ?e ?v ?n ?_ ?a ?b ?d); (case b => rfl); (case F => k_asm); (case X => k_asm); (case T => k_asm); (case a => rfl); (case d => decide); (case e => k_is); (case v => boot_fast); (case n => decide); k_whole)
  | ((with_reducible refine' nameX_L ?F ?v ?_ ?a ?b); (case b => rfl); (case F => k_asm); (case a => rfl); (case v => rfl); k_whole)
  | ((with_reducible refine' nameX_K ?F ?X ?T ?e ?_ ?a ?b); (case b => rfl); (case F => k_asm); (case X => k_asm); (case T => k_asm); (case a => rfl); (case e => k_is); k_whole)
  | ((with_reducible refine' nameX_B ?F ?X ?T ?e ?v ?n ?_ ?a ?b); (case b => rfl); (case F => k_asm); (case X => k_asm); (case T => k_asm); (case a => rfl); (case e => k_is); (case v => boot_fast); (case n => decide); k_whole))))
local macro_rules | `(tactic| walk_at "call ref") => `(tactic| (k_here; k_dflt (refine' Mine.Calls.use (Mine.draw_spec _ _ _ _ (by assumption) _ _ ?hM ?hM8) _ ?B ?F ?X ?TG ?N ?T ?hk ?hd ?hu ?sub ?off ?pre ?_; (case hM => decide); (case hM8 => decide); (case B => k_asm); (case F => k_asm); (case X => k_asm); (case TG => k_asm); (case N => k_asm); (case T => k_asm); (case hk => first | exact rfl | assumption); (case hd => k_room); (case hu => k_units); (case pre => assumption); (case sub => exact fun _ h => h); (case off => exact Mine.off1 (by assumption)); k_whole; (rintro _ mu' tl' h' tk' F' N' - - ⟨hmu', htl', v', tv', hr', hv0', hv1'⟩); subst htl'; subst hr'; (have hmq' := hmu'); (obtain ⟨k', tk9', n', he', hk'⟩ := hmq'); subst he'; (try simp only [List.nil_append, List.cons_append] at N'); (try dsimp only))))
local macro_rules | `(tactic| walk_at "call ref") => `(tactic| (k_here; k_dflt (refine' Mine.Calls.use ((by assumption : Mine.WaysSpec _ _) _ _ _ _ (by assumption)) _ ?B ?F ?X ?TG ?N ?T ?hk ?hd ?hu ?sub ?off ?pre ?_; (case B => k_asm); (case F => k_asm); (case X => k_asm); (case TG => k_asm); (case N => k_asm); (case T => k_asm); (case hk => first | exact rfl | assumption); (case hd => (unfold Mine.dW; k_room)); (case hu => (unfold Mine.uW; k_units)); (case pre => assumption); (case sub => exact fun _ h => h); (case off => exact Mine.off1 (by assumption)); k_whole; (rintro _ mu' tl' h' tk' F' N' ht' - ⟨hmu', hr'⟩); (have hmq' := hmu'); (obtain ⟨k', tk9', n', he', hk'⟩ := hmq'); subst he'; (obtain ⟨ws', l', ok', dp', hv', in'⟩ := hr'); subst hv'; (try simp only [List.nil_append, List.cons_append] at N' ht'); (replace N' := Mine.news_rot N'); (try dsimp only))))
local macro_rules | `(tactic| walk_at "call ref") => `(tactic| (k_here; k_dflt (refine' Mine.Calls.use ((by assumption : Mine.ElemSpec _ _) _ _ _ _ (by assumption)) _ ?B ?F ?X ?TG ?N ?T ?hk ?hd ?hu ?sub ?off ?pre ?_; (case B => k_asm); (case F => k_asm); (case X => k_asm); (case TG => k_asm); (case N => k_asm); (case T => k_asm); (case hk => first | exact rfl | assumption); (case hd => (unfold Mine.dE; k_room)); (case hu => (unfold Mine.uE; k_units)); (case pre => assumption); (case sub => exact fun _ h => h); (case off => exact Mine.off1 (by assumption)); k_whole; (rintro _ mu' tl' h' tk' F' N' ht' - ⟨hmu', hr'⟩); (have hmq' := hmu'); (obtain ⟨k', tk9', n', he', hk'⟩ := hmq'); subst he'; (obtain ⟨e', ok', dp', in'⟩ := hr'); (try simp only [List.nil_append, List.cons_append] at N' ht'); (replace N' := Mine.news_rot N'); (try dsimp only))))
local macro_rules | `(tactic| walk_at "ap") => `(tactic| first
  | exact List.forall_mem_nil _
  | assumption
  | exact Mine.allLt_ne (by tbn_find)
  | exact Mine.ap_lt (by assumption)
  | exact Mine.ap_lt2 (by assumption) (by assumption)
  | exact Mine.ap_lt2 (by assumption) (Mine.allLt_mem (by tbn_find))
  | exact Mine.ap_memLt (by assumption) (by intro q9 h9; k_mem)
  | exact Mine.off1_mem (by first | assumption | exact And.left (by assumption) | exact And.right (by assumption))
  | ((refine List.forall_mem_cons.mpr ⟨?_, ?_⟩); (focus (try dsimp only); first | assumption | k_ne | exact Ne.symm (by assumption) | exact Mine.ne_lt2 (by assumption) (by tbn_find) | exact Ne.symm (Mine.ne_memLt (by assumption) (by k_mem))); walk_at "ap")
  | ((refine List.forall_mem_append.mpr ⟨?_, ?_⟩) <;> walk_at "ap")
  | fail "ap: no order")
local macro_rules | `(tactic| walk_at "ord") => `(tactic| first
  | exact List.forall_mem_nil _
  | assumption
  | ((refine List.forall_mem_cons.mpr ⟨?_, ?_⟩); (focus walk_at "ap"); walk_at "ord")
  | exact Mine.aps (by assumption) (by intro q9 h9; k_mem)
  | exact Mine.aps2 (by assumption) (by k_mem) (by intro q9 h9; k_mem)
  | ((refine List.forall_mem_append.mpr ⟨?_, ?_⟩) <;> walk_at "ord")
  | fail "ord")
local macro_rules | `(tactic| walk_at "sub") => `(tactic| (intro q9 h9; simp only [List.mem_append, List.mem_cons, List.not_mem_nil, or_false, false_or, List.nil_append, List.cons_append] at h9 ⊢; first | exact h9 | grind))
section
namespace Mine
theorem elem1 (w : World) : ElemSpec w 1 := elem_succ w 1 (by decide) (elem0 w) (ways_of w 0 (by decide) (path_of w 0 (by decide) (elem0 w)))
theorem elem2 (w : World) : ElemSpec w 2 := elem_succ w 2 (by decide) (elem0 w) (ways_of w 1 (by decide) (path_of w 1 (by decide) (elem1 w)))
theorem ways2 (w : World) : WaysSpec w 2 := ways_of w 2 (by decide) (path_of w 2 (by decide) (elem2 w))
end Mine
end
end
section
local macro_rules | `(tactic| k_all) => `(tactic| assumption)
local macro_rules | `(tactic| k_mem) => `(tactic| first
  | with_reducible assumption
  | exact List.Mem.head _
  | ((with_reducible refine List.mem_cons_of_mem _ ?_); k_mem)
  | ((with_reducible refine List.mem_append.mpr (Or.inr ?_)); k_mem)
  | ((with_reducible refine List.mem_append.mpr (Or.inl ?_)); k_mem))
local macro_rules | `(tactic| k_room) => `(tactic| ((try simp only [depth_under_make, depth_under_kw, depth_in1, depth_deeper, depth_caller]); (try dsimp only); omega))
local macro_rules | `(tactic| k_units) => `(tactic| ((try simp only [units_under_make, units_in1, units_deeper, Around.mark_units, units_caller]); (try dsimp only); omega))
local macro_rules | `(tactic| walk_at "subscriptTail") => `(tactic| (k_here; (with_reducible show wpAny _ _ (subscriptTail _ _ (Value.ref _) (Value.int _ _)) _ _ _); k_dflt ((show wpAny _ _ (subscriptTail _ _ (Value.ref 433) (Value.int _ _)) _ _ _); refine' Mine.menu_K Mine.IsWord ?F ?X ?l ?a ?b ?f ?c ?_ ?hs; (case hs => with_unfolding_all rfl); (case F => k_asm); (case X => k_asm); (case l => k_is); (case a => omega); (case b => exact Int.lt_of_lt_of_le (by assumption) (by decide)); (case f => decide); (case c => exact List.forall_mem_cons.mpr ⟨⟨_, _, rfl, by decide⟩, List.forall_mem_cons.mpr ⟨⟨_, _, rfl, by decide⟩, List.forall_mem_cons.mpr ⟨⟨_, _, rfl, by decide⟩, List.forall_mem_cons.mpr ⟨⟨_, _, rfl, by decide⟩, List.forall_mem_nil _⟩⟩⟩⟩); rintro _ ⟨wd', wt', hx', hw'⟩; subst hx')))
local macro_rules | `(tactic| walk_at "subscriptTail") => `(tactic| (k_here; (with_reducible show wpAny _ _ (subscriptTail _ _ (Value.ref _) (Value.int _ _)) _ _ _); k_dflt ((show wpAny _ _ (subscriptTail _ _ (Value.ref 434) (Value.int _ _)) _ _ _); refine' Mine.menu_K Mine.IsFixed ?F ?X ?l ?a ?b ?f ?c ?_ ?hs; (case hs => with_unfolding_all rfl); (case F => k_asm); (case X => k_asm); (case l => k_is); (case a => omega); (case b => exact Int.lt_of_lt_of_le (by assumption) (by decide)); (case f => decide); (case c => exact List.forall_mem_cons.mpr ⟨⟨_, _, rfl, by decide⟩, List.forall_mem_cons.mpr ⟨⟨_, _, rfl, by decide⟩, List.forall_mem_cons.mpr ⟨⟨_, _, rfl, by decide⟩, List.forall_mem_cons.mpr ⟨⟨_, _, rfl, by decide⟩, List.forall_mem_nil _⟩⟩⟩⟩); rintro _ ⟨wd', wt', hx', hw'⟩; subst hx')))
local macro_rules | `(tactic| walk_at "subscriptTail") => `(tactic| (k_here; (with_reducible show wpAny _ _ (subscriptTail _ _ (Value.ref _) (Value.int _ _)) _ _ _); k_dflt ((show wpAny _ _ (subscriptTail _ _ (Value.ref 435) (Value.int _ _)) _ _ _); refine' Mine.menu_K Mine.IsKind ?F ?X ?l ?a ?b ?f ?c ?_ ?hs; (case hs => with_unfolding_all rfl); (case F => k_asm); (case X => k_asm); (case l => k_is); (case a => omega); (case b => exact Int.lt_of_lt_of_le (by assumption) (by decide)); (case f => decide); (case c => exact List.forall_mem_cons.mpr ⟨⟨_, _, rfl, by decide⟩, List.forall_mem_cons.mpr ⟨⟨_, _, rfl, by decide⟩, List.forall_mem_nil _⟩⟩); rintro _ ⟨wd', wt', hx', hw'⟩; subst hx')))
local macro_rules | `(tactic| walk_at "enter") => `(tactic| ((case kA => exact rfl); (case kF => exact rfl); (case kK => first | exact rfl | assumption); (case k6 => k_is); (case k7 => k_is); (case k8 => k_room); (case k9 => exact BindsTo.of_eq rfl); (case c5 => decide); (case kB => exact locs rfl); (case c2 => exact rfl); (case c3 => exact rfl); (case c4 => exact rfl); k_whole))
local macro_rules | `(tactic| walk_at "begin") => `(tactic| ((try dsimp only); (try k_unmd); (try k_fold)))
local macro_rules | `(tactic| walk_at "enterC") => `(tactic| ((case kA => exact rfl); (case kF => exact rfl); (case kK => first | exact rfl | assumption); (case k6 => k_is); (case k7 => k_is); (case k8 => k_room); (case k9 => exact BindsTo.of_eq rfl); (case kB => exact rfl); (case kD => decide +kernel); (case c2 => exact rfl); (case c3 => exact rfl); (case c4 => exact rfl); k_whole))
local macro_rules | `(tactic| walk_at "ite") => `(tactic| first | (exfalso; omega) | (with_reducible refine Mine.if_pos' (by first | omega | decide | (simp only [beq_iff_eq, bne_iff_ne, ne_eq, decide_eq_true_eq, not_true_eq_false, not_false_eq_true]; done) | (simp only [beq_iff_eq, bne_iff_ne, ne_eq, decide_eq_true_eq]; omega)) ?_) | (with_reducible refine Mine.if_neg' (by first | omega | decide | (simp only [beq_iff_eq, bne_iff_ne, ne_eq, decide_eq_true_eq, not_true_eq_false, not_false_eq_true]; done) | (simp only [beq_iff_eq, bne_iff_ne, ne_eq, decide_eq_true_eq]; omega)) ?_) | ((with_reducible refine Mine.if_both ?_ ?_) <;> (intro hc'; (try simp only [beq_iff_eq, bne_iff_ne, ne_eq, decide_eq_true_eq, Bool.not_eq_true, beq_eq_false_iff_ne, bne_eq_false_iff_eq, decide_eq_false_iff_not, Decidable.not_not] at hc'))))
local macro_rules | `(tactic| walk_at "wpAt") => `(tactic| (ks_step "exec Expr"; k_dflt (refine ks_wpAt_Expr_any ?_)))
local macro_rules | `(tactic| walk_at "wpAt") => `(tactic| (ks_step "eval Call"; k_dflt (refine ks_wpAt_MethodCall ?_)))
local macro_rules | `(tactic| walk_at "callWith ref") => `(tactic| (k_here; k_dflt (first
  | ((with_reducible refine' callWith_K0 ?k1 ?k2 ?_); (case k1 => exact Frag.In.keeps (by with_reducible assumption) (Fr.keep (by with_reducible assumption))); (case k2 => k_is); k_whole)
  | ((with_reducible refine' callWith_K ?k1 ?k2 ?_ ?k3 ?k4); (case k3 => exact rfl); (case k4 => exact rfl); (case k1 => with_reducible assumption); (case k2 => k_is); k_whole))))
local macro_rules | `(tactic| walk_at "eval Name") => `(tactic| (k_here; k_dflt (first
  | ((with_reducible refine' Mine.nameO_L ?F ?v ?_ ?a ?b ?d); (case b => rfl); (case F => k_asm); (case a => rfl); (case d => decide); (case v => rfl); k_whole)
  | ((with_reducible refine' Mine.nameO_K ?F ?X ?T ?e ?_ ?a ?b ?d); (case b => rfl); (case F => k_asm); (case X => k_asm); (case T => k_asm); (case a => rfl); (case d => decide); (case e => k_is); k_whole)
  | ((with_reducible refine' Mine.nameO_B ?F ?X ?T ?e ?v ?n ?_ ?a ?b ?d); (case b => rfl); (case F => k_asm); (case X => k_asm); (case T => k_asm); (case a => rfl); (case d => decide); (case e => k_is); (case v => boot_fast); (case n => decide); k_whole)
  | ((with_reducible refine' nameX_L ?F ?v ?_ ?a ?b); (case b => rfl); (case F => k_asm); (case a => rfl); (case v => rfl); k_whole)
  | ((with_reducible refine' nameX_K ?F ?X ?T ?e ?_ ?a ?b); (case b => rfl); (case F => k_asm); (case X => k_asm); (case T => k_asm); (case a => rfl); (case e => k_is); k_whole)
  | ((with_reducible refine' nameX_B ?F ?X ?T ?e ?v ?n ?_ ?a ?b); (case b => rfl); (case F => k_asm); (case X => k_asm); (case T => k_asm); (case a => rfl); (case e => k_is); (case v => boot_fast); (case n => decide); k_whole))))
local macro_rules | `(tactic| walk_at "ap") => `(tactic| first
  | exact List.forall_mem_nil _
  | assumption
  | exact Mine.allLt_ne (by tbn_find)
  | exact Mine.ap_lt (by assumption)
  | exact Mine.ap_lt2 (by assumption) (by assumption)
  | exact Mine.ap_lt2 (by assumption) (Mine.allLt_mem (by tbn_find))
  | exact Mine.ap_memLt (by assumption) (by intro q9 h9; k_mem)
  | exact Mine.off1_mem (by first | assumption | exact And.left (by assumption) | exact And.right (by assumption))
  | ((refine List.forall_mem_cons.mpr ⟨?_, ?_⟩); (focus (try dsimp only); first | assumption | k_ne | exact Ne.symm (by assumption) | exact Mine.ne_lt2 (by assumption) (by tbn_find) | exact Ne.symm (Mine.ne_memLt (by assumption) (by k_mem))); walk_at "ap")
  | ((refine List.forall_mem_append.mpr ⟨?_, ?_⟩) <;> walk_at "ap")
  | fail "ap: no order")
local macro_rules | `(tactic| walk_at "ord") => `(tactic| first
  | exact List.forall_mem_nil _
  | assumption
  | ((refine List.forall_mem_cons.mpr ⟨?_, ?_⟩); (focus walk_at "ap"); walk_at "ord")
  | exact Mine.aps (by assumption) (by intro q9 h9; k_mem)
  | exact Mine.aps2 (by assumption) (by k_mem) (by intro q9 h9; k_mem)
  | ((refine List.forall_mem_append.mpr ⟨?_, ?_⟩) <;> walk_at "ord")
  | fail "ord")
local macro_rules | `(tactic| walk_at "sub") => `(tactic| (intro q9 h9; simp only [List.mem_append, List.mem_cons, List.not_mem_nil, or_false, false_or, List.nil_append, List.cons_append] at h9 ⊢; first | exact h9 | grind))
local macro_rules | `(tactic| walk_at "eval ListComp") => `(tactic| (k_here; k_dflt (refine LCg.ListComp_U (F₀ := by k_asm) (by with_unfolding_all rfl) (by decide) (by rfl) (by decide) (by rfl) ?_)))
local macro_rules | `(tactic| walk_at "CompSrc") => `(tactic| (k_here; k_dflt (first
  | (refine LCg.CompSrc.ledger (by rfl) (by k_asm) (by k_asm) (by k_mem) (by first | size_fits | exact Nat.le_of_ble_eq_true rfl) ?_; intro g'; lcg_lit)
  | (refine LCg.CompSrc.range (by rfl) (by k_asm) (by k_asm) (by assumption) (by first | decide | rfl) (by first | rfl | decide) (by first | size_fits | exact Nat.le_of_ble_eq_true rfl) ?_; intro g'; lcg_lit))))
local macro_rules | `(tactic| walk_at "compareOp Eq ref ref") => `(tactic| (k_here; k_dflt ((first | (with_reducible refine' Mine.up_eq ?N ?he ?ok ?dp ?m1 ?m2 ?m3 ?m4 ?hu ?_) | (refine' Mine.up_eq ?N ?he ?ok ?dp ?m1 ?m2 ?m3 ?m4 ?hu ?_)); (case N => k_asm); (case he => (refine Mine.El.In.mono ?hs9 _ _ (by assumption); (case hs9 => (intro q9 h9; k_mem)))); (case ok => first | assumption | exact Or.inr (by assumption)); (case dp => omega); (case m1 => k_mem); (case m2 => k_mem); (case m3 => k_mem); (case m4 => k_mem); (case hu => k_units); k_whole)))
local macro_rules | `(tactic| walk_at "call ref") => `(tactic| (k_here; (show wpAny _ _ (call (Value.ref 466) _) _ _ _); k_dflt (first | (refine' Mine.new_turn ((by assumption : Mine.MadeSpec _ _) _ _ ?ok ?dp) ?B ?F ?X ?TG ?N ?sub ?T ?hk ?hd ?hu ?pre ?off ?hS ?_; (case B => k_asm); (case F => k_asm); (case X => k_asm); (case TG => k_asm); (case N => k_asm); (case sub => (intro q9 h9; k_mem)); (case T => k_asm); (case hk => first | exact rfl | assumption); (case pre => (refine Mine.El.In.mono ?hs9 _ _ (by assumption); (case hs9 => (intro q9 h9; k_mem)))); (case ok => first | assumption | exact Or.inr (by assumption)); (case dp => omega); (case hd => (unfold Mine.dM; k_room)); (case hu => (unfold Mine.uM; k_units)); (case off => first | assumption | (simp only [LCg.Off3, and_true]; assumption)); (case hS => exact fun _ => trivial); k_whole; (intro r' tl' ht' hoff' hp'); (try dsimp only)) | (refine Mine.hold ?_))))
local macro_rules | `(tactic| walk_at "subscriptTail") => `(tactic| (k_here; (with_reducible show wpAny _ _ (subscriptTail _ _ (Value.ref _) (Value.int _ _)) _ _ _); k_dflt (first | ((first | (with_reducible refine' Mine.item_led0 ?l ?_ ?hs) | (refine' Mine.item_led0 ?l ?_ ?hs)); (case l => exact News.isList (by k_asm) (by k_mem)); (case hs => with_unfolding_all rfl); k_whole) | ((first | (with_reducible refine' Mine.item_led1 ?l ?_ ?hs) | (refine' Mine.item_led1 ?l ?_ ?hs)); (case l => exact News.isList (by k_asm) (by k_mem)); (case hs => with_unfolding_all rfl); k_whole) | ((first | (with_reducible refine' Mine.item_led2 ?l ?_ ?hs) | (refine' Mine.item_led2 ?l ?_ ?hs)); (case l => exact News.isList (by k_asm) (by k_mem)); (case hs => with_unfolding_all rfl); k_whole))))
local macro_rules | `(tactic| walk_at "subscriptTail") => `(tactic| ((with_reducible show wpAny _ _ (subscriptTail _ _ _ (Value.int (0 + (Nat.cast _ : Int)) _)) _ _ _); k_dflt (first | refine Mine.sub_int (j := 0) (by decide) ?_ | refine Mine.sub_int (j := 1) (by decide) ?_ | refine Mine.sub_int (j := 2) (by decide) ?_)))
local macro_rules | `(tactic| walk_at "CompEnd") => `(tactic| (k_here; k_dflt (refine' Mine.compEnd_cut ?F ?N ?sub ?off ?hS ?_; (case F => k_asm); (case N => k_asm); (case sub => (intro q9 h9; k_mem)); (case off => first | assumption | (simp only [LCg.Off3, and_true]; assumption)); (case hS => trivial); k_whole)))
local macro_rules | `(tactic| walk_at "neq") => `(tactic| ((try dsimp only); first | assumption | k_ne | exact Mine.ne_allLt (by first | assumption | exact And.left (by assumption) | exact (And.right (by assumption)) | tbn_find) (by k_mem) | exact Mine.ne_memLt (by assumption) (by k_mem)))
local macro_rules | `(tactic| walk_at "tabs") => `(tactic| first | assumption | (refine Mine.TabsG.keeps ?_ (Fr.keep (by assumption)); walk_at "tabs"))
local macro_rules | `(tactic| walk_at "call ref") => `(tactic| (k_here; (show wpAny _ _ (call (Value.ref 302) _) _ _ _); k_dflt ((first | (with_reducible refine' Mine.Calls.use0 (Mine.mkSeq _ _) ?B ?F ?X ?TG ?N ?T ?hk ?hd ?hu ?pre ?_) | (refine' Mine.Calls.use0 (Mine.mkSeq _ _) ?B ?F ?X ?TG ?N ?T ?hk ?hd ?hu ?pre ?_)); (case B => k_asm); (case F => k_asm); (case X => k_asm); (case TG => walk_at "tabs"); (case N => k_asm); (case T => k_asm); (case hk => first | exact rfl | assumption); (case hd => k_room); (case hu => k_units); (case pre => exact True.intro); k_whole; (rintro _ tl' h' tk' F' N' ht' ⟨a', d', t', n', hr', m1', m2'⟩); subst hr'; (try dsimp only))))
local macro_rules | `(tactic| walk_at "call ref") => `(tactic| (k_here; (show wpAny _ _ (call (Value.ref 402) _) _ _ _); k_dflt ((first | (with_reducible refine' Mine.Calls.use0 (Mine.mkPath _ _ _ _ _) ?B ?F ?X ?TG ?N ?T ?hk ?hd ?hu ?pre ?_) | (refine' Mine.Calls.use0 (Mine.mkPath _ _ _ _ _) ?B ?F ?X ?TG ?N ?T ?hk ?hd ?hu ?pre ?_)); (case B => k_asm); (case F => k_asm); (case X => k_asm); (case TG => walk_at "tabs"); (case N => k_asm); (case T => k_asm); (case hk => first | exact rfl | assumption); (case hd => k_room); (case hu => k_units); (case pre => exact ⟨by k_mem, by first | assumption | exact ⟨_, _, _, _, _, rfl, by k_mem, by k_mem, by first | assumption | exact Mine.elCls_dots _ | exact Mine.elCls_nav _ | exact Mine.elCls_par _⟩⟩); k_whole; (rintro _ tl' h' tk' F' N' ht' ⟨a', d', t', n', hr', m1', m2'⟩); subst hr'; (try dsimp only))))
local macro_rules | `(tactic| walk_at "call ref") => `(tactic| (k_here; (show wpAny _ _ (call (Value.ref 203) _) _ _ _); k_dflt ((first | (with_reducible refine' Mine.Calls.use0 (Mine.mkBr _ _ _ _ _) ?B ?F ?X ?TG ?N ?T ?hk ?hd ?hu ?pre ?_) | (refine' Mine.Calls.use0 (Mine.mkBr _ _ _ _ _) ?B ?F ?X ?TG ?N ?T ?hk ?hd ?hu ?pre ?_)); (case B => k_asm); (case F => k_asm); (case X => k_asm); (case TG => walk_at "tabs"); (case N => k_asm); (case T => k_asm); (case hk => first | exact rfl | assumption); (case hd => k_room); (case hu => k_units); (case pre => exact ⟨by k_mem, by k_mem⟩); k_whole; (rintro _ tl' h' tk' F' N' ht' ⟨a', d', t', n', hr', m1', m2'⟩); subst hr'; (try dsimp only))))
local macro_rules | `(tactic| walk_at "call ref") => `(tactic| (k_here; (show wpAny _ _ (call (Value.ref 352) _) _ _ _); k_dflt ((first | (with_reducible refine' Mine.Calls.use0 (Mine.mkSt _ _ _ _ _) ?B ?F ?X ?TG ?N ?T ?hk ?hd ?hu ?pre ?_) | (refine' Mine.Calls.use0 (Mine.mkSt _ _ _ _ _) ?B ?F ?X ?TG ?N ?T ?hk ?hd ?hu ?pre ?_)); (case B => k_asm); (case F => k_asm); (case X => k_asm); (case TG => walk_at "tabs"); (case N => k_asm); (case T => k_asm); (case hk => first | exact rfl | assumption); (case hd => k_room); (case hu => k_units); (case pre => exact ⟨by k_mem, by k_mem⟩); k_whole; (rintro _ tl' h' tk' F' N' ht' ⟨a', d', t', n', hr', m1', m2'⟩); subst hr'; (try dsimp only))))
local macro_rules | `(tactic| walk_at "offl") => `(tactic| first
  | exact List.forall_mem_nil _
  | assumption
  | exact Mine.offl_of (by assumption) (by k_mem)
  | exact Mine.ap_lt (by assumption)
  | exact Mine.allLt_ne (by tbn_find)
  | ((refine List.forall_mem_cons.mpr ⟨?_, ?_⟩); (focus walk_at "neq"); walk_at "offl")
  | ((refine List.forall_mem_append.mpr ⟨?_, ?_⟩) <;> walk_at "offl"))
local macro_rules | `(tactic| walk_at "front") => `(tactic| (repeat first | with_reducible exact Mine.Front.nil | with_reducible apply Mine.Front.cons | with_reducible apply Mine.Front.app))
local macro_rules | `(tactic| walk_at "del") => `(tactic| (repeat first | with_reducible exact Mine.Del.head | with_reducible apply Mine.Del.cons | with_reducible apply Mine.Del.app))
local macro_rules | `(tactic| walk_at "upd") => `(tactic| first
  | (with_reducible apply Upd.head; walk_at "offl")
  | ((with_reducible apply Upd.tail); (focus walk_at "neq"); walk_at "upd")
  | ((with_reducible apply Mine.upd_app); (focus walk_at "offl"); walk_at "upd"))
local macro_rules | `(tactic| k_upd) => `(tactic| walk_at "upd")
local macro_rules | `(tactic| walk_at "subscriptTail Name Slice str ref") => `(tactic| (k_here; (with_reducible show wpAny _ _ (subscriptTail _ _ (Value.str _ _) (Value.ref _)) _ _ _); (refine Mine.hold ?_)))
local macro_rules | `(tactic| walk_at "subscriptTail Name Slice str ref") => `(tactic| (k_here; (with_reducible show wpAny _ _ (subscriptTail _ _ (Value.str _ _) (Value.ref _)) _ _ _); k_dflt (first | ((with_reducible refine' Mine.slice_cut (k := 0) (by with_reducible assumption) ?i ?j ?S ?a ?F ?N ?z ?_ ?s ?t); (case S => ((try dsimp only) <;> exact rfl)); (case i => omega); (case j => omega); (case a => ((try dsimp only) <;> exact rfl)); (case F => k_asm); (case N => k_asm); (case z => exact Nat.le_trans (by assumption) (Nat.le_of_ble_eq_true rfl)); (case s => with_unfolding_all rfl); (case t => (intro _; with_unfolding_all rfl)); k_whole) | ((with_reducible refine' Mine.slice_cut (k := 1) (by with_reducible assumption) ?i ?j ?S ?a ?F ?N ?z ?_ ?s ?t); (case S => ((try dsimp only) <;> exact rfl)); (case i => omega); (case j => omega); (case a => ((try dsimp only) <;> exact rfl)); (case F => k_asm); (case N => k_asm); (case z => exact Nat.le_trans (by assumption) (Nat.le_of_ble_eq_true rfl)); (case s => with_unfolding_all rfl); (case t => (intro _; with_unfolding_all rfl)); k_whole) | ((with_reducible refine' Mine.slice_cut (k := 2) (by with_reducible assumption) ?i ?j ?S ?a ?F ?N ?z ?_ ?s ?t); (case S => ((try dsimp only) <;> exact rfl)); (case i => omega); (case j => omega); (case a => ((try dsimp only) <;> exact rfl)); (case F => k_asm); (case N => k_asm); (case z => exact Nat.le_trans (by assumption) (Nat.le_of_ble_eq_true rfl)); (case s => with_unfolding_all rfl); (case t => (intro _; with_unfolding_all rfl)); k_whole) | ((with_reducible refine' Mine.slice_cut (k := 3) (by with_reducible assumption) ?i ?j ?S ?a ?F ?N ?z ?_ ?s ?t); (case S => ((try dsimp only) <;> exact rfl)); (case i => omega); (case j => omega); (case a => ((try dsimp only) <;> exact rfl)); (case F => k_asm); (case N => k_asm); (case z => exact Nat.le_trans (by assumption) (Nat.le_of_ble_eq_true rfl)); (case s => with_unfolding_all rfl); (case t => (intro _; with_unfolding_all rfl)); k_whole)); intro h9' t9' tk9' F' N'; (try dsimp only)))
local macro_rules | `(tactic| walk_at "ite") => `(tactic| first | (with_reducible refine Mine.if_neg' (by (simp only [beq_iff_eq, bne_iff_ne, ne_eq, decide_eq_true_eq]); assumption) ?_) | (with_reducible refine Mine.if_pos' (by (simp only [beq_iff_eq, bne_iff_ne, ne_eq, decide_eq_true_eq]); assumption) ?_))
local macro_rules | `(tactic| walk_at "subscriptTail") => `(tactic| (k_here; (with_reducible show wpAny _ _ (subscriptTail _ _ (Value.ref _) (Value.int _ _)) _ _ _); k_dflt (refine' item_tupleT ?t ?a ?b ?c ?d ?_; (case t => exact News.isTup (by k_asm) (by first | exact List.Mem.head _ | (with_reducible k_mem))); (case a => decide); (case b => decide); (case c => rfl); (case d => rfl); k_whole)))
local macro_rules | `(tactic| walk_at "subscriptTail Name Constant ref int") => `(tactic| (k_here; (with_reducible show wpAny _ _ (subscriptTail _ _ (Value.ref _) (Value.int _ _)) _ _ _); k_dflt (refine' item_tupleT ?t ?a ?b ?c ?d ?_; (case t => exact News.isTup (by k_asm) (by first | exact List.Mem.head _ | (with_reducible k_mem))); (case a => decide); (case b => decide); (case c => rfl); (case d => rfl); k_whole)))
section
namespace Mine
def frontOf (fl : Str) : Str := if fl = "" then "" else "+" ++ fl ++ ":"
def IfPost (h₀ : Heap) (L : Addr) (m : Str → Option Value) (led : Led) (s : Shared) (txt : Str) (v : Value) (s₂ : Shared) : Prop := ∃ u h' tk', v = .str txt u ∧ s₂ = { s with heap := h', toks := tk' } ∧ Fr h₀ L h' m ∧ News h₀ L h' led
theorem if_join {M : Model} {A : Around} {E : Value → Shared → Prop} {s : Shared} {h₀ : Heap} {L : Addr} {m : Str → Option Value} {led : Led} {Q : Value → Shared → Prop} {t : Sem Value} (txt : Str) (F : Fr h₀ L s.heap m) (N : News h₀ L s.heap led)
    (h1 : wpAny M A t (IfPost h₀ L m led s txt) E s) (h2 : ∀ u h' tk', Fr h₀ L h' m → News h₀ L h' led → Q (.str txt u) { s with heap := h', toks := tk' }) : wpAny M A t Q E s := by
  refine wpAny_mono h1 (fun v s₂ hv => ?_) fun _ _ e => e
  obtain ⟨u, h', tk', rfl, rfl, F', N'⟩ := hv
  exact h2 u h' tk' F' N'
theorem str_app_nil (x : Str) : ("" : Str) ++ x = x := by
  show (⟨(Str.ofString "").cps ++ x.cps⟩ : Str) = x
  rw [show (Str.ofString "").cps = #[] from rfl, Array.empty_append]
theorem exShow_eq (fl : Str) (ws : Ways) : exShow fl ws = frontOf fl ++ ws.show := by
  unfold exShow frontOf
  by_cases h : fl = ""
  · rw [if_pos h, if_pos h, str_app_nil]
  · rw [if_neg h, if_neg h]
theorem str_len_app (x y : Str) : (x ++ y).length = x.length + y.length := Array.size_append
theorem str_val {x y : Str} {t : Tok} (h : x = y) : Value.str x t = Value.str y t := h ▸ rfl
theorem front_len {fl : Str} (hf : flagOf fl) : (frontOf fl).length ≤ 4 := by rcases hf with rfl | rfl | rfl | rfl <;> decide
theorem read_end {tx fr : Str} {ws : Ways} (h : tx = fr ++ ws.show) : (((cds fr).length + (cds ws.show).length : Nat) : Int) = (tx.length : Int) := by
  rw [h, str_len_app, Array.length_toList, Array.length_toList]; rfl
theorem exShow_len {fl : Str} {ws : Ways} (hf : flagOf fl) (h : ws.show.length ≤ 1000000) : (exShow fl ws).length ≤ 1000004 := by
  rw [exShow_eq, str_len_app]
  have : (frontOf fl).length ≤ 4 := by rcases hf with rfl | rfl | rfl | rfl <;> decide
  omega
theorem show_expr' {fl : Str} {ws : Ways} {tx : Str} (htx : tx = exShow fl ws) (w : World) (d0 u0 : Nat) (hd0 : d0 ≤ 900) (hu0 : u0 ≤ 9000) (ws' : Ways) (H : ∀ q, StrSpec w d0 u0 (.ref q) ws'.show (fun news => ws'.Made w news q)) (hl : ws'.show.length ≤ 1000000) (fl' : Str) (hf : flagOf fl') (v : Value) (e1 : ws' = ws := by rfl) (e2 : fl' = fl := by rfl) :
    StrSpec w (d0 + 5) (u0 + 50) v tx (fun news => ∃ q, ws'.Made w news q ∧ ExprObj w news q fl' v) := by
  subst htx e1 e2; exact show_expr w d0 u0 hd0 hu0 ws' H hl fl' hf v
section
open PySem.Builtin PySem.Builtin.Str StrLaws
theorem front_eq {x f z : Str} (h : x = f ++ z) : Txt.slice x none (some ((f.length : Nat) : Int)) = f := by
  have h0 : Txt.slice x none (some ((f.length : Nat) : Int)) = Txt.slice x (some ((0 : Nat) : Int)) (some ((0 + f.length : Nat) : Int)) := by
    show sliceText x none (some ((f.length : Nat) : Int)) = sliceText x (some ((0 : Nat) : Int)) (some ((0 + f.length : Nat) : Int))
    unfold sliceText
    rw [Nat.zero_add]
    have : strSliceIndices none (some ((f.length : Nat) : Int)) 1 x.length = strSliceIndices (some ((0 : Nat) : Int)) (some ((f.length : Nat) : Int)) 1 x.length := by
      have h9 : (Max.max (0 : Int) (Min.min 0 (x.length : Int))) = 0 := by omega
      simp only [strSliceIndices]
      simp [h9]
    rw [this]
  rw [h0, cut_eq x 0 f.length (Nat.zero_le _), List.drop_zero, h]
  show (⟨((f.cps ++ z.cps).toList.take f.cps.size).toArray⟩ : Str) = f
  rw [Array.toList_append, ← Array.length_toList, List.take_left]
variable {prog : Program} {w : World} {A : Around} {E : Value → Shared → Prop} {s : Shared} {h₀ : Heap} {L : Addr} {m : Str → Option Value} {news : Led} {value slice : PySem.Expr} {Q : Value → Shared → Prop} {x f z : Str} {t uj : Tok} {J : Int}
theorem slice_front (hF : Fr h₀ L s.heap m) (hN : News h₀ L s.heap news) (hx : x = f ++ z) (hj : J = (f.length : Int)) (hsz : x.length ≤ sizeLine) (h : ∀ h' t' tk, Fr h₀ L h' m → News h₀ L h' news → Q (.str f t') { s with heap := h', toks := tk })
    (hs : subscripted slice false (.str x t) (.ref s.heap.objs.size) = operate [.ref s.heap.objs.size, .str x t] (getItem (.str x t) (.ref s.heap.objs.size)))
    (ht : ∀ r, letTemporaryGo value (.str x t) r = pure ()) :
    wpAny (model prog w) A (subscriptTail value slice (.str x t) (.ref s.heap.objs.size)) Q E { s with heap := s.heap.push { cls := .type "slice", data := .fields #[.none, .int J uj, .none] } } := by
  subst hj
  refine slice_strN_ns hF hN (fun h' t' k a b => ?_) hs ht hsz
  rw [front_eq hx]
  exact h h' t' k a b
end
theorem ways_len5 {ws : Ways} (hok : ws.ok) (hd : ws.dep ≤ 5) : ws.show.length ≤ 1000000 := by
  have h1 := Ways.len ws hok
  have h2 := lenB_mono hd
  have h3 : lenB 5 = 152408 := by decide +kernel
  omega
theorem ExprObj.mono {w : World} {P P' : Led} {q : Addr} {fl : Str} {r : Value} (h : ExprObj w P q fl r) (k : ∀ p ∈ P, p ∈ P') : ExprObj w P' q fl r := by
  obtain ⟨x, d, a1, a2, a3, a4, a5, a6, h1, h2, h3⟩ := h
  exact ⟨x, d, a1, a2, a3, a4, a5, a6, h1, k _ h2, k _ h3⟩
theorem ExprObj.turn {w : World} {P P' : Led} {q : Addr} {fl : Str} {r : Value} (h : ExprObj w P q fl r) (k : Turned w P P') : ExprObj w P' q fl r := by
  obtain ⟨x, d, a1, a2, a3, a4, a5, a6, h1, h2, h3⟩ := h
  exact ⟨x, d, a1, a2, a3, a4, a5, a6, h1, k.mem h2 rfl, k.mem h3 (by simp [notNav, dictOf, ent, Value.isStr]; decide)⟩
theorem law_cut {h₀ h : Heap} {L : Addr} {t1 t2 t3 : Array Value} {R all : Led} (N : News h₀ L h all) (sub : ∀ q ∈ T3 t1 t2 t3 R, q ∈ all) : News h₀ L h (T3 t1 t2 t3 R) := fun q hq => N q (sub q hq)
section
variable {prog : Program} {w : World} {A : Around} {E : Value → Shared → Prop} {s : Shared} {h₀ : Heap} {L : Addr} {Q : Value → Shared → Prop} {led : Led} {a b : Addr}
theorem bb_ne {x y : Bool} (N : News h₀ L s.heap led) (m1 : (a, tupOf [.bool x, .bool y]) ∈ led) (m2 : (b, tupOf [.bool x, .bool y]) ∈ led) (hu : A.units + 64 < cLine) (h : Q (.bool false) s) : wpAny (model prog w) A (compareOp .NotEq (.ref a) (.ref b)) Q E s := by
  have r1 : Reads s.heap (.ref a) (.tuple [.bool x, .bool y]) _ := .tuple (N _ m1).1 rfl rfl (.cons (.bool _) (.cons (.bool _) .nil))
  have r2 : Reads s.heap (.ref b) (.tuple [.bool x, .bool y]) _ := .tuple (N _ m2).1 rfl rfl (.cons (.bool _) (.cons (.bool _) .nil))
  refine ne_dataH r1 r2 (by cases x <;> cases y <;> decide +kernel) (by cases x <;> cases y <;> decide +kernel) hu ?_
  have e : (!PyData.eqv (.tuple [.bool x, .bool y]) (.tuple [.bool x, .bool y])) = false := by cases x <;> cases y <;> rfl
  rw [e]; exact h
theorem bb_eq {x y : Bool} (N : News h₀ L s.heap led) (m1 : (a, tupOf [.bool x, .bool y]) ∈ led) (m2 : (b, tupOf [.bool x, .bool y]) ∈ led) (hu : A.units + 64 < cLine) (h : Q (.bool true) s) : wpAny (model prog w) A (compareOp .Eq (.ref a) (.ref b)) Q E s := by
  have r1 : Reads s.heap (.ref a) (.tuple [.bool x, .bool y]) _ := .tuple (N _ m1).1 rfl rfl (.cons (.bool _) (.cons (.bool _) .nil))
  have r2 : Reads s.heap (.ref b) (.tuple [.bool x, .bool y]) _ := .tuple (N _ m2).1 rfl rfl (.cons (.bool _) (.cons (.bool _) .nil))
  refine eq_dataH r1 r2 (by cases x <;> cases y <;> decide +kernel) (by cases x <;> cases y <;> decide +kernel) hu ?_
  have e : (PyData.eqv (.tuple [.bool x, .bool y]) (.tuple [.bool x, .bool y])) = true := by cases x <;> cases y <;> rfl
  rw [e]; exact h
theorem sbb_ne {fl : Str} {u1 u2 : Tok} (hf : flagOf fl) (N : News h₀ L s.heap led) (m1 : (a, tupOf [.str fl u1, .bool (has1 fl "m"), .bool (has1 fl "p")]) ∈ led) (m2 : (b, tupOf [.str fl u2, .bool (fl != ""), .bool ((["mp", "pm"] : List Str).any fun x => x == fl)]) ∈ led)
    (hu : A.units + 64 < cLine) (h : Q (.bool false) s) : wpAny (model prog w) A (compareOp .NotEq (.ref a) (.ref b)) Q E s := by
  have r1 : Reads s.heap (.ref a) (.tuple [.str fl, .bool (has1 fl "m"), .bool (has1 fl "p")]) _ := .tuple (N _ m1).1 rfl rfl (.cons (.str _ _) (.cons (.bool _) (.cons (.bool _) .nil)))
  have r2 : Reads s.heap (.ref b) (.tuple [.str fl, .bool (fl != ""), .bool ((["mp", "pm"] : List Str).any fun x => x == fl)]) _ := .tuple (N _ m2).1 rfl rfl (.cons (.str _ _) (.cons (.bool _) (.cons (.bool _) .nil)))
  refine ne_dataH r1 r2 ?_ ?_ hu ?_
  · rcases hf with rfl | rfl | rfl | rfl <;> decide +kernel
  · rcases hf with rfl | rfl | rfl | rfl <;> decide +kernel
  · have e : (!PyData.eqv (.tuple [.str fl, .bool (has1 fl "m"), .bool (has1 fl "p")]) (.tuple [.str fl, .bool (fl != ""), .bool ((["mp", "pm"] : List Str).any fun x => x == fl)])) = false := by
      rcases hf with rfl | rfl | rfl | rfl <;> decide +kernel
    rw [e]; exact h
end
theorem law_start2 {h₀ h : Heap} {L : Addr} {R x : Led} {ps4 : Array Value} (N : News h₀ L h (R ++ x)) (h1 : (372, tabObj #[]) ∈ x) (h2 : (272, tabObj #[]) ∈ x) (h3 : (413, tabObj #[]) ∈ x) (h4 : (437, tabObj ps4) ∈ x) (ap : ∀ p ∈ R, Ap p.1 x) :
    ∃ R0, News h₀ L h (T3 #[] #[] #[] R0) ∧ LawL #[] #[] #[] R0 ∧ (∀ q ∈ R, q ∈ R0) ∧ (437, tabObj ps4) ∈ R0 := by
  refine ⟨(437, tabObj ps4) :: R, fun q hq => N q ?_, ⟨List.forall_mem_cons.mpr ⟨⟨by show (437 : Nat) ≠ 372; decide, by show (437 : Nat) ≠ 272; decide, by show (437 : Nat) ≠ 413; decide⟩, fun p hp => ⟨Ne.symm (ap p hp _ h1), Ne.symm (ap p hp _ h2), Ne.symm (ap p hp _ h3)⟩⟩, .nil, .nil, .nil⟩, fun _ h => .tail _ h, .head _⟩
  simp only [List.mem_cons] at hq
  rcases hq with rfl | rfl | rfl | rfl | h
  · exact List.mem_append.mpr (.inr h1)
  · exact List.mem_append.mpr (.inr h2)
  · exact List.mem_append.mpr (.inr h3)
  · exact List.mem_append.mpr (.inr h4)
  · exact List.mem_append.mpr (.inl h)
theorem grown4 {h₀ h : Heap} {L : Addr} {all R : Led} {t1 t2 t3 t4 : Array Value} (N : News h₀ L h all) (sub : ∀ q ∈ T3 t1 t2 t3 R, q ∈ all) (h4 : (437, tabObj t4) ∈ R) : GrownAll [(376, 372), (276, 272), (441, 437), (417, 413)] h :=
  ⟨GrownAt.of N (sub _ (.head _)), GrownAt.of N (sub _ (.tail _ (.head _))), GrownAt.of N (sub _ (.tail _ (.tail _ (.tail _ h4)))), GrownAt.of N (sub _ (.tail _ (.tail _ (.head _)))), trivial⟩
theorem with_TG {G : Prop} {h : Heap} (c1 : CodeHd h 376 372) (c2 : CodeHd h 276 272) (c3 : CodeHd h 441 437) (c4 : CodeHd h 417 413) (k : TabsG h → G) : G := k ⟨c1, c2, c3, c4⟩
theorem draw_led {h₀ h : Heap} {L : Addr} {a b c d e f g t1 t2 t4 t3 : Addr × Obj} (N : News h₀ L h [a, b, c, d, e, f, g, t1, t2, t4, t3]) : News h₀ L h ([d] ++ [a, b, c, e, f, g, t1, t2, t3, t4]) := fun q hq => N q (by
  simp only [List.cons_append, List.nil_append, List.mem_cons, List.not_mem_nil, or_false] at hq ⊢
  rcases hq with h | h | h | h | h | h | h | h | h | h | h <;> simp only [h, true_or, or_true])
theorem menu_led {prog : Program} {w : World} {A : Around} {E : Value → Shared → Prop} {s : Shared} {h₀ : Heap} {L a : Addr} {all : Led} {items : List Value} {k : Int} {u : Tok} {value slice : PySem.Expr} {Q : Value → Shared → Prop}
    (P : Value → Prop) (N : News h₀ L s.heap all) (hm : (a, tupOf items) ∈ all) (h0 : 0 ≤ k) (h1 : k < items.length) (hf : items.length < 100) (hall : ∀ x ∈ items, P x) (h : ∀ x, P x → Q x s)
    (hs : subscripted slice false (.ref a) (.int k u) = operate [.ref a, .int k u] (getItem (.ref a) (.int k u))) : wpAny (model prog w) A (subscriptTail value slice (.ref a) (.int k u)) Q E s := by
  have hlt : k.toNat < items.length := by omega
  have ht : IsTup s.heap a items.toArray := News.isTup N hm
  have hj : seqIndex? k items.length = some k.toNat := by
    unfold seqIndex?
    simp only [if_neg (show ¬ k < 0 by omega)]
    rw [if_pos (by rw [Bool.and_eq_true, decide_eq_true_eq, decide_eq_true_eq]; exact ⟨h0, h1⟩)]
  exact item_tupleT ht (by omega) (by omega) hj (List.getElem?_eq_getElem hlt) (h _ (hall _ (List.getElem_mem hlt))) hs
def IsFlag (v : Value) : Prop := ∃ x t, v = .str x t ∧ flagOf x
section
variable {prog : Program} {w : World} {A : Around} {E : Value → Shared → Prop} {s : Shared} {env : Env} {h₀ : Heap} {x : Str} {body : List Stmt} {Q : Flow → Shared → Prop}
theorem rangeRest_fold {I : Addr} {a : Int} {n : Nat} {m₀ : Str → Option Value} {news : Led}
    (step : ∀ (i : Nat) t h tk, i < n → Fr h₀ env.locals h (fun (y : Str) => if y = x then some (.int (a + (i : Int)) t) else m₀ y) → ∀ it, News h₀ env.locals h ((I, it) :: news) →
      wpAny (model prog w) A (execs body env) (UnrPost h₀ env.locals { s with heap := h, toks := tk } I it (fun m' n' => n' = news ∧ ∃ pv, m' = fun (y : Str) => if y = x then pv else m₀ y) Q) E { s with heap := h, toks := tk })
    (done : ∀ pv h tk, Fr h₀ env.locals h (fun (y : Str) => if y = x then pv else m₀ y) → News h₀ env.locals h news → Q .next { s with heap := h, toks := tk }) :
    RangeRest prog w A E h₀ env x body Q s I a n n 0 m₀ news := by
  suffices H : ∀ k i pv, i + k = n → RangeRest prog w A E h₀ env x body Q s I a n k i (fun (y : Str) => if y = x then pv else m₀ y) news by
    have e : m₀ = fun (y : Str) => if y = x then m₀ x else m₀ y := by
      funext y
      by_cases h : y = x
      · subst h; simp
      · simp [h]
    rw [e]
    exact H n 0 _ (Nat.zero_add n)
  intro k
  induction k with
  | zero => intro i pv _; exact RangeRest.zero (fun h tk F N => done pv h tk F N)
  | succ k ih =>
    intro i pv hi
    refine RangeRest.succ (fun t h tk F N => ?_)
    have e : (fun (y : Str) => if y = x then some (Value.int (a + (i : Int)) t) else if y = x then pv else m₀ y) = fun (y : Str) => if y = x then some (Value.int (a + (i : Int)) t) else m₀ y := by
      funext y
      by_cases h : y = x
      · simp [h]
      · simp [h]
    rw [e] at F
    refine wpAny_mono (step i t h tk (by omega) F _ N) (fun f s₂ hy => ?_) fun _ _ e => e
    have conv : ∀ it, UnrEnd h₀ env.locals { s with heap := h, toks := tk } I it (fun m' n' => n' = news ∧ ∃ pv, m' = fun (y : Str) => if y = x then pv else m₀ y) s₂ → UnrEnd h₀ env.locals { s with heap := h, toks := tk } I it (RangeRest prog w A E h₀ env x body Q s I a n k (i + 1)) s₂ := by
      rintro it ⟨h', tk', m', n', e, F', N', o, rfl, pv', rfl⟩
      exact ⟨h', tk', _, _, e, F', N', o, ih (i + 1) pv' (by omega)⟩
    cases f with
    | ret v => exact hy
    | brk => exact hy
    | next => exact conv _ hy
    | cont => exact conv _ hy
end
section
variable {w : World} {p : Program} {loose : List Str} {mean : ExcName → Option Value} {mg mb : Str → Option Value} {dp un : Nat} {gd : Option (List Code)} {cn : Str} {cs : Scope} {a : Addr} {ccd : Value} {cl : List (Str × Addr)} {outer : List Env}
  {A₀ : Around} {base h₀ : Heap} {L : Addr} {m : Str → Option Value} {all : Led} {s : Shared} {Q E : Value → Shared → Prop}
theorem call_bool {dN uN : Nat} {f v : Value} {b : Bool} {Pre : Led → Prop} (C : BoolSpec w dN uN f v b Pre)
    (B : Below A₀ base outer h₀) (F : Fr h₀ L s.heap m) (X : (hd.heap_39 w.params).In h₀) (TG : TabsG h₀) (N : News h₀ L s.heap all) (T : Top p loose mean mg mb h₀) (hk : cs.kind = .function)
    (hd : dp + dN < recursionLimit) (hu : un + uN < cLine) (pre : Pre all) (ret : ∀ h' tk', Fr h₀ L h' m → News h₀ L h' all → Q (.bool b) { s with heap := h', toks := tk' }) :
    wpAny (model PySem.Challenge.rw_wx0015_01.row.prog w) (ktrTop dp un gd cn cs L a ccd cl outer) (call f [v]) Q E s := by
  refine Calls.use0 C B F X TG N T hk hd hu pre ?_
  rintro _ tl h' tk' F' N' ap rfl
  exact ret h' tk' F' fun q hq => N' q (List.mem_append.mpr (.inr hq))
theorem call_starts {dN uN : Nat} {v : Value} {b c : Bool} {Pre : Led → Prop} (C : Calls w dN uN (.ref 497) [v] [] Pre (fun _ _ tl r => ∃ T, r = .ref T ∧ (T, tupOf [.bool b, .bool c]) ∈ tl))
    (B : Below A₀ base outer h₀) (F : Fr h₀ L s.heap m) (X : (hd.heap_39 w.params).In h₀) (TG : TabsG h₀) (N : News h₀ L s.heap all) (T : Top p loose mean mg mb h₀) (hk : cs.kind = .function)
    (hd : dp + dN < recursionLimit) (hu : un + uN < cLine) (pre : Pre all) (ret : ∀ T h' tk', Fr h₀ L h' m → News h₀ L h' ((T, tupOf [.bool b, .bool c]) :: all) → Q (.ref T) { s with heap := h', toks := tk' }) :
    wpAny (model PySem.Challenge.rw_wx0015_01.row.prog w) (ktrTop dp un gd cn cs L a ccd cl outer) (call (.ref 497) [v]) Q E s := by
  refine Calls.use0 C B F X TG N T hk hd hu pre ?_
  rintro _ tl h' tk' F' N' ap ⟨T, rfl, hT⟩
  refine ret T h' tk' F' fun q hq => N' q ?_
  rcases List.mem_cons.mp hq with rfl | hq
  · exact List.mem_append.mpr (.inl hT)
  · exact List.mem_append.mpr (.inr hq)
end
theorem starts_path (w : World) (p : Pth) (hd : p.dep ≤ 5) (v : Value) : Calls w (30 * 5 + 20) (300 * 5 + 200) (.ref 497) [v] [] (fun news => p.first.In news v) (fun _ _ tl r => ∃ T, r = .ref T ∧ (T, tupOf [.bool p.sl, .bool p.sr]) ∈ tl) := by
  rw [Pth.sl_first, Pth.sr_first]
  exact starts_all w 5 (by omega) p.first v (Nat.le_trans (Pth.first_dep p) hd)
theorem starts_ways (w : World) (ws : Ways) (hd : ws.dep ≤ 5) (v : Value) : Calls w (30 * 6 + 20) (300 * 6 + 200) (.ref 497) [v] [] (fun news => (El.br ws).In news v) (fun _ _ tl r => ∃ T, r = .ref T ∧ (T, tupOf [.bool ws.sl, .bool ws.sr]) ∈ tl) :=
  starts_all w 6 (by omega) (.br ws) v (by simp only [El.dep]; omega)
theorem law_good {cl : Str → Option Addr} {mean : ExcName → Option Value} {ns : List Int} {s₁ s' : Shared} (keep : ∀ b o, s₁.heap.get? b = some o → s'.heap.get? b = some o) (hos : s'.os = s₁.os) (hg : s'.gens = #[]) :
    GoodW PySem.Challenge.rw_wx0015_01.row.claim cl mean [ofPy (PyData.list (ns.map PyData.int))] s₁ (.ok (.ret (.bool true))) s' :=
  ⟨.inl ⟨_, _, [], rfl, raisesW_false (by wrow_none_raised), ReadsW.bool true, by first | rfl | wrow_post, fun _ => ⟨List.nodup_nil, fun _ hm => nomatch hm⟩⟩, keep, hos, hg⟩
end Mine
end
section
local macro_rules | `(tactic| walk_at "call ref") => `(tactic| (k_here; (show wpAny _ _ (call (Value.ref 454) _) _ _ _); (refine Mine.hold ?_)))
local macro_rules | `(tactic| walk_at "call ref") => `(tactic| (k_here; (show wpAny _ _ (call (Value.ref 471) _) _ _ _); (refine Mine.hold ?_)))
local macro_rules | `(tactic| walk_at "call ref") => `(tactic| (k_here; (show wpAny _ _ (call (Value.ref 428) _) _ _ _); (refine Mine.hold ?_)))
local macro_rules | `(tactic| walk_at "call ref") => `(tactic| (k_here; (show wpAny _ _ (call (Value.ref 478) _) _ _ _); (refine Mine.hold ?_)))
local macro_rules | `(tactic| walk_at "call ref") => `(tactic| (k_here; (show wpAny _ _ (call (Value.ref 497) _) _ _ _); (refine Mine.hold ?_)))
local macro_rules | `(tactic| walk_at "call ref") => `(tactic| (k_here; (show wpAny _ _ (call (Value.ref 384) _) _ _ _); (refine Mine.hold ?_)))
local macro_rules | `(tactic| walk_at "call ref") => `(tactic| (k_here; (show wpAny _ _ (call (Value.ref 391) _) _ _ _); (refine Mine.hold ?_)))
local macro_rules | `(tactic| walk_at "call ref") => `(tactic| (k_here; (show wpAny _ _ (call (Value.ref 284) _) _ _ _); (refine Mine.hold ?_)))
local macro_rules | `(tactic| walk_at "call ref") => `(tactic| (k_here; (show wpAny _ _ (call (Value.ref 291) _) _ _ _); (refine Mine.hold ?_)))
local macro_rules | `(tactic| walk_at "call ref") => `(tactic| (k_here; (show wpAny _ _ (call (Value.ref _) [Value.int 4 _]) _ _ _); (refine Mine.hold ?_)))
local macro_rules | `(tactic| walk_at "call type:str") => `(tactic| (refine Mine.hold ?_))
local macro_rules | `(tactic| walk_at "subscriptTail Name Slice str ref") => `(tactic| (refine Mine.hold ?_))
local macro_rules | `(tactic| walk_at "call builtin:len") => `(tactic| (k_here; (with_reducible show wpAny _ _ (call (Value.builtin "len") [Value.str _ _]) _ _ _); k_dflt (refine len_str (by omega) ?_)))
local macro_rules | `(tactic| walk_at "pyIter ref") => `(tactic| (refine Mine.hold ?_))
local macro_rules | `(tactic| walk_at "subscriptTail") => `(tactic| ((with_reducible show wpAny _ _ (subscriptTail _ _ (Value.ref _) (Value.int (0 + (Nat.cast _ : Int)) _)) _ _ _); refine Mine.hold ?_))
local macro_rules | `(tactic| walk_at "UnrEnd") => `(tactic| (refine Mine.hold ?_))
local macro_rules | `(tactic| walk_at "call builtin:len") => `(tactic| (k_here; (with_reducible show wpAny _ _ (call (Value.builtin "len") [Value.ref _]) _ _ _); k_dflt (refine' len_list ?l ?z ?_; (case l => exact News.isList (by k_asm) (by k_mem)); (case z => (rw [List.size_toArray]; omega)); k_whole)))
local macro_rules | `(tactic| walk_at "callWith ref") => `(tactic| (k_here; k_dflt (refine' callWith_K0 ?k1 ?k2 ?_; (case k1 => exact Frag.In.keeps (by with_reducible assumption) (Fr.keep (by with_reducible assumption))); (case k2 => k_is); k_whole)))
local macro_rules | `(tactic| walk_at "eval IfExp") => `(tactic| (refine Mine.hold ?_))
local macro_rules | `(tactic| walk_at "compareOp NotEq ref ref") => `(tactic| (refine Mine.hold ?_))
local macro_rules | `(tactic| walk_at "compareOp Eq ref ref") => `(tactic| (refine Mine.hold ?_))
namespace Mine
theorem law_holds : PySem.Challenge.rw_wx0015_01.Holds := hd (by
  w_top off
  k_go0
  refine' Mine.with_TG ?g1 ?g2 ?g3 ?g4 ?g5
  case g1 => with_reducible assumption
  case g2 => with_reducible assumption
  case g3 => with_reducible assumption
  case g4 => with_reducible assumption
  intro TG
  rename_i wW sA sB mgA mbA gG gY fa o9 pm9 cd9 doc9 kV9 ho9 hcd9 hg9 gX gV gT gB gTE gTW ws0 hs0 hlay0 hL1 hr1 hl2 wa wb wc wd we hL0 ra0 w10 r00 hI0 hr0 hc1 hc0 hD0 h1 gX' gT' gK' gF' ch1 ch2 ch3 gN' gl0
  clear gY gX gV gB gTE gTW hT8 hT9 hD0 w10 r00 ra0 hr0 hs0 hL1 hr1 hl2 hlay0 hcd9 hL0 ho9 gT gG
  generalize hg0 : ghostOf sB.heap [(376, 372), (276, 272), (441, 437), (417, 413)] = g0 at *
  clear hg0
  generalize hL00 : sB.heap.objs.size = L00 at *
  clear hL00
  k_steps
  unfold Hold
  rename_i F1 N1 l1
  have hdp : drawParts = drawParts := rfl
  conv at hdp => lhs; whnf
  replace N1 := draw_led N1
  refine Mine.Calls.use (Mine.draw_spec _ _ _ _ ⟨_, _, _, rfl, by decide⟩ 4 _ (by decide) (by decide)) _ (by k_asm) F1 (by k_asm) TG N1 (by k_asm) rfl ?hd1 ?hu1 (fun _ h => h) ?off1 ?pre1 ?_
  case hd1 => k_room
  case hu1 => k_units
  case off1 => exact Mine.off1 (by walk_at "ap")
  case pre1 =>
    unfold DrawFix drawObj
    rw [← hdp]
    dsimp only
    exact ⟨_, _, _, _, _, _, _, _, _, _, _, _, _, _, _, _, .tail _ (.head _), by k_mem, by k_mem, .tail _ (.tail _ (.tail _ (.head _))), .tail _ (.tail _ (.head _)), by assumption, by assumption, by assumption, by assumption, by assumption, by omega⟩
  rintro _ mu2 tl2 h2 tk2 F2 N2 ap2 hm2 ⟨hda, rfl, v, tv, rfl, hv0, hv4⟩
  obtain ⟨k2, tk9, n2, rfl, hk2⟩ := hda
  simp only [List.nil_append, List.cons_append] at N2
  refine Mine.menu_led IsFlag N2 (.tail _ (.head _)) hv0 hv4 (Nat.le_of_ble_eq_true rfl) ?flall (fun x hx => ?_) (by with_unfolding_all rfl)
  case flall => exact List.forall_mem_cons.mpr ⟨⟨_, _, rfl, .inl rfl⟩, List.forall_mem_cons.mpr ⟨⟨_, _, rfl, .inr (.inl rfl)⟩, List.forall_mem_cons.mpr ⟨⟨_, _, rfl, .inr (.inr (.inl rfl))⟩, List.forall_mem_cons.mpr ⟨⟨_, _, rfl, .inr (.inr (.inr rfl))⟩, List.forall_mem_nil _⟩⟩⟩⟩
  obtain ⟨fl, tf, rfl, hfl⟩ := hx
  k_steps
  unfold Hold
  rename News _ _ _ _ => N3
  rename Fr _ _ _ _ => F3
  refine Mine.Calls.use (Mine.ways2 _ _ _ [_] _ ⟨_, _, _, rfl, hk2⟩) [_, _, _, _, _, _, _, _, _, _] (by k_asm) F3 (by k_asm) TG N3 (by k_asm) rfl ?hd3 ?hu3 (fun _ h => h) ?off3 ?pre3 ?_
  case hd3 => (unfold Mine.dW; k_room)
  case hu3 => (unfold Mine.uW; k_units)
  case off3 => exact Mine.off1 (by walk_at "ap")
  case pre3 =>
    unfold DrawFix drawObj
    rw [← hdp]
    dsimp only
    exact ⟨_, _, _, _, _, _, _, _, _, _, _, _, _, _, _, _, .tail _ (.head _), by k_mem, by k_mem, .tail _ (.tail _ (.tail _ (.head _))), .tail _ (.tail _ (.head _)), by assumption, by assumption, by assumption, by assumption, by assumption, by omega⟩
  rintro _ mu4 R h4 tk4 F4 N4 ap4 hm4 ⟨hda, ws, pl, hok, hdep, rfl, hin⟩
  obtain ⟨_, _, _, rfl, _⟩ := hda
  simp only [List.nil_append, List.cons_append] at N4 ap4
  obtain ⟨R0, N4, K, s4, h437⟩ := Mine.law_start2 N4 (by k_mem) (by k_mem) (by k_mem) (.tail _ (.tail _ (.tail _ (.tail _ (.tail _ (.tail _ (.tail _ (.tail _ (.tail _ (.tail _ (.head _))))))))))) ap4
  replace hin := Ways.In.mono s4 _ _ hin
  clear s4
  have hdep5 : ws.dep ≤ 5 := by omega
  clear hdp hdep ap4 hm4 F3 N3
  k_steps
  unfold Hold
  rename News _ _ _ _ => N5
  rename Fr _ _ _ _ => F5
  refine Mine.law_new ((Mine.made_all _ 5 (by omega)).2 ws pl hok hdep5) (by k_asm) F5 (by k_asm) TG N5 (by k_asm) rfl ?hd5 ?hu5 K (fun _ h => h) ?pre5 ?_
  case hd5 => (unfold Mine.dS; k_room)
  case hu5 => (unfold Mine.uS; k_units)
  case pre5 => exact Ways.In.mono (fun _ h => .tail _ (.tail _ (.tail _ h))) _ _ hin
  rintro _ tl6 R6 h6 tk6 F6 N6 K6 s6 s6' ⟨q, rfl, hmd6⟩
  replace hin := Ways.In.mono s6 _ _ hin
  replace h437 := s6 _ h437
  replace hmd6 := Ways.Made.mono s6' _ _ hmd6
  clear s6 s6' K N5 F5
  k_steps
  unfold Hold
  rename News _ _ _ _ => N5
  rename Fr _ _ _ _ => F5
  refine Mine.law_expr (e := ws) (by k_asm) F5 (by k_asm) TG N5 (by k_asm) rfl ?hd6 ?hu6 K6 (fun _ h => h) hmd6 hdep5 ?_
  case hd6 => k_room
  case hu6 => k_units
  rintro ev t3 R7 RT h7 tk7 F7 N7 K7 ht7 s7 hobj7
  replace hin := Ways.In.mono s7 _ _ (Ways.In.turn ht7 _ _ hin)
  replace h437 := s7 _ (ht7.mem h437 (nn_fields rfl))
  replace hmd6 := Ways.Made.mono s7 _ _ (Ways.Made.turn ht7 _ _ hmd6)
  clear ht7 s7 K6 N5 F5
  k_steps
  unfold Hold
  rename News _ _ _ _ => N5
  rename Fr _ _ _ _ => F5
  obtain ⟨tx, htx⟩ : ∃ x, x = exShow fl ws := ⟨_, rfl⟩
  obtain ⟨fr, hfr⟩ : ∃ x, x = frontOf fl := ⟨_, rfl⟩
  have hxf : tx = fr ++ ws.show := by rw [htx, hfr]; exact Mine.exShow_eq fl ws
  have hfr4 : fr.length ≤ 4 := by rw [hfr]; exact Mine.front_len hfl
  have hxl : tx.length ≤ 1000004 := by rw [htx]; exact Mine.exShow_len hfl (Mine.ways_len5 hok hdep5)
  refine Mine.law_str (Mine.show_expr' htx _ _ _ ?a9 ?b9 ws (fun q => (Mine.sh_all _ 5 (by omega)).2 ws q hok hdep5) ?l9 fl hfl ev) (by k_asm) F5 (by k_asm) TG N5 (by k_asm) rfl ?hd7 ?hu7 K7 (fun _ h => h) (fun P hP => ⟨q, Ways.Made.mono hP _ _ hmd6, hobj7.mono hP⟩) ?_
  case a9 => decide
  case b9 => decide
  case hd7 => k_room
  case hu7 => k_units
  case l9 => exact Mine.ways_len5 hok hdep5
  rintro t1 t2 R8 u h8 tk8 F8 N8 K8 s8
  replace hin := Ways.In.mono s8 _ _ hin
  replace h437 := s8 _ h437
  replace hmd6 := Ways.Made.mono s8 _ _ hmd6
  replace hobj7 := hobj7.mono s8
  clear s8 K7 N5 F5
  k_steps
  unfold Hold
  rename News _ _ _ _ => N5
  rename Fr _ _ _ _ => F5
  refine Mine.if_join fr F5 N5 ?if1 ?_
  case if1 =>
    with_reducible refine IfExp_ ?_
    clear hin hmd6 hobj7 K8 hxf hxl htx
    subst hfr
    rcases hfl with rfl | rfl | rfl | rfl
    all_goals
      k_steps
      rename News _ _ _ _ => N6
      rename Fr _ _ _ _ => F6
      exact ⟨_, _, _, Mine.str_val (by decide +kernel), rfl, F6, N6⟩
  clear F5 N5
  intro u2 h9 tk9 F9 N9
  k_steps
  unfold Hold
  rename News _ _ _ _ => N5
  rename Fr _ _ _ _ => F5
  refine Mine.slice_front (z := ws.show) F5 N5 hxf rfl ?sz9 ?_ (by with_unfolding_all rfl) (by intro _; with_unfolding_all rfl)
  case sz9 => exact Nat.le_trans hxl (Nat.le_of_ble_eq_true rfl)
  intro h10 u3 tk10 F10 N10
  clear F5 N5
  k_steps
  unfold Hold
  refine Mine.law_new (Mine.read_ways _ 5 (by omega) ws tx u _ (cds fr) [] _ hok hdep5 ?hx10 (fun c r h => nomatch h) (Nat.le_trans hxl (Nat.le_of_ble_eq_true rfl)) ?hi10) (by k_asm) F10 (by k_asm) TG N10 (by k_asm) rfl ?hd10 ?hu10 K8 (fun _ h => h) trivial ?_
  case hx10 => rw [hxf, List.append_nil]; exact Mine.apS _ _
  case hi10 => exact congrArg Int.ofNat (Array.length_toList).symm
  case hd10 => (unfold Mine.dR; k_room)
  case hu10 => (unfold Mine.uR; k_units)
  rintro _ tl11 R11 h11 tk11 F11 N11 K11 s11 s11' ⟨T11, rl, t11, rfl, hT11, hin11⟩
  replace hT11 := s11' _ hT11
  rw [Mine.read_end hxf] at hT11
  replace hin11 := Ways.In.mono s11' _ _ hin11
  replace hin := Ways.In.mono s11 _ _ hin
  replace h437 := s11 _ h437
  replace hmd6 := Ways.Made.mono s11 _ _ hmd6
  replace hobj7 := hobj7.mono s11
  clear s11 s11' K8 F10 N10
  k_steps
  unfold Hold
  rename News _ _ _ _ => N5
  rename Fr _ _ _ _ => F5
  refine Mine.ways_ne N5 (Ways.In.mono (fun _ h => .tail _ (.tail _ (.tail _ h))) _ _ hin11) (Ways.In.mono (fun _ h => .tail _ (.tail _ (.tail _ h))) _ _ hin) hok (by omega) (by k_units) ?_
  k_steps
  unfold Hold
  refine Mine.law_new ((Mine.made_all _ 5 (by omega)).2 ws rl hok hdep5) (by k_asm) F5 (by k_asm) TG N5 (by k_asm) rfl ?hd12 ?hu12 K11 (fun _ h => h) ?pre12 ?_
  case hd12 => (unfold Mine.dS; k_room)
  case hu12 => (unfold Mine.uS; k_units)
  case pre12 => exact Ways.In.mono (fun _ h => .tail _ (.tail _ (.tail _ h))) _ _ hin11
  rintro _ tl12 R12 h12 tk12 F12 N12 K12 s12 s12' ⟨q2, rfl, hmd12⟩
  replace hin := Ways.In.mono s12 _ _ hin
  replace h437 := s12 _ h437
  replace hmd6 := Ways.Made.mono s12 _ _ hmd6
  replace hobj7 := hobj7.mono s12
  replace hmd12 := Ways.Made.mono s12' _ _ hmd12
  clear s12 s12' K11 N5 F5 hin11 hT11
  k_steps
  unfold Hold
  refine Mine.law_expr (e := ws) (by k_asm) F12 (by k_asm) TG N12 (by k_asm) rfl ?hd13 ?hu13 K12 (fun _ h => h) hmd12 hdep5 ?_
  case hd13 => k_room
  case hu13 => k_units
  rintro ev2 t3' R13 RT13 h13 tk13 F13 N13 K13 ht13 s13 hobj13
  replace hin := Ways.In.mono s13 _ _ (Ways.In.turn ht13 _ _ hin)
  replace h437 := s13 _ (ht13.mem h437 (nn_fields rfl))
  replace hmd6 := Ways.Made.mono s13 _ _ (Ways.Made.turn ht13 _ _ hmd6)
  replace hmd12 := Ways.Made.mono s13 _ _ (Ways.Made.turn ht13 _ _ hmd12)
  replace hobj7 := (hobj7.turn ht13).mono s13
  clear ht13 s13 K12 N12 F12
  k_steps
  unfold Hold
  rename News _ _ _ _ => N5
  rename Fr _ _ _ _ => F5
  refine Mine.law_str (Mine.show_expr' htx _ _ _ ?a14 ?b14 ws (fun q => (Mine.sh_all _ 5 (by omega)).2 ws q hok hdep5) ?l14 fl hfl ev2) (by k_asm) F5 (by k_asm) TG N5 (by k_asm) rfl ?hd14 ?hu14 K13 (fun _ h => h) (fun P hP => ⟨q2, Ways.Made.mono hP _ _ hmd12, hobj13.mono hP⟩) ?_
  case a14 => decide
  case b14 => decide
  case hd14 => k_room
  case hu14 => k_units
  case l14 => exact Mine.ways_len5 hok hdep5
  rintro t1' t2' R14 u14 h14 tk14 F14 N14 K14 s14
  replace hin := Ways.In.mono s14 _ _ hin
  replace h437 := s14 _ h437
  replace hmd6 := Ways.Made.mono s14 _ _ hmd6
  replace hobj7 := hobj7.mono s14
  replace hobj13 := hobj13.mono s14
  clear s14 K13 N5 F5 hmd12
  obtain ⟨x2, d2, a21, a22, a23, a24, tf2, a26, rfl, m21, m22⟩ := hobj13
  k_steps
  unfold Hold
  rename News _ _ _ _ => N5
  rename Fr _ _ _ _ => F5
  refine Mine.sbb_ne hfl N5 (by k_mem) (by k_mem) (by k_units) ?_
  replace N5 := Mine.law_cut (t1 := t1') (t2 := t2') (t3 := t3') (R := R14) N5 (by intro q9 h9; k_mem)
  clear m21 m22
  obtain ⟨nl, pus, hpl, hplen, hpus⟩ := Ways.In.list hin
  obtain ⟨dq, tq, nq, lq, kq, qus, hq1, hq2, hq3, hqlen, hqus⟩ := hmd6.list
  obtain ⟨x1, d1, a11, a12, a13, a14, tf1, a16, rfl, m11, m12⟩ := hobj7
  obtain ⟨hps, hlq⟩ : pus.length ≤ 100 ∧ qus.length = pus.length := by
    have hwl := ws.pths_len
    omega
  clear hplen hqlen
  k_steps
  unfold Hold
  rename IsRange _ _ _ _ _ _ _ _ => hrg
  rename News _ _ _ _ => N6
  rename Fr _ _ _ _ => F6
  refine iter_rangeUnr (n := pus.length) (by rfl) hrg (Mine.range_small pus.length hps) (Mine.range_size pus.length) F6 N6 ?_
  intro I hI
  refine Mine.rangeRest_fold ?step ?done
  case step =>
    intro i t15 h15 tk15 hi F15 it N15
    obtain ⟨pu, hpu⟩ : ∃ u, pus[i]? = some u := ⟨_, List.getElem?_eq_getElem hi⟩
    obtain ⟨qu, hqu⟩ : ∃ u, qus[i]? = some u := ⟨_, List.getElem?_eq_getElem (by omega)⟩
    obtain ⟨pp, pb, hpp, rfl, hpin⟩ := hpus i pu hpu
    obtain ⟨pp2, qb, hpp2, rfl, hqmd⟩ := hqus i qu hqu
    obtain rfl : pp2 = pp := Option.some.inj (hpp2.symm.trans hpp)
    have hpdep := Nat.le_trans (ws.dep_el hpp) hdep5
    obtain ⟨n1, v1, r1, ha1, hv1⟩ := Pth.In.first hpin
    obtain ⟨dp1, tp1, np1, lp1, hpd1, hpd2⟩ := Pth.Made.dict hqmd
    clear hpus hqus hpin
    k_steps
    unfold Hold
    refine Mine.item_ledI (News.isList N15 (by k_mem)) (Int.zero_add _) (by omega) hqu ?_ (by with_unfolding_all rfl)
    k_steps
    unfold Hold
    refine Mine.call_bool (Mine.sl_path _ 5 (by decide) pp2 hpdep qb) (by k_asm) F15 (by k_asm) TG N15 (by k_asm) rfl ?hdA ?huA ?preA ?_
    case hdA => k_room
    case huA => k_units
    case preA => exact Pth.Made.mono (fun _ h => .tail _ (.tail _ (.tail _ (.tail _ h)))) _ _ hqmd
    clear F15 N15
    intro h16 tk16 F15 N15
    k_steps
    unfold Hold
    refine Mine.item_ledI (News.isList N15 (by k_mem)) (Int.zero_add _) (by omega) hqu ?_ (by with_unfolding_all rfl)
    k_steps
    unfold Hold
    refine Mine.call_bool (Mine.sr_path _ 5 (by decide) pp2 hpdep qb) (by k_asm) F15 (by k_asm) TG N15 (by k_asm) rfl ?hdB ?huB ?preB ?_
    case hdB => k_room
    case huB => k_units
    case preB => exact Pth.Made.mono (fun _ h => .tail _ (.tail _ (.tail _ (.tail _ h)))) _ _ hqmd
    clear F15 N15
    intro h17 tk17 F15 N15
    k_steps
    unfold Hold
    rename News _ _ _ _ => N15
    rename Fr _ _ _ _ => F15
    refine Mine.item_ledI (News.isList N15 (by k_mem)) (Int.zero_add _) (by omega) hpu ?_ (by with_unfolding_all rfl)
    k_steps
    unfold Hold
    refine Mine.call_starts (Mine.starts_path _ pp2 hpdep v1) (by k_asm) F15 (by k_asm) TG N15 (by k_asm) rfl ?hdC ?huC ?preC ?_
    case hdC => k_room
    case huC => k_units
    case preC => exact El.In.mono (fun _ h => .tail _ (.tail _ (.tail _ (.tail _ (.tail _ h))))) _ _ hv1
    clear F15 N15
    intro T18 h18 tk18 F15 N15
    k_steps
    unfold Hold
    refine Mine.bb_ne N15 (.tail _ (.head _)) (.head _) (by k_units) ?_
    k_steps
    unfold Hold
    exact UnrEnd.intro F15 N15 (T3 t1' t2' t3' R14) (fun z hz => .tail _ (.tail _ hz)) (fun z hz => Nat.ne_of_lt (hI z hz)) ⟨rfl, _, rfl⟩
  case done =>
    intro pv h15 tk15 F15 N15
    obtain ⟨dq9, tq9, nq9, lq9, hqd1, hqd2⟩ := Ways.Made.dict hmd6
    k_steps
    unfold Hold
    refine Mine.call_bool (Mine.sl_all _ 5 (by decide) ws hdep5 q) (by k_asm) F15 (by k_asm) TG N15 (by k_asm) rfl ?hdD ?huD ?preD ?_
    case hdD => k_room
    case huD => k_units
    case preD => exact Ways.Made.mono (fun _ h => .tail _ (.tail _ (.tail _ h))) _ _ hmd6
    clear F15 N15
    intro h16 tk16 F15 N15
    k_steps
    unfold Hold
    refine Mine.call_bool (Mine.sr_all _ 5 (by decide) ws hdep5 q) (by k_asm) F15 (by k_asm) TG N15 (by k_asm) rfl ?hdE ?huE ?preE ?_
    case hdE => k_room
    case huE => k_units
    case preE => exact Ways.Made.mono (fun _ h => .tail _ (.tail _ (.tail _ h))) _ _ hmd6
    clear F15 N15
    intro h17 tk17 F15 N15
    k_steps
    unfold Hold
    rename News _ _ _ _ => N15
    rename Fr _ _ _ _ => F15
    refine Mine.call_starts (Mine.starts_ways _ ws hdep5 _) (by k_asm) F15 (by k_asm) TG N15 (by k_asm) rfl ?hdF ?huF ?preF ?_
    case hdF => k_room
    case huF => k_units
    case preF => exact ⟨_, _, pl, rfl, .head _, Ways.In.mono (fun _ h => .tail _ (.tail _ (.tail _ (.tail _ (.tail _ h))))) _ _ hin⟩
    clear F15 N15
    intro T18 h18 tk18 F15 N15
    k_steps
    unfold Hold
    refine Mine.bb_eq N15 (.tail _ (.tail _ (.head _))) (.head _) (by k_units) ?_
    exact ⟨Mine.law_good F15.keep rfl hg9, Mine.grown4 N15 (fun z hz => .tail _ (.tail _ (.tail _ hz))) h437⟩)
end Mine
end
end
theorem PySem.Challenge.cw_wx0015_01_holds : PySem.Challenge.rw_wx0015_01.Holds := by
  exact Mine.law_holds
