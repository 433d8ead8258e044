import PyProof.Rows.All
import Wide.All
import OpenK.AllK
import Wide.FinOn
import PySem.Challenge.RW_rl0110_01
open PySem PySem.W PyProof.Rows
set_option Elab.async false
set_option maxRecDepth 100000
namespace Mine
section
local macro_rules | `(tactic| o_head $H) => match H with
  | `((kHook $k $a $e)) => `(tactic| ((exact ‹_›); exact ($k, $a)))
  | `(kHook $k $a $e) => `(tactic| ((exact ‹_›); exact ($k, $a)))
  | _ => Lean.Macro.throwUnsupported
set_option maxHeartbeats 8000000 in
noncomputable def hd0 : (Params → Frag) × List Addr := by
  refine (fun (_ : PySem.Challenge.rw_rl0110_01.row.Holds → PySem.Challenge.rw_rl0110_01.row.Holds) (K : (Params → Frag) × List Addr) => K) (fun hn => ?g) ?K
  k_head
end

noncomputable def foR : { f : Program → World → Nat → Option Shared // ∀ p w N, fencedOpening treeTable p w N = f p w N } :=
  ⟨_, fun p w N => by
    unfold fencedOpening
    rw [PySem.W.Fast.te10274390034422433532, PySem.W.Fast.te14364793385576792824, PySem.W.Fast.te1435165496053646825, PySem.W.Fast.te14289696077712309145]⟩
noncomputable def tfR : { f : Program → World → Nat → Shared → Option Shared // ∀ p w N s₀, topFrom treeTable p w N s₀ = f p w N s₀ } :=
  ⟨_, fun p w N s₀ => by
    unfold topFrom
    rw [PySem.W.Fast.te14082659384304107361, PySem.W.Fast.te14364793385576792824]⟩
theorem left_two {p q : Program} {loose : List Str} {Xt : Shared → Bool} {α : Type} {Yf : Shared → α} {Ya : World → α} {N : Nat} {g0 : Bool} (row : String)
    (h0 : ∀ w : World, (foR.1 p w N).map (fun s₀ => (tfR.1 p (w.withFollow row false) N s₀).map (fun s => (PySem.W.Fast.tw4187177175401517315 q loose (importedModules p.main.body) Xt g0 s, Yf s))) = some (some (openGood q loose, Ya (w.withFollow row false))))
    (h1 : ∀ w : World, (foR.1 p w N).map (fun s₀ => (tfR.1 p (w.withFollow row true) N s₀).map (fun s => (PySem.W.Fast.tw4187177175401517315 q loose (importedModules p.main.body) Xt g0 s, Yf s))) = some (some (openGood q loose, Ya (w.withFollow row true)))) : LeftO p q loose Xt Yf Ya N g0 := LeftO.of_split row fun w => by
  have x := h0 w
  have y := h1 w
  simp only [← foR.2, ← tfR.2, ← PySem.W.Fast.te4187177175401517315] at x y
  cases e : fencedOpening treeTable p w N with
  | none => rw [e] at x; cases x
  | some s => rw [e] at x y; exact congrArg some (Prod.ext (Option.some.inj x) (Option.some.inj y))
noncomputable def vw0 : Program := { PySem.Challenge.pw_rl0110_01 with main := { PySem.Challenge.pw_rl0110_01.main with body := [0, 2, 3, 4, 6, 8, 9, 11, 12, 14, 15, 16, 17, 18, 19, 20, 21, 22, 23].filterMap fun (i : Nat) => PySem.Challenge.pw_rl0110_01.main.body[i]? } }
noncomputable def loose0 : List Str := ["tspecials", "_name_disallowed_re", "_value_disallowed_re", "_formatparam", "COMPILER_FLAG_NAMES"]
noncomputable def xt0 (s : Shared) : Bool := xlAt vw0 [] s && recOk (RowW.records PySem.Challenge.rw_rl0110_01.row.toRowW) s
noncomputable def hook0 : Hook := kHook hd0.heap_1 hd0.2 (fun _ => by kernel_rfl)
set_option maxHeartbeats 8000000 in
theorem look_f : ∀ w : World, (foR.1 PySem.Challenge.pw_rl0110_01 w 3160).map (fun s₀ => (tfR.1 PySem.Challenge.pw_rl0110_01 (w.withFollow "special-get-raises" false) 3160 s₀).map (fun s => (PySem.W.Fast.tw4187177175401517315 vw0 loose0 (importedModules PySem.Challenge.pw_rl0110_01.main.body) xt0 true s, hook0.obs s))) = some (some (openGood vw0 loose0, hook0.val (w.withFollow "special-get-raises" false))) := fun w => by kernel_rfl
set_option maxHeartbeats 8000000 in
theorem look_t : ∀ w : World, (foR.1 PySem.Challenge.pw_rl0110_01 w 3160).map (fun s₀ => (tfR.1 PySem.Challenge.pw_rl0110_01 (w.withFollow "special-get-raises" true) 3160 s₀).map (fun s => (PySem.W.Fast.tw4187177175401517315 vw0 loose0 (importedModules PySem.Challenge.pw_rl0110_01.main.body) xt0 true s, hook0.obs s))) = some (some (openGood vw0 loose0, hook0.val (w.withFollow "special-get-raises" true))) := fun w => by kernel_rfl
theorem left0 : LeftO PySem.Challenge.pw_rl0110_01 vw0 loose0 xt0 hook0.obs hook0.val 3160 := left_two "special-get-raises" look_f look_t
end Mine

open PySem PySem.W PyProof.Rows
set_option Elab.async false
set_option maxRecDepth 100000
namespace Mine
theorem said0 : PySem.Challenge.rw_rl0110_01.wellSaid = true := (congrFun PySem.W.Fast.te9446332074065402090 PySem.Challenge.rw_rl0110_01).trans (by kernel_rfl)
section
local macro_rules | `(tactic| k_head) => do
  let hw := Lean.mkIdent `hw
  let hc := Lean.mkIdent `hc
  `(tactic| (refine holds_open (q := vw0) (loose := loose0) (Xt := xt0) (XP := XL vw0 []) (Yf := hook0.obs) (Ya := hook0.val) (YP := hook0.says) (N := 3160) left0 hook0.of hook0.keeps (fun s e => xl_of s (Bool.and_eq_true_iff.mp e).1) XL.keeps (by rfl) (by rfl) (by rfl) (fun s e => recFacts_of (Bool.and_eq_true_iff.mp e).2) (by rfl) (by first | assumption | decide +kernel) (by decide +kernel) ⟨rfl, rfl, rfl, rfl, rfl, by decide +kernel⟩ ?$hw ?$hc))
local macro_rules | `(tactic| o_law) => `(tactic| refine holds_law said0 fun said => ?_)
set_option maxHeartbeats 8000000 in
open_top hd for PySem.Challenge.rw_rl0110_01
end
end Mine

open PySem PySem.W PyProof.Rows PySem.Calls
set_option Elab.async false
set_option maxRecDepth 100000
namespace Mine

noncomputable abbrev pr : Program := PySem.Challenge.rw_rl0110_01.row.prog
noncomputable abbrev vw : Program := vw0
noncomputable abbrev lo : List Str := looseW vw0 loose0

abbrev KeepsH (h h' : Heap) : Prop := ∀ b o, h.get? b = some o → h'.get? b = some o

abbrev lob (vs : List Value) (n : Nat) : Obj := { cls := .type "list", data := .seq vs.toArray n }
abbrev tob (vs : List Value) (n : Nat) : Obj := { cls := .type "tuple", data := .seq vs.toArray n }

/-- allowed addresses: those of P, and those that are not there yet -/
noncomputable def Up (P : Addr → Prop) (h : Heap) : Addr → Prop := fun a => P a ∨ h.get? a = none

mutual
/-- the value v reads as d, its lists are plain and lie at allowed addresses -/
inductive Rd (P : Addr → Prop) (h : Heap) : Value → PyData → Prop
  | none : Rd P h .none .none
  | bool (b) : Rd P h (.bool b) (.bool b)
  | int (i t) : Rd P h (.int i t) (.int i)
  | str (x t) : Rd P h (.str x t) (.str x)
  | list {a vs n ds} : P a → h.get? a = some (lob vs n) → RdAll P h vs ds → Rd P h (.ref a) (.list ds)
  | tuple {a vs n ds} : h.get? a = some (tob vs n) → RdAll P h vs ds → Rd P h (.ref a) (.tuple ds)
inductive RdAll (P : Addr → Prop) (h : Heap) : List Value → List PyData → Prop
  | nil : RdAll P h [] []
  | cons {v vs d ds} : Rd P h v d → RdAll P h vs ds → RdAll P h (v :: vs) (d :: ds)
end

mutual
theorem Rd.mono {P P' : Addr → Prop} {h h' : Heap} (hk : KeepsH h h') (hp : ∀ a o, h.get? a = some o → P a → P' a) : ∀ {v d}, Rd P h v d → Rd P' h' v d
  | _, _, .none => .none
  | _, _, .bool b => .bool b
  | _, _, .int i t => .int i t
  | _, _, .str x t => .str x t
  | _, _, .list pa e r => .list (hp _ _ e pa) (hk _ _ e) (RdAll.mono hk hp r)
  | _, _, .tuple e r => .tuple (hk _ _ e) (RdAll.mono hk hp r)
theorem RdAll.mono {P P' : Addr → Prop} {h h' : Heap} (hk : KeepsH h h') (hp : ∀ a o, h.get? a = some o → P a → P' a) : ∀ {vs ds}, RdAll P h vs ds → RdAll P' h' vs ds
  | _, _, .nil => .nil
  | _, _, .cons a b => .cons (Rd.mono hk hp a) (RdAll.mono hk hp b)
end

mutual
theorem Rd.monoL {P P' : Addr → Prop} {h h' : Heap} (hk : KeepsH h h') (hp : ∀ a vs n, h.get? a = some (lob vs n) → P a → P' a) : ∀ {v d}, Rd P h v d → Rd P' h' v d
  | _, _, .none => .none
  | _, _, .bool b => .bool b
  | _, _, .int i t => .int i t
  | _, _, .str x t => .str x t
  | _, _, .list pa e r => .list (hp _ _ _ e pa) (hk _ _ e) (RdAll.monoL hk hp r)
  | _, _, .tuple e r => .tuple (hk _ _ e) (RdAll.monoL hk hp r)
theorem RdAll.monoL {P P' : Addr → Prop} {h h' : Heap} (hk : KeepsH h h') (hp : ∀ a vs n, h.get? a = some (lob vs n) → P a → P' a) : ∀ {vs ds}, RdAll P h vs ds → RdAll P' h' vs ds
  | _, _, .nil => .nil
  | _, _, .cons a b => .cons (Rd.monoL hk hp a) (RdAll.monoL hk hp b)
end

/-- an object whose change no datum sees -/
noncomputable def Unseen (P : Addr → Prop) (b : Addr) (o : Obj) : Prop := (∀ xs n, o.data ≠ .seq xs n) ∨ (o.cls = .type "list" ∧ ¬ P b)
mutual
/-- changes at places where no list of P's and no tuple lies do not matter -/
theorem Rd.butS {P S : Addr → Prop} {h h' : Heap} (hk : ∀ b o, ¬ S b → h.get? b = some o → h'.get? b = some o) (hS : ∀ b o, S b → h.get? b = some o → Unseen P b o) : ∀ {v d}, Rd P h v d → Rd P h' v d
  | _, _, .none => .none
  | _, _, .bool b => .bool b
  | _, _, .int i t => .int i t
  | _, _, .str x t => .str x t
  | _, _, .list pa e r => .list pa (hk _ _ (fun q => (hS _ _ q e).elim (fun z => z _ _ rfl) fun z => z.2 pa) e) (RdAll.butS hk hS r)
  | _, _, .tuple e r => .tuple (hk _ _ (fun q => (hS _ _ q e).elim (fun z => z _ _ rfl) fun z => by have := z.1; simp at this) e) (RdAll.butS hk hS r)
theorem RdAll.butS {P S : Addr → Prop} {h h' : Heap} (hk : ∀ b o, ¬ S b → h.get? b = some o → h'.get? b = some o) (hS : ∀ b o, S b → h.get? b = some o → Unseen P b o) : ∀ {vs ds}, RdAll P h vs ds → RdAll P h' vs ds
  | _, _, .nil => .nil
  | _, _, .cons a b => .cons (Rd.butS hk hS a) (RdAll.butS hk hS b)
end

mutual
theorem Rd.reads {P : Addr → Prop} {h : Heap} : ∀ {v d}, Rd P h v d → ∃ as, Reads h v d as
  | _, _, .none => ⟨_, .none⟩
  | _, _, .bool b => ⟨_, .bool b⟩
  | _, _, .int i t => ⟨_, .int i t⟩
  | _, _, .str x t => ⟨_, .str x t⟩
  | _, _, .list _ e r => let ⟨as, q⟩ := RdAll.reads r; ⟨_, .list e rfl rfl q⟩
  | _, _, .tuple e r => let ⟨as, q⟩ := RdAll.reads r; ⟨_, .tuple e rfl rfl q⟩
theorem RdAll.reads {P : Addr → Prop} {h : Heap} : ∀ {vs ds}, RdAll P h vs ds → ∃ as, ReadsAll h vs ds as
  | _, _, .nil => ⟨_, .nil⟩
  | _, _, .cons a b => let ⟨_, q⟩ := Rd.reads a; let ⟨_, r⟩ := RdAll.reads b; ⟨_, .cons q r⟩
end

theorem RdAll.length {P : Addr → Prop} {h : Heap} : ∀ {vs ds}, RdAll P h vs ds → vs.length = ds.length
  | _, _, .nil => rfl
  | _, _, .cons _ b => by simp [RdAll.length b]
theorem RdAll.get {P : Addr → Prop} {h : Heap} : ∀ {vs ds}, RdAll P h vs ds → ∀ (i : Nat) (d : PyData), ds[i]? = some d → ∃ v, vs[i]? = some v ∧ Rd P h v d
  | _, _, .nil, _, _, e => by simp at e
  | _, _, .cons (v := v) a b, 0, d, e => ⟨v, rfl, by simp at e; exact e ▸ a⟩
  | _, _, .cons a b, i + 1, d, e => by
    obtain ⟨v, h1, h2⟩ := RdAll.get b i d (by simpa using e)
    exact ⟨v, by simpa using h1, h2⟩
theorem RdAll.append {P : Addr → Prop} {h : Heap} : ∀ {vs ds ws es}, RdAll P h vs ds → RdAll P h ws es → RdAll P h (vs ++ ws) (ds ++ es)
  | _, _, _, _, .nil, r => r
  | _, _, _, _, .cons a b, r => .cons a (RdAll.append b r)
theorem RdAll.drop {P : Addr → Prop} {h : Heap} : ∀ {vs ds}, RdAll P h vs ds → ∀ k, RdAll P h (vs.drop k) (ds.drop k)
  | _, _, .nil, k => by simpa using RdAll.nil
  | _, _, .cons a b, 0 => .cons a b
  | _, _, .cons a b, k + 1 => RdAll.drop b k
theorem RdAll.take {P : Addr → Prop} {h : Heap} : ∀ {vs ds}, RdAll P h vs ds → ∀ k, RdAll P h (vs.take k) (ds.take k)
  | _, _, .nil, k => by simpa using RdAll.nil
  | _, _, .cons a b, 0 => .nil
  | _, _, .cons a b, k + 1 => .cons a (RdAll.take b k)

/-- a Headers object -/
inductive Prs (h : Heap) : List Value → List (Str × Str) → Prop
  | nil : Prs h [] []
  | cons {a n x t y u vs ps} : h.get? a = some (tob [.str x t, .str y u] n) → Prs h vs ps → Prs h (.ref a :: vs) ((x, y) :: ps)
theorem Prs.keeps {h h' : Heap} (hk : KeepsH h h') : ∀ {vs ps}, Prs h vs ps → Prs h' vs ps
  | _, _, .nil => .nil
  | _, _, .cons e r => .cons (hk _ _ e) (Prs.keeps hk r)

abbrev hdrCls : Addr := 175
/-- a Headers object's own names -/
noncomputable def hdrEs (es : List DictEntry) (l : Addr) : Prop := ∀ name, getL name es = if name = Str.ofString "_headers" then some (some (.ref l)) else some none
structure HdrAt (h : Heap) (a dd l : Addr) (ps : List (Str × Str)) : Prop where
  inst : h.get? a = some (instObj hdrCls dd)
  dict : ∃ es n, h.get? dd = some (dictOf es n) ∧ hdrEs es l
  items : ∃ vs n, h.get? l = some (lob vs n) ∧ Prs h vs ps
theorem HdrAt.keeps {h h' : Heap} {a dd l ps} (hk : KeepsH h h') (x : HdrAt h a dd l ps) : HdrAt h' a dd l ps :=
  ⟨hk _ _ x.inst, let ⟨es, n, e, q⟩ := x.dict; ⟨es, n, hk _ _ e, q⟩, let ⟨vs, n, e, q⟩ := x.items; ⟨vs, n, hk _ _ e, q.keeps hk⟩⟩

/-- data: Python's plain data, or a Headers object -/
inductive Dt
  | py (d : PyData)
  | hdr (ps : List (Str × Str))
  | val (v : Value)
  | box (a : Addr)
  | edict

inductive RdT (P : Addr → Prop) (h : Heap) : Value → Dt → Prop
  | py {v d} : Rd P h v d → RdT P h v (.py d)
  | hdr {a dd l ps} : P a → P dd → P l → HdrAt h a dd l ps → RdT P h (.ref a) (.hdr ps)
  | val {v} : RdT P h v (.val v)
  | box {a dd es n l} : P a → P dd → h.get? a = some (instObj hdrCls dd) → h.get? dd = some (dictOf es n) → hdrEs es l → RdT P h (.ref a) (.box a)
  | edict {a n} : P a → (a == sysModules) = false → h.get? a = some (dictOf [] n) → RdT P h (.ref a) .edict

theorem RdT.mono {P P' : Addr → Prop} {h h' : Heap} (hk : KeepsH h h') (hp : ∀ a o, h.get? a = some o → P a → P' a) {v d} : RdT P h v d → RdT P' h' v d
  | .py r => .py (r.mono hk hp)
  | .hdr pa pd pl x => .hdr (hp _ _ x.inst pa) (let ⟨_, _, e, _⟩ := x.dict; hp _ _ e pd) (let ⟨_, _, e, _⟩ := x.items; hp _ _ e pl) (x.keeps hk)
  | .val => .val
  | .box pa pd i d e => .box (hp _ _ i pa) (hp _ _ d pd) (hk _ _ i) (hk _ _ d) e
  | .edict pa ns e => .edict (hp _ _ e pa) ns (hk _ _ e)
theorem Prs.butS {P S : Addr → Prop} {h h' : Heap} (hk : ∀ b o, ¬ S b → h.get? b = some o → h'.get? b = some o) (hS : ∀ b o, S b → h.get? b = some o → Unseen P b o) : ∀ {vs ps}, Prs h vs ps → Prs h' vs ps
  | _, _, .nil => .nil
  | _, _, .cons e r => .cons (hk _ _ (fun q => (hS _ _ q e).elim (fun z => z _ _ rfl) fun z => by have := z.1; simp at this) e) (Prs.butS hk hS r)
theorem RdT.butS {P S : Addr → Prop} {h h' : Heap} (hk : ∀ b o, ¬ S b → h.get? b = some o → h'.get? b = some o) (hS : ∀ b o, S b → h.get? b = some o → Unseen P b o) (hP : ∀ b, S b → ¬ P b) {v d} : RdT P h v d → RdT P h' v d
  | .py r => .py (r.butS hk hS)
  | .hdr pa pd pl x => .hdr pa pd pl ⟨hk _ _ (fun q => hP _ q pa) x.inst, let ⟨es, n, e, q⟩ := x.dict; ⟨es, n, hk _ _ (fun q => hP _ q pd) e, q⟩,
      let ⟨vs, n, e, q⟩ := x.items; ⟨vs, n, hk _ _ (fun q => hP _ q pl) e, q.butS hk hS⟩⟩
  | .val => .val
  | .box pa pd i d e => .box pa pd (hk _ _ (fun q => hP _ q pa) i) (hk _ _ (fun q => hP _ q pd) d) e
  | .edict pa ns e => .edict pa ns (hk _ _ (fun q => hP _ q pa) e)
inductive RdTs (P : Addr → Prop) (h : Heap) : List Value → List Dt → Prop
  | nil : RdTs P h [] []
  | cons {v vs d ds} : RdT P h v d → RdTs P h vs ds → RdTs P h (v :: vs) (d :: ds)
theorem RdTs.mono {P P' : Addr → Prop} {h h' : Heap} (hk : KeepsH h h') (hp : ∀ a o, h.get? a = some o → P a → P' a) : ∀ {vs ds}, RdTs P h vs ds → RdTs P' h' vs ds
  | _, _, .nil => .nil
  | _, _, .cons a b => .cons (a.mono hk hp) (RdTs.mono hk hp b)

theorem up_mono {P : Addr → Prop} {h h' : Heap} (hk : KeepsH h h') : ∀ a, Up P h' a → Up P h a := fun a => fun
  | .inl p => .inl p
  | .inr q => .inr (by
      cases e : h.get? a with
      | none => rfl
      | some o => rw [hk _ _ e] at q; cases q)
theorem up_up {P : Addr → Prop} {h h' : Heap} (hk : KeepsH h h') : ∀ a, Up (Up P h) h' a → Up P h a := fun a => fun
  | .inl p => p
  | .inr q => up_mono hk a (.inr q)

/-- the ground: the text's own objects and names -/
structure Base (w : World) (h : Heap) : Prop where
  K : (hd0.heap_1 w.params).In h
  T : ∃ mean mg mb, Top vw lo mean mg mb h
theorem Base.keeps {w : World} {h h' : Heap} (hk : KeepsH h h') (b : Base w h) : Base w h' := ⟨b.K.keeps hk, let ⟨m, g, b', t⟩ := b.T; ⟨m, g, b', t.keeps hk⟩⟩

inductive Has (P : Addr → Prop) (env : Env) (h : Heap) (x : Str) (d : Dt) : Prop
  | loc {m v} : env.kindOf x = some .local → h.Ns env.locals m → m x = some v → RdT P h v d → Has P env h x d
  | cel {c v} : env.kindOf x = some .cell → env.cells.lookup x = some c → h.IsCell c (some v) → RdT P h v d → Has P env h x d
  | fre {c v} : env.kindOf x = some .free → env.cells.lookup x = some c → h.IsCell c (some v) → RdT P h v d → Has P env h x d

theorem isCell_keeps {h h' : Heap} {c : Addr} {v : Option Value} (hk : KeepsH h h') (x : h.IsCell c v) : h'.IsCell c v := let ⟨o, e, d⟩ := x; ⟨o, hk _ _ e, d⟩

theorem Has.mono {P P' : Addr → Prop} {env : Env} {h h' : Heap} (hk : KeepsH h h') (hp : ∀ a o, h.get? a = some o → P a → P' a) {x d} : Has P env h x d → Has P' env h' x d
  | .loc a b c r => .loc a (b.keeps hk) c (r.mono hk hp)
  | .cel a b c r => .cel a b (isCell_keeps hk c) (r.mono hk hp)
  | .fre a b c r => .fre a b (isCell_keeps hk c) (r.mono hk hp)

structure Ok (w : World) (A : Around) (P : Addr → Prop) (env : Env) (ρ : List (Str × Dt)) (h : Heap) : Prop where
  base : Base w h
  bel : ∃ base outer, Below A base outer h
  fn : env.scope.kind = .function
  gl : env.globals = mainGlobals
  bu : env.builtins = builtinsNs
  vars : ∀ x d, ρ.lookup x = some d → Has P env h x d

theorem below_keeps {A : Around} {base h h' : Heap} {outer : List Env} (hk : KeepsH h h') (b : Below A base outer h) : Below A base outer h' :=
  ⟨b.stack, fun x o e => hk _ _ (b.stays x o e), b.frames.of_keeps fun x o e _ => ⟨o, hk _ _ e, rfl⟩⟩

theorem Ok.mono {w : World} {A : Around} {P P' : Addr → Prop} {env : Env} {ρ : List (Str × Dt)} {h h' : Heap} (hk : KeepsH h h') (hp : ∀ a o, h.get? a = some o → P a → P' a) (o : Ok w A P env ρ h) : Ok w A P' env ρ h' :=
  ⟨o.base.keeps hk, let ⟨b, l, x⟩ := o.bel; ⟨b, l, below_keeps hk x⟩, o.fn, o.gl, o.bu, fun x d e => (o.vars x d e).mono hk hp⟩
theorem Ok.keeps {w : World} {A : Around} {P : Addr → Prop} {env : Env} {ρ : List (Str × Dt)} {h h' : Heap} (hk : KeepsH h h') (o : Ok w A P env ρ h) : Ok w A P env ρ h' := o.mono hk fun _ _ _ p => p

theorem Keeps.hp {s s' : Shared} (k : Keeps s s') : KeepsH s.heap s'.heap := by
  obtain ⟨h', tk, rfl, hk⟩ := k; exact hk
theorem Keeps.rf (s : Shared) : Keeps s s := ⟨s.heap, s.toks, rfl, fun _ _ e => e⟩
theorem Keeps.tr {a b c : Shared} (x : Keeps a b) (y : Keeps b c) : Keeps a c := by
  obtain ⟨h, t, rfl, hk⟩ := x; obtain ⟨h', t', rfl, hk'⟩ := y; exact ⟨h', t', rfl, fun b o e => hk' b o (hk b o e)⟩
theorem Keeps.tok (s : Shared) (t : Nat) : Keeps s { s with toks := t } := ⟨s.heap, t, rfl, fun _ _ e => e⟩
theorem Keeps.mk' {s : Shared} {h' : Heap} {t : Nat} (hk : KeepsH s.heap h') : Keeps s { s with heap := h', toks := t } := ⟨h', t, rfl, hk⟩

/-- evaluating e gives d, the heap only grows -/
noncomputable def Ev (w : World) (A : Around) (env : Env) (ρ : List (Str × Dt)) (e : Expr) (d : Dt) : Prop :=
  ∀ (P : Addr → Prop) (s : Shared) (Q : Value → Shared → Prop) (E : Value → Shared → Prop), Ok w A P env ρ s.heap →
    (∀ v s', Keeps s s' → RdT (Up P s.heap) s'.heap v d → Q v s') → wpAny (model pr w) A (eval e env) Q E s

/-- the test e comes out as b -/
noncomputable def Tv (w : World) (A : Around) (env : Env) (ρ : List (Str × Dt)) (e : Expr) (b : Bool) : Prop :=
  ∀ (P : Addr → Prop) (s : Shared) (Q : Bool → Shared → Prop) (E : Value → Shared → Prop), Ok w A P env ρ s.heap →
    (∀ s', Keeps s s' → Q b s') → wpAny (model pr w) A (isTrue e env (eval e env)) Q E s

structure Room (A : Around) (k : Nat) : Prop where
  handled : A.handled = none
  depth : A.depth + k < recursionLimit
  units : A.units + 10 * k + 200 < cLine
end Mine

open PySem PySem.W PyProof.Rows PySem.Calls
set_option Elab.async false
set_option maxRecDepth 100000
namespace Mine
section
variable {w : World} {A : Around} {env : Env} {ρ : List (Str × Dt)} {pos : Pos}

theorem ev_int {i : Int} {k : Nat} : Ev w A env ρ (.Constant (.int i) k pos) (.py (.int i)) := fun P s Q E _ hQ => wpAny_Constant_int (hQ _ _ (Keeps.tok _ _) (.py (.int _ _)))
theorem ev_str {x : Str} {k : Nat} : Ev w A env ρ (.Constant (.str x) k pos) (.py (.str x)) := fun P s Q E _ hQ => Calls.Constant_str (hQ _ _ (Keeps.tok _ _) (.py (.str _ _)))
theorem ev_bool {b : Bool} {k : Nat} : Ev w A env ρ (.Constant (.bool b) k pos) (.py (.bool b)) := fun P s Q E _ hQ => wpAny_Constant_bool (hQ _ _ (Keeps.rf _) (.py (.bool _)))
theorem ev_none {k : Nat} : Ev w A env ρ (.Constant .none k pos) (.py .none) := fun P s Q E _ hQ => wpAny_Constant_none (hQ _ _ (Keeps.rf _) (.py .none))

theorem ev_name {x : Str} {d : Dt} (h : ρ.lookup x = some d) (hd : (x == ("__debug__" : Str)) = false := by decide) (hn : (x == ("__classdict__" : Str)) = false := by decide) : Ev w A env ρ (.Name x pos) d := by
  intro P s Q E ok hQ
  refine wpAny_Name ?_ hd
  cases ok.vars x d h with
  | loc a b c r => exact wpAny_loadName_local ok.fn a b c (hQ _ _ (Keeps.rf _) (r.mono (fun _ _ e => e) fun _ _ _ p => .inl p))
  | cel a b c r => exact wpAny_loadName_cell ok.fn a b c (hQ _ _ (Keeps.rf _) (r.mono (fun _ _ e => e) fun _ _ _ p => .inl p))
  | fre a b c r => exact wpAny_loadName_free ok.fn a b c (hQ _ _ (Keeps.rf _) (r.mono (fun _ _ e => e) fun _ _ _ p => .inl p)) hn

/-- two parts, one behind the other -/
theorem ev_two {e₁ e₂ : Expr} {d₁ d₂ : Dt} {P : Addr → Prop} {s : Shared} {E : Value → Shared → Prop} {K : Value → Value → Shared → Prop} (ok : Ok w A P env ρ s.heap) (h₁ : Ev w A env ρ e₁ d₁) (h₂ : Ev w A env ρ e₂ d₂)
    (hK : ∀ v₁ v₂ s', Keeps s s' → RdT (Up P s.heap) s'.heap v₁ d₁ → RdT (Up P s.heap) s'.heap v₂ d₂ → K v₁ v₂ s') :
    wpAny (model pr w) A (eval e₁ env) (fun a s₁ => wpAny (model pr w) A (eval e₂ env) (fun b s₂ => K a b s₂) E s₁) E s :=
  h₁ P s _ _ ok fun v₁ s₁ k₁ r₁ => h₂ P s₁ _ _ (ok.keeps (Keeps.hp k₁)) fun v₂ s₂ k₂ r₂ =>
    hK v₁ v₂ s₂ (Keeps.tr k₁ k₂) (r₁.mono (Keeps.hp k₂) fun _ _ _ p => p) (r₂.mono (fun _ _ e => e) fun a _ _ p => up_mono (Keeps.hp k₁) a p)

/-- an operation of two values -/
theorem ev_bin {op : Operator} {e₁ e₂ : Expr} {d₁ d₂ d : Dt} (h₁ : Ev w A env ρ e₁ d₁) (h₂ : Ev w A env ρ e₂ d₂)
    (h : ∀ (P : Addr → Prop) (s : Shared) (v₁ v₂ : Value) (Q E : Value → Shared → Prop), Base w s.heap → RdT P s.heap v₁ d₁ → RdT P s.heap v₂ d₂ → (∀ v s', Keeps s s' → RdT (Up P s.heap) s'.heap v d → Q v s') → wpAny (model pr w) A (binaryOp op v₁ v₂) Q E s) :
    Ev w A env ρ (.BinOp e₁ op e₂ pos) d := fun P s Q E ok hQ => wpAny_BinOp (ev_two ok h₁ h₂ fun v₁ v₂ s' k r₁ r₂ =>
      h (Up P s.heap) s' v₁ v₂ Q E (ok.base.keeps (Keeps.hp k)) r₁ r₂ fun v s'' k' r => hQ v s'' (Keeps.tr k k') (r.mono (fun _ _ e => e) fun a _ _ p => up_up (Keeps.hp k) a p))

theorem ev_add {e₁ e₂ : Expr} {a b : Int} (h₁ : Ev w A env ρ e₁ (.py (.int a))) (h₂ : Ev w A env ρ e₂ (.py (.int b))) : Ev w A env ρ (.BinOp e₁ .Add e₂ pos) (.py (.int (a + b))) :=
  ev_bin h₁ h₂ fun P s v₁ v₂ Q E _ r₁ r₂ hQ => by cases r₁ with | py r₁ => cases r₁; cases r₂ with | py r₂ => cases r₂; exact add_int (hQ _ _ (Keeps.tok _ _) (.py (.int _ _)))
theorem ev_sub {e₁ e₂ : Expr} {a b : Int} (h₁ : Ev w A env ρ e₁ (.py (.int a))) (h₂ : Ev w A env ρ e₂ (.py (.int b))) : Ev w A env ρ (.BinOp e₁ .Sub e₂ pos) (.py (.int (a - b))) :=
  ev_bin h₁ h₂ fun P s v₁ v₂ Q E _ r₁ r₂ hQ => by cases r₁ with | py r₁ => cases r₁; cases r₂ with | py r₂ => cases r₂; exact sub_int (hQ _ _ (Keeps.tok _ _) (.py (.int _ _)))
theorem ev_mul {e₁ e₂ : Expr} {a b : Int} (h₁ : Ev w A env ρ e₁ (.py (.int a))) (h₂ : Ev w A env ρ e₂ (.py (.int b))) (hm : IntMulOk a b) : Ev w A env ρ (.BinOp e₁ .Mult e₂ pos) (.py (.int (a * b))) :=
  ev_bin h₁ h₂ fun P s v₁ v₂ Q E _ r₁ r₂ hQ => by cases r₁ with | py r₁ => cases r₁; cases r₂ with | py r₂ => cases r₂; exact mul_int (hQ _ _ (Keeps.tok _ _) (.py (.int _ _))) hm
theorem ev_mod {e₁ e₂ : Expr} {a b : Int} (h₁ : Ev w A env ρ e₁ (.py (.int a))) (h₂ : Ev w A env ρ e₂ (.py (.int b))) (hb : b ≠ 0) : Ev w A env ρ (.BinOp e₁ .Mod e₂ pos) (.py (.int (a.fmod b))) :=
  ev_bin h₁ h₂ fun P s v₁ v₂ Q E _ r₁ r₂ hQ => by cases r₁ with | py r₁ => cases r₁; cases r₂ with | py r₂ => cases r₂; exact mod_int hb (hQ _ _ (Keeps.tok _ _) (.py (.int _ _)))
theorem ev_pow {e₁ e₂ : Expr} {a b : Int} (h₁ : Ev w A env ρ e₁ (.py (.int a))) (h₂ : Ev w A env ρ e₂ (.py (.int b))) (hn : 0 ≤ b) (hsz : (Builtin.Int.intBits a : Int) * b ≤ 2 ^ 27) : Ev w A env ρ (.BinOp e₁ .Pow e₂ pos) (.py (.int (a ^ b.toNat))) :=
  ev_bin h₁ h₂ fun P s v₁ v₂ Q E _ r₁ r₂ hQ => by cases r₁ with | py r₁ => cases r₁; cases r₂ with | py r₂ => cases r₂; exact pow_int hn hsz (hQ _ _ (Keeps.tok _ _) (.py (.int _ _)))
theorem ev_lshift {e₁ e₂ : Expr} {a b : Int} (h₁ : Ev w A env ρ e₁ (.py (.int a))) (h₂ : Ev w A env ρ e₂ (.py (.int b))) (hn : 0 ≤ b) (hn2 : b ≤ 1000000) (ha : a.natAbs < 2 ^ 64) : Ev w A env ρ (.BinOp e₁ .LShift e₂ pos) (.py (.int (a * 2 ^ b.toNat))) :=
  ev_bin h₁ h₂ fun P s v₁ v₂ Q E _ r₁ r₂ hQ => by cases r₁ with | py r₁ => cases r₁; cases r₂ with | py r₂ => cases r₂; exact lshift_int_small hn hn2 ha (hQ _ _ (Keeps.tok _ _) (.py (.int _ _)))
theorem ev_and {e₁ e₂ : Expr} {a b : Int} (h₁ : Ev w A env ρ e₁ (.py (.int a))) (h₂ : Ev w A env ρ e₂ (.py (.int b))) : Ev w A env ρ (.BinOp e₁ .BitAnd e₂ pos) (.py (.int (Builtin.bitAnd a b))) :=
  ev_bin h₁ h₂ fun P s v₁ v₂ Q E _ r₁ r₂ hQ => by cases r₁ with | py r₁ => cases r₁; cases r₂ with | py r₂ => cases r₂; exact and_int (hQ _ _ (Keeps.tok _ _) (.py (.int _ _)))
theorem ev_xor {e₁ e₂ : Expr} {a b : Int} (h₁ : Ev w A env ρ e₁ (.py (.int a))) (h₂ : Ev w A env ρ e₂ (.py (.int b))) : Ev w A env ρ (.BinOp e₁ .BitXor e₂ pos) (.py (.int (Builtin.bitXor a b))) :=
  ev_bin h₁ h₂ fun P s v₁ v₂ Q E _ r₁ r₂ hQ => by cases r₁ with | py r₁ => cases r₁; cases r₂ with | py r₂ => cases r₂; exact xor_int (hQ _ _ (Keeps.tok _ _) (.py (.int _ _)))
theorem ev_div {e₁ e₂ : Expr} {a b : Int} (h₁ : Ev w A env ρ e₁ (.py (.int a))) (h₂ : Ev w A env ρ e₂ (.py (.int b))) (hb : b ≠ 0) (hs : b.natAbs.log2 < 9000) : Ev w A env ρ (.BinOp e₁ .FloorDiv e₂ pos) (.py (.int (a.fdiv b))) :=
  ev_bin h₁ h₂ fun P s v₁ v₂ Q E B r₁ r₂ hQ => by
    cases r₁ with | py r₁ => cases r₁; cases r₂ with | py r₂ => cases r₂; exact floordiv_int hb (hQ _ _ (Keeps.tok _ _) (.py (.int _ _))) (.inl (PyProof.noPylong_of_log2 hs))
theorem ev_cat {e₁ e₂ : Expr} {a b : Str} (h₁ : Ev w A env ρ e₁ (.py (.str a))) (h₂ : Ev w A env ρ e₂ (.py (.str b))) (hsz : a.length + b.length ≤ sizeLine) : Ev w A env ρ (.BinOp e₁ .Add e₂ pos) (.py (.str (a ++ b))) :=
  ev_bin h₁ h₂ fun P s v₁ v₂ Q E _ r₁ r₂ hQ => by cases r₁ with | py r₁ => cases r₁; cases r₂ with | py r₂ => cases r₂; exact add_str (fun _ _ => hQ _ _ (Keeps.tok _ _) (.py (.str _ _))) hsz
end
end Mine

open PySem PySem.W PyProof.Rows PySem.Calls
set_option Elab.async false
set_option maxRecDepth 100000
namespace Mine

theorem keepsPush (h : Heap) (o : Obj) : KeepsH h (h.push o) := fun _ _ e => Heap.get?_push_of_some _ e
theorem fresh_size (h : Heap) : h.get? h.objs.size = none := by
  cases e : h.get? h.objs.size with
  | none => rfl
  | some o => exact absurd (Heap.lt_size e) (Nat.lt_irrefl _)
theorem fresh_le {h : Heap} {a : Addr} (ha : h.objs.size ≤ a) : h.get? a = none := by
  cases e : h.get? a with
  | none => rfl
  | some o => exact absurd (Heap.lt_size e) (Nat.not_lt.mpr ha)

theorem RdT.up {P : Addr → Prop} {h : Heap} {v d} (r : RdT P h v d) {g : Heap} : RdT (Up P g) h v d := r.mono (fun _ _ e => e) fun _ _ _ p => .inl p
theorem RdAll.up {P : Addr → Prop} {h : Heap} {v d} (r : RdAll P h v d) {g : Heap} : RdAll (Up P g) h v d := r.mono (fun _ _ e => e) fun _ _ _ p => .inl p

theorem RdAll.pick {P : Addr → Prop} {h : Heap} {vs : List Value} {ds : List PyData} (r : RdAll P h vs ds) : ∀ is : List Nat, RdAll P h (is.filterMap (vs[·]?)) (is.filterMap (ds[·]?))
  | [] => .nil
  | i :: is => by
    have ih := RdAll.pick r is
    have hl := r.length
    cases e : ds[i]? with
    | none =>
      have : vs[i]? = none := by
        rw [List.getElem?_eq_none_iff] at e ⊢; omega
      simpa [List.filterMap_cons, e, this] using ih
    | some d =>
      obtain ⟨v, h1, h2⟩ := r.get i d e
      simpa [List.filterMap_cons, e, h1] using RdAll.cons h2 ih

noncomputable def pickD (ds : List PyData) (lo hi st : Option Int) : List PyData :=
  (sliceRange (sliceBounds lo hi st ds.length).1 (sliceBounds lo hi st ds.length).2.1 (sliceBounds lo hi st ds.length).2.2).filterMap (ds[·]?)
theorem RdAll.slice {P : Addr → Prop} {h : Heap} {vs : List Value} {ds : List PyData} (r : RdAll P h vs ds) (lo hi st : Option Int) : RdAll P h (slicePick vs.toArray lo hi st).toList (pickD ds lo hi st) := by
  have := r.pick (sliceRange (sliceBounds lo hi st ds.length).1 (sliceBounds lo hi st ds.length).2.1 (sliceBounds lo hi st ds.length).2.2)
  unfold slicePick pickD
  simpa [r.length] using this

section
variable {w : World} {A : Around} {env : Env} {ρ : List (Str × Dt)} {pos : Pos}

theorem cat_lists {s : Shared} {E Q : Value → Shared → Prop} {l b : Addr} {vs ws : List Value} {n n2 : Nat} (h1 : s.heap.get? l = some (lob vs n)) (h2 : s.heap.get? b = some (lob ws n2))
    (h : Q (.ref s.heap.objs.size) { s with heap := s.heap.push (lob (vs ++ ws) 0) }) (hsz : vs.length + ws.length ≤ sizeLine) : wpAny (model pr w) A (binaryOp .Add (.ref l) (.ref b)) Q E s := by
  refine concat_meets ⟨_, h1, rfl⟩ ⟨_, h2, rfl⟩ noFill_list_add seq_list_add PySem.F.slot_list_add PySem.F.entry_list_add (PySem.F.args_list_add_2 _ _) (list_addW l b vs.toArray ws.toArray n n2 none none #[] #[] (by simpa using hsz)) ⟨h1, h2, ?_⟩
  have e : vs.toArray ++ ws.toArray = (vs ++ ws).toArray := by simp
  rw [e]
  exact h

theorem rd_newList {P : Addr → Prop} {h : Heap} {vs : List Value} {ds : List PyData} (r : RdAll P h vs ds) : RdT (Up P h) (h.push (lob vs 0)) (.ref h.objs.size) (.py (.list ds)) :=
  .py (.list (.inr (fresh_size h)) (Heap.get?_push_size _ rfl) (r.mono (keepsPush h _) fun _ _ _ p => .inl p))

theorem ev_catl {e₁ e₂ : Expr} {a b : List PyData} (h₁ : Ev w A env ρ e₁ (.py (.list a))) (h₂ : Ev w A env ρ e₂ (.py (.list b))) (hsz : a.length + b.length ≤ sizeLine) : Ev w A env ρ (.BinOp e₁ .Add e₂ pos) (.py (.list (a ++ b))) :=
  ev_bin h₁ h₂ fun P s v₁ v₂ Q E _ r₁ r₂ hQ => by
    cases r₁ with | py r₁ => cases r₁ with | list p1 g1 q1 => cases r₂ with | py r₂ => cases r₂ with | list p2 g2 q2 =>
      exact cat_lists g1 g2 (hQ _ _ (Keeps.mk' (keepsPush _ _)) (rd_newList (q1.append q2))) (by rw [q1.length, q2.length]; exact hsz)

/-- a comparison of two values -/
noncomputable def CmpR (w : World) (A : Around) (op : CmpOp) (d₁ d₂ : Dt) (b : Bool) : Prop :=
  ∀ (P : Addr → Prop) (s : Shared) (v₁ v₂ : Value) (Q E : Value → Shared → Prop), RdT P s.heap v₁ d₁ → RdT P s.heap v₂ d₂ → (∀ s', Keeps s s' → Q (.bool b) s') → wpAny (model pr w) A (compareOp op v₁ v₂) Q E s

theorem ev_cmp {op : CmpOp} {e₁ e₂ : Expr} {d₁ d₂ : Dt} {b : Bool} (h₁ : Ev w A env ρ e₁ d₁) (h₂ : Ev w A env ρ e₂ d₂) (h : CmpR w A op d₁ d₂ b) (hm : behindInMarks op e₂ = false := by with_unfolding_all rfl) :
    Ev w A env ρ (.Compare e₁ [op] [e₂] pos) (.py (.bool b)) := fun P s Q E ok hQ => wpAny_Compare1 (ev_two ok h₁ h₂ fun v₁ v₂ s' k r₁ r₂ =>
      h (Up P s.heap) s' v₁ v₂ Q E r₁ r₂ fun s'' k' => hQ _ s'' (Keeps.tr k k') (.py (.bool _))) hm
theorem tv_cmp {op : CmpOp} {e₁ e₂ : Expr} {d₁ d₂ : Dt} {b : Bool} (h₁ : Ev w A env ρ e₁ d₁) (h₂ : Ev w A env ρ e₂ d₂) (h : CmpR w A op d₁ d₂ b) (hm : behindInMarks op e₂ = false := by with_unfolding_all rfl) :
    Tv w A env ρ (.Compare e₁ [op] [e₂] pos) b := fun P s Q E ok hQ => wpAny_isTrue_Compare1 (ev_two ok h₁ h₂ fun v₁ v₂ s' k r₁ r₂ =>
      h (Up P s.heap) s' v₁ v₂ _ E r₁ r₂ fun s'' k' => wpAny_truthy_bool (hQ s'' (Keeps.tr k k'))) hm

theorem cmp_eq {k : Nat} (R : Room A k) {a b : PyData} (ha : a.canLay0 = true) (hb : b.canLay0 = true) (hd : min a.depth b.depth ≤ 100) : CmpR w A .Eq (.py a) (.py b) (PyData.eqv a b) := by
  intro P s v₁ v₂ Q E r₁ r₂ hQ
  cases r₁ with | py r₁ => cases r₂ with | py r₂ =>
    obtain ⟨_, q1⟩ := r₁.reads; obtain ⟨_, q2⟩ := r₂.reads
    exact PySem.SeqAt.compareEq_reads q1 q2 ha hb (by have := R.units; omega) (hQ _ (Keeps.rf _))
theorem cmp_ne {k : Nat} (R : Room A k) {a b : PyData} (ha : a.canLay0 = true) (hb : b.canLay0 = true) (hd : min a.depth b.depth ≤ 100) : CmpR w A .NotEq (.py a) (.py b) (!PyData.eqv a b) := by
  intro P s v₁ v₂ Q E r₁ r₂ hQ
  cases r₁ with | py r₁ => cases r₂ with | py r₂ =>
    obtain ⟨_, q1⟩ := r₁.reads; obtain ⟨_, q2⟩ := r₂.reads
    exact PySem.SeqAt.compareNe_reads q1 q2 ha hb (by have := R.units; omega) (hQ _ (Keeps.rf _))
theorem cmp_inl {k : Nat} (R : Room A k) {a : PyData} {xs : List PyData} (ha : a.canLay0 = true) (hb : PyData.canLayAll0 xs = true) (hd : min (PyData.depthAll xs) a.depth ≤ 100) : CmpR w A .In (.py a) (.py (.list xs)) (xs.any fun y => PyData.eqv y a) := by
  intro P s v₁ v₂ Q E r₁ r₂ hQ
  cases r₁ with | py r₁ => cases r₂ with | py r₂ =>
    obtain ⟨_, q1⟩ := r₁.reads; obtain ⟨_, q2⟩ := r₂.reads
    exact PySem.SeqAt.in_list_reads q2 q1 hb ha (by have := R.units; omega) (hQ _ (Keeps.rf _))
theorem cmp_eqi {a b : Int} : CmpR w A .Eq (.py (.int a)) (.py (.int b)) (a == b) := by
  intro P s v₁ v₂ Q E r₁ r₂ hQ
  cases r₁ with | py r₁ => cases r₁; cases r₂ with | py r₂ => cases r₂; exact eq_int (hQ _ (Keeps.rf _))
theorem cmp_nei {a b : Int} : CmpR w A .NotEq (.py (.int a)) (.py (.int b)) (a != b) := by
  intro P s v₁ v₂ Q E r₁ r₂ hQ
  cases r₁ with | py r₁ => cases r₁; cases r₂ with | py r₂ => cases r₂; exact ne_int (hQ _ (Keeps.rf _))
theorem cmp_lti {a b : Int} : CmpR w A .Lt (.py (.int a)) (.py (.int b)) (decide (a < b)) := by
  intro P s v₁ v₂ Q E r₁ r₂ hQ
  cases r₁ with | py r₁ => cases r₁; cases r₂ with | py r₂ => cases r₂; exact lt_int (hQ _ (Keeps.rf _))
theorem cmp_gti {a b : Int} : CmpR w A .Gt (.py (.int a)) (.py (.int b)) (decide (b < a)) := by
  intro P s v₁ v₂ Q E r₁ r₂ hQ
  cases r₁ with | py r₁ => cases r₁; cases r₂ with | py r₂ => cases r₂; exact gt_int (hQ _ (Keeps.rf _))
theorem cmp_gei {a b : Int} : CmpR w A .GtE (.py (.int a)) (.py (.int b)) (decide (b ≤ a)) := by
  intro P s v₁ v₂ Q E r₁ r₂ hQ
  cases r₁ with | py r₁ => cases r₁; cases r₂ with | py r₂ => cases r₂; exact ge_int (hQ _ (Keeps.rf _))
theorem cmp_eqs {a b : Str} : CmpR w A .Eq (.py (.str a)) (.py (.str b)) (a == b) := by
  intro P s v₁ v₂ Q E r₁ r₂ hQ
  cases r₁ with | py r₁ => cases r₁; cases r₂ with | py r₂ => cases r₂; exact eq_str (hQ _ (Keeps.rf _))
theorem cmp_isnotb {a b : Bool} : CmpR w A .IsNot (.py (.bool a)) (.py (.bool b)) (!(a == b)) := by
  intro P s v₁ v₂ Q E r₁ r₂ hQ
  cases r₁ with | py r₁ => cases r₁; cases r₂ with | py r₂ => cases r₂; exact wpAny_isNot_plain (by rfl) (by have := hQ s (Keeps.rf _); cases a <;> cases b <;> exact this)
theorem cmp_notins {a b : Str} : CmpR w A .NotIn (.py (.str a)) (.py (.str b)) (Builtin.Str.occurrences b a 0 b.length 1).isEmpty := by
  intro P s v₁ v₂ Q E r₁ r₂ hQ
  cases r₁ with | py r₁ => cases r₁; cases r₂ with | py r₂ => cases r₂; exact notIn_str (by simpa using hQ s (Keeps.rf _))

/-- truth of data -/
noncomputable def tru : PyData → Bool
  | .none => false
  | .bool b => b
  | .int i => i != 0
  | .str x => (x.length : Int) != 0
  | .list ds => !ds.isEmpty
  | .tuple ds => !ds.isEmpty
  | .dict _ => false
noncomputable def smallD : PyData → Prop
  | .str x => (x.length : Int) < 2 ^ 63
  | .list ds => (ds.length : Int) < 2 ^ 63
  | .tuple _ => False
  | .dict _ => False
  | _ => True
theorem truthy_d {P : Addr → Prop} {s : Shared} {v : Value} {d : PyData} {Q : Bool → Shared → Prop} {E : Value → Shared → Prop} (r : Rd P s.heap v d) (hs : smallD d) (h : ∀ s', Keeps s s' → Q (tru d) s') : wpAny (model pr w) A (truthy v) Q E s := by
  cases r with
  | none => exact PyProof.Rows.truthy_none (h _ (Keeps.rf _))
  | bool b => exact wpAny_truthy_bool (h _ (Keeps.rf _))
  | int i t => exact PyProof.Rows.truthy_int (h _ (Keeps.rf _))
  | str x t => exact PySem.P.truthy_str (by have : (x.length : Int) < 2 ^ 63 := hs; omega) (h _ (Keeps.tok _ _))
  | list p g q =>
    have hl := q.length
    refine wpAny_truthy_list (items := _) ⟨_, g, rfl, _, rfl⟩ (by have : (_ : Int) < 2 ^ 63 := hs; simpa [hl] using this) ?_
    have := h _ (Keeps.tok s (s.toks + 1 + 1))
    cases q <;> simpa [tru] using this
  | tuple g q => exact hs.elim

theorem tv_plain {e : Expr} {d : PyData} (h : Ev w A env ρ e (.py d)) (hs : smallD d) (he : ∀ whole, isTrue e env whole = (do let v ← whole; standAt e.pos; holding [v] (truthy v)) := by intro _; rfl) : Tv w A env ρ e (tru d) :=
  fun P s Q E ok hQ => isTrue_plain (h P s _ _ ok fun v s' k r => by cases r with | py r => exact truthy_d r hs fun s'' k' => hQ s'' (Keeps.tr k k')) (he _)
theorem tv_not {e : Expr} {b : Bool} (h : Tv w A env ρ e b) : Tv w A env ρ (.UnaryOp .Not e pos) (!b) := fun P s Q E ok hQ => isTrue_not (h P s _ _ ok fun s' k => hQ s' k)
theorem tv_and_nil : Tv w A env ρ (.BoolOp .And [] pos) true := fun P s Q E ok hQ => isTrue_and_nil (hQ _ (Keeps.rf _))
theorem tv_or_nil : Tv w A env ρ (.BoolOp .Or [] pos) false := fun P s Q E ok hQ => isTrue_or_nil (hQ _ (Keeps.rf _))
theorem tv_of_whole {e : Expr} {b : Bool} {t : Sem Value} (he : isTrue e env t = isTrue e env (eval e env)) {P : Addr → Prop} {s : Shared} {Q : Bool → Shared → Prop} {E : Value → Shared → Prop} (h : Tv w A env ρ e b)
    (ok : Ok w A P env ρ s.heap) (hQ : ∀ s', Keeps s s' → Q b s') : wpAny (model pr w) A (isTrue e env t) Q E s := by rw [he]; exact h P s Q E ok hQ
theorem tv_and {e : Expr} {r : List Expr} {a b : Bool} (h : Tv w A env ρ e a) (h' : a = true → Tv w A env ρ (.BoolOp .And r pos) b) (hr : ∀ t t', isTrue (.BoolOp .And r pos) env t = isTrue (.BoolOp .And r pos) env t' := by intro _ _; rfl) : Tv w A env ρ (.BoolOp .And (e :: r) pos) (a && b) :=
  fun P s Q E ok hQ => isTrue_and (h P s _ _ ok fun s' k => by
    cases a with
    | true => exact tv_of_whole (hr _ _) (h' rfl) (ok.keeps (Keeps.hp k)) fun s'' k' => hQ s'' (Keeps.tr k k')
    | false => exact hQ s' k)
theorem tv_or {e : Expr} {r : List Expr} {a b : Bool} (h : Tv w A env ρ e a) (h' : a = false → Tv w A env ρ (.BoolOp .Or r pos) b) (hr : ∀ t t', isTrue (.BoolOp .Or r pos) env t = isTrue (.BoolOp .Or r pos) env t' := by intro _ _; rfl) : Tv w A env ρ (.BoolOp .Or (e :: r) pos) (a || b) :=
  fun P s Q E ok hQ => isTrue_or (h P s _ _ ok fun s' k => by
    cases a with
    | false => exact tv_of_whole (hr _ _) (h' rfl) (ok.keeps (Keeps.hp k)) fun s'' k' => hQ s'' (Keeps.tr k k')
    | true => exact hQ s' k)
theorem ev_ifexp {t e₁ e₂ : Expr} {b : Bool} {d : Dt} (h : Tv w A env ρ t b) (h₁ : b = true → Ev w A env ρ e₁ d) (h₂ : b = false → Ev w A env ρ e₂ d) : Ev w A env ρ (.IfExp t e₁ e₂ pos) d :=
  fun P s Q E ok hQ => wpAny_IfExp (h P s _ _ ok fun s' k => by
    cases b with
    | true => exact h₁ rfl P s' Q E (ok.keeps (Keeps.hp k)) fun v s'' k' r => hQ v s'' (Keeps.tr k k') (r.mono (fun _ _ e => e) fun a _ _ p => up_mono (Keeps.hp k) a p)
    | false => exact h₂ rfl P s' Q E (ok.keeps (Keeps.hp k)) fun v s'' k' r => hQ v s'' (Keeps.tr k k') (r.mono (fun _ _ e => e) fun a _ _ p => up_mono (Keeps.hp k) a p))

/-- several expressions, one behind the other -/
noncomputable def Evs (w : World) (A : Around) (env : Env) (ρ : List (Str × Dt)) (es : List Expr) (ds : List Dt) : Prop :=
  ∀ (P : Addr → Prop) (s : Shared) (Q : List Value → Shared → Prop) (E : Value → Shared → Prop), Ok w A P env ρ s.heap →
    (∀ vs s', Keeps s s' → RdTs (Up P s.heap) s'.heap vs ds → Q vs s') → wpAny (model pr w) A (spliced (starEach es env)) Q E s
theorem evs_nil : Evs w A env ρ [] [] := fun P s Q E ok hQ => Calls.spliced_nil (hQ _ _ (Keeps.rf _) .nil)
theorem evs_cons {e : Expr} {es : List Expr} {d : Dt} {ds : List Dt} (h : Ev w A env ρ e d) (hs : Evs w A env ρ es ds) (he : starEach (e :: es) env = (false, eval e env) :: starEach es env := by rfl) : Evs w A env ρ (e :: es) (d :: ds) := by
  intro P s Q E ok hQ
  rw [he]
  exact Calls.spliced_cons (h P s _ _ ok fun v s₁ k₁ r₁ => hs P s₁ _ _ (ok.keeps (Keeps.hp k₁)) fun vs s₂ k₂ r₂ =>
    hQ _ s₂ (Keeps.tr k₁ k₂) (.cons (r₁.mono (Keeps.hp k₂) fun _ _ _ p => p) (r₂.mono (fun _ _ e => e) fun a _ _ p => up_mono (Keeps.hp k₁) a p)))

theorem RdTs.py {P : Addr → Prop} {h : Heap} : ∀ {vs : List Value} {ds : List PyData}, RdTs P h vs (ds.map .py) → RdAll P h vs ds
  | [], [], .nil => .nil
  | _ :: _, _ :: _, .cons (.py a) b => .cons a (RdTs.py b)

theorem ev_list {es : List Expr} {ds : List PyData} (h : Evs w A env ρ es (ds.map .py)) (hsz : ds.length ≤ sizeLine) (hb : backTo pos (starEach es env) = starEach es env := by rfl) : Ev w A env ρ (.List es pos) (.py (.list ds)) := by
  intro P s Q E ok hQ
  refine List_ ?_
  rw [hb]
  refine h P s _ _ ok fun vs s' k r => ?_
  have r' := RdTs.py r
  refine wpAny_newObj_type (hQ _ _ (Keeps.tr k (Keeps.mk' (keepsPush _ _))) ?_) (by show vs.toArray.size ≤ sizeLine; rw [List.size_toArray, r'.length]; exact hsz)
  exact (rd_newList r').mono (fun _ _ e => e) fun a _ _ p => up_up (Keeps.hp k) a p
theorem ev_tuple {es : List Expr} {n : Nat} {ds : List PyData} (h : Evs w A env ρ es (ds.map .py)) (hsz : ds.length ≤ sizeLine) (hb : backTo pos (starEach es env) = starEach es env := by rfl) : Ev w A env ρ (.Tuple es n pos) (.py (.tuple ds)) := by
  intro P s Q E ok hQ
  refine Tuple_ ?_
  rw [hb]
  refine h P s _ _ ok fun vs s' k r => ?_
  have r' := RdTs.py r
  refine wpAny_newObj_type (hQ _ _ (Keeps.tr k (Keeps.mk' (keepsPush _ _))) ?_) (by show vs.toArray.size ≤ sizeLine; rw [List.size_toArray, r'.length]; exact hsz)
  exact .py (.tuple (Heap.get?_push_size _ rfl) (r'.mono (keepsPush _ _) fun _ _ _ p => p))

theorem ev_item {e i : Expr} {ds : List PyData} {k : Int} {d : PyData} (h : Ev w A env ρ e (.py (.list ds))) (hi : Ev w A env ρ i (.py (.int k))) (h0 : 0 ≤ k) (h1 : k < 2 ^ 63) (hx : ds[k.toNat]? = some d)
    (hs : ∀ a k u, ∃ ops, subscripted i false (.ref a) (.int k u) = operate ops (getItem (.ref a) (.int k u)) := by intro _ _ _; exact ⟨_, by with_unfolding_all rfl⟩) : Ev w A env ρ (.Subscript e i pos) (.py d) := by
  intro P s Q E ok hQ
  refine Subscript_ (ev_two ok h hi fun v₁ v₂ s' k' r₁ r₂ => ?_)
  cases r₁ with | py r₁ => cases r₁ with | list p g q => cases r₂ with | py r₂ => cases r₂ with | int _ t =>
    obtain ⟨x, hx1, hx2⟩ := q.get _ _ hx
    obtain ⟨ops, e⟩ := hs _ k t
    exact tail_any (T := "list") ⟨_, g, rfl⟩ slot_list_getitem.lookup (wpAny_getItem_list ⟨_, g, rfl, _, rfl⟩ h0 h1 (by simpa using hx1) (hQ _ _ k' (.py hx2))) e

/-- a slice's part -/
noncomputable def EvPart (w : World) (A : Around) (env : Env) (ρ : List (Str × Dt)) : Option Expr → Option Int → Prop
  | none, none => True
  | some e, some k => Ev w A env ρ e (.py (.int k))
  | _, _ => False
theorem evpart {o : Option Expr} {k : Option Int} (h : EvPart w A env ρ o k) {P : Addr → Prop} {s : Shared} {Q E : Value → Shared → Prop} (ok : Ok w A P env ρ s.heap) (hQ : ∀ v s', Keeps s s' → IsPart v k → Q v s') : wpAny (model pr w) A (evalPart o env) Q E s := by
  cases o with
  | none => cases k with
    | none => exact wpAny_pure (hQ _ _ (Keeps.rf _) .none)
    | some k => exact h.elim
  | some e => cases k with
    | none => exact h.elim
    | some k => exact h P s Q E ok fun v s' k' r => by cases r with | py r => cases r; exact hQ _ _ k' (.int _ _)

theorem ev_slice {e : Expr} {l u st : Option Expr} {p : Pos} {ds : List PyData} {kl ku ks : Option Int} (h : Ev w A env ρ e (.py (.list ds))) (hl : EvPart w A env ρ l kl) (hu : EvPart w A env ρ u ku) (hst : EvPart w A env ρ st ks) (h0 : ks ≠ some 0)
    (hsz : ds.length ≤ sizeLine)
    (hs : ∀ a k, ∃ ops, subscripted (.Slice l u st p) false (.ref a) (.ref k) = operate ops (getItem (.ref a) (.ref k)) := by intro _ _; exact ⟨_, by with_unfolding_all rfl⟩) : Ev w A env ρ (.Subscript e (.Slice l u st p) pos) (.py (.list (pickD ds kl ku ks))) := by
  intro P s Q E ok hQ
  refine Subscript_ (h P s _ _ ok fun v s₁ k₁ r => ?_)
  have ok₁ := ok.keeps (Keeps.hp k₁)
  refine wpAny_Slice (evpart hl ok₁ fun vl s₂ k₂ pl => evpart hu (ok₁.keeps (Keeps.hp k₂)) fun vu s₃ k₃ pu => evpart hst ((ok₁.keeps (Keeps.hp k₂)).keeps (Keeps.hp k₃)) fun vs s₄ k₄ ps => ?_)
  have k' : Keeps s₁ s₄ := Keeps.tr (Keeps.tr k₂ k₃) k₄
  cases r with | py r => cases r with | list pa g q =>
    have kp := keepsPush s₄.heap { cls := .type "slice", data := .fields #[vl, vu, vs] }
    have g' := kp _ _ (Keeps.hp k' _ _ g)
    obtain ⟨ops, e⟩ := hs _ _
    refine tail_any (T := "list") ⟨_, g', rfl⟩ slot_list_getitem.lookup (wpAny_getItem_list_slice ⟨_, g', rfl, _, rfl⟩ (Heap.IsSliceOf.new ..) pl pu ps h0 (hQ _ _ ?_ ?_) (by rw [List.size_toArray, q.length]; exact hsz)) e
    · exact Keeps.tr k₁ (Keeps.tr k' (Keeps.tr (Keeps.mk' (t := s₄.toks) kp) (Keeps.mk' (keepsPush _ _))))
    · have q' := (q.mono (Keeps.hp k') fun _ _ _ p => p).slice kl ku ks
      have q'' := q'.mono kp (fun _ _ _ p => p)
      have := rd_newList q''
      refine this.mono (fun _ _ e => e) fun a _ _ p => ?_
      exact up_up (Keeps.hp k₁) a (by
        rcases p with p | p
        · exact .inl p
        · exact .inr (by
            cases e : s₁.heap.get? a with
            | none => rfl
            | some o => have := kp _ _ (Keeps.hp k' _ _ e); rw [p] at this; cases this))
end
end Mine

open PySem PySem.W PyProof.Rows PySem.Calls
set_option Elab.async false
set_option maxRecDepth 100000
namespace Mine

section
variable {w : World} {A : Around} {env : Env} {ρ : List (Str × Dt)} {pos : Pos}

theorem gname {x : Str} {v : Value} {P : Addr → Prop} {s : Shared} {Q E : Value → Shared → Prop} (ok : Ok w A P env ρ s.heap) (hk : env.kindOf x = some .globalImplicit) (e : nsIn (hd0.heap_1 w.params) mainGlobals x = some (some v)) (h : Q v s)
    (hd : (x == ("__debug__" : Str)) = false := by decide) : wpAny (model pr w) A (eval (.Name x pos) env) Q E s := by
  obtain ⟨_, mg, mb, T⟩ := ok.base.T
  exact Name_function_global ok.fn hk (loadGlobal_global (mg := mg) (by rw [ok.gl]; exact T.g) (mg_of ok.base.K T.g e) h) hd
theorem bname {x : Str} {v : Value} {P : Addr → Prop} {s : Shared} {Q E : Value → Shared → Prop} (ok : Ok w A P env ρ s.heap) (hk : env.kindOf x = some .globalImplicit) (e : nsIn (hd0.heap_1 w.params) mainGlobals x = some none) (hv : bootBuiltins x = some v) (h : Q v s)
    (hn : x ≠ "__name__" := by decide) (hd : (x == ("__debug__" : Str)) = false := by decide) : wpAny (model pr w) A (eval (.Name x pos) env) Q E s := by
  obtain ⟨_, mg, mb, T⟩ := ok.base.T
  exact Name_function_global ok.fn hk (loadGlobal_builtin (mg := mg) (mb := mb) (by rw [ok.gl]; exact T.g) (mg_none_of ok.base.K T.g e) (by rw [ok.bu]; exact T.b) ((T.builtins x hn).trans hv) h) hd

/-- something to go through: its items read as ds -/
noncomputable def Src (w : World) (A : Around) (env : Env) (ρ : List (Str × Dt)) (e : Expr) (ds : List PyData) : Prop :=
  ∀ (P : Addr → Prop) (s : Shared) (Q E : Value → Shared → Prop), Ok w A P env ρ s.heap →
    (∀ (I : Addr) (fp : List Addr) (Pv : Nat → Value → Prop) (St : Nat → Heap → Prop) (s₂ : Shared), Keeps s s₂ → Walks pr w A I fp [I] ds.length Pv St → St 0 s₂.heap → s.heap.get? I = none → (∀ b ∈ fp, Up P s.heap b ∧ ∃ o, s₂.heap.get? b = some o) →
      (∀ i h, St i h → ∃ o vs, h.get? I = some o ∧ o.data = .fields vs) →
      (∀ i v, Pv i v → ∃ d, ds[i]? = some d ∧ Rd (Up P s.heap) s₂.heap v d) → (∀ i h o, St i h → h.get? I = some o → o.cls = .type "list_iterator" ∨ o.cls = .type "range_iterator") → Q (.ref I) s₂) →
    wpAny (model pr w) A (eval e env) (fun x s₁ => wpAny (model pr w) A (pyIter x) Q E s₁) E s

theorem src_list {e : Expr} {ds : List PyData} (hh : A.handled = none) (h : Ev w A env ρ e (.py (.list ds))) : Src w A env ρ e ds := by
  intro P s Q E ok hQ
  refine h P s _ _ ok fun v s₁ k₁ r => ?_
  cases r with | py r => cases r with | list pa g q =>
    rename_i a vs n
    refine wpAny_pyIter_list ⟨_, g, rfl, _, rfl⟩ ?_
    have hne : a ≠ s₁.heap.objs.size := Nat.ne_of_lt (Heap.lt_size g)
    have W := Walks.list (prog := pr) (w := w) hh s₁.heap.objs.size a hne vs.toArray
    rw [show vs.toArray.size = ds.length from by rw [List.size_toArray, q.length]] at W
    refine hQ _ _ _ _ _ (Keeps.tr k₁ (Keeps.mk' (keepsPush _ _))) W ⟨⟨_, Heap.get?_push_size _ rfl, rfl, rfl⟩, ⟨_, keepsPush _ _ _ _ g, rfl, _, rfl⟩⟩ ?_ ?_ ?_ ?_ ?_
    · cases e : s.heap.get? s₁.heap.objs.size with
      | none => rfl
      | some o => have := Keeps.hp k₁ _ _ e; rw [fresh_size] at this; cases this
    · intro b hb
      rcases List.mem_cons.mp hb with rfl | hb
      · exact ⟨.inr (by
          cases e : s.heap.get? s₁.heap.objs.size with
          | none => rfl
          | some o => have := Keeps.hp k₁ _ _ e; rw [fresh_size] at this; cases this), _, Heap.get?_push_size _ rfl⟩
      · rw [List.mem_singleton.mp hb]; exact ⟨pa, _, keepsPush _ _ _ _ g⟩
    · rintro i h' ⟨⟨o', e', _, hd⟩, _⟩
      exact ⟨o', _, e', hd⟩
    · intro i v hv
      have hv' : vs[i]? = some v := by simpa using hv
      have : i < ds.length := by rw [← q.length]; exact (List.getElem?_eq_some_iff.mp hv').1
      obtain ⟨v', h1, h2⟩ := q.get i ds[i] (by simp [this])
      rw [hv'] at h1; cases h1
      exact ⟨_, by simp [this], h2.mono (keepsPush _ _) fun _ _ _ p => p⟩
    · rintro i h' o ⟨⟨o', e', hc, _⟩, _⟩ e
      rw [e'] at e; cases e; exact .inl hc

theorem rangeSize_nat (a : Int) (n : Nat) : Builtin.Range.rangeSize a (a + n) 1 = n := by
  unfold Builtin.Range.rangeSize
  simp only [show (1 : Int) > 0 from by decide, if_true]
  split
  · rw [Int.ediv_one]; omega
  · omega
theorem small_nat {a : Int} {n : Nat} (h0 : -1000000 < a) (h1 : a < 1000000) (h2 : n < 1000000) : Builtin.Range.small a (a + n) 1 = true := by
  unfold Builtin.Range.small
  rw [rangeSize_nat]
  simp [Builtin.Range.rangeFitsLong]
  omega

theorem src_range_at {P : Addr → Prop} {s s₁ : Shared} {Q E : Value → Shared → Prop} (hh : A.handled = none) {r : Addr} {a : Int} {n : Nat} {t u v : Tok} (k₁ : Keeps s s₁) (hr : IsRange s₁.heap r a (a + n) 1 t u v) (h0 : -1000000 < a) (h1 : a < 1000000) (h2 : n < 1000000)
    (hQ : ∀ (I : Addr) (fp : List Addr) (Pv : Nat → Value → Prop) (St : Nat → Heap → Prop) (s₂ : Shared), Keeps s s₂ → Walks pr w A I fp [I] ((List.range n).map fun (i : Nat) => PyData.int (a + i)).length Pv St → St 0 s₂.heap → s.heap.get? I = none → (∀ b ∈ fp, Up P s.heap b ∧ ∃ o, s₂.heap.get? b = some o) →
      (∀ i h, St i h → ∃ o vs, h.get? I = some o ∧ o.data = .fields vs) →
      (∀ i v, Pv i v → ∃ d, ((List.range n).map fun (i : Nat) => PyData.int (a + i))[i]? = some d ∧ Rd (Up P s.heap) s₂.heap v d) → (∀ i h o, St i h → h.get? I = some o → o.cls = .type "list_iterator" ∨ o.cls = .type "range_iterator") → Q (.ref I) s₂) : wpAny (model pr w) A (pyIter (.ref r)) Q E s₁ := by
  refine wpAny_pyIter_range hr (small_nat h0 h1 h2) ?_
  have W := Walks.range (prog := pr) (w := w) hh s₁.heap.objs.size a 1 n
  refine hQ _ _ (fun i v => i < n ∧ ∃ t, v = .int (a + i * 1) t) _ _ (Keeps.tr k₁ (Keeps.mk' (keepsPush _ _))) ⟨W.sub, W.frame, ?_, ?_, W.self⟩ ?_ ?_ ?_ ?_ ?_ ?_
  · intro i s' Q' E' hi st hQ'
    have hi' : i < n := by simpa using hi
    exact W.item i s' Q' E' hi' st fun v h' tk hp => hQ' v h' tk ⟨hi', hp⟩
  · simpa using W.done
  · show IsRangeIter _ _ (a + ((0 : Nat) : Int) * 1) ((n : Int) - ((0 : Nat) : Int)) 1
    have e := Heap.get?_push_size s₁.heap (o := { cls := .type "range_iterator", data := .fields #[rawInt a, rawInt (Builtin.Range.rangeSize a (a + n) 1), rawInt 1] }) rfl
    rw [rangeSize_nat] at e ⊢
    simpa using e
  · cases e : s.heap.get? s₁.heap.objs.size with
    | none => rfl
    | some o => have := Keeps.hp k₁ _ _ e; rw [fresh_size] at this; cases this
  · intro b hb
    rw [List.mem_singleton.mp hb]
    exact ⟨.inr (by
      cases e : s.heap.get? s₁.heap.objs.size with
      | none => rfl
      | some o => have := Keeps.hp k₁ _ _ e; rw [fresh_size] at this; cases this), _, Heap.get?_push_size _ rfl⟩
  · intro i h st
    exact ⟨_, _, st, rfl⟩
  · rintro i v ⟨hi, t, rfl⟩
    refine ⟨.int (a + i), by simp [hi], ?_⟩
    rw [Int.mul_one]
    exact .int _ _
  · intro i h o st e
    have st' := st
    unfold IsRangeIter at st'
    rw [st'] at e; cases e; exact .inr rfl

theorem src_range1 {e : Expr} {p : Pos} {n : Nat} (hh : A.handled = none) (h : Ev w A env ρ e (.py (.int n))) (h2 : n < 1000000) (hk : env.kindOf (Str.ofString "range") = some .globalImplicit := by rfl)
    (hs : starEach [e] env = [(false, eval e env)] := by rfl) (hn : ∀ P, nsIn (hd0.heap_1 P) mainGlobals (Str.ofString "range") = some none := by intro _; kernel_rfl) :
    Src w A env ρ (.Call (.Name (Str.ofString "range") p) [e] [] pos) ((List.range n).map fun (i : Nat) => PyData.int i) := by
  intro P s Q E ok hQ
  refine PyProof.Rows.Call_Name1 (bname ok hk (hn _) PyProof.Rows.boot_range ?_) hs
  refine PySem.callWith_type1 (h P s _ _ ok fun v s₁ k₁ r => ?_)
  cases r with | py r => cases r with | int _ t =>
    refine call_range_1 ?_
    have k₂ : Keeps s { s₁ with heap := s₁.heap.push { cls := .type "range", data := .fields #[.int 0 s₁.toks, .int n t, .int 1 (s₁.toks + 1)] }, toks := s₁.toks + 1 + 1 } := Keeps.tr k₁ (Keeps.mk' (keepsPush _ _))
    refine src_range_at (a := 0) (n := n) (P := P) hh k₂ (by simpa using Heap.get?_push_size s₁.heap (o := { cls := .type "range", data := .fields #[.int 0 s₁.toks, .int n t, .int 1 (s₁.toks + 1)] }) rfl) (by decide) (by decide) h2 ?_
    simpa using hQ
theorem src_range2 {e₁ e₂ : Expr} {p : Pos} {a : Int} {n : Nat} (hh : A.handled = none) (h₁ : Ev w A env ρ e₁ (.py (.int a))) (h₂ : Ev w A env ρ e₂ (.py (.int (a + n)))) (h0 : -1000000 < a) (h1 : a < 1000000) (h2 : n < 1000000) (hk : env.kindOf (Str.ofString "range") = some .globalImplicit := by rfl)
    (hs : starEach [e₁, e₂] env = [(false, eval e₁ env), (false, eval e₂ env)] := by rfl) (hn : ∀ P, nsIn (hd0.heap_1 P) mainGlobals (Str.ofString "range") = some none := by intro _; kernel_rfl) :
    Src w A env ρ (.Call (.Name (Str.ofString "range") p) [e₁, e₂] [] pos) ((List.range n).map fun (i : Nat) => PyData.int (a + i)) := by
  intro P s Q E ok hQ
  refine PyProof.Rows.Call_Name2 (bname ok hk (hn _) PyProof.Rows.boot_range ?_) hs
  refine PyProof.Rows.callWith_type rfl (Calls.evalArgs_plain (Calls.spliced_cons (wpAny_mono (ev_two ok h₁ h₂ (K := fun v₁ v₂ s' => wpAny (model pr w) A (call (.type "range") [v₁, v₂]) _ E s') fun v₁ v₂ s' k r₁ r₂ => ?_) (fun _ _ hx => Calls.spliced_cons (wpAny_mono hx (fun _ _ hy => Calls.spliced_nil hy) fun _ _ e => e)) fun _ _ e => e)))
  cases r₁ with | py r₁ => cases r₁ with | int _ t => cases r₂ with | py r₂ => cases r₂ with | int _ u =>
    refine call_range_2 ?_
    have k₂ : Keeps s { s' with heap := s'.heap.push { cls := .type "range", data := .fields #[.int a t, .int (a + n) u, .int 1 s'.toks] }, toks := s'.toks + 1 } := Keeps.tr k (Keeps.mk' (keepsPush _ _))
    exact src_range_at (a := a) (n := n) (P := P) hh k₂ (Heap.get?_push_size s'.heap (o := { cls := .type "range", data := .fields #[.int a t, .int (a + n) u, .int 1 s'.toks] }) rfl) h0 h1 h2 hQ
end
end Mine

open PySem PySem.W PyProof.Rows PySem.Calls
set_option Elab.async false
set_option maxRecDepth 100000
namespace Mine

/-- the cells that a comprehension takes over -/
noncomputable def closL (cells : List (Str × Addr)) : List (Str × NameKind) → List (Str × Addr) → List (Str × Addr)
  | [], acc => acc
  | (n, k) :: r, acc => if k == .free then (match cells.lookup n with | some c => closL cells r ((n, c) :: acc) | none => closL cells r acc) else closL cells r acc

theorem clos_go {env : Env} (f : Str × NameKind → List (Str × Addr) → Sem (ForInStep (List (Str × Addr))))
    (hf : ∀ n k cs, f (n, k) cs = if k == .free then (do let a ← cellOf env n; pure (.yield ((n, a) :: cs))) else pure (.yield cs)) :
    ∀ (names : List (Str × NameKind)) (acc : List (Str × Addr)), (∀ y ∈ names, y.2 = .free → (env.cells.lookup y.1).isSome = true) → forIn names acc f = (pure (closL env.cells names acc) : Sem _)
  | [], acc, _ => rfl
  | (n, k) :: r, acc, h => by
    rw [List.forIn_cons, hf]
    unfold closL
    by_cases hk : (k == .free) = true
    · rw [if_pos hk, if_pos hk]
      have hs := h (n, k) List.mem_cons_self (by simpa using hk)
      obtain ⟨c, hc⟩ := Option.isSome_iff_exists.mp hs
      simp only [cellOf, hc]
      exact clos_go f hf r _ fun y hy => h y (List.mem_cons_of_mem _ hy)
    · rw [if_neg hk, if_neg hk]
      exact clos_go f hf r _ fun y hy => h y (List.mem_cons_of_mem _ hy)
theorem closureFor_eq {scope : Scope} {env : Env} (h : ∀ y ∈ scope.names, y.2 = .free → (env.cells.lookup y.1).isSome = true) : closureFor scope env = pure (closL env.cells scope.names []) := by
  unfold closureFor
  have := clos_go (env := env) (fun (x : Str × NameKind) (cs : List (Str × Addr)) => if x.2 == .free then (do let a ← cellOf env x.1; pure (.yield ((x.1, a) :: cs))) else pure (.yield cs)) (fun _ _ _ => rfl) scope.names [] h
  show (forIn scope.names [] _ >>= fun r => pure r) = _
  rw [show (forIn scope.names ([] : List (Str × Addr)) _ : Sem _) = _ from this]
  rfl

theorem closL_acc {cells : List (Str × Addr)} : ∀ (names : List (Str × NameKind)) (acc : List (Str × Addr)) (y : Str), (∀ k, (y, k) ∈ names → k ≠ .free) → (closL cells names acc).lookup y = acc.lookup y
  | [], acc, y, _ => rfl
  | (n, k) :: r, acc, y, h => by
    unfold closL
    have hr : ∀ k, (y, k) ∈ r → k ≠ .free := fun k hk => h k (List.mem_cons_of_mem _ hk)
    split
    · rename_i hk
      have hne : (y == n) = false := by
        cases e : y == n with
        | false => rfl
        | true => rw [beq_iff_eq.mp e] at h; exact absurd (by simpa using hk) (h k List.mem_cons_self)
      split
      · rw [closL_acc r _ y hr, List.lookup_cons, hne]
      · exact closL_acc r _ y hr
    · exact closL_acc r _ y hr
theorem closL_free {cells : List (Str × Addr)} {c : Addr} {y : Str} (hc : cells.lookup y = some c) : ∀ (names : List (Str × NameKind)) (acc : List (Str × Addr)), (names.map (·.1)).Nodup → (y, .free) ∈ names → (closL cells names acc).lookup y = some c
  | (n, k) :: r, acc, hnd, hm => by
    rw [List.map_cons, List.nodup_cons] at hnd
    unfold closL
    rcases List.mem_cons.mp hm with e | hm
    · cases e
      simp only [beq_self_eq_true, if_true, hc]
      rw [closL_acc r _ y fun k hk => absurd (List.mem_map.mpr ⟨_, hk, rfl⟩) hnd.1]
      simp
    · split
      · split
        · exact closL_free hc r _ hnd.2 hm
        · exact closL_free hc r _ hnd.2 hm
      · exact closL_free hc r _ hnd.2 hm
theorem cellsFrom_acc : ∀ (names : List (Str × NameKind)) (n : Nat) (acc : List (Str × Addr)), cellsFrom n names acc = cellsFrom n names [] ++ acc
  | [], _, _ => rfl
  | (x, k) :: r, n, acc => by
    unfold cellsFrom
    split
    · rw [cellsFrom_acc r (n + 1) ((x, n) :: acc), cellsFrom_acc r (n + 1) [(x, n)]]; simp
    · exact cellsFrom_acc r n acc
theorem cellsFrom_none : ∀ (names : List (Str × NameKind)) (n : Nat) (acc : List (Str × Addr)) (y : Str), (∀ k, (y, k) ∈ names → k ≠ .cell) → (cellsFrom n names acc).lookup y = acc.lookup y
  | [], _, _, _, _ => rfl
  | (x, k) :: r, n, acc, y, h => by
    unfold cellsFrom
    have hr : ∀ k, (y, k) ∈ r → k ≠ .cell := fun k hk => h k (List.mem_cons_of_mem _ hk)
    split
    · rename_i hk
      have hne : (y == x) = false := by
        cases e : y == x with
        | false => rfl
        | true => rw [beq_iff_eq.mp e] at h; exact absurd (by simpa using hk) (h k List.mem_cons_self)
      rw [cellsFrom_none r _ _ y hr, List.lookup_cons, hne]
    · exact cellsFrom_none r _ _ y hr

theorem lookup_of_mem_nodup {β : Type} : ∀ {l : List (Str × β)} {y : Str} {k : β}, (l.map (·.1)).Nodup → (y, k) ∈ l → l.lookup y = some k
  | (n, k') :: r, y, k, hnd, hm => by
    rw [List.map_cons, List.nodup_cons] at hnd
    rcases List.mem_cons.mp hm with e | hm
    · cases e; simp
    · have hne : (y == n) = false := by
        cases e : y == n with
        | false => rfl
        | true => exact absurd (beq_iff_eq.mp e ▸ List.mem_map.mpr ⟨_, hm, rfl⟩) hnd.1
      rw [List.lookup_cons, hne]; exact lookup_of_mem_nodup hnd.2 hm

noncomputable def cEnv (scope : Scope) (env : Env) (C : Addr) : Env :=
  { scope := relabel scope env, locals := C, globals := env.globals, cells := cellsFrom (C + 1) scope.names (closL env.cells scope.names []), qual := env.qual, func := none, code := env.code, frame := env.frame, builtins := env.builtins }

/-- what a comprehension sees of the names around it -/
noncomputable def cap (scope : Scope) (ρ : List (Str × Dt)) : List (Str × Dt) := ρ.filter fun p => scope.names.lookup p.1 == some .free
theorem cap_lookup {scope : Scope} : ∀ {ρ : List (Str × Dt)} {y : Str} {d : Dt}, (cap scope ρ).lookup y = some d → ρ.lookup y = some d ∧ scope.names.lookup y = some .free
  | [], y, d, h => by simp [cap] at h
  | (n, d') :: r, y, d, h => by
    unfold cap at h
    rw [List.filter_cons] at h
    split at h
    · rename_i hk
      rw [List.lookup_cons] at h ⊢
      cases e : y == n with
      | true => rw [e] at h; rw [beq_iff_eq.mp e]; exact ⟨by simpa using h, by simpa using hk⟩
      | false => rw [e] at h; exact cap_lookup (ρ := r) h
    · rename_i hk
      have := cap_lookup (ρ := r) h
      have hne : (y == n) = false := by
        cases e : y == n with
        | false => rfl
        | true => rw [← beq_iff_eq.mp e, this.2] at hk; simp at hk
      rw [List.lookup_cons, hne]; exact this

theorem lookup_map_kind {f : Str × NameKind → NameKind} : ∀ (names : List (Str × NameKind)) (y : Str) (k : NameKind), names.lookup y = some k → (names.map fun x => (x.1, f x)).lookup y = some (f (y, k))
  | (n, k') :: r, y, k, h => by
    rw [List.lookup_cons] at h
    rw [List.map_cons, List.lookup_cons]
    cases e : y == n with
    | true => rw [e] at h; cases h; rw [beq_iff_eq.mp e]
    | false => rw [e] at h; exact lookup_map_kind r y k h

theorem relabel_kind {scope : Scope} {env : Env} (hfn : env.scope.kind = .function) {y : Str} {k : NameKind} (h : scope.names.lookup y = some k) :
    (relabel scope env).names.lookup y = some (if k == .free && env.kindOf y == some .cell then .cell else k) := by
  have e : (relabel scope env).names = scope.names.map fun x => (x.1, if x.2 == .free && env.kindOf x.1 == some .cell then NameKind.cell else x.2) := by
    unfold relabel
    simp only [hfn, beq_self_eq_true, Bool.and_true]
    refine List.map_congr_left fun x hx => ?_
    obtain ⟨n, k⟩ := x
    by_cases hc : (k == NameKind.free && env.kindOf n == some .cell) = true <;> simp [hc]
  rw [e]
  exact lookup_map_kind (f := fun x => if x.2 == .free && env.kindOf x.1 == some .cell then NameKind.cell else x.2) scope.names y k h

theorem has_cap {scope : Scope} {env : Env} {C : Addr} {P : Addr → Prop} {h : Heap} {y : Str} {d : Dt} (hfn : env.scope.kind = .function) (hy : scope.names.lookup y = some .free) (hnd : (scope.names.map (·.1)).Nodup)
    (hl : env.kindOf y ≠ some .local) (x : Has P env h y d) : Has P (cEnv scope env C) h y d := by
  have hm : (y, NameKind.free) ∈ scope.names := mem_of_lookup hy
  have nc : ∀ k, (y, k) ∈ scope.names → k ≠ .cell := fun k hk e => by have := lookup_of_mem_nodup hnd hk; rw [hy] at this; cases this; cases e
  have hk := relabel_kind hfn hy
  cases x with
  | loc a => exact absurd a hl
  | cel a b c r =>
    refine .cel ?_ (by show (cellsFrom _ _ _).lookup y = _; rw [cellsFrom_none _ _ _ _ nc]; exact closL_free b _ _ hnd hm) c r
    show (relabel scope env).names.lookup y = _
    rw [hk, a]; rfl
  | fre a b c r =>
    refine .fre ?_ (by show (cellsFrom _ _ _).lookup y = _; rw [cellsFrom_none _ _ _ _ nc]; exact closL_free b _ _ hnd hm) c r
    show (relabel scope env).names.lookup y = _
    rw [hk, a]; rfl

theorem ok_cap {w : World} {A : Around} {P : Addr → Prop} {scope : Scope} {env : Env} {C : Addr} {ρ : List (Str × Dt)} {h : Heap} (hkind : scope.kind = .function) (hnd : (scope.names.map (·.1)).Nodup)
    (hfree : (scope.names.all fun y => y.2 != .free || env.kindOf y.1 != some .local) = true) (ok : Ok w A P env ρ h) : Ok w A P (cEnv scope env C) (cap scope ρ) h :=
  ⟨ok.base, ok.bel, hkind, ok.gl, ok.bu, fun y d e => by
    obtain ⟨h1, h2⟩ := cap_lookup e
    have := List.all_eq_true.mp hfree _ (mem_of_lookup h2)
    exact has_cap ok.fn h2 hnd (by simpa using this) (ok.vars y d h1)⟩

theorem newCompEnv {M : Model} {A : Around} {E : Value → Shared → Prop} {s : Shared} {scope : Scope} {globals : Addr} {cl : List (Str × Addr)} {qual : Str} {env : Env} {Q : Env → Shared → Prop}
    (h : Q { scope, locals := s.heap.objs.size, globals, cells := cellsFrom (s.heap.objs.size + 1) scope.names cl, qual, func := none, code := env.code, frame := env.frame, builtins := env.builtins }
      { s with heap := pushCells (s.heap.push { cls := .type "dict", data := .dict #[] }) scope.names }) :
    wpAny M A (newFunctionEnv scope globals cl [] qual none .none (some env)) Q E s := by
  simp only [newFunctionEnv, Option.isSome_some, if_true]
  refine wpAny_bind (wpAny_alloc ?_)
  refine wpAny_bind (wpAny_layCells _ (fun name kind cells => by cases hkc : kind == NameKind.cell <;> simp [hkc]) _ _ _ _ ?_)
  rw [show ({ s with heap := s.heap.push { cls := .type "dict", data := .dict #[] } } : Shared).heap.objs.size = s.heap.objs.size + 1 from Heap.size_push ..]
  simp only [List.forIn_nil]
  exact wpAny_bind (wpAny_pure (wpAny_pure h))

section
variable {w : World} {A : Around} {env : Env} {ρ : List (Str × Dt)} {pos : Pos}
noncomputable def Tests (w : World) (A : Around) (env : Env) (ρ : List (Str × Dt)) (ifs : List Expr) (b : Bool) : Prop :=
  ∀ (P : Addr → Prop) (s : Shared) (Q : Bool → Shared → Prop) (E : Value → Shared → Prop), Ok w A P env ρ s.heap → (∀ s', Keeps s s' → Q b s') →
    wpAny (model pr w) A (forIn ifs true fun c r => if r = true then do let ok ← isTrue c env (eval c env); pure (ForInStep.yield ok) else pure (ForInStep.yield r)) Q E s
theorem tests_nil : Tests w A env ρ [] true := fun P s Q E ok hQ => wpAny_tests_nil (hQ _ (Keeps.rf _))
theorem tests_one {c : Expr} {b : Bool} (h : Tv w A env ρ c b) : Tests w A env ρ [c] b := fun P s Q E ok hQ => wpAny_tests_one (h P s Q E ok hQ)
end
end Mine

open PySem PySem.W PyProof.Rows PySem.Calls
set_option Elab.async false
set_option maxRecDepth 100000
namespace Mine

theorem take_filter_map {α β : Type} (p : α → Bool) (g : α → β) (l : List α) (i : Nat) (a : α) (h : l[i]? = some a) :
    ((l.take (i + 1)).filter p).map g = ((l.take i).filter p).map g ++ (if p a then [g a] else []) := by
  rw [take_succ_filter p l i a h, List.map_append]
  cases p a <;> rfl

section
variable {w : World} {A : Around} {env : Env} {ρ : List (Str × Dt)} {pos : Pos}

/-- storing the comprehension's own name -/
theorem comp_store {scope : Scope} {C : Addr} {x : Str} {v : Value} {s : Shared} {E : Value → Shared → Prop} {Q : Unit → Shared → Prop} (hfn : env.scope.kind = .function) (hkind : scope.kind = .function)
    (hx : scope.names.lookup x = some .local ∨ scope.names.lookup x = some .cell) {m : Str → Option Value} (hn : s.heap.Ns C m)
    (hc : ∀ c, (cEnv scope env C).cells.lookup x = some c → scope.names.lookup x = some .cell → ∃ v, s.heap.IsCell c v) (hcs : scope.names.lookup x = some .cell → ((cEnv scope env C).cells.lookup x).isSome = true)
    (h : ∀ h' tk b, Heap.SameBut b s.heap h' → (b = C ∨ ((cEnv scope env C).cells.lookup x = some b ∧ scope.names.lookup x = some .cell)) → (∃ m', h'.Ns C m') →
      (∀ c, (cEnv scope env C).cells.lookup x = some c → scope.names.lookup x = some .cell → ∃ v, h'.IsCell c v) →
      (∀ (P : Addr → Prop) d, RdT P h' v d → Has P (cEnv scope env C) h' x d) → Q () { s with heap := h', toks := tk }) :
    wpAny (model pr w) A (storeName (cEnv scope env C) x v) Q E s := by
  rcases hx with hx | hx
  · have hk : (cEnv scope env C).kindOf x = some .local := by
      show (relabel scope env).names.lookup x = _
      rw [relabel_kind hfn hx]; rfl
    refine wpAny_storeName_local hk hn (fun h' hn' hs' => h h' _ C hs' (.inl rfl) ⟨_, hn'⟩ (fun c _ q => by rw [hx] at q; cases q) fun P d r => .loc hk hn' (by simp) r) ?_
    show (scope.kind == .class || (scope.kind == .module && C != env.globals)) = false
    rw [hkind]; rfl
  · have hk : (cEnv scope env C).kindOf x = some .cell := by
      show (relabel scope env).names.lookup x = _
      rw [relabel_kind hfn hx]; rfl
    obtain ⟨c, hcl⟩ := Option.isSome_iff_exists.mp (hcs hx)
    obtain ⟨v₀, hv₀⟩ := hc c hcl hx
    have hne : C ≠ c := fun e => by
      obtain ⟨o, es, ep, e1, e2, _⟩ := hn
      obtain ⟨o', e3, e4⟩ := hv₀
      rw [← e, e1] at e3; cases e3; rw [e2] at e4; cases e4
    exact wpAny_storeName_cell hkind hk hcl hv₀ fun h' hc' hs' => h h' _ c hs' (.inr ⟨hcl, hx⟩) ⟨_, hn.sameBut hs' hne⟩ (fun c' q _ => by rw [hcl] at q; cases q; exact ⟨_, hc'⟩) fun P d r => .cel hk hcl hc' r

theorem own_cell {scope : Scope} {C : Addr} {x : Str} (hnd : (scope.names.map (·.1)).Nodup) (hx : scope.names.lookup x = some .cell) {h : Heap} (hC : h.objs.size = C + 1) :
    ∃ c, (cEnv scope env C).cells.lookup x = some c ∧ (pushCells h scope.names).IsCell c none ∧ C < c := by
  have hm : (x, NameKind.cell) ∈ scope.names := mem_of_lookup hx
  have hs : ((cellsFrom (C + 1) scope.names []).lookup x).isSome = true := cellsFrom_some _ _ _ (.inl hx)
  obtain ⟨c, hc⟩ := Option.isSome_iff_exists.mp hs
  have ok := cellsFrom_ok scope.names h (C + 1) [] ⟨fun _ _ hm => (nomatch hm), List.Pairwise.nil⟩ (by rw [hC]; exact Nat.le_refl _)
  rw [hC] at ok
  refine ⟨c, ?_, (ok.empty x c (mem_of_lookup hc)).1, (ok.empty x c (mem_of_lookup hc)).2⟩
  show (cellsFrom (C + 1) scope.names (closL env.cells scope.names [])).lookup x = some c
  rw [cellsFrom_acc, List.lookup_append, hc]; rfl

set_option maxHeartbeats 1000000 in
theorem comp_core {P : Addr → Prop} {s : Shared} {Q E : Value → Shared → Prop} {use : Option (Value → Sem Unit)} (ok : Ok w A P env ρ s.heap) {α : Type} {enc : α → PyData} {its : List α} {p : α → Bool} {g : α → PyData} {elt iter : Expr} {x : Str} {px : Pos} {ifs : List Expr} {scope : Scope}
    (hsrc : Src w A env ρ iter (its.map enc))
    (ht : ∀ C a, a ∈ its → Tests w A (cEnv scope env C) ((x, .py (enc a)) :: cap scope ρ) ifs (p a))
    (he : ∀ C a, a ∈ its → p a = true → Ev w A (cEnv scope env C) ((x, .py (enc a)) :: cap scope ρ) elt (.py (g a)))
    (hsz : its.length ≤ sizeLine)
    (hx : scope.names.lookup x = some .local ∨ scope.names.lookup x = some .cell)
    (hfree : (scope.names.all fun y => y.2 != .free || env.kindOf y.1 != some .local) = true)
    (hcells : (scope.names.all fun y => y.2 != .free || (env.cells.lookup y.1).isSome) = true)
    (hkind : scope.kind = .function) (hnd : (scope.names.map (·.1)).Nodup)
    (hs : ∀ x, foldedSetIterable iter env x = pure x)
    (hQ : ∀ C D s' m, s.heap.get? C = none → Keeps s s' → s'.heap.Ns C m → RdT (Up P s.heap) s'.heap (.ref D) (.py (.list ((its.filter p).map g))) → compPost (model pr w) A E use Q (.ref D) C (.ok .next) s') :
    wpAny (model pr w) A (comprehension (.ListComp elt [⟨.Name x px, iter, ifs, 0⟩] scope pos) scope env (firstIterPos [⟨.Name x px, iter, ifs, 0⟩] pos) (newList []) (firstAsync [⟨.Name x px, iter, ifs, 0⟩]) (firstIter [⟨.Name x px, iter, ifs, 0⟩] env) use) Q E s := by
  have hcl : closureFor scope env = pure (closL env.cells scope.names []) := closureFor_eq fun y hy hf => by
    have := List.all_eq_true.mp hcells y hy
    rw [hf] at this; simpa using this
  have hnames : ∀ y ∈ scope.names, y.2 = .local → scope.names.lookup y.1 = some .local := fun y hy hl => hl ▸ lookup_of_mem_nodup hnd (by cases y; exact hy)
  refine wpAny_comprehension_free (use := use) rfl hs hcl hkind hnames (hsrc P s _ _ ok fun I fp Pv St s₂ k₂ W hst hI hfp₀ hfld hitems _ => ?_)
  have hfp : ∀ b ∈ fp, b < s₂.heap.objs.size := fun b hb => let ⟨_, o, e⟩ := hfp₀ b hb; Heap.lt_size e
  have hseq : ∀ i h o, St i h → h.get? I = some o → ∀ xs n, o.data ≠ .seq xs n := fun i h o st e xs n q => by
    obtain ⟨o', vs, e1, e2⟩ := hfld i h st
    rw [e1] at e; cases e; rw [e2] at q; cases q
  rw [List.length_map] at W
  refine wpAny_newObj_type ?_
  show wpAny _ A (newFunctionEnv scope env.globals (closL env.cells scope.names []) [] env.qual none .none (some env)) _ E _
  refine newCompEnv ?_
  dsimp only
  generalize hD : s₂.heap.objs.size = D
  generalize hH3 : s₂.heap.push { cls := .type "list", dict := none, data := .seq ([] : List Value).toArray } = H3
  have hH3s : H3.objs.size = D + 1 := by rw [← hH3, Heap.size_push, hD]
  rw [hH3s]
  generalize hC : D + 1 = C
  generalize hH4 : pushCells (H3.push { cls := .type "dict", data := .dict #[] }) scope.names = H4
  have k34 : KeepsH H3 H4 := fun b o e => hH4 ▸ pushCells_keeps _ _ _ _ (Heap.get?_push_of_some _ e)
  have k24 : KeepsH s₂.heap H4 := fun b o e => k34 _ _ (hH3 ▸ Heap.get?_push_of_some _ e)
  have fD : s₂.heap.get? D = none := hD ▸ fresh_size _
  have fC : s₂.heap.get? C = none := fresh_le (by omega)
  have lDC : D < C := hC ▸ Nat.lt_succ_self D
  have fI : I < D := by rw [← hD]; exact hfp I (W.sub I (by simp))
  have gD : H4.get? D = some (lob [] 0) := k34 _ _ (by rw [← hH3, ← hD]; exact Heap.get?_push_size _ rfl)
  have gC : H4.Ns C fun _ => none := by
    have := (Heap.Ns.new H3 (.type "dict")).keeps (pushCells_keeps scope.names (H3.push { cls := .type "dict", data := .dict #[] }))
    rw [hH4, hH3s, hC] at this; exact this
  have own4 : scope.names.lookup x = some .cell → ∃ c, (cEnv scope env C).cells.lookup x = some c ∧ H4.IsCell c none ∧ C < c := fun q => by
    have := own_cell (env := env) hnd q (C := C) (h := H3.push { cls := .type "dict", data := .dict #[] }) (by rw [Heap.size_push, hH3s, hC])
    rw [hH4] at this; exact this
  have hcs : scope.names.lookup x = some .cell → ((cEnv scope env C).cells.lookup x).isSome = true := fun q => by
    obtain ⟨c, e, _⟩ := own4 q; rw [e]; rfl
  have fc : ∀ c, (cEnv scope env C).cells.lookup x = some c → scope.names.lookup x = some .cell → C < c := fun c e q => by
    obtain ⟨c', e', _, l⟩ := own4 q; rw [e] at e'; cases e'; exact l
  have eEnv : ({ scope := relabel scope env, locals := C, globals := env.globals, cells := cellsFrom (C + 1) scope.names (closL env.cells scope.names []), qual := env.qual, func := none, code := env.code, frame := env.frame, builtins := env.builtins } : Env) = cEnv scope env C := rfl
  show codeAny _ A (.compStart _ 0 (.ref I) (.ref D) (cEnv scope env C)) (compPost (model pr w) A E use Q (.ref D) C) _
  -- allowed places while the list grows
  let P₂ : Addr → Prop := fun a => Up P s.heap a ∧ a ≠ D
  have inS : ∀ b o, s.heap.get? b = some o → b ≠ I ∧ b ≠ D ∧ b ≠ C ∧ ∀ c, (cEnv scope env C).cells.lookup x = some c → scope.names.lookup x = some .cell → b ≠ c := fun b o e => by
    have e2 := Keeps.hp k₂ _ _ e
    have l := Heap.lt_size e2
    rw [hD] at l
    exact ⟨fun q => by rw [q, hI] at e; exact (nomatch e), Nat.ne_of_lt l, Nat.ne_of_lt (Nat.lt_trans l lDC), fun c e' q => Nat.ne_of_lt (Nat.lt_trans (Nat.lt_trans l lDC) (fc c e' q))⟩
  have in2 : ∀ b o, s₂.heap.get? b = some o → b ≠ D ∧ b ≠ C ∧ ∀ c, (cEnv scope env C).cells.lookup x = some c → scope.names.lookup x = some .cell → b ≠ c := fun b o e => by
    have l := Heap.lt_size e
    rw [hD] at l
    exact ⟨Nat.ne_of_lt l, Nat.ne_of_lt (Nat.lt_trans l lDC), fun c e' q => Nat.ne_of_lt (Nat.lt_trans (Nat.lt_trans l lDC) (fc c e' q))⟩
  have loop : ∀ s₃ : Shared, (∃ tk, s₃ = { s₂ with heap := H4, toks := tk }) →
      codeAny (model pr w) A (.compLoop (.ListComp elt [⟨.Name x px, iter, ifs, 0⟩] scope pos) 0 (.ref I) (.ref D) (cEnv scope env C)) (compPost (model pr w) A E use Q (.ref D) C) s₃ := by
    rintro s₃ ⟨tk₀, rfl⟩
    refine codeAny_compLoop_tests
      (fun k s' => ∃ h tk j ys ny, s' = { s₂ with heap := h, toks := tk } ∧ St j h ∧ j ≤ its.length ∧ k = its.length + 1 - j ∧ (∀ b o, b ≠ I → s₂.heap.get? b = some o → h.get? b = some o) ∧
        h.get? D = some (lob ys ny) ∧ RdAll P₂ h ys (((its.take j).filter p).map g) ∧ (∃ m, h.Ns C m) ∧ (∀ c, (cEnv scope env C).cells.lookup x = some c → scope.names.lookup x = some .cell → ∃ v, h.IsCell c v)) ?_ (its.length + 1)
      ⟨H4, tk₀, 0, [], 0, rfl, W.frame 0 _ _ hst fun b _ o e => k24 b o e, Nat.zero_le _, rfl, fun b o _ e => k24 b o e, gD, by simpa using RdAll.nil, ⟨_, gC⟩, fun c e q => by
        obtain ⟨c', e', h', _⟩ := own4 q; rw [e] at e'; cases e'; exact ⟨_, h'⟩⟩
    rintro k s' ⟨h, tk, j, ys, ny, rfl, hstj, hj, rfl, hk, hgD, hys, ⟨m, hm⟩, hown⟩
    have kS : ∀ h', (∀ b o, b ≠ I → h.get? b = some o → h'.get? b = some o) → KeepsH s.heap h' := fun h' q b o e => q b o (inS b o e).1 (hk b o (inS b o e).1 (Keeps.hp k₂ _ _ e))
    by_cases hlt : j < its.length
    · obtain ⟨a, ha⟩ : ∃ a, its[j]? = some a := ⟨its[j], by simp [hlt]⟩
      have hmem : a ∈ its := List.mem_of_getElem? ha
      refine W.item j _ _ _ hlt hstj fun v h₁ tk₁ hP hst₁ hk₁ => ?_
      have hk₁' : ∀ b o, b ≠ I → h.get? b = some o → h₁.get? b = some o := fun b o hb e => hk₁ b o (by simpa using hb) e
      have hCI : C ≠ I := Nat.ne_of_gt (Nat.lt_trans fI lDC)
      have hDI : D ≠ I := Nat.ne_of_gt fI
      obtain ⟨d, hd, hrd⟩ := hitems j v hP
      rw [List.getElem?_map, ha] at hd
      cases hd
      have hcI : ∀ c, (cEnv scope env C).cells.lookup x = some c → scope.names.lookup x = some .cell → c ≠ I := fun c e q => Nat.ne_of_gt (Nat.lt_trans (Nat.lt_trans fI lDC) (fc c e q))
      have hn₁ : h₁.Ns C m := hm.at' fun o e => hk₁' C o hCI e
      have hown₁ : ∀ c, (cEnv scope env C).cells.lookup x = some c → scope.names.lookup x = some .cell → ∃ v, h₁.IsCell c v := fun c e q => by
        obtain ⟨v, o, e1, e2⟩ := hown c e q; exact ⟨v, o, hk₁' c o (hcI c e q) e1, e2⟩
      refine wpAny_assign_Name (comp_store ok.fn hkind hx hn₁ hown₁ hcs fun h₂ tk₂ b hs₂ hb hn₂ hown₂ hhas => ?_)
      have nbI : b ≠ I := by rcases hb with rfl | ⟨e, q⟩; exact hCI; exact hcI b e q
      have nbD : b ≠ D := by rcases hb with rfl | ⟨e, q⟩; exact Nat.ne_of_gt lDC; exact Nat.ne_of_gt (Nat.lt_trans lDC (fc b e q))
      have nbS : ∀ a o, s.heap.get? a = some o → a ≠ b := fun a o e => by
        rcases hb with rfl | ⟨e', q⟩
        · exact (inS a o e).2.2.1
        · exact (inS a o e).2.2.2 b e' q
      have nb2 : ∀ a o, s₂.heap.get? a = some o → a ≠ b := fun a o e => by
        rcases hb with rfl | ⟨e', q⟩
        · exact (in2 a o e).2.1
        · exact (in2 a o e).2.2 b e' q
      have kS₂ : KeepsH s.heap h₂ := fun a o e => hs₂.extBut a o (nbS a o e) (kS h₁ hk₁' a o e)
      have k2₂ : ∀ a o, a ≠ I → s₂.heap.get? a = some o → h₂.get? a = some o := fun a o ha e => hs₂.extBut a o (nb2 a o e) (hk₁' a o ha (hk a o ha e))
      have ok₂ : Ok w A P₂ (cEnv scope env C) ((x, .py (enc a)) :: cap scope ρ) h₂ := by
        have o1 : Ok w A P₂ (cEnv scope env C) (cap scope ρ) h₂ := ok_cap hkind hnd hfree (ok.mono kS₂ fun a o e pa => ⟨.inl pa, (inS a o e).2.1⟩)
        refine ⟨o1.base, o1.bel, o1.fn, o1.gl, o1.bu, fun y d e => ?_⟩
        rw [List.lookup_cons] at e
        cases hyx : y == x with
        | false => rw [hyx] at e; exact o1.vars y d e
        | true =>
          rw [hyx] at e; cases e
          rw [beq_iff_eq.mp hyx]
          refine hhas P₂ _ (.py ?_)
          have r1 : Rd P₂ s₂.heap v (enc a) := hrd.mono (fun _ _ e => e) fun a o e pa => ⟨pa, (in2 a o e).1⟩
          exact r1.butS (S := fun a => a = I) (fun a o ha e => k2₂ a o ha e) fun a o ha e => .inl (by subst ha; exact hseq 0 _ o hst e)
      refine ht C a hmem P₂ _ _ _ ok₂ fun s₃ k₃ => ?_
      obtain ⟨h₃, tk₃, rfl, hk₃⟩ := k₃
      have hst₃ : St (j + 1) h₃ := W.frame _ _ _ hst₁ fun a ha o e => by
        have : a < D := hD ▸ hfp a ha
        refine hk₃ a o (hs₂.extBut a o ?_ e)
        rcases hb with rfl | ⟨e', q⟩
        · exact Nat.ne_of_lt (Nat.lt_trans this lDC)
        · exact Nat.ne_of_lt (Nat.lt_trans (Nat.lt_trans this lDC) (fc b e' q))
      have up₃ : ∀ a o, a ≠ I → a ≠ b → h.get? a = some o → h₃.get? a = some o := fun a o ha hb' e => hk₃ a o (hs₂.extBut a o hb' (hk₁' a o ha e))
      have hgD₃ : h₃.get? D = some (lob ys ny) := up₃ D _ hDI (Ne.symm nbD) hgD
      have hys₃ : RdAll P₂ h₃ ys (((its.take j).filter p).map g) := hys.butS (S := fun a => a = I ∨ a = b) (fun a o ha e => up₃ a o (fun q => ha (.inl q)) (fun q => ha (.inr q)) e) fun a o ha e => .inl (by
        rcases ha with rfl | rfl
        · exact hseq j _ o hstj e
        · intro xs n q
          rcases hb with rfl | ⟨e', q'⟩
          · obtain ⟨o', es, ep, e1, e2, _⟩ := hm; rw [e1] at e; cases e; rw [e2] at q; cases q
          · obtain ⟨v', o', e1, e2⟩ := hown a e' q'; rw [e1] at e; cases e; rw [e2] at q; cases q)
      have k2₃ : ∀ a o, a ≠ I → s₂.heap.get? a = some o → h₃.get? a = some o := fun a o ha e => hk₃ _ _ (k2₂ a o ha e)
      have hown₃ : ∀ c, (cEnv scope env C).cells.lookup x = some c → scope.names.lookup x = some .cell → ∃ v, h₃.IsCell c v := fun c e q => by
        obtain ⟨v', x'⟩ := hown₂ c e q; exact ⟨v', isCell_keeps hk₃ x'⟩
      obtain ⟨m₂, hm₂⟩ := hn₂
      cases hpa : p a with
      | false =>
        simp only [Bool.false_eq_true, if_false]
        refine ⟨its.length + 1 - (j + 1), by omega, h₃, tk₃, j + 1, ys, ny, rfl, hst₃, hlt, rfl, k2₃, hgD₃, ?_, ⟨m₂, hm₂.keeps hk₃⟩, hown₃⟩
        rw [take_filter_map p g its j a ha, hpa]; simpa using hys₃
      | true =>
        simp only [if_true]
        refine he C a hmem hpa P₂ _ _ _ (ok₂.keeps hk₃) fun y s₄ k₄ r₄ => ?_
        obtain ⟨h₄, tk₄, rfl, hk₄⟩ := k₄
        have len : ys.length ≤ sizeLine := by
          have e1 := hys₃.length
          have e2 : (((its.take j).filter p).map g).length ≤ its.length := by
            rw [List.length_map]
            refine Nat.le_trans (List.length_filter_le _ _) ?_
            rw [List.length_take]; omega
          omega
        refine wpAny_list_append_plain (hsz := by rw [List.size_toArray]; exact len) ⟨ny, hk₄ _ _ hgD₃⟩ fun h₅ hl₅ hs₅ => ?_
        obtain ⟨n₅, g₅⟩ := hl₅
        have r₄' : Rd P₂ h₄ y (g a) := by
          cases r₄ with | py r₄ =>
            refine r₄.mono (fun _ _ e => e) fun a' o' _ q => ?_
            rcases q with q | q
            · exact q
            · refine ⟨.inr ?_, fun e => by rw [e, hgD₃] at q; cases q⟩
              cases e : s.heap.get? a' with
              | none => rfl
              | some o'' => have := hk₃ _ _ (kS₂ _ _ e); rw [q] at this; cases this
        refine ⟨its.length + 1 - (j + 1), by omega, h₅, tk₄, j + 1, ys ++ [y], n₅, rfl, W.frame _ _ _ hst₃ fun a' ha' o e => ?_, hlt, rfl, fun a' o ha' e => ?_, by simpa using g₅, ?_, ⟨m₂, ?_⟩, fun c e q => ?_⟩
        · have : a' < D := hD ▸ hfp a' ha'
          exact hs₅.extBut a' o (Nat.ne_of_lt this) (hk₄ _ _ e)
        · exact hs₅.extBut a' o (in2 a' o e).1 (hk₄ _ _ (k2₃ a' o ha' e))
        · rw [take_filter_map p g its j a ha, hpa]
          have all := (hys₃.mono hk₄ fun _ _ _ q => q).append (.cons r₄' .nil)
          exact all.butS (S := fun a => a = D) (fun a' o ha' e => hs₅.extBut a' o ha' e) fun a' o ha' e => .inr (by
            subst ha'
            have := hk₄ _ _ hgD₃; rw [this] at e; cases e; exact ⟨rfl, fun q => q.2 rfl⟩)
        · exact ((hm₂.keeps hk₃).keeps hk₄).sameBut hs₅ (Nat.ne_of_gt lDC)
        · obtain ⟨v', x'⟩ := hown₃ c e q
          obtain ⟨o', e1, e2⟩ := isCell_keeps hk₄ x'
          exact ⟨v', o', hs₅.extBut c o' (Nat.ne_of_gt (Nat.lt_trans lDC (fc c e q))) e1, e2⟩
    · have hjl : j = its.length := by omega
      subst hjl
      refine W.done _ _ _ hstj fun h₁ tk₁ hk₁ => ?_
      have hk₁' : ∀ b o, b ≠ I → h.get? b = some o → h₁.get? b = some o := fun b o hb e => hk₁ b o (by simpa using hb) e
      have kS₁ : KeepsH s.heap h₁ := fun b o e => kS h₁ hk₁' b o e
      refine hQ C D _ m ?_ ?_ (hm.at' fun o e => hk₁' C o (Nat.ne_of_gt (Nat.lt_trans fI lDC)) e) (.py (.list (n := ny) (.inr ?_) (hk₁' D _ (Nat.ne_of_gt fI) hgD) ?_))
      · cases e : s.heap.get? C with
        | none => rfl
        | some o => exact absurd rfl (inS C o e).2.2.1
      · obtain ⟨h', t', e', _⟩ := k₂
        subst e'
        exact ⟨h₁, tk₁, rfl, kS₁⟩
      · cases e : s.heap.get? D with
        | none => rfl
        | some o => exact absurd rfl (inS D o e).2.1
      · rw [List.take_length] at hys
        refine RdAll.mono (P := P₂) (fun _ _ e => e) (fun _ _ _ q => q.1) (hys.butS (S := fun a => a = I) (fun a o ha e => hk₁' a o ha e) fun a o ha e => .inl ?_)
        subst ha
        exact hseq _ _ o hstj e
  exact codeAny_compStart_list (loop _ ⟨_, rfl⟩) (W.self 0 _ _ _ (W.frame 0 _ _ hst fun b _ o e => k24 b o e) (loop _ ⟨_, rfl⟩))

theorem ev_comp {α : Type} {enc : α → PyData} {its : List α} {p : α → Bool} {g : α → PyData} {elt iter : Expr} {x : Str} {px : Pos} {ifs : List Expr} {scope : Scope}
    (hsrc : Src w A env ρ iter (its.map enc))
    (ht : ∀ C a, a ∈ its → Tests w A (cEnv scope env C) ((x, .py (enc a)) :: cap scope ρ) ifs (p a))
    (he : ∀ C a, a ∈ its → p a = true → Ev w A (cEnv scope env C) ((x, .py (enc a)) :: cap scope ρ) elt (.py (g a)))
    (hsz : its.length ≤ sizeLine := by decide)
    (hx : scope.names.lookup x = some .local ∨ scope.names.lookup x = some .cell := by first | exact .inl rfl | exact .inr rfl)
    (hfree : (scope.names.all fun y => y.2 != .free || env.kindOf y.1 != some .local) = true := by rfl)
    (hcells : (scope.names.all fun y => y.2 != .free || (env.cells.lookup y.1).isSome) = true := by rfl)
    (hkind : scope.kind = .function := by rfl) (hnd : (scope.names.map (·.1)).Nodup := by decide)
    (hs : ∀ x, foldedSetIterable iter env x = pure x := by intro _; rfl) :
    Ev w A env ρ (.ListComp elt [⟨.Name x px, iter, ifs, 0⟩] scope pos) (.py (.list ((its.filter p).map g))) := by
  intro P s Q E ok hQ
  rw [eval_ListComp]
  refine comp_core (use := none) ok hsrc ht he hsz hx hfree hcells hkind hnd hs fun C D s' m hC k hm r => ⟨m, hm, fun h' hs' => ?_⟩
  have kk : KeepsH s.heap h' := fun b o e => hs'.extBut b o (fun q => by rw [q, hC] at e; cases e) (Keeps.hp k _ _ e)
  obtain ⟨h₁, t₁, rfl, _⟩ := k
  refine hQ _ _ ⟨h', t₁, rfl, kk⟩ ?_
  cases r with | py r =>
    exact .py (r.butS (S := fun a => a = C) (fun a o ha e => hs'.extBut a o ha e) fun a o ha e => .inl fun xs n q => by
      subst ha
      obtain ⟨o', es, ep, e1, e2, _⟩ := hm
      rw [e1] at e; cases e; rw [e2] at q; cases q)
end
end Mine

open PySem PySem.W PyProof.Rows PySem.Calls
set_option Elab.async false
set_option maxRecDepth 100000
namespace Mine

theorem ns_unique {h : Heap} {a : Addr} {m m' : Str → Option Value} (x : h.Ns a m) (y : h.Ns a m') : m = m' := by
  obtain ⟨o, es, ep, e1, e2, _, e3⟩ := x
  obtain ⟨o', es', ep', f1, f2, _, f3⟩ := y
  rw [e1] at f1; cases f1; rw [e2] at f2; cases f2
  funext n; rw [← e3, ← f3]

/-- the one list of its own that a def changes -/
inductive Via (P : Addr → Prop) (h : Heap) : Bool → Value → Addr → Prop
  | self {a} : Via P h false (.ref a) a
  | hdr {a dd l es n} : P a → P dd → h.get? a = some (instObj hdrCls dd) → h.get? dd = some (dictOf es n) → hdrEs es l → Via P h true (.ref a) l
theorem Via.mono {P P' : Addr → Prop} {h h' : Heap} {b v l} (hk : KeepsH h h') (hp : ∀ a o, h.get? a = some o → P a → P' a) : Via P h b v l → Via P' h' b v l
  | .self => .self
  | .hdr pa pd i d e => .hdr (hp _ _ i pa) (hp _ _ d pd) (hk _ _ i) (hk _ _ d) e
theorem Via.butS {P S : Addr → Prop} {h h' : Heap} {b v l} (hk : ∀ b o, ¬ S b → h.get? b = some o → h'.get? b = some o) (hP : ∀ b, S b → ¬ P b) : Via P h b v l → Via P h' b v l
  | .self => .self
  | .hdr pa pd i d e => .hdr pa pd (hk _ _ (fun q => hP _ q pa) i) (hk _ _ (fun q => hP _ q pd) d) e
structure Own (P O : Addr → Prop) (env : Env) (h : Heap) (x : Str) (ds : Bool × List PyData) : Prop where
  kind : env.kindOf x = some .local
  list : ∃ m v a vs n, h.Ns env.locals m ∧ m x = some v ∧ Via P h ds.1 v a ∧ O a ∧ h.get? a = some (lob vs n) ∧ RdAll P h vs ds.2

theorem funFrames_some {h h' base : Heap} (k : ∀ b o, h.get? b = some o → (∀ vs, o.data ≠ .fields vs) → ∃ o', h'.get? b = some o' ∧ ∀ vs, o'.data ≠ .fields vs) : ∀ {l : List Env}, h.FunFrames base l → h'.FunFrames base l
  | [], _ => trivial
  | _ :: _, ⟨hk, ⟨L, o, hf, hn, ho, hd⟩, hr⟩ => let ⟨o', ho', hd'⟩ := k L o ho hd; ⟨hk, ⟨L, o', hf, hn, ho', hd'⟩, funFrames_some k hr⟩

/-- the ground, whatever lies at S -/
noncomputable def Gr (w : World) (A : Around) (S : Addr → Prop) (h : Heap) : Prop :=
  ∃ g base outer, Base w g ∧ base.StaysIn g ∧ KeepsH g h ∧ A.frames = some outer ∧ h.FunFrames base outer ∧ ∀ a, S a → g.get? a = none
theorem Gr.base {w : World} {A : Around} {S : Addr → Prop} {h : Heap} (x : Gr w A S h) : Base w h := let ⟨g, _, _, b, _, k, _⟩ := x; b.keeps k
theorem Gr.bel {w : World} {A : Around} {S : Addr → Prop} {h : Heap} (x : Gr w A S h) : ∃ base outer, Below A base outer h := let ⟨g, base, outer, b, st, k, e, ff, _⟩ := x; ⟨base, outer, e, fun b o q => k _ _ (st b o q), ff⟩
theorem Gr.keeps {w : World} {A : Around} {S : Addr → Prop} {h h' : Heap} (hk : KeepsH h h') (x : Gr w A S h) : Gr w A S h' := let ⟨g, base, outer, b, st, k, e, ff, n⟩ := x; ⟨g, base, outer, b, st, fun b o q => hk _ _ (k b o q), e, funFrames_some (fun b o q d => ⟨o, hk _ _ q, d⟩) ff, n⟩
theorem Gr.mono {w : World} {A : Around} {S S' : Addr → Prop} {h : Heap} (x : Gr w A S h) (hs : ∀ a, S' a → S a ∨ h.get? a = none) : Gr w A S' h := let ⟨g, base, outer, b, st, k, e, ff, n⟩ := x; ⟨g, base, outer, b, st, k, e, ff, fun a sa => (hs a sa).elim (n a) fun q => by
  cases r : g.get? a with
  | none => rfl
  | some o => rw [k _ _ r] at q; cases q⟩
theorem Gr.change {w : World} {A : Around} {S : Addr → Prop} {h h' : Heap} {c : Addr} (x : Gr w A S h) (hs : Heap.SameBut c h h') (hc : S c) (hn : ∃ o, h'.get? c = some o ∧ ∀ vs, o.data ≠ .fields vs) : Gr w A S h' := by
  obtain ⟨g, base, outer, b, st, k, e, ff, n⟩ := x
  refine ⟨g, base, outer, b, st, fun a o q => hs.extBut a o (fun z => by rw [z, n c hc] at q; cases q) (k a o q), e, funFrames_some (fun a o q d => ?_) ff, n⟩
  by_cases z : a = c
  · subst z; exact hn
  · exact ⟨o, hs.extBut a o z q, d⟩
noncomputable def offS (env : Env) (O X : Addr → Prop) : Addr → Prop := fun a => a = env.locals ∨ (∃ x, env.cells.lookup x = some a) ∨ O a ∨ X a

/-- inside a def's frame -/
structure Fs (w : World) (A : Around) (P₀ P O X : Addr → Prop) (env : Env) (ρ : List (Str × Dt)) (ω : Option (Str × Bool × List PyData)) (h : Heap) : Prop where
  gr : Gr w A (offS env O X) h
  fn : env.scope.kind = .function
  gl : env.globals = mainGlobals
  bu : env.builtins = builtinsNs
  vars : ∀ x d, ρ.lookup x = some d → Has P env h x d
  sub : ∀ a, P a → P₀ a
  up : ∀ a, h.get? a = none → P a
  off : ∀ a, P a → ¬ O a
  ino : ∀ a, O a → P₀ a
  olist : ∀ a o, O a → h.get? a = some o → o.cls = .type "list"
  nox : ∀ a, X a → ¬ P a ∧ ¬ O a
  noloc : ¬ P env.locals ∧ ¬ O env.locals ∧ ¬ X env.locals
  nocell : ∀ x c, env.cells.lookup x = some c → ¬ P c ∧ ¬ O c ∧ ¬ X c
  ns : ∃ m, h.Ns env.locals m
  cells : ∀ x c, env.cells.lookup x = some c → ∃ v, h.IsCell c v
  apart : ∀ x y c, env.cells.lookup x = some c → env.cells.lookup y = some c → x = y
  own : ∀ x ds, ω = some (x, ds) → Own P O env h x ds

noncomputable def Moves (O : Addr → Prop) (env : Env) (s s' : Shared) : Prop :=
  ∃ h tk, s' = { s with heap := h, toks := tk } ∧ ∀ b o, b ≠ env.locals → (∀ x, env.cells.lookup x ≠ some b) → ¬ O b → s.heap.get? b = some o → h.get? b = some o

structure Post (w : World) (A : Around) (P₀ P O X : Addr → Prop) (env : Env) (s : Shared) (ρ : List (Str × Dt)) (ω : Option (Str × Bool × List PyData)) (s' : Shared) : Prop where
  fs : ∃ P' O', Fs w A P₀ P' O' X env ρ ω s'.heap ∧ (∀ b o, s.heap.get? b = some o → P b → P' b) ∧ (∀ b o, s.heap.get? b = some o → O' b → O b)
  mv : Moves O env s s'
  alive : ∀ b, s.heap.get? b ≠ none → s'.heap.get? b ≠ none

theorem moves_keeps {O : Addr → Prop} {env : Env} {s s' : Shared} (k : Keeps s s') : Moves O env s s' := let ⟨h, t, e, q⟩ := k; ⟨h, t, e, fun b o _ _ _ x => q b o x⟩
theorem Moves.tr {O O' : Addr → Prop} {env : Env} {a b c : Shared} (x : Moves O env a b) (y : Moves O' env b c) (ho : ∀ z o, a.heap.get? z = some o → O' z → O z) : Moves O env a c := by
  obtain ⟨h, t, rfl, q⟩ := x
  obtain ⟨h', t', rfl, q'⟩ := y
  exact ⟨h', t', rfl, fun z o h1 h2 h3 e => q' z o h1 h2 (fun r => h3 (ho z o e r)) (q z o h1 h2 h3 e)⟩

section
variable {w : World} {A : Around} {P₀ P O X : Addr → Prop} {env : Env} {ρ : List (Str × Dt)} {ω : Option (Str × Bool × List PyData)}

theorem Fs.ok {h : Heap} (f : Fs w A P₀ P O X env ρ ω h) : Ok w A P env ρ h := ⟨f.gr.base, f.gr.bel, f.fn, f.gl, f.bu, f.vars⟩
theorem Own.keeps {h h' : Heap} {x : Str} {ds : Bool × List PyData} (hk : KeepsH h h') (o : Own P O env h x ds) : Own P O env h' x ds :=
  ⟨o.kind, let ⟨m, u, a, vs, n, h1, h2, hv, h3, h4, h5⟩ := o.list; ⟨m, u, a, vs, n, h1.keeps hk, h2, hv.mono hk (fun _ _ _ p => p), h3, hk _ _ h4, h5.mono hk fun _ _ _ p => p⟩⟩

theorem Fs.keeps {h h' : Heap} (hk : KeepsH h h') (f : Fs w A P₀ P O X env ρ ω h) : Fs w A P₀ P O X env ρ ω h' where
  gr := f.gr.keeps hk
  fn := f.fn
  gl := f.gl
  bu := f.bu
  vars := fun x d e => (f.vars x d e).mono hk fun _ _ _ p => p
  sub := f.sub
  up := fun a e => f.up a (by
    cases q : h.get? a with
    | none => rfl
    | some o => rw [hk _ _ q] at e; cases e)
  off := f.off
  ino := f.ino
  olist := fun a o oa e => by
    cases q : h.get? a with
    | none => exact absurd oa (f.off a (f.up a q))
    | some o' => rw [hk _ _ q] at e; cases e; exact f.olist a _ oa q
  nox := f.nox
  noloc := f.noloc
  nocell := f.nocell
  ns := let ⟨m, x⟩ := f.ns; ⟨m, x.keeps hk⟩
  cells := fun x c e => let ⟨v, y⟩ := f.cells x c e; ⟨v, isCell_keeps hk y⟩
  apart := f.apart
  own := fun x ds e => (f.own x ds e).keeps hk

theorem Fs.rd {h h' : Heap} {v : Value} {d : Dt} (f : Fs w A P₀ P O X env ρ ω h) (r : RdT (Up P h) h' v d) : RdT P h' v d :=
  r.mono (fun _ _ e => e) fun a _ _ p => p.elim id fun q => f.up a q

theorem Post.rf {s : Shared} (f : Fs w A P₀ P O X env ρ ω s.heap) : Post w A P₀ P O X env s ρ ω s := ⟨⟨P, O, f, fun _ _ _ p => p, fun _ _ _ p => p⟩, moves_keeps (Keeps.rf _), fun _ q => q⟩
theorem Post.kp {s s' : Shared} (f : Fs w A P₀ P O X env ρ ω s.heap) (k : Keeps s s') : Post w A P₀ P O X env s ρ ω s' :=
  ⟨⟨P, O, f.keeps (Keeps.hp k), fun _ _ _ p => p, fun _ _ _ p => p⟩, moves_keeps k, fun b q => by
    cases e : s.heap.get? b with
    | none => exact absurd e q
    | some o => rw [Keeps.hp k _ _ e]; exact fun z => nomatch z⟩
theorem Post.behind {ρ' ρ'' : List (Str × Dt)} {ω' ω'' : Option (Str × Bool × List PyData)} {s s' s'' : Shared} (x : Post w A P₀ P O X env s ρ' ω' s')
    (y : ∀ P' O', Fs w A P₀ P' O' X env ρ' ω' s'.heap → Post w A P₀ P' O' X env s' ρ'' ω'' s'') : Post w A P₀ P O X env s ρ'' ω'' s'' := by
  obtain ⟨P', O', f, hp, ho⟩ := x.fs
  have z := y P' O' f
  obtain ⟨P'', O'', f', hp', ho'⟩ := z.fs
  have al : ∀ b o, s.heap.get? b = some o → ∃ o', s'.heap.get? b = some o' := fun b o e => by
    cases q : s'.heap.get? b with
    | none => exact absurd q (x.alive b (by rw [e]; exact fun z => nomatch z))
    | some o' => exact ⟨o', rfl⟩
  exact ⟨⟨P'', O'', f', fun b o e p => let ⟨o', e'⟩ := al b o e; hp' b o' e' (hp b o e p), fun b o e p => let ⟨o', e'⟩ := al b o e; ho b o e (ho' b o' e' p)⟩, x.mv.tr z.mv ho, fun b q => z.alive b (x.alive b q)⟩

/-- a change of one object that holds no datum -/
theorem Fs.same {h h' : Heap} {c : Addr} (f : Fs w A P₀ P O X env ρ ω h) (hs : Heap.SameBut c h h') (hu : ∀ o, h.get? c = some o → ∀ xs n, o.data ≠ .seq xs n) (hc : ¬ P c) (hO : ¬ O c) : ∀ {v d}, RdT P h v d → RdT P h' v d := fun r =>
  r.butS (S := fun a => a = c) (fun a o ha e => hs.extBut a o ha e) (fun a o ha e => .inl (by subst ha; exact hu o e)) fun a ha => by subst ha; exact hc

theorem RdAll.butA {h h' : Heap} {S : Addr → Prop} {vs : List Value} {ds : List PyData} (r : RdAll P h vs ds) (hk : ∀ b o, ¬ S b → h.get? b = some o → h'.get? b = some o) (hS : ∀ b o, S b → h.get? b = some o → Unseen P b o) : RdAll P h' vs ds := r.butS hk hS

/-- one name stored -/
theorem fs_store {s : Shared} {x : Str} {v : Value} {d : Dt} {Q : Unit → Shared → Prop} {E : Value → Shared → Prop} (f : Fs w A P₀ P O X env ρ ω s.heap)
    (hx : env.kindOf x = some .local ∨ (env.kindOf x = some .cell ∧ (env.cells.lookup x).isSome = true)) (r : RdT P s.heap v d) (hω : ∀ y ds, ω = some (y, ds) → y ≠ x)
    (h : ∀ s', Post w A P₀ P O X env s ((x, d) :: ρ) ω s' → Q () s') : wpAny (model pr w) A (storeName env x v) Q E s := by
  have hkind := f.fn
  rcases hx with hx | ⟨hx, hcs⟩
  · obtain ⟨m, hm⟩ := f.ns
    refine wpAny_storeName_local hx hm (fun h' hn hs => h _ ?_) (by rw [hkind]; rfl)
    have hu : ∀ o, s.heap.get? env.locals = some o → ∀ xs n, o.data ≠ .seq xs n := fun o e xs n q => by
      obtain ⟨o', es, ep, e1, e2, _⟩ := hm; rw [e1] at e; cases e; rw [e2] at q; cases q
    have al : ∀ b, s.heap.get? b ≠ none → h'.get? b ≠ none := fun b q => by
      by_cases e : b = env.locals
      · obtain ⟨o', _, _, e1, _⟩ := hn; rw [e, e1]; exact fun z => nomatch z
      · rw [hs.2 b e]; exact q
    have rd := fun {v d} => f.same (v := v) (d := d) hs hu f.noloc.1 f.noloc.2.1
    have hcl : ∀ y c, env.cells.lookup y = some c → c ≠ env.locals := fun y c e q => by
      obtain ⟨v', o', e1, e2⟩ := f.cells y c e
      obtain ⟨o, es, ep, e3, e4, _⟩ := hm
      rw [q, e3] at e1; cases e1; rw [e4] at e2; cases e2
    refine ⟨⟨P, O, ⟨f.gr.change hs (.inl rfl) ?_, hkind, f.gl, f.bu, ?_, f.sub, ?_, f.off, f.ino, (fun a o oa e => f.olist a o oa (by rw [← hs.2 a (fun q => f.noloc.2.1 (q ▸ oa))]; exact e)), f.nox, f.noloc, f.nocell, ⟨_, hn⟩, ?_, f.apart, ?_⟩, fun _ _ _ p => p, fun _ _ _ p => p⟩, ⟨h', _, rfl, fun b o h1 _ _ e => hs.extBut b o h1 e⟩, al⟩
    · obtain ⟨o', es, ep, e1, e2, _⟩ := hn; exact ⟨o', e1, fun vs q => by rw [e2] at q; cases q⟩
    · intro y d' e
      rw [List.lookup_cons] at e
      cases hy : y == x with
      | true => rw [hy] at e; cases e; rw [beq_iff_eq.mp hy]; exact .loc hx hn (by simp) (rd r)
      | false =>
        rw [hy] at e
        have hne : y ≠ x := fun q => by rw [q] at hy; simp at hy
        cases f.vars y d' e with
        | loc a b c r' => rw [ns_unique b hm] at c; exact .loc a hn (by simpa [hne] using c) (rd r')
        | cel a b c r' => obtain ⟨o', e1, e2⟩ := c; exact .cel a b ⟨o', hs.extBut _ _ (hcl y _ b) e1, e2⟩ (rd r')
        | fre a b c r' => obtain ⟨o', e1, e2⟩ := c; exact .fre a b ⟨o', hs.extBut _ _ (hcl y _ b) e1, e2⟩ (rd r')
    · intro a e
      by_cases q : a = env.locals
      · obtain ⟨o', _, _, e1, _⟩ := hn; rw [q, e1] at e; cases e
      · rw [hs.2 a q] at e; exact f.up a e
    · intro y c e
      obtain ⟨v', o', e1, e2⟩ := f.cells y c e
      exact ⟨v', o', hs.extBut _ _ (hcl y c e) e1, e2⟩
    · intro y ds e
      have hne := hω y ds e
      obtain ⟨hk, m', u, a, vs, n, h1, h2, hv, h3, h4, h5⟩ := f.own y ds e
      rw [ns_unique h1 hm] at h2
      exact ⟨hk, _, u, a, vs, n, hn, by simpa [hne] using h2, hv.butS (S := fun a => a = env.locals) (fun a o ha e => hs.extBut a o ha e) (fun a ha => by subst ha; exact f.noloc.1), h3, hs.extBut _ _ (fun q => f.noloc.2.1 (q ▸ h3)) h4, h5.butS (S := fun a => a = env.locals) (fun a o ha e => hs.extBut a o ha e) fun a o ha e => .inl (by subst ha; exact hu o e)⟩
  · obtain ⟨c, hcl⟩ := Option.isSome_iff_exists.mp hcs
    obtain ⟨v₀, hv₀⟩ := f.cells x c hcl
    obtain ⟨m, hm⟩ := f.ns
    refine wpAny_storeName_cell hkind hx hcl hv₀ fun h' hc' hs => h _ ?_
    have hu : ∀ o, s.heap.get? c = some o → ∀ xs n, o.data ≠ .seq xs n := fun o e xs n q => by
      obtain ⟨o', e1, e2⟩ := hv₀; rw [e1] at e; cases e; rw [e2] at q; cases q
    have al : ∀ b, s.heap.get? b ≠ none → h'.get? b ≠ none := fun b q => by
      by_cases e : b = c
      · obtain ⟨o', e1, _⟩ := hc'; rw [e, e1]; exact fun z => nomatch z
      · rw [hs.2 b e]; exact q
    have rd := fun {v d} => f.same (v := v) (d := d) hs hu (f.nocell x c hcl).1 (f.nocell x c hcl).2.1
    have hlc : env.locals ≠ c := fun q => by
      obtain ⟨o, es, ep, e3, e4, _⟩ := hm
      obtain ⟨o', e1, e2⟩ := hv₀
      rw [← q, e3] at e1; cases e1; rw [e4] at e2; cases e2
    have hm' : h'.Ns env.locals m := hm.sameBut hs hlc
    refine ⟨⟨P, O, ⟨f.gr.change hs (.inr (.inl ⟨x, hcl⟩)) ?_, hkind, f.gl, f.bu, ?_, f.sub, ?_, f.off, f.ino, (fun a o oa e => f.olist a o oa (by rw [← hs.2 a (fun q => (f.nocell x c hcl).2.1 (q ▸ oa))]; exact e)), f.nox, f.noloc, f.nocell, ⟨m, hm'⟩, ?_, f.apart, ?_⟩, fun _ _ _ p => p, fun _ _ _ p => p⟩, ⟨h', _, rfl, fun b o _ h2 _ e => hs.extBut b o (fun q => h2 x (q ▸ hcl)) e⟩, al⟩
    · obtain ⟨o', e1, e2⟩ := hc'; exact ⟨o', e1, fun vs q => by rw [e2] at q; cases q⟩
    · intro y d' e
      rw [List.lookup_cons] at e
      cases hy : y == x with
      | true => rw [hy] at e; cases e; rw [beq_iff_eq.mp hy]; exact .cel hx hcl hc' (rd r)
      | false =>
        rw [hy] at e
        have hne : y ≠ x := fun q => by rw [q] at hy; simp at hy
        cases f.vars y d' e with
        | loc a b c' r' => exact .loc a (b.sameBut hs hlc) c' (rd r')
        | cel a b c' r' => obtain ⟨o', e1, e2⟩ := c'; exact .cel a b ⟨o', hs.extBut _ _ (fun q => hne (f.apart y x c (q ▸ b) hcl)) e1, e2⟩ (rd r')
        | fre a b c' r' => obtain ⟨o', e1, e2⟩ := c'; exact .fre a b ⟨o', hs.extBut _ _ (fun q => hne (f.apart y x c (q ▸ b) hcl)) e1, e2⟩ (rd r')
    · intro a e
      by_cases q : a = c
      · obtain ⟨o', e1, _⟩ := hc'; rw [q, e1] at e; cases e
      · rw [hs.2 a q] at e; exact f.up a e
    · intro y c' e
      by_cases q : c' = c
      · subst q; exact ⟨_, hc'⟩
      · obtain ⟨v', o', e1, e2⟩ := f.cells y c' e
        exact ⟨v', o', hs.extBut _ _ q e1, e2⟩
    · intro y ds e
      obtain ⟨hk, m', u, a, vs, n, h1, h2, hv, h3, h4, h5⟩ := f.own y ds e
      exact ⟨hk, m', u, a, vs, n, h1.sameBut hs hlc, h2, hv.butS (S := fun a => a = c) (fun a o ha e => hs.extBut a o ha e) (fun a ha => by subst ha; exact (f.nocell x a hcl).1), h3, hs.extBut _ _ (fun q => (f.nocell x c hcl).2.1 (q ▸ h3)) h4, h5.butS (S := fun a => a = c) (fun a o ha e => hs.extBut a o ha e) fun a o ha e => .inl (by subst ha; exact hu o e)⟩
end
end Mine

open PySem PySem.W PyProof.Rows PySem.Calls
set_option Elab.async false
set_option maxRecDepth 100000
namespace Mine

abbrev Rho := List (Str × Dt)
abbrev Omg := Option (Str × Bool × List PyData)

/-- how statements end -/
inductive Out
  | next (ρ : Rho) (ω : Omg)
  | brk (ρ : Rho) (ω : Omg)
  | ret (d : Dt)
  | retO (d : Dt) (ρ : Rho) (ω : Omg)

noncomputable def OutOk (w : World) (A : Around) (P₀ P O X : Addr → Prop) (env : Env) (s : Shared) : Out → Flow → Shared → Prop
  | .next ρ ω, fl, s' => fl = .next ∧ Post w A P₀ P O X env s ρ ω s'
  | .brk ρ ω, fl, s' => fl = .brk ∧ Post w A P₀ P O X env s ρ ω s'
  | .ret d, fl, s' => ∃ v, fl = .ret v ∧ RdT P₀ s'.heap v d ∧ Moves O env s s'
  | .retO d ρ ω, fl, s' => ∃ v, fl = .ret v ∧ RdT P₀ s'.heap v d ∧ Post w A P₀ P O X env s ρ ω s'

noncomputable def Sx (w : World) (A : Around) (env : Env) (ρ : Rho) (ω : Omg) (ss : List Stmt) (o : Out) : Prop :=
  ∀ (P₀ P O X : Addr → Prop) (s : Shared) (Q : Flow → Shared → Prop) (E : Value → Shared → Prop), Fs w A P₀ P O X env ρ ω s.heap →
    (∀ fl s', OutOk w A P₀ P O X env s o fl s' → Q fl s') → wpAny (model pr w) A (execs ss env) Q E s
noncomputable def S1 (w : World) (A : Around) (env : Env) (ρ : Rho) (ω : Omg) (st : Stmt) (o : Out) : Prop :=
  ∀ (P₀ P O X : Addr → Prop) (s : Shared) (Q : Flow → Shared → Prop) (E : Value → Shared → Prop), Fs w A P₀ P O X env ρ ω s.heap →
    (∀ fl s', OutOk w A P₀ P O X env s o fl s' → Q fl s') → wpAny (model pr w) A (exec st env) Q E s

section
variable {w : World} {A : Around} {env : Env} {ρ ρ' : Rho} {ω ω' : Omg} {pos : Pos}

theorem OutOk.behind {P₀ P O X : Addr → Prop} {s s₁ s' : Shared} {o : Out} {fl : Flow} (x : Post w A P₀ P O X env s ρ' ω' s₁) {P' O' : Addr → Prop} (f : Fs w A P₀ P' O' X env ρ' ω' s₁.heap)
    (hp : ∀ b o, s.heap.get? b = some o → P b → P' b) (ho : ∀ b o, s.heap.get? b = some o → O' b → O b) (y : OutOk w A P₀ P' O' X env s₁ o fl s') : OutOk w A P₀ P O X env s o fl s' := by
  have al : ∀ b o, s.heap.get? b = some o → ∃ o', s₁.heap.get? b = some o' := fun b o e => by
    cases q : s₁.heap.get? b with
    | none => exact absurd q (x.alive b (by rw [e]; exact fun z => nomatch z))
    | some o' => exact ⟨o', rfl⟩
  have key : ∀ {ρ ω}, Post w A P₀ P' O' X env s₁ ρ ω s' → Post w A P₀ P O X env s ρ ω s' := fun z => by
    obtain ⟨P'', O'', f', hp', ho'⟩ := z.fs
    exact ⟨⟨P'', O'', f', fun b o e p => let ⟨o', e'⟩ := al b o e; hp' b o' e' (hp b o e p), fun b o e p => let ⟨o', e'⟩ := al b o e; ho b o e (ho' b o' e' p)⟩, x.mv.tr z.mv ho, fun b q => z.alive b (x.alive b q)⟩
  cases o with
  | next ρ ω => exact ⟨y.1, key y.2⟩
  | brk ρ ω => exact ⟨y.1, key y.2⟩
  | ret d => obtain ⟨v, e, r, m⟩ := y; exact ⟨v, e, r, x.mv.tr m ho⟩
  | retO d ρ ω => obtain ⟨v, e, r, p⟩ := y; exact ⟨v, e, r, key p⟩

theorem sx_nil : Sx w A env ρ ω [] (.next ρ ω) := fun P₀ P O X s Q E f hQ => wpAny_execs_nil (hQ _ _ ⟨rfl, Post.rf f⟩)
theorem sx_cons {st : Stmt} {rest : List Stmt} {o : Out} (h : S1 w A env ρ ω st (.next ρ' ω')) (hr : Sx w A env ρ' ω' rest o) : Sx w A env ρ ω (st :: rest) o :=
  fun P₀ P O X s Q E f hQ => wpAny_execs_cons (h P₀ P O X s _ _ f fun fl s₁ ⟨e, p⟩ => by
    subst e
    obtain ⟨P', O', f', hp, ho⟩ := p.fs
    exact hr P₀ P' O' X s₁ Q E f' fun fl s' y => hQ fl s' (OutOk.behind p f' hp ho y))
theorem sx_ret {st : Stmt} {rest : List Stmt} {d : Dt} (h : S1 w A env ρ ω st (.ret d)) : Sx w A env ρ ω (st :: rest) (.ret d) :=
  fun P₀ P O X s Q E f hQ => wpAny_execs_cons (h P₀ P O X s _ _ f fun fl s₁ y => by obtain ⟨v, rfl, r, m⟩ := y; exact hQ _ _ ⟨v, rfl, r, m⟩)
theorem sx_brk {st : Stmt} {rest : List Stmt} (h : S1 w A env ρ ω st (.brk ρ' ω')) : Sx w A env ρ ω (st :: rest) (.brk ρ' ω') :=
  fun P₀ P O X s Q E f hQ => wpAny_execs_cons (h P₀ P O X s _ _ f fun fl s₁ ⟨e, p⟩ => by subst e; exact hQ _ _ ⟨rfl, p⟩)

theorem s_assign {x : Str} {px : Pos} {e : Expr} {d : Dt} (h : Ev w A env ρ e d)
    (hx : env.kindOf x = some .local ∨ (env.kindOf x = some .cell ∧ (env.cells.lookup x).isSome = true) := by first | exact .inl rfl | exact .inr ⟨rfl, rfl⟩)
    (hω : ∀ y ds, ω = some (y, ds) → y ≠ x := by first | (intro _ _ z; cases z; done) | (intro _ _ z; cases z; decide))
    (hs : swapsWith e (some (.Name x px)) pos.line env = pure false := by rfl) : S1 w A env ρ ω (.Assign [.Name x px] e pos) (.next ((x, d) :: ρ) ω) :=
  fun P₀ P O X s Q E f hQ => wpAny_Assign_Name (h P s _ _ f.ok fun v s₁ k r => fs_store (f.keeps (Keeps.hp k)) hx (f.rd r) hω fun s₂ p₂ => hQ _ _ ⟨rfl, by
    refine OutOk.behind (o := .next _ _) (fl := .next) (Post.kp f k) (f.keeps (Keeps.hp k)) (fun _ _ _ p => p) (fun _ _ _ p => p) ⟨rfl, p₂⟩ |>.2⟩) hs

theorem sx_retO {st : Stmt} {rest : List Stmt} {d : Dt} (h : S1 w A env ρ ω st (.retO d ρ' ω')) : Sx w A env ρ ω (st :: rest) (.retO d ρ' ω') :=
  fun P₀ P O X s Q E f hQ => wpAny_execs_cons (h P₀ P O X s _ _ f fun fl s₁ y => by obtain ⟨v, rfl, r, p⟩ := y; exact hQ _ _ ⟨v, rfl, r, p⟩)
theorem s_returnO {e : Expr} {d : Dt} (h : Ev w A env ρ e d) : S1 w A env ρ ω (.Return (some e) pos) (.retO d ρ ω) :=
  fun P₀ P O X s Q E f hQ => wpAny_Return_some (h P s _ _ f.ok fun v s₁ k r => hQ _ _ ⟨v, rfl, (f.rd r).mono (fun _ _ e => e) fun a _ _ p => f.sub a p, Post.kp f k⟩)

theorem s_return {e : Expr} {d : Dt} (h : Ev w A env ρ e d) : S1 w A env ρ ω (.Return (some e) pos) (.ret d) :=
  fun P₀ P O X s Q E f hQ => wpAny_Return_some (h P s _ _ f.ok fun v s₁ k r => hQ _ _ ⟨v, rfl, (f.rd r).mono (fun _ _ e => e) fun a _ _ p => f.sub a p, moves_keeps k⟩)

theorem s_if {t : Expr} {body orelse : List Stmt} {b : Bool} {o : Out} (h : Tv w A env ρ t b) (h₁ : b = true → Sx w A env ρ ω body o) (h₂ : b = false → Sx w A env ρ ω orelse o) : S1 w A env ρ ω (.If t body orelse pos) o :=
  fun P₀ P O X s Q E f hQ => wpAny_If (h P s _ _ f.ok fun s₁ k => by
    have go : ∀ {ss}, Sx w A env ρ ω ss o → wpAny (model pr w) A (execs ss env) Q E s₁ := fun hs => hs P₀ P O X s₁ Q E (f.keeps (Keeps.hp k)) fun fl s' y =>
      hQ fl s' (OutOk.behind (Post.kp f k) (f.keeps (Keeps.hp k)) (fun _ _ _ p => p) (fun _ _ _ p => p) y)
    cases b with
    | true => exact go (h₁ rfl)
    | false => exact go (h₂ rfl))

theorem s_break : S1 w A env ρ ω (.Break pos) (.brk ρ ω) := fun P₀ P O X s Q E f hQ => wpAny_Break (hQ _ _ ⟨rfl, Post.rf f⟩)

/-- forget names -/
noncomputable def Sub (ρ' ρ : Rho) : Prop := ∀ y d, ρ'.lookup y = some d → ρ.lookup y = some d
theorem Fs.weak {P₀ P O X : Addr → Prop} {h : Heap} (hs : Sub ρ' ρ) (f : Fs w A P₀ P O X env ρ ω h) : Fs w A P₀ P O X env ρ' ω h := { f with vars := fun x d e => f.vars x d (hs x d e) }
theorem Post.weak {P₀ P O X : Addr → Prop} {s s' : Shared} (hs : Sub ρ' ρ) (p : Post w A P₀ P O X env s ρ ω s') : Post w A P₀ P O X env s ρ' ω s' := let ⟨P', O', f, a, b⟩ := p.fs; ⟨⟨P', O', f.weak hs, a, b⟩, p.mv, p.alive⟩
theorem sx_weak {ss : List Stmt} {o : Out} (hs : Sub ρ' ρ) (h : Sx w A env ρ' ω ss o) : Sx w A env ρ ω ss o := fun P₀ P O X s Q E f hQ => h P₀ P O X s Q E (f.weak hs) hQ

/-- a step of a loop's iterator -/
theorem Fs.iter {P₀ P O X : Addr → Prop} {h h' : Heap} {I : Addr} (f : Fs w A P₀ P O X env ρ ω h) (hI : X I) (hf : ∃ o vs, h.get? I = some o ∧ o.data = .fields vs) (hk : ∀ b o, b ≠ I → h.get? b = some o → h'.get? b = some o)
    (hI' : ∃ o, h'.get? I = some o) : Fs w A P₀ P O X env ρ ω h' := by
  obtain ⟨oI, vI, eI, dI⟩ := hf
  have hu : ∀ o, h.get? I = some o → ∀ xs n, o.data ≠ .seq xs n := fun o e xs n q => by rw [eI] at e; cases e; rw [dI] at q; cases q
  have rd : ∀ {v d}, RdT P h v d → RdT P h' v d := fun r => r.butS (S := fun a => a = I) (fun a o ha e => hk a o ha e) (fun a o ha e => .inl (by subst ha; exact hu o e)) fun a ha => by subst ha; exact (f.nox a hI).1
  have hl : env.locals ≠ I := fun q => f.noloc.2.2 (q ▸ hI)
  have hc : ∀ y c, env.cells.lookup y = some c → c ≠ I := fun y c e q => (f.nocell y c e).2.2 (q ▸ hI)
  have gr : Gr w A (offS env O X) h' := by
    obtain ⟨g, base, outer, b, st, k, e, ff, n⟩ := f.gr
    refine ⟨g, base, outer, b, st, fun a o q => hk a o (fun z => by rw [z, n I (.inr (.inr (.inr hI)))] at q; cases q) (k a o q), e, funFrames_some (fun a o q d => ?_) ff, n⟩
    by_cases z : a = I
    · subst z; rw [eI] at q; cases q; exact absurd dI (d _)
    · exact ⟨o, hk a o z q, d⟩
  refine ⟨gr, f.fn, f.gl, f.bu, ?_, f.sub, ?_, f.off, f.ino, ?_, f.nox, f.noloc, f.nocell, ?_, ?_, f.apart, ?_⟩
  · intro x d e
    cases f.vars x d e with
    | loc a b c r => exact .loc a (b.at' fun o q => hk _ o hl q) c (rd r)
    | cel a b c r => obtain ⟨o, e1, e2⟩ := c; exact .cel a b ⟨o, hk _ o (hc _ _ b) e1, e2⟩ (rd r)
    | fre a b c r => obtain ⟨o, e1, e2⟩ := c; exact .fre a b ⟨o, hk _ o (hc _ _ b) e1, e2⟩ (rd r)
  · intro a e
    by_cases z : a = I
    · subst z; obtain ⟨o, e'⟩ := hI'; rw [e'] at e; cases e
    · exact f.up a (by
        cases q : h.get? a with
        | none => rfl
        | some o => rw [hk a o z q] at e; cases e)
  · intro a o oa e
    cases q : h.get? a with
    | none => exact absurd oa (f.off a (f.up a q))
    | some o' => rw [hk _ _ (fun z => (f.nox I hI).2 (z ▸ oa)) q] at e; cases e; exact f.olist a _ oa q
  · obtain ⟨m, x⟩ := f.ns; exact ⟨m, x.at' fun o q => hk _ o hl q⟩
  · intro y c e
    obtain ⟨v, o, e1, e2⟩ := f.cells y c e
    exact ⟨v, o, hk _ o (hc y c e) e1, e2⟩
  · intro y ds e
    obtain ⟨hk', m, u, a, vs, n, h1, h2, hv, h3, h4, h5⟩ := f.own y ds e
    exact ⟨hk', m, u, a, vs, n, h1.at' fun o q => hk _ o hl q, h2, hv.butS (S := fun a => a = I) (fun a o ha e => hk a o ha e) (fun a ha => by subst ha; exact (f.nox a hI).1), h3, hk _ _ (fun q => (f.nox I hI).2 (q ▸ h3)) h4, h5.butS (S := fun a => a = I) (fun a o ha e => hk a o ha e) fun a o ha e => .inl (by subst ha; exact hu o e)⟩

/-- how a loop ends: all turns and the else part, or a break, or a return -/
inductive LoopEnd {α : Type} (w : World) (A : Around) (env : Env) (ext : α → Rho → Rho) (its : List α) (body orelse : List Stmt) (st : Nat → Rho) (om : Nat → Omg) (j : Nat) : Out → Prop
  | all {o} : j = its.length → Sx w A env (st j) (om j) orelse o → LoopEnd w A env ext its body orelse st om j o
  | brk {a ρ' ω'} : its[j]? = some a → Sx w A env (ext a (st j)) (om j) body (.brk ρ' ω') → LoopEnd w A env ext its body orelse st om j (.next ρ' ω')
  | ret {a d} : its[j]? = some a → Sx w A env (ext a (st j)) (om j) body (.ret d) → LoopEnd w A env ext its body orelse st om j (.ret d)

/-- a target that takes a datum, the iterator being at I -/
noncomputable def Asg (w : World) (A : Around) (env : Env) (ω : Omg) (tgt : Expr) (d : PyData) (ext : Rho → Rho) : Prop :=
  ∀ (P₀ P O X : Addr → Prop) (s : Shared) (ρ : Rho) (Q : Unit → Shared → Prop) (E : Value → Shared → Prop) (v : Value) (I : Addr), Fs w A P₀ P O X env ρ ω s.heap → Rd P s.heap v d → (∃ o vs, s.heap.get? I = some o ∧ o.data = .fields vs ∧ (o.cls = .type "list_iterator" ∨ o.cls = .type "range_iterator")) →
    (∀ s', Post w A P₀ P O X env s (ext ρ) ω s' → Q () s') → wpAny (model pr w) A (letOwnedTupleGo tgt (.ref I) v) (fun _ s₁ => wpAny (model pr w) A (assign tgt env v) Q E s₁) E s
theorem asg_name {ω : Omg} {x : Str} {px : Pos} {d : PyData} (hx : env.kindOf x = some .local ∨ (env.kindOf x = some .cell ∧ (env.cells.lookup x).isSome = true)) (hω : ∀ y ds, ω = some (y, ds) → y ≠ x) : Asg w A env ω (.Name x px) d fun ρ => (x, .py d) :: ρ :=
  fun P₀ P O X s ρ Q E v I f r _ h => wpAny_pure (wpAny_assign_Name (fs_store f hx (.py r) hω h))

set_option maxHeartbeats 1000000 in
theorem s_for_any {α : Type} {tgt : Expr} {ext : α → Rho → Rho} {iter : Expr} {body orelse : List Stmt} {enc : α → PyData} {its : List α} (st : Nat → Rho) (om : Nat → Omg) (j : Nat) {o : Out}
    (hsrc : Src w A env ρ iter (its.map enc)) (h0 : Sub (st 0) ρ) (ho : om 0 = ω)
    (turn : ∀ i a, i < j → its[i]? = some a → ∃ ρ', Sx w A env (ext a (st i)) (om i) body (.next ρ' (om (i + 1))) ∧ Sub (st (i + 1)) ρ')
    (hj : j ≤ its.length) (fin : LoopEnd w A env ext its body orelse st om j o)
    (hasg : ∀ i a, its[i]? = some a → Asg w A env (om i) tgt (enc a) (ext a))
    (hs : ∀ x, foldedSetIterable iter env x = pure x := by intro _; rfl) : S1 w A env ρ ω (.For tgt iter body orelse pos) o := by
  intro P₀ P O X s Q E f hQ
  refine wpAny_For (hsrc P s _ _ f.ok fun I fp Pv St s₂ k₂ W hst hI hfp hfld hitems hcls => ?_) hs
  rw [List.length_map] at W
  have f₂ := f.keeps (Keeps.hp k₂)
  -- the iterator's place is set apart
  have pI : P I := f.up I hI
  have inS : ∀ b o, s.heap.get? b = some o → b ≠ I := fun b o e q => by rw [q, hI] at e; cases e
  have lI : env.locals ≠ I := fun q => by obtain ⟨m, o, _, _, e, _⟩ := f.ns; exact inS _ o e q
  have cI : ∀ y c, env.cells.lookup y = some c → c ≠ I := fun y c e q => by obtain ⟨v, o, e1, _⟩ := f.cells y c e; exact inS _ o e1 q
  let P₁ : Addr → Prop := fun a => P a ∧ a ≠ I
  let X₁ : Addr → Prop := fun a => X a ∨ a = I
  have nOI : ¬ O I := f.off I pI
  have nXI : ¬ X I := fun q => (f.nox I q).1 pI
  have fI : Fs w A P₀ P₁ O X₁ env (st 0) (om 0) s₂.heap := by
    have hP : ∀ a o, s.heap.get? a = some o → P a → P₁ a := fun a o e p => ⟨p, inS a o e⟩
    refine ⟨(f.gr.mono fun a ha => ?_).keeps (Keeps.hp k₂), f.fn, f.gl, f.bu, fun y d e => ((f.vars y d (h0 y d e)).mono (Keeps.hp k₂) hP), fun a p => f.sub a p.1, fun a e => ⟨f₂.up a e, fun q => ?_⟩, fun a p => f.off a p.1, f.ino, f₂.olist, ?_, ?_, ?_, f₂.ns, f₂.cells, f.apart, ?_⟩
    · rcases ha with ha | ha | ha | ha | ha
      · exact .inl (.inl ha)
      · exact .inl (.inr (.inl ha))
      · exact .inl (.inr (.inr (.inl ha)))
      · exact .inl (.inr (.inr (.inr ha)))
      · exact .inr (ha ▸ hI)
    · obtain ⟨o, vs, e', _⟩ := hfld 0 _ hst; rw [q, e'] at e; cases e
    · rintro a (ha | rfl)
      · exact ⟨fun p => (f.nox a ha).1 p.1, (f.nox a ha).2⟩
      · exact ⟨fun p => p.2 rfl, nOI⟩
    · exact ⟨fun p => f.noloc.1 p.1, f.noloc.2.1, fun z => z.elim f.noloc.2.2 lI⟩
    · exact fun y c e => ⟨fun p => (f.nocell y c e).1 p.1, (f.nocell y c e).2.1, fun z => z.elim (f.nocell y c e).2.2 (cI y c e)⟩
    · intro y ds e
      rw [ho] at e
      obtain ⟨hk', m, u, a, vs, n, h1, h2, hv, h3, h4, h5⟩ := f.own y ds e
      exact ⟨hk', m, u, a, vs, n, h1.keeps (Keeps.hp k₂), h2, hv.mono (Keeps.hp k₂) hP, h3, Keeps.hp k₂ _ _ h4, h5.mono (Keeps.hp k₂) hP⟩
  let OM : Addr → Prop := fun b => O b ∨ b = I
  let PI : Rho → Omg → Shared → Prop := fun ρ ω s'' => ∃ P' O', Fs w A P₀ P' O' X₁ env ρ ω s''.heap ∧ (∀ b o, s₂.heap.get? b = some o → P₁ b → P' b) ∧ (∀ b o, s₂.heap.get? b = some o → O' b → O b) ∧ Moves OM env s₂ s'' ∧ (∀ b, b ≠ I → s₂.heap.get? b ≠ none → s''.heap.get? b ≠ none)
  have fpOk : ∀ b ∈ fp, (∃ o, s₂.heap.get? b = some o) ∧ b ≠ env.locals ∧ (∀ y, env.cells.lookup y ≠ some b) ∧ ¬ O b := fun b hb => by
    obtain ⟨u, o, e⟩ := hfp b hb
    have pb : P b := u.elim id fun q => f.up b q
    exact ⟨⟨o, e⟩, fun q => f.noloc.1 (q ▸ pb), fun y q => (f.nocell y b q).1 pb, f.off b pb⟩
  -- one turn: the item stored, the body run
  have step : ∀ (i : Nat) (a : α) (s' : Shared) (o' : Out) (R : Flow → Shared → Prop) (E' : Value → Shared → Prop) (v : Value) (h₁ : Heap) (tk₁ : Nat), its[i]? = some a → St i s'.heap → PI (st i) (om i) s' → Pv i v → St (i + 1) h₁ →
      (∀ b o, b ≠ I → s'.heap.get? b = some o → h₁.get? b = some o) → Sx w A env (ext a (st i)) (om i) body o' →
      (∀ fl s'', (match o' with
        | .next ρ' ω' => fl = .next ∧ St (i + 1) s''.heap ∧ PI ρ' ω' s''
        | .brk ρ' ω' => fl = .brk ∧ PI ρ' ω' s''
        | .ret d => ∃ v, fl = .ret v ∧ RdT P₀ s''.heap v d ∧ Moves OM env s₂ s''
        | .retO d ρ' ω' => ∃ v, fl = .ret v ∧ RdT P₀ s''.heap v d ∧ PI ρ' ω' s'') → R fl s'') →
      wpAny (model pr w) A (letOwnedTupleGo tgt (.ref I) v) (fun _ s₂' => wpAny (model pr w) A (assign tgt env v) (fun _ s₃ => wpAny (model pr w) A (execs body env) R E' s₃) E' s₂') E' { s' with heap := h₁, toks := tk₁ } := by
    rintro i a s' o' R E' v h₁ tk₁ ha hsti ⟨P', O', f', hp', ho', mv', al'⟩ hPv hst₁ hk₁ hbody hR
    have f₁ : Fs w A P₀ P' O' X₁ env (st i) (om i) h₁ := f'.iter (I := I) (.inr rfl) (hfld i _ hsti) hk₁ (let ⟨o, _, e, _⟩ := hfld _ _ hst₁; ⟨o, e⟩)
    obtain ⟨d, hd, hrd⟩ := hitems i v hPv
    rw [List.getElem?_map, ha] at hd
    cases hd
    -- what the item reads as, carried on
    have r₂ : Rd (fun b => P₁ b ∧ ∃ o, s₂.heap.get? b = some o) s₂.heap v (enc a) := hrd.monoL (fun _ _ e => e) fun b vs n e u => ⟨⟨u.elim id fun q => f.up b q, fun q => by
      obtain ⟨o, vs', e', d'⟩ := hfld 0 _ hst; rw [q, e'] at e; cases e; cases d'⟩, _, e⟩
    have r₃ : Rd (fun b => P₁ b ∧ ∃ o, s₂.heap.get? b = some o) s'.heap v (enc a) := by
      obtain ⟨h', t', rfl, q⟩ := mv'
      refine r₂.butS (S := fun b => b = env.locals ∨ (∃ y, env.cells.lookup y = some b) ∨ OM b) (fun b o hb e => q b o (fun z => hb (.inl z)) (fun y z => hb (.inr (.inl ⟨y, z⟩))) (fun z => hb (.inr (.inr z))) e) fun b o hb e => ?_
      rcases hb with rfl | ⟨y, hy⟩ | hb | rfl
      · obtain ⟨m, o', es, ep, e1, e2, _⟩ := fI.ns; exact .inl fun xs n z => by rw [e1] at e; cases e; rw [e2] at z; cases z
      · obtain ⟨v', o', e1, e2⟩ := fI.cells y b hy; exact .inl fun xs n z => by rw [e1] at e; cases e; rw [e2] at z; cases z
      · exact .inr ⟨fI.olist b o hb e, fun z => fI.off b z.1 hb⟩
      · obtain ⟨o', vs', e', d'⟩ := hfld 0 _ hst; exact .inl fun xs n z => by rw [e'] at e; cases e; rw [d'] at z; cases z
    have r₄ : Rd P' h₁ v (enc a) := by
      have r' : Rd P' s'.heap v (enc a) := r₃.mono (fun _ _ e => e) fun b _ _ z => let ⟨o, e⟩ := z.2; hp' b o e z.1
      exact r'.butS (S := fun b => b = I) (fun b o hb e => hk₁ b o hb e) fun b o hb e => .inl fun xs n z => by
        subst hb; obtain ⟨o', vs', e', d'⟩ := hfld i _ hsti; rw [e'] at e; cases e; rw [d'] at z; cases z
    have mv₁ : Moves OM env s₂ { s' with heap := h₁, toks := tk₁ } := by
      obtain ⟨h', t', rfl, q⟩ := mv'
      exact ⟨h₁, tk₁, rfl, fun b o h1 h2 h3 e => hk₁ b o (fun z => h3 (.inr z)) (q b o h1 h2 h3 e)⟩
    have al₁ : ∀ b, b ≠ I → s₂.heap.get? b ≠ none → h₁.get? b ≠ none := fun b hb q => by
      cases e : s'.heap.get? b with
      | none => exact absurd e (al' b hb q)
      | some o => rw [hk₁ b o hb e]; exact fun z => nomatch z
    refine hasg i a ha P₀ P' O' X₁ { s' with heap := h₁, toks := tk₁ } (st i) _ _ v I f₁ r₄ (let ⟨o, vs, e, d⟩ := hfld _ _ hst₁; ⟨o, vs, e, d, hcls _ _ o hst₁ e⟩) fun s₃ p₃ => ?_
    obtain ⟨P₃, O₃, f₃, hp₃, ho₃⟩ := p₃.fs
    refine hbody P₀ P₃ O₃ X₁ s₃ R E' f₃ fun fl s'' y => hR fl s'' ?_
    have hO3 : ∀ b o, s₂.heap.get? b = some o → O₃ b → O b ∨ b = I := fun b o e z => by
      by_cases q : b = I
      · exact .inr q
      · left
        cases e1 : h₁.get? b with
        | none => exact absurd e1 (al₁ b q (by rw [e]; exact fun z => nomatch z))
        | some o₁ => exact ho' b o e (ho₃ b o₁ e1 z)
    have hO' : ∀ b o, s₂.heap.get? b = some o → O' b → OM b := fun b o e z => .inl (ho' b o e z)
    have mv₃ : Moves OM env s₂ s₃ := mv₁.tr p₃.mv hO'
    have al₃ : ∀ b, b ≠ I → s₂.heap.get? b ≠ none → s₃.heap.get? b ≠ none := fun b hb q => p₃.alive b (al₁ b hb q)
    have post : ∀ {ρ' ω'}, Post w A P₀ P₃ O₃ X₁ env s₃ ρ' ω' s'' → PI ρ' ω' s'' := fun z => by
      obtain ⟨P₄, O₄, f₄, hp₄, ho₄⟩ := z.fs
      refine ⟨P₄, O₄, f₄, fun b o e p => ?_, fun b o e p => ?_, mv₃.tr z.mv hO3, fun b hb q => z.alive b (al₃ b hb q)⟩
      · have nI : b ≠ I := p.2
        have q₀ : s₂.heap.get? b ≠ none := by rw [e]; exact fun z => nomatch z
        cases e1 : h₁.get? b with
        | none => exact absurd e1 (al₁ b nI q₀)
        | some o₁ => cases e3 : s₃.heap.get? b with
          | none => exact absurd e3 (al₃ b nI q₀)
          | some o₃ => exact hp₄ b o₃ e3 (hp₃ b o₁ e1 (hp' b o e p))
      · by_cases nI : b = I
        · subst nI
          exact absurd p (f₄.nox b (.inr rfl)).2
        · have q₀ : s₂.heap.get? b ≠ none := by rw [e]; exact fun z => nomatch z
          cases e3 : s₃.heap.get? b with
          | none => exact absurd e3 (al₃ b nI q₀)
          | some o₃ => exact (hO3 b o e (ho₄ b o₃ e3 p)).elim id fun z => absurd z nI
    cases o' with
    | next ρ' ω' =>
      obtain ⟨e, z⟩ := y
      refine ⟨e, W.frame _ _ _ hst₁ fun b hb o eb => ?_, post z⟩
      obtain ⟨⟨o₂, e₂⟩, b1, b2, b3⟩ := fpOk b hb
      obtain ⟨h3, t3, e3, q3⟩ := p₃.mv
      obtain ⟨h4, t4, e4, q4⟩ := z.mv
      have nO' : ¬ O' b := fun z => b3 (ho' b o₂ e₂ z)
      have g3 : s₃.heap.get? b = some o := by rw [e3]; exact q3 b o b1 b2 nO' eb
      rw [e4]
      refine q4 b o b1 b2 (fun zz => ?_) g3
      by_cases nI : b = I
      · subst nI; exact (f₃.nox b (.inr rfl)).2 zz
      · exact (hO3 b o₂ e₂ zz).elim b3 nI
    | brk ρ' ω' => exact ⟨y.1, post y.2⟩
    | ret d =>
      obtain ⟨v', e, r, m⟩ := y
      exact ⟨v', e, r, mv₃.tr m hO3⟩
    | retO d ρ' ω' =>
      obtain ⟨v', e, r, p⟩ := y
      exact ⟨v', e, r, post p⟩
  -- how it looks from outside
  have outMv : ∀ s'', Moves OM env s₂ s'' → Moves O env s s'' := fun s'' m => by
    obtain ⟨h', t', rfl, q⟩ := m
    obtain ⟨h2, t2, rfl, q2⟩ := k₂
    exact ⟨h', t', rfl, fun b o h1 h3 h4 e => q b o h1 h3 (fun z => z.elim h4 (inS b o e)) (q2 b o e)⟩
  have outAl : ∀ s'' : Shared, (∀ b, b ≠ I → s₂.heap.get? b ≠ none → s''.heap.get? b ≠ none) → ∀ b, s.heap.get? b ≠ none → s''.heap.get? b ≠ none := fun s'' al b q => by
    cases e : s.heap.get? b with
    | none => exact absurd e q
    | some o => exact al b (inS b o e) (by rw [Keeps.hp k₂ _ _ e]; exact fun z => nomatch z)
  refine codeAny_forLoop_any (fun k s' => ∃ i, i ≤ j ∧ k = its.length + 1 - i ∧ St i s'.heap ∧ PI (st i) (om i) s') ?_ (its.length + 1) ⟨0, Nat.zero_le _, rfl, hst, P₁, O, fI, fun _ _ _ p => p, fun _ _ _ p => p, moves_keeps (Keeps.rf _), fun _ _ q => q⟩
  rintro k s' ⟨i, hij, rfl, hsti, hPI⟩
  by_cases hlt : i < j
  · obtain ⟨a, ha⟩ : ∃ a, its[i]? = some a := ⟨its[i]'(by omega), by simp⟩
    obtain ⟨ρ', hb, hsub⟩ := turn i a hlt ha
    refine W.item i s' _ _ (by omega) hsti fun v h₁ tk₁ hP hst₁ hk₁ => ?_
    refine step i a s' _ _ _ v h₁ tk₁ ha hsti hPI hP hst₁ (fun b o hb e => hk₁ b o (by simpa using hb) e) hb fun fl s'' y => ?_
    obtain ⟨rfl, hst', P'', O'', f'', r1, r2, r3, r4⟩ := y
    exact ⟨its.length + 1 - (i + 1), by omega, i + 1, hlt, rfl, hst', P'', O'', f''.weak hsub, r1, r2, r3, r4⟩
  · have hij' : i = j := by omega
    subst hij'
    cases fin with
    | brk ha hb =>
      have hi : i < its.length := (List.getElem?_eq_some_iff.mp ha).1
      refine W.item i s' _ _ hi hsti fun v h₁ tk₁ hP hst₁ hk₁ => ?_
      refine step i _ s' _ _ _ v h₁ tk₁ ha hsti hPI hP hst₁ (fun b o hb e => hk₁ b o (by simpa using hb) e) hb fun fl s'' y => ?_
      obtain ⟨rfl, P'', O'', f'', r1, r2, r3, r4⟩ := y
      refine hQ _ _ ⟨rfl, ⟨P'', O'', ?_, fun b o e p => r1 b o (Keeps.hp k₂ _ _ e) ⟨p, inS b o e⟩, fun b o e p => r2 b o (Keeps.hp k₂ _ _ e) p⟩, outMv _ r3, outAl _ r4⟩
      exact ⟨f''.gr.mono fun a ha => .inl (by rcases ha with ha | ha | ha | ha; exact .inl ha; exact .inr (.inl ha); exact .inr (.inr (.inl ha)); exact .inr (.inr (.inr (.inl ha)))), f''.fn, f''.gl, f''.bu, f''.vars, f''.sub, f''.up, f''.off, f''.ino, f''.olist,
        fun a ha => f''.nox a (.inl ha), ⟨f''.noloc.1, f''.noloc.2.1, fun z => f''.noloc.2.2 (.inl z)⟩, fun y c e => ⟨(f''.nocell y c e).1, (f''.nocell y c e).2.1, fun z => (f''.nocell y c e).2.2 (.inl z)⟩, f''.ns, f''.cells, f''.apart, f''.own⟩
    | ret ha hb =>
      have hi : i < its.length := (List.getElem?_eq_some_iff.mp ha).1
      refine W.item i s' _ _ hi hsti fun v h₁ tk₁ hP hst₁ hk₁ => ?_
      refine step i _ s' _ _ _ v h₁ tk₁ ha hsti hPI hP hst₁ (fun b o hb e => hk₁ b o (by simpa using hb) e) hb fun fl s'' y => ?_
      obtain ⟨v', rfl, r, m⟩ := y
      exact hQ _ _ ⟨v', rfl, r, outMv _ m⟩
    | all hi hb =>
      subst hi
      refine W.done s' _ _ hsti fun h₁ tk₁ hk₁ => ?_
      obtain ⟨P', O', f', hp', ho', mv', al'⟩ := hPI
      have hk₁' : ∀ b o, b ≠ I → s'.heap.get? b = some o → h₁.get? b = some o := fun b o hb e => hk₁ b o (by simpa using hb) e
      have fe : Fs w A P₀ (fun a => P' a ∨ a = I) O' X env (st its.length) (om its.length) h₁ := by
        obtain ⟨oI, vI, eI, dI⟩ := hfld _ _ hsti
        have hu : ∀ o, s'.heap.get? I = some o → ∀ xs n, o.data ≠ .seq xs n := fun o e xs n q => by rw [eI] at e; cases e; rw [dI] at q; cases q
        have XI : X₁ I := .inr rfl
        have rd : ∀ {v d}, RdT P' s'.heap v d → RdT (fun a => P' a ∨ a = I) h₁ v d := fun r =>
          (r.butS (S := fun a => a = I) (h' := h₁) (fun a o ha e => hk₁' a o ha e) (fun a o ha e => .inl (by subst ha; exact hu o e)) fun a ha => by subst ha; exact (f'.nox a XI).1).mono (fun _ _ e => e) fun _ _ _ p => .inl p
        have hl : env.locals ≠ I := fun q => f'.noloc.2.2 (q ▸ XI)
        have hc : ∀ y c, env.cells.lookup y = some c → c ≠ I := fun y c e q => (f'.nocell y c e).2.2 (q ▸ XI)
        refine ⟨?_, f'.fn, f'.gl, f'.bu, ?_, ?_, ?_, ?_, f'.ino, ?_, ?_, ?_, ?_, ?_, ?_, f'.apart, ?_⟩
        · obtain ⟨g, base, outer, b, st', k, e, ff, n⟩ := f'.gr
          refine ⟨g, base, outer, b, st', fun a o q => hk₁' a o (fun z => by rw [z, n I (.inr (.inr (.inr XI)))] at q; cases q) (k a o q), e, funFrames_some (fun a o q d => ?_) ff, fun a ha => n a ?_⟩
          · by_cases z : a = I
            · subst z; rw [eI] at q; cases q; exact absurd dI (d _)
            · exact ⟨o, hk₁' a o z q, d⟩
          · rcases ha with ha | ha | ha | ha
            · exact .inl ha
            · exact .inr (.inl ha)
            · exact .inr (.inr (.inl ha))
            · exact .inr (.inr (.inr (.inl ha)))
        · intro x d e
          cases f'.vars x d e with
          | loc a b c r => exact .loc a (b.at' fun o q => hk₁' _ o hl q) c (rd r)
          | cel a b c r => obtain ⟨o, e1, e2⟩ := c; exact .cel a b ⟨o, hk₁' _ o (hc _ _ b) e1, e2⟩ (rd r)
          | fre a b c r => obtain ⟨o, e1, e2⟩ := c; exact .fre a b ⟨o, hk₁' _ o (hc _ _ b) e1, e2⟩ (rd r)
        · rintro a (p | rfl)
          · exact f'.sub a p
          · exact f.sub a pI
        · intro a e
          by_cases z : a = I
          · exact .inr z
          · exact .inl (f'.up a (by
              cases q : s'.heap.get? a with
              | none => rfl
              | some o => rw [hk₁' a o z q] at e; cases e))
        · rintro a (p | rfl)
          · exact f'.off a p
          · exact (f'.nox a XI).2
        · intro a o oa e
          cases q : s'.heap.get? a with
          | none => exact absurd oa (f'.off a (f'.up a q))
          | some o' => rw [hk₁' _ _ (fun z => (f'.nox I XI).2 (z ▸ oa)) q] at e; cases e; exact f'.olist a _ oa q
        · exact fun a ha => ⟨fun p => p.elim (f'.nox a (.inl ha)).1 fun z => nXI (z ▸ ha), (f'.nox a (.inl ha)).2⟩
        · exact ⟨fun p => p.elim f'.noloc.1 hl, f'.noloc.2.1, fun z => f'.noloc.2.2 (.inl z)⟩
        · exact fun y c e => ⟨fun p => p.elim (f'.nocell y c e).1 (hc y c e), (f'.nocell y c e).2.1, fun z => (f'.nocell y c e).2.2 (.inl z)⟩
        · obtain ⟨m, x⟩ := f'.ns; exact ⟨m, x.at' fun o q => hk₁' _ o hl q⟩
        · intro y c e
          obtain ⟨v, o, e1, e2⟩ := f'.cells y c e
          exact ⟨v, o, hk₁' _ o (hc y c e) e1, e2⟩
        · intro y ds e
          obtain ⟨hk', m, u, a, vs, n, h1, h2, hv, h3, h4, h5⟩ := f'.own y ds e
          exact ⟨hk', m, u, a, vs, n, h1.at' fun o q => hk₁' _ o hl q, h2, (hv.butS (S := fun a => a = I) (h' := h₁) (fun a o ha e => hk₁' a o ha e) (fun a ha => by subst ha; exact (f'.nox a XI).1)).mono (fun _ _ e => e) (fun _ _ _ p => .inl p), h3, hk₁' _ _ (fun q => (f'.nox I XI).2 (q ▸ h3)) h4,
            (h5.butS (S := fun a => a = I) (h' := h₁) (fun a o ha e => hk₁' a o ha e) fun a o ha e => .inl (by subst ha; exact hu o e)).mono (fun _ _ e => e) fun _ _ _ p => .inl p⟩
      refine hb P₀ _ O' X { s' with heap := h₁, toks := tk₁ } _ _ fe fun fl s'' y => hQ fl s'' ?_
      refine OutOk.behind (s₁ := { s' with heap := h₁, toks := tk₁ }) (P' := fun a => P' a ∨ a = I) (O' := O') (ρ' := st its.length) (ω' := om its.length) ⟨⟨_, O', fe, ?_, ?_⟩, outMv _ ?_, outAl _ fun b hb' q => ?_⟩ fe ?_ ?_ y
      · exact fun b o e p => .inl (hp' b o (Keeps.hp k₂ _ _ e) ⟨p, inS b o e⟩)
      · exact fun b o e p => ho' b o (Keeps.hp k₂ _ _ e) p
      · obtain ⟨h', t', rfl, q⟩ := mv'
        exact ⟨h₁, tk₁, rfl, fun b o h1 h2 h3 e => hk₁' b o (fun z => h3 (.inr z)) (q b o h1 h2 h3 e)⟩
      · show h₁.get? b ≠ none
        cases e : s'.heap.get? b with
        | none => exact absurd e (al' b hb' q)
        | some o => rw [hk₁' b o hb' e]; exact fun z => nomatch z
      · exact fun b o e p => .inl (hp' b o (Keeps.hp k₂ _ _ e) ⟨p, inS b o e⟩)
      · exact fun b o e p => ho' b o (Keeps.hp k₂ _ _ e) p

theorem s_for_gen {x : Str} {px : Pos} {iter : Expr} {body orelse : List Stmt} {α : Type} {enc : α → PyData} {its : List α} (st : Nat → Rho) (om : Nat → Omg) (j : Nat) {o : Out}
    (hsrc : Src w A env ρ iter (its.map enc)) (h0 : Sub (st 0) ρ) (ho : om 0 = ω)
    (turn : ∀ i a, i < j → its[i]? = some a → ∃ ρ', Sx w A env ((x, .py (enc a)) :: st i) (om i) body (.next ρ' (om (i + 1))) ∧ Sub (st (i + 1)) ρ')
    (hj : j ≤ its.length) (fin : LoopEnd w A env (fun a ρ => (x, .py (enc a)) :: ρ) its body orelse st om j o)
    (hx : env.kindOf x = some .local ∨ (env.kindOf x = some .cell ∧ (env.cells.lookup x).isSome = true) := by first | exact .inl rfl | exact .inr ⟨rfl, rfl⟩)
    (hω : ∀ i y ds, om i = some (y, ds) → y ≠ x)
    (hs : ∀ x, foldedSetIterable iter env x = pure x := by intro _; rfl) : S1 w A env ρ ω (.For (.Name x px) iter body orelse pos) o :=
  s_for_any st om j hsrc h0 ho turn hj fin (fun i a _ => asg_name hx (hω i)) hs
end
end Mine

open PySem PySem.W PyProof.Rows PySem.Calls
set_option Elab.async false
set_option maxRecDepth 100000
namespace Mine

/-- all names that may be read -/
noncomputable def vis (ρ : Rho) : Omg → Rho
  | none => ρ
  | some (x, false, ds) => (x, .py (.list ds)) :: ρ
  | some (_, true, _) => ρ

noncomputable def flatD : Dt → Bool
  | .py .none => true
  | .py (.bool _) => true
  | .py (.int _) => true
  | .py (.str _) => true
  | .val _ => true
  | _ => false
theorem RdT.flat {P P' : Addr → Prop} {h h' : Heap} {v : Value} {d : Dt} (hf : flatD d = true) (r : RdT P h v d) : RdT P' h' v d := by
  cases r with
  | py r => cases r with
    | none => exact .py .none
    | bool b => exact .py (.bool b)
    | int i t => exact .py (.int i t)
    | str x t => exact .py (.str x t)
    | _ => cases hf
  | val => exact .val
  | _ => cases hf

theorem lookup_drop {x y : Str} {d : Dt} : ∀ {ρ : Rho}, (ρ.filter fun p => p.1 != x).lookup y = some d → y ≠ x ∧ ρ.lookup y = some d
  | [], h => by simp at h
  | (n, d') :: r, h => by
    rw [List.filter_cons] at h
    split at h
    · rename_i hk
      rw [List.lookup_cons] at h ⊢
      cases e : y == n with
      | true => rw [e] at h; rw [beq_iff_eq.mp e]; exact ⟨by simpa using hk, by simpa using h⟩
      | false => rw [e] at h; exact lookup_drop (ρ := r) h
    · rename_i hk
      have := lookup_drop (ρ := r) h
      have hne : (y == n) = false := by
        cases e : y == n with
        | false => rfl
        | true =>
          have hnx : n = x := by simpa using hk
          exact absurd ((beq_iff_eq.mp e).trans hnx) this.1
      rw [List.lookup_cons, hne]; exact this

section
variable {w : World} {A : Around} {P₀ P O X : Addr → Prop} {env : Env} {ρ ρ' : Rho} {ω ω' : Omg} {pos : Pos}

theorem Fs.okV {h : Heap} (f : Fs w A P₀ P O X env ρ ω h) : Ok w A (fun a => P a ∨ O a) env (vis ρ ω) h := by
  refine ⟨f.gr.base, f.gr.bel, f.fn, f.gl, f.bu, fun y d e => ?_⟩
  have old : ∀ y d, ρ.lookup y = some d → Has (fun a => P a ∨ O a) env h y d := fun y d e => (f.vars y d e).mono (fun _ _ e => e) fun _ _ _ p => .inl p
  cases ω with
  | none => exact old y d e
  | some xd =>
    obtain ⟨x, b, ds⟩ := xd
    cases b with
    | true => exact old y d e
    | false => ?_
    rw [vis, List.lookup_cons] at e
    cases hy : y == x with
    | false => rw [hy] at e; exact old y d e
    | true =>
      rw [hy] at e; cases e
      obtain ⟨hk, m, u, a, vs, n, h1, h2, hv, h3, h4, h5⟩ := f.own x (false, ds) rfl
      cases hv
      rw [beq_iff_eq.mp hy]
      exact .loc hk h1 h2 (.py (.list (.inr h3) h4 (h5.mono (fun _ _ e => e) fun _ _ _ p => .inl p)))

theorem kpPost {s s₁ s' : Shared} {o : Out} {fl : Flow} (f : Fs w A P₀ P O X env ρ ω s.heap) (k : Keeps s s₁) (y : OutOk w A P₀ P O X env s₁ o fl s') : OutOk w A P₀ P O X env s o fl s' :=
  OutOk.behind (Post.kp f k) (f.keeps (Keeps.hp k)) (fun _ _ _ p => p) (fun _ _ _ p => p) y

theorem s_assign_flat {x : Str} {px : Pos} {e : Expr} {d : Dt} (h : Ev w A env (vis ρ ω) e d) (hf : flatD d = true := by rfl)
    (hx : env.kindOf x = some .local ∨ (env.kindOf x = some .cell ∧ (env.cells.lookup x).isSome = true) := by first | exact .inl rfl | exact .inr ⟨rfl, rfl⟩)
    (hω : ∀ y ds, ω = some (y, ds) → y ≠ x := by first | (intro _ _ z; cases z; done) | (intro _ _ z; cases z; decide))
    (hs : swapsWith e (some (.Name x px)) pos.line env = pure false := by rfl) : S1 w A env ρ ω (.Assign [.Name x px] e pos) (.next ((x, d) :: ρ) ω) :=
  fun P₀ P O X s Q E f hQ => wpAny_Assign_Name (h _ s _ _ f.okV fun v s₁ k r => fs_store (f.keeps (Keeps.hp k)) hx (r.flat hf) hω fun s₂ p₂ => hQ _ _ (kpPost f k ⟨rfl, p₂⟩)) hs

theorem s_ifV {t : Expr} {body orelse : List Stmt} {b : Bool} {o : Out} (h : Tv w A env (vis ρ ω) t b) (h₁ : b = true → Sx w A env ρ ω body o) (h₂ : b = false → Sx w A env ρ ω orelse o) : S1 w A env ρ ω (.If t body orelse pos) o :=
  fun P₀ P O X s Q E f hQ => wpAny_If (h _ s _ _ f.okV fun s₁ k => by
    have go : ∀ {ss}, Sx w A env ρ ω ss o → wpAny (model pr w) A (execs ss env) Q E s₁ := fun hs => hs P₀ P O X s₁ Q E (f.keeps (Keeps.hp k)) fun fl s' y => hQ fl s' (kpPost f k y)
    cases b with
    | true => exact go (h₁ rfl)
    | false => exact go (h₂ rfl))

theorem s_returnV {e : Expr} {d : Dt} (h : Ev w A env (vis ρ ω) e d) : S1 w A env ρ ω (.Return (some e) pos) (.ret d) :=
  fun P₀ P O X s Q E f hQ => wpAny_Return_some (h _ s _ _ f.okV fun v s₁ k r => hQ _ _ ⟨v, rfl, r.mono (fun _ _ e => e) fun a _ _ p => by
    rcases p with (p | p) | p
    · exact f.sub a p
    · exact f.ino a p
    · exact f.sub a (f.up a p), moves_keeps k⟩)

/-- an int name changed in place -/
theorem s_aug {x : Str} {px : Pos} {op : Operator} {e : Expr} {a b c : Int} (hx : ρ.lookup x = some (.py (.int a))) (h : Ev w A env (vis ρ ω) e (.py (.int b)))
    (hop : ∀ (s : Shared) (t u : Tok) (Q E : Value → Shared → Prop), (∀ t' s', Keeps s s' → Q (.int c t') s') → wpAny (model pr w) A (inplaceOp op (.int a t) (.int b u)) Q E s)
    (hk : env.kindOf x = some .local := by rfl) (hω : ∀ y ds, ω = some (y, ds) → y ≠ x := by first | (intro _ _ z; cases z; done) | (intro _ _ z; cases z; decide)) :
    S1 w A env ρ ω (.AugAssign (.Name x px) op e pos) (.next ((x, .py (.int c)) :: ρ) ω) := by
  intro P₀ P O X s Q E f hQ
  refine wpAny_AugAssign_Name ?_
  cases f.vars x _ hx with
  | cel a => rw [hk] at a; cases a
  | fre a => rw [hk] at a; cases a
  | loc q1 q2 q3 r =>
    cases r with | py r => cases r with | int _ t =>
      refine wpAny_loadName_local f.fn q1 q2 q3 ?_
      refine h _ s _ _ f.okV fun v s₁ k r₁ => ?_
      cases r₁ with | py r₁ => cases r₁ with | int _ u =>
        refine hop s₁ t u _ _ fun t' s₂ k₂ => ?_
        have k' := Keeps.tr k k₂
        exact fs_store (f.keeps (Keeps.hp k')) (.inl hk) (.py (.int c t')) hω fun s₃ p₃ => hQ _ _ (kpPost f k' ⟨rfl, p₃⟩)

/-- the own list with another content -/
theorem Fs.ownUpd {h h' : Heap} {x : Str} {ds ds' : List PyData} {m : Str → Option Value} {a : Addr} {vs vs' : List Value} {n n' : Nat} {v : Value} {bb : Bool} (f : Fs w A P₀ P O X env ρ (some (x, bb, ds)) h) (hm : h.Ns env.locals m) (hx : m x = some v) (hv : Via P h bb v a) (ha : O a)
    (hk : env.kindOf x = some .local) (g : h.get? a = some (lob vs n)) (hs : Heap.SameBut a h h') (g' : h'.get? a = some (lob vs' n')) (r : RdAll P h vs' ds') : Fs w A P₀ P O X env ρ (some (x, bb, ds')) h' := by
  have np : ¬ P a := fun p => f.off a p ha
  have un : ∀ b o, b = a → h.get? b = some o → Unseen P b o := fun b o hb e => .inr (by subst hb; exact ⟨f.olist b o ha e, np⟩)
  have rd : ∀ {v d}, RdT P h v d → RdT P h' v d := fun r => r.butS (S := fun b => b = a) (fun b o hb e => hs.extBut b o hb e) un fun b hb => by subst hb; exact np
  have hl : env.locals ≠ a := fun q => f.noloc.2.1 (q ▸ ha)
  have hc : ∀ y c, env.cells.lookup y = some c → c ≠ a := fun y c e q => (f.nocell y c e).2.1 (q ▸ ha)
  refine ⟨f.gr.change hs (.inr (.inr (.inl ha))) ⟨_, g', fun vs q => by cases q⟩, f.fn, f.gl, f.bu, ?_, f.sub, ?_, f.off, f.ino, ?_, f.nox, f.noloc, f.nocell, ⟨m, hm.sameBut hs hl⟩, ?_, f.apart, ?_⟩
  · intro y d e
    cases f.vars y d e with
    | loc q1 q2 q3 r => exact .loc q1 (q2.sameBut hs hl) q3 (rd r)
    | cel q1 q2 q3 r => obtain ⟨o, e1, e2⟩ := q3; exact .cel q1 q2 ⟨o, hs.extBut _ o (hc _ _ q2) e1, e2⟩ (rd r)
    | fre q1 q2 q3 r => obtain ⟨o, e1, e2⟩ := q3; exact .fre q1 q2 ⟨o, hs.extBut _ o (hc _ _ q2) e1, e2⟩ (rd r)
  · intro b e
    by_cases q : b = a
    · rw [q, g'] at e; cases e
    · rw [hs.2 b q] at e; exact f.up b e
  · intro b o ob e
    by_cases q : b = a
    · rw [q, g'] at e; cases e; rfl
    · rw [hs.2 b q] at e; exact f.olist b o ob e
  · intro y c e
    obtain ⟨v, o, e1, e2⟩ := f.cells y c e
    exact ⟨v, o, hs.extBut _ o (hc y c e) e1, e2⟩
  · intro y ds'' e
    cases e
    exact ⟨hk, m, v, a, vs', n', hm.sameBut hs hl, hx, hv.butS (S := fun b => b = a) (fun b o hb e => hs.extBut b o hb e) (fun b hb => by subst hb; exact np), ha, g', r.butS (S := fun b => b = a) (fun b o hb e => hs.extBut b o hb e) un⟩

theorem ownPost {s : Shared} {h' : Heap} {tk : Nat} {x : Str} {bb : Bool} {ds ds' : List PyData} {a : Addr} (ha : O a) (f' : Fs w A P₀ P O X env ρ (some (x, bb, ds')) h') (hs : Heap.SameBut a s.heap h') (ga : ∃ o, h'.get? a = some o) :
    Post w A P₀ P O X env s ρ (some (x, bb, ds')) { s with heap := h', toks := tk } :=
  ⟨⟨P, O, f', fun _ _ _ p => p, fun _ _ _ p => p⟩, ⟨h', tk, rfl, fun b o _ _ h3 e => hs.extBut b o (fun q => h3 (q ▸ ha)) e⟩, fun b q => by
    by_cases e : b = a
    · obtain ⟨o, e'⟩ := ga; rw [e]; show h'.get? a ≠ none; rw [e']; exact fun z => nomatch z
    · show h'.get? b ≠ none; rw [hs.2 b e]; exact q⟩

/-- a list that is new -/
noncomputable def EvF (w : World) (A : Around) (env : Env) (ρ : Rho) (e : Expr) (ds : List PyData) : Prop :=
  ∀ (P : Addr → Prop) (s : Shared) (Q E : Value → Shared → Prop), Ok w A P env ρ s.heap →
    (∀ a vs n s', Keeps s s' → s.heap.get? a = none → s'.heap.get? a = some (lob vs n) → RdAll (fun b => Up P s.heap b ∧ b ≠ a) s'.heap vs ds → Q (.ref a) s') → wpAny (model pr w) A (eval e env) Q E s

theorem evf_list {es : List Expr} {ds : List PyData} (h : Evs w A env ρ es (ds.map .py)) (hsz : ds.length ≤ sizeLine := by decide) (hb : backTo pos (starEach es env) = starEach es env := by rfl) : EvF w A env ρ (.List es pos) ds := by
  intro P s Q E ok hQ
  refine List_ ?_
  rw [hb]
  refine h P s _ _ ok fun vs s' k r => ?_
  have r' := RdTs.py r
  have fr : s.heap.get? s'.heap.objs.size = none := by
    cases e : s.heap.get? s'.heap.objs.size with
    | none => rfl
    | some o => have := Keeps.hp k _ _ e; rw [fresh_size] at this; cases this
  refine wpAny_newObj_type (hQ _ vs 0 _ (Keeps.tr k (Keeps.mk' (keepsPush _ _))) fr (Heap.get?_push_size _ rfl) ?_) (by show vs.toArray.size ≤ sizeLine; rw [List.size_toArray, r'.length]; exact hsz)
  exact r'.mono (keepsPush _ _) fun b o e p => ⟨p, fun q => by rw [q, fresh_size] at e; cases e⟩

theorem evf_ev {e : Expr} {ds : List PyData} (h : EvF w A env ρ e ds) : Ev w A env ρ e (.py (.list ds)) := fun P s Q E ok hQ => h P s Q E ok fun a vs n s' k fr g r => hQ _ _ k (.py (.list (.inr fr) g (r.mono (fun _ _ e => e) fun _ _ _ p => p.1)))

theorem s_own {x : Str} {px : Pos} {e : Expr} {ds : List PyData} (h : EvF w A env ρ e ds) (hx : env.kindOf x = some .local := by rfl)
    (hs : swapsWith e (some (.Name x px)) pos.line env = pure false := by rfl) : S1 w A env ρ none (.Assign [.Name x px] e pos) (.next (ρ.filter fun p => p.1 != x) (some (x, false, ds))) := by
  intro P₀ P O X s Q E f hQ
  refine wpAny_Assign_Name (h P s _ _ f.ok fun a vs n s₁ k fr g r => ?_) hs
  have f₁ := f.keeps (Keeps.hp k)
  have pa : P a := f.up a fr
  obtain ⟨m, hm⟩ := f₁.ns
  refine wpAny_storeName_local hx hm (fun h' hn hs' => hQ _ _ ?_) (by rw [f.fn]; rfl)
  have inS : ∀ b o, s.heap.get? b = some o → b ≠ a := fun b o e q => by rw [q, fr] at e; cases e
  have hl : env.locals ≠ a := fun q => by obtain ⟨m, o, _, _, e, _⟩ := f.ns; exact inS _ o e q
  have hc : ∀ y c, env.cells.lookup y = some c → c ≠ a := fun y c e q => by obtain ⟨v, o, e1, _⟩ := f.cells y c e; exact inS _ o e1 q
  have hu : ∀ o, s₁.heap.get? env.locals = some o → ∀ xs n, o.data ≠ .seq xs n := fun o e xs n q => by
    obtain ⟨o', es, ep, e1, e2, _⟩ := hm; rw [e1] at e; cases e; rw [e2] at q; cases q
  have hcl : ∀ y c, env.cells.lookup y = some c → c ≠ env.locals := fun y c e q => by
    obtain ⟨v', o', e1, e2⟩ := f₁.cells y c e
    obtain ⟨o, es, ep, e3, e4, _⟩ := hm
    rw [q, e3] at e1; cases e1; rw [e4] at e2; cases e2
  let P' : Addr → Prop := fun b => P b ∧ b ≠ a
  let O' : Addr → Prop := fun b => O b ∨ b = a
  have rd : ∀ {v d}, RdT P s.heap v d → RdT P' h' v d := fun r => by
    have r1 : RdT P' s₁.heap _ _ := r.mono (Keeps.hp k) fun b o e p => ⟨p, inS b o e⟩
    exact r1.butS (S := fun b => b = env.locals) (fun b o hb e => hs'.extBut b o hb e) (fun b o hb e => .inl (by subst hb; exact hu o e)) fun b hb => by subst hb; exact fun p => f.noloc.1 p.1
  have ga : h'.get? a = some (lob vs n) := hs'.extBut _ _ (Ne.symm hl) g
  have fs' : Fs w A P₀ P' O' X env (ρ.filter fun p => p.1 != x) (some (x, false, ds)) h' := by
    refine ⟨((f.gr.mono (S' := offS env O' X) fun b hb => ?_).keeps (Keeps.hp k)).change hs' (.inl rfl) ?_, f.fn, f.gl, f.bu, ?_, fun b p => f.sub b p.1, ?_, ?_, ?_, ?_, ?_, ?_, ?_, ⟨_, hn⟩, ?_, f.apart, ?_⟩
    · rcases hb with hb | hb | (hb | hb) | hb
      · exact .inl (.inl hb)
      · exact .inl (.inr (.inl hb))
      · exact .inl (.inr (.inr (.inl hb)))
      · exact .inr (hb ▸ fr)
      · exact .inl (.inr (.inr (.inr hb)))
    · obtain ⟨o', es, ep, e1, e2, _⟩ := hn; exact ⟨o', e1, fun vs q => by rw [e2] at q; cases q⟩
    · intro y d e
      have hy : y ≠ x ∧ ρ.lookup y = some d := lookup_drop e
      cases f.vars y d hy.2 with
      | loc q1 q2 q3 r => rw [ns_unique (q2.keeps (Keeps.hp k)) hm] at q3; exact .loc q1 hn (by simpa [hy.1] using q3) (rd r)
      | cel q1 q2 q3 r => obtain ⟨o, e1, e2⟩ := isCell_keeps (Keeps.hp k) q3; exact .cel q1 q2 ⟨o, hs'.extBut _ o (hcl _ _ q2) e1, e2⟩ (rd r)
      | fre q1 q2 q3 r => obtain ⟨o, e1, e2⟩ := isCell_keeps (Keeps.hp k) q3; exact .fre q1 q2 ⟨o, hs'.extBut _ o (hcl _ _ q2) e1, e2⟩ (rd r)
    · intro b e
      by_cases q : b = env.locals
      · obtain ⟨o', _, _, e1, _⟩ := hn; rw [q, e1] at e; cases e
      · refine ⟨f₁.up b (by rw [← hs'.2 b q]; exact e), fun z => by rw [z, ga] at e; cases e⟩
    · rintro b ⟨p, hb⟩ (ob | ob)
      · exact f.off b p ob
      · exact hb ob
    · rintro b (ob | rfl)
      · exact f.ino b ob
      · exact f.sub b pa
    · rintro b o (ob | rfl) e
      · exact f₁.olist b o ob (by rw [← hs'.2 b (fun q => f.noloc.2.1 (q ▸ ob))]; exact e)
      · rw [ga] at e; cases e; rfl
    · exact fun b hb => ⟨fun p => (f.nox b hb).1 p.1, fun z => z.elim (f.nox b hb).2 fun q => (f.nox b hb).1 (q ▸ pa)⟩
    · exact ⟨fun p => f.noloc.1 p.1, fun z => z.elim f.noloc.2.1 hl, f.noloc.2.2⟩
    · exact fun y c e => ⟨fun p => (f.nocell y c e).1 p.1, fun z => z.elim (f.nocell y c e).2.1 (hc y c e), (f.nocell y c e).2.2⟩
    · intro y c e
      obtain ⟨v, o, e1, e2⟩ := f₁.cells y c e
      exact ⟨v, o, hs'.extBut _ o (hcl y c e) e1, e2⟩
    · intro y ds' e
      cases e
      refine ⟨hx, _, _, a, vs, n, hn, by simp, .self, .inr rfl, ga, ?_⟩
      have r1 : RdAll P' s₁.heap vs ds := r.mono (fun _ _ e => e) fun b o e p => ⟨p.1.elim id fun q => f.up b q, p.2⟩
      exact r1.butS (S := fun b => b = env.locals) (fun b o hb e => hs'.extBut b o hb e) fun b o hb e => .inl (by subst hb; exact hu o e)
  refine ⟨rfl, ⟨P', O', fs', fun b o e p => ⟨p, inS b o e⟩, fun b o e p => p.elim id fun q => absurd q (inS b o e)⟩, ?_, fun b q => ?_⟩
  · obtain ⟨h1, t1, e1, q1⟩ := k
    subst e1
    exact ⟨h', _, rfl, fun b o h1 _ _ e => hs'.extBut b o h1 (q1 b o e)⟩
  · show h'.get? b ≠ none
    by_cases e : b = env.locals
    · obtain ⟨o', _, _, e1, _⟩ := hn; rw [e, e1]; exact fun z => nomatch z
    · rw [hs'.2 b e]
      cases q' : s.heap.get? b with
      | none => exact absurd q' q
      | some o => rw [Keeps.hp k _ _ q']; exact fun z => nomatch z

/-- x.append(e) on the own list -/
theorem s_append {x : Str} {px ap : Pos} {e : Expr} {ds : List PyData} {d : PyData} {p' : Pos} (h : Ev w A env ρ e (.py d)) (hsz : ds.length ≤ sizeLine)
    (hx : env.kindOf x = some .local := by rfl) (hd : (x == ("__debug__" : Str)) = false := by decide)
    (hbase : attributeBase (.Name x px) "append" env (eval (.Name x px) env) = eval (.Name x px) env := by rfl) (hline : (ap.endLine == p'.line) = true := by rfl)
    (htrees : backTo p' (starEach [e] env) = [(false, eval e env)] := by rfl) (hi : interactive env = false := by rfl) (hsw : swapsWith (.Call (.Attribute (.Name x px) "append" ap) [e] [] p') none pos.line env = pure false := by rfl) :
    S1 w A env ρ (some (x, false, ds)) (.Expr (.Call (.Attribute (.Name x px) "append" ap) [e] [] p') pos) (.next ρ (some (x, false, ds ++ [d]))) := by
  intro P₀ P O X s Q E f hQ
  refine wpAny_Expr (wpAny_Call_append hbase (by rw [htrees]; rfl) hline htrees ?_) hi hsw
  obtain ⟨hk, m, u, a, vs, n, h1, h2, hv, h3, h4, h5⟩ := f.own x (false, ds) rfl
  cases hv
  refine wpAny_Name (wpAny_loadName_local f.fn hx h1 h2 ⟨a, vs.toArray, rfl, ⟨_, n, h4, rfl, rfl, rfl⟩, ?_⟩) hd
  refine h P s _ _ f.ok fun v s₁ k r => ?_
  have f₁ := f.keeps (Keeps.hp k)
  cases r with | py r =>
    have r1 : Rd P s₁.heap v d := r.mono (fun _ _ e => e) fun b _ _ p => p.elim id fun q => f.up b q
    refine wpAny_list_append_plain (hsz := by rw [List.size_toArray, h5.length]; exact hsz) ⟨n, Keeps.hp k _ _ h4⟩ fun h' hl hs => ?_
    obtain ⟨n', g'⟩ := hl
    have g'' : h'.get? a = some (lob (vs ++ [v]) n') := by simpa using g'
    have f' := f₁.ownUpd (h1.keeps (Keeps.hp k)) h2 .self h3 hk (Keeps.hp k _ _ h4) hs g'' ((h5.mono (Keeps.hp k) fun _ _ _ p => p).append (.cons r1 .nil))
    exact hQ _ _ (kpPost f k ⟨rfl, ownPost (ds := ds) h3 f' hs ⟨_, g''⟩⟩)

/-- del x[i] on the own list -/
theorem s_del {x : Str} {px sp : Pos} {ie : Expr} {ds : List PyData} {i : Int} {k : Nat} (h : Ev w A env ρ ie (.py (.int i))) (hfit : Builtin.List.listFitsIndex i = true) (hk' : seqIndex? i ds.length = some k) (hsz : ds.length ≤ sizeLine)
    (hx : env.kindOf x = some .local := by rfl) (hd : (x == ("__debug__" : Str)) = false := by decide) :
    S1 w A env ρ (some (x, false, ds)) (.Delete [.Subscript (.Name x px) ie sp] pos) (.next ρ (some (x, false, ds.eraseIdx k))) := by
  intro P₀ P O X s Q E f hQ
  refine wpAny_Delete (wpAny_deleteEach_cons (PySem.wpAny_delete_Subscript ?_))
  obtain ⟨hk, m, u, a, vs, n, h1, h2, hv, h3, h4, h5⟩ := f.own x (false, ds) rfl
  cases hv
  refine wpAny_Name (wpAny_loadName_local f.fn hx h1 h2 ?_) hd
  refine h P s _ _ f.ok fun v s₁ k₁ r => ?_
  have f₁ := f.keeps (Keeps.hp k₁)
  cases r with | py r => cases r with | int _ u =>
    refine wpAny_delItem_plain ⟨n, Keeps.hp k₁ _ _ h4⟩ hfit (by rw [List.size_toArray, h5.length]; exact hk') (fun h' hl hs => ?_) (by rw [List.size_toArray, h5.length]; exact hsz)
    obtain ⟨n', g'⟩ := hl
    have g'' : h'.get? a = some (lob (vs.eraseIdx k) n') := by rw [g']; simp [lob]
    have r' : RdAll P s₁.heap (vs.eraseIdx k) (ds.eraseIdx k) := by
      have r0 := h5.mono (Keeps.hp k₁) fun _ _ _ p => p
      rw [List.eraseIdx_eq_take_drop_succ, List.eraseIdx_eq_take_drop_succ]
      exact (r0.take k).append (r0.drop (k + 1))
    have f' := f₁.ownUpd (h1.keeps (Keeps.hp k₁)) h2 .self h3 hk (Keeps.hp k₁ _ _ h4) hs g'' r'
    exact wpAny_deleteEach_nil (hQ _ _ (kpPost f k₁ ⟨rfl, ownPost (ds := ds) h3 f' hs ⟨_, g''⟩⟩))

/-- from now on the own list is not changed any more -/
theorem sx_freeze {x : Str} {ds : List PyData} {ss : List Stmt} {o : Out} (h : Sx w A env ((x, .py (.list ds)) :: ρ) none ss o) : Sx w A env ρ (some (x, false, ds)) ss o := by
  intro P₀ P O X s Q E f hQ
  obtain ⟨hk, m, u, a, vs, n, h1, h2, hv, h3, h4, h5⟩ := f.own x (false, ds) rfl
  cases hv
  have f' : Fs w A P₀ (fun b => P b ∨ b = a) (fun b => O b ∧ b ≠ a) X env ((x, .py (.list ds)) :: ρ) none s.heap := by
    refine ⟨f.gr.mono fun b hb => .inl ?_, f.fn, f.gl, f.bu, fun y d e => ?_, ?_, fun b e => .inl (f.up b e), ?_, fun b ob => f.ino b ob.1, fun b o ob e => f.olist b o ob.1 e, ?_, ?_, ?_, f.ns, f.cells, f.apart, fun _ _ e => by cases e⟩
    · rcases hb with hb | hb | hb | hb
      · exact .inl hb
      · exact .inr (.inl hb)
      · exact .inr (.inr (.inl hb.1))
      · exact .inr (.inr (.inr hb))
    · rw [List.lookup_cons] at e
      cases hy : y == x with
      | false => rw [hy] at e; exact (f.vars y d e).mono (fun _ _ e => e) fun _ _ _ p => .inl p
      | true =>
        rw [hy] at e; cases e
        rw [beq_iff_eq.mp hy]
        exact .loc hk h1 h2 (.py (.list (.inr rfl) h4 (h5.mono (fun _ _ e => e) fun _ _ _ p => .inl p)))
    · rintro b (p | rfl)
      · exact f.sub b p
      · exact f.ino b h3
    · rintro b (p | rfl) ob
      · exact f.off b p ob.1
      · exact ob.2 rfl
    · exact fun b hb => ⟨fun p => p.elim (f.nox b hb).1 fun q => (f.nox b hb).2 (q ▸ h3), fun ob => (f.nox b hb).2 ob.1⟩
    · exact ⟨fun p => p.elim f.noloc.1 fun q => f.noloc.2.1 (q ▸ h3), fun ob => f.noloc.2.1 ob.1, f.noloc.2.2⟩
    · exact fun y c e => ⟨fun p => p.elim (f.nocell y c e).1 fun q => (f.nocell y c e).2.1 (q ▸ h3), fun ob => (f.nocell y c e).2.1 ob.1, (f.nocell y c e).2.2⟩
  refine h P₀ _ _ X s Q E f' fun fl s' y => hQ fl s' ?_
  have mv : ∀ s'', Moves (fun b => O b ∧ b ≠ a) env s s'' → Moves O env s s'' := fun s'' m => let ⟨h, t, e, q⟩ := m; ⟨h, t, e, fun b o h1 h2 h3 e => q b o h1 h2 (fun z => h3 z.1) e⟩
  have ps : ∀ {ρ' ω'}, Post w A P₀ (fun b => P b ∨ b = a) (fun b => O b ∧ b ≠ a) X env s ρ' ω' s' → Post w A P₀ P O X env s ρ' ω' s' := fun p =>
    let ⟨P', O', f, hp, ho⟩ := p.fs; ⟨⟨P', O', f, fun b o e p => hp b o e (.inl p), fun b o e p => (ho b o e p).1⟩, mv _ p.mv, p.alive⟩
  cases o with
  | next ρ ω => exact ⟨y.1, ps y.2⟩
  | brk ρ ω => exact ⟨y.1, ps y.2⟩
  | ret d => obtain ⟨v, e, r, m⟩ := y; exact ⟨v, e, r, mv _ m⟩
  | retO d ρ ω => obtain ⟨v, e, r, p⟩ := y; exact ⟨v, e, r, ps p⟩
end
end Mine

open PySem PySem.W PyProof.Rows PySem.Calls
set_option Elab.async false
set_option maxRecDepth 100000
namespace Mine
section
variable {w : World} {A : Around} {P₀ P O X : Addr → Prop} {env : Env} {ρ ρ' : Rho} {ω ω' : Omg} {pos : Pos}

/-- a new place set apart -/
theorem Fs.setApart {h h' : Heap} {c : Addr} (f : Fs w A P₀ P O X env ρ ω h) (hc : h.get? c = none) (k : KeepsH h h') (hp : ∃ o, h'.get? c = some o) :
    Fs w A P₀ (fun a => P a ∧ a ≠ c) O (fun a => X a ∨ a = c) env ρ ω h' := by
  have f₂ := f.keeps k
  have pI : P c := f.up c hc
  have inS : ∀ b o, h.get? b = some o → b ≠ c := fun b o e q => by rw [q, hc] at e; cases e
  have lI : env.locals ≠ c := fun q => by obtain ⟨m, o, _, _, e, _⟩ := f.ns; exact inS _ o e q
  have cI : ∀ y c', env.cells.lookup y = some c' → c' ≠ c := fun y c' e q => by obtain ⟨v, o, e1, _⟩ := f.cells y c' e; exact inS _ o e1 q
  have nOI : ¬ O c := f.off c pI
  have hP : ∀ a o, h.get? a = some o → P a → P a ∧ a ≠ c := fun a o e p => ⟨p, inS a o e⟩
  refine ⟨(f.gr.mono fun a ha => ?_).keeps k, f.fn, f.gl, f.bu, fun y d e => ((f.vars y d e).mono k hP), fun a p => f.sub a p.1, fun a e => ⟨f₂.up a e, fun q => ?_⟩, fun a p => f.off a p.1, f.ino, f₂.olist, ?_, ?_, ?_, f₂.ns, f₂.cells, f.apart, ?_⟩
  · rcases ha with ha | ha | ha | ha | ha
    · exact .inl (.inl ha)
    · exact .inl (.inr (.inl ha))
    · exact .inl (.inr (.inr (.inl ha)))
    · exact .inl (.inr (.inr (.inr ha)))
    · exact .inr (ha ▸ hc)
  · obtain ⟨o, e'⟩ := hp; rw [q, e'] at e; cases e
  · rintro a (ha | rfl)
    · exact ⟨fun p => (f.nox a ha).1 p.1, (f.nox a ha).2⟩
    · exact ⟨fun p => p.2 rfl, nOI⟩
  · exact ⟨fun p => f.noloc.1 p.1, f.noloc.2.1, fun z => z.elim f.noloc.2.2 lI⟩
  · exact fun y c e => ⟨fun p => (f.nocell y c e).1 p.1, (f.nocell y c e).2.1, fun z => z.elim (f.nocell y c e).2.2 (cI y c e)⟩
  · intro y ds e
    obtain ⟨hk', m, u, a, vs, n, h1, h2, hv, h3, h4, h5⟩ := f.own y ds e
    exact ⟨hk', m, u, a, vs, n, h1.keeps k, h2, hv.mono k hP, h3, k _ _ h4, h5.mono k hP⟩

/-- fewer places set apart -/
theorem Fs.unset {X' : Addr → Prop} {h : Heap} (f : Fs w A P₀ P O X env ρ ω h) (hx : ∀ a, X' a → X a) : Fs w A P₀ P O X' env ρ ω h :=
  ⟨f.gr.mono fun a ha => .inl (by rcases ha with ha | ha | ha | ha; exact .inl ha; exact .inr (.inl ha); exact .inr (.inr (.inl ha)); exact .inr (.inr (.inr (hx a ha)))), f.fn, f.gl, f.bu, f.vars, f.sub, f.up, f.off, f.ino, f.olist,
    fun a ha => f.nox a (hx a ha), ⟨f.noloc.1, f.noloc.2.1, fun z => f.noloc.2.2 (hx _ z)⟩, fun y c e => ⟨(f.nocell y c e).1, (f.nocell y c e).2.1, fun z => (f.nocell y c e).2.2 (hx _ z)⟩, f.ns, f.cells, f.apart, f.own⟩

/-- a change at a place set apart -/
theorem Fs.chg {h h' : Heap} {c : Addr} (f : Fs w A P₀ P O X env ρ ω h) (hI : X c) (hu : ∀ o, h.get? c = some o → ∀ xs n, o.data ≠ .seq xs n) (hk : ∀ b o, b ≠ c → h.get? b = some o → h'.get? b = some o)
    (hI' : ∃ o, h'.get? c = some o ∧ ∀ vs, o.data ≠ .fields vs) : Fs w A P₀ P O X env ρ ω h' := by
  have rd : ∀ {v d}, RdT P h v d → RdT P h' v d := fun r => r.butS (S := fun a => a = c) (fun a o ha e => hk a o ha e) (fun a o ha e => .inl (by subst ha; exact hu o e)) fun a ha => by subst ha; exact (f.nox a hI).1
  have hl : env.locals ≠ c := fun q => f.noloc.2.2 (q ▸ hI)
  have hc : ∀ y c', env.cells.lookup y = some c' → c' ≠ c := fun y c' e q => (f.nocell y c' e).2.2 (q ▸ hI)
  have gr : Gr w A (offS env O X) h' := by
    obtain ⟨g, base, outer, b, st, k, e, ff, n⟩ := f.gr
    refine ⟨g, base, outer, b, st, fun a o q => hk a o (fun z => by rw [z, n c (.inr (.inr (.inr hI)))] at q; cases q) (k a o q), e, funFrames_some (fun a o q d => ?_) ff, n⟩
    by_cases z : a = c
    · subst z; exact hI'
    · exact ⟨o, hk a o z q, d⟩
  refine ⟨gr, f.fn, f.gl, f.bu, ?_, f.sub, ?_, f.off, f.ino, ?_, f.nox, f.noloc, f.nocell, ?_, ?_, f.apart, ?_⟩
  · intro x d e
    cases f.vars x d e with
    | loc a b c r => exact .loc a (b.at' fun o q => hk _ o hl q) c (rd r)
    | cel a b c r => obtain ⟨o, e1, e2⟩ := c; exact .cel a b ⟨o, hk _ o (hc _ _ b) e1, e2⟩ (rd r)
    | fre a b c r => obtain ⟨o, e1, e2⟩ := c; exact .fre a b ⟨o, hk _ o (hc _ _ b) e1, e2⟩ (rd r)
  · intro a e
    by_cases z : a = c
    · subst z; obtain ⟨o, e', _⟩ := hI'; rw [e'] at e; cases e
    · exact f.up a (by
        cases q : h.get? a with
        | none => rfl
        | some o => rw [hk a o z q] at e; cases e)
  · intro a o oa e
    cases q : h.get? a with
    | none => exact absurd oa (f.off a (f.up a q))
    | some o' => rw [hk _ _ (fun z => (f.nox c hI).2 (z ▸ oa)) q] at e; cases e; exact f.olist a _ oa q
  · obtain ⟨m, x⟩ := f.ns; exact ⟨m, x.at' fun o q => hk _ o hl q⟩
  · intro y c' e
    obtain ⟨v, o, e1, e2⟩ := f.cells y c' e
    exact ⟨v, o, hk _ o (hc y c' e) e1, e2⟩
  · intro y ds e
    obtain ⟨hk', m, u, a, vs, n, h1, h2, hv, h3, h4, h5⟩ := f.own y ds e
    exact ⟨hk', m, u, a, vs, n, h1.at' fun o q => hk _ o hl q, h2, hv.butS (S := fun a => a = c) (fun a o ha e => hk a o ha e) (fun a ha => by subst ha; exact (f.nox a hI).1), h3, hk _ _ (fun q => (f.nox c hI).2 (q ▸ h3)) h4, h5.butS (S := fun a => a = c) (fun a o ha e => hk a o ha e) fun a o ha e => .inl (by subst ha; exact hu o e)⟩

theorem funFrames_mem {h h' base : Heap} : ∀ {l : List Env}, (∀ env ∈ l, ∀ L o, env.frame = some L → h.get? L = some o → (∀ vs, o.data ≠ .fields vs) → ∃ o', h'.get? L = some o' ∧ ∀ vs, o'.data ≠ .fields vs) → h.FunFrames base l → h'.FunFrames base l
  | [], _, _ => trivial
  | e :: _, k, ⟨hk, ⟨L, o, hf, hn, ho, hd⟩, hr⟩ => let ⟨o', ho', hd'⟩ := k e (.head _) L o hf ho hd; ⟨hk, ⟨L, o', hf, hn, ho', hd'⟩, funFrames_mem (fun env he => k env (.tail _ he)) hr⟩

/-- a place set apart is let go, whatever becomes of it -/
theorem Fs.drop {h h' : Heap} {c : Addr} (f : Fs w A P₀ P O (fun a => X a ∨ a = c) env ρ ω h) (hu : ∀ o, h.get? c = some o → ∀ xs n, o.data ≠ .seq xs n) (hk : ∀ b o, b ≠ c → h.get? b = some o → h'.get? b = some o)
    (pc : P₀ c) (nX : ¬ X c) (hfr : ∀ outer, A.frames = some outer → ∀ e ∈ outer, e.frame ≠ some c) : Fs w A P₀ (fun a => P a ∨ a = c) O X env ρ ω h' := by
  have XI : X c ∨ c = c := .inr rfl
  have rd : ∀ {v d}, RdT P h v d → RdT (fun a => P a ∨ a = c) h' v d := fun r =>
    (r.butS (S := fun a => a = c) (h' := h') (fun a o ha e => hk a o ha e) (fun a o ha e => .inl (by subst ha; exact hu o e)) fun a ha => by subst ha; exact (f.nox a XI).1).mono (fun _ _ e => e) fun _ _ _ p => .inl p
  have hl : env.locals ≠ c := fun q => f.noloc.2.2 (.inr q)
  have hc : ∀ y c', env.cells.lookup y = some c' → c' ≠ c := fun y c' e q => (f.nocell y c' e).2.2 (.inr q)
  refine ⟨?_, f.fn, f.gl, f.bu, ?_, ?_, ?_, ?_, f.ino, ?_, ?_, ?_, ?_, ?_, ?_, f.apart, ?_⟩
  · obtain ⟨g, base, outer, b, st', k, e, ff, n⟩ := f.gr
    refine ⟨g, base, outer, b, st', fun a o q => hk a o (fun z => by rw [z, n c (.inr (.inr (.inr XI)))] at q; cases q) (k a o q), e, funFrames_mem (fun e' he' L o hf q d => ?_) ff, fun a ha => n a ?_⟩
    · exact ⟨o, hk L o (fun z => hfr outer e e' he' (z ▸ hf)) q, d⟩
    · rcases ha with ha | ha | ha | ha
      · exact .inl ha
      · exact .inr (.inl ha)
      · exact .inr (.inr (.inl ha))
      · exact .inr (.inr (.inr (.inl ha)))
  · intro x d e
    cases f.vars x d e with
    | loc a b c r => exact .loc a (b.at' fun o q => hk _ o hl q) c (rd r)
    | cel a b c r => obtain ⟨o, e1, e2⟩ := c; exact .cel a b ⟨o, hk _ o (hc _ _ b) e1, e2⟩ (rd r)
    | fre a b c r => obtain ⟨o, e1, e2⟩ := c; exact .fre a b ⟨o, hk _ o (hc _ _ b) e1, e2⟩ (rd r)
  · rintro a (p | rfl)
    · exact f.sub a p
    · exact pc
  · intro a e
    by_cases z : a = c
    · exact .inr z
    · exact .inl (f.up a (by
        cases q : h.get? a with
        | none => rfl
        | some o => rw [hk a o z q] at e; cases e))
  · rintro a (p | rfl)
    · exact f.off a p
    · exact (f.nox a XI).2
  · intro a o oa e
    cases q : h.get? a with
    | none => exact absurd oa (f.off a (f.up a q))
    | some o' => rw [hk _ _ (fun z => (f.nox c XI).2 (z ▸ oa)) q] at e; cases e; exact f.olist a _ oa q
  · exact fun a ha => ⟨fun p => p.elim (f.nox a (.inl ha)).1 fun z => nX (z ▸ ha), (f.nox a (.inl ha)).2⟩
  · exact ⟨fun p => p.elim f.noloc.1 hl, f.noloc.2.1, fun z => f.noloc.2.2 (.inl z)⟩
  · exact fun y c' e => ⟨fun p => p.elim (f.nocell y c' e).1 (hc y c' e), (f.nocell y c' e).2.1, fun z => (f.nocell y c' e).2.2 (.inl z)⟩
  · obtain ⟨m, x⟩ := f.ns; exact ⟨m, x.at' fun o q => hk _ o hl q⟩
  · intro y c' e
    obtain ⟨v, o, e1, e2⟩ := f.cells y c' e
    exact ⟨v, o, hk _ o (hc y c' e) e1, e2⟩
  · intro y ds e
    obtain ⟨hk', m, u, a, vs, n, h1, h2, hv, h3, h4, h5⟩ := f.own y ds e
    exact ⟨hk', m, u, a, vs, n, h1.at' fun o q => hk _ o hl q, h2, (hv.butS (S := fun a => a = c) (h' := h') (fun a o ha e => hk a o ha e) (fun a ha => by subst ha; exact (f.nox a XI).1)).mono (fun _ _ e => e) (fun _ _ _ p => .inl p), h3, hk _ _ (fun q => (f.nox c XI).2 (q ▸ h3)) h4,
      (h5.butS (S := fun a => a = c) (h' := h') (fun a o ha e => hk a o ha e) fun a o ha e => .inl (by subst ha; exact hu o e)).mono (fun _ _ e => e) fun _ _ _ p => .inl p⟩

theorem Fs.frames {h : Heap} (f : Fs w A P₀ P O X env ρ ω h) : ∀ outer, A.frames = some outer → ∀ e ∈ outer, ∃ L o, e.frame = some L ∧ h.get? L = some o := fun outer eA e he => by
  obtain ⟨g, base, outer', b, st', k, e', ff, n⟩ := f.gr
  rw [e'] at eA; cases eA
  exact funFrames_in ff e he

/-- x = [.. for ..], the comprehension's names let go behind the store -/
theorem s_comp {y : Str} {py spos : Pos} {α : Type} {enc : α → PyData} {its : List α} {p : α → Bool} {g : α → PyData} {elt iter : Expr} {x : Str} {px : Pos} {ifs : List Expr} {scope : Scope}
    (hsrc : Src w A env ρ iter (its.map enc))
    (ht : ∀ C a, a ∈ its → Tests w A (cEnv scope env C) ((x, .py (enc a)) :: cap scope ρ) ifs (p a))
    (he : ∀ C a, a ∈ its → p a = true → Ev w A (cEnv scope env C) ((x, .py (enc a)) :: cap scope ρ) elt (.py (g a)))
    (hsz : its.length ≤ sizeLine := by decide)
    (hω : ∀ z ds, ω = some (z, ds) → z ≠ y := by first | (intro _ _ z; cases z; done) | (intro _ _ z; cases z; decide))
    (hy : env.kindOf y = some .local := by rfl)
    (hsw : swapsWith (.ListComp elt [⟨.Name x px, iter, ifs, 0⟩] scope pos) (some (.Name y py)) spos.line env = pure true := by rfl)
    (hx : scope.names.lookup x = some .local ∨ scope.names.lookup x = some .cell := by first | exact .inl rfl | exact .inr rfl)
    (hfree : (scope.names.all fun y => y.2 != .free || env.kindOf y.1 != some .local) = true := by rfl)
    (hcells : (scope.names.all fun y => y.2 != .free || (env.cells.lookup y.1).isSome) = true := by rfl)
    (hkind : scope.kind = .function := by rfl) (hnd : (scope.names.map (·.1)).Nodup := by decide)
    (hs : ∀ x, foldedSetIterable iter env x = pure x := by intro _; rfl) :
    S1 w A env ρ ω (.Assign [.Name y py] (.ListComp elt [⟨.Name x px, iter, ifs, 0⟩] scope pos) spos) (.next ((y, .py (.list ((its.filter p).map g))) :: ρ) ω) := by
  intro P₀ P O X s Q E f hQ
  rw [exec_Assign_Name_used _ _ _ _ hsw]
  refine wpAny_bind (wpAny_standAt (wpAny_bind ?_))
  show wpAny _ A (do let _ ← comprehension (.ListComp elt [⟨.Name x px, iter, ifs, 0⟩] scope pos) scope env _ (newList []) _ _ (some (assign (.Name y py) env))) _ _ s
  refine wpAny_bind (wpAny_mono (Q := fun _ s' => Q .next s') (comp_core (use := some (assign (.Name y py) env)) f.ok hsrc ht he hsz hx hfree hcells hkind hnd hs fun C D s' m hC k hm r => ?_) (fun _ s' hq => wpAny_pure (wpAny_pure hq)) fun _ _ e => e)
  show wpAny _ A (assign (.Name y py) env (.ref D)) _ _ _
  have hmC : ∃ o, s'.heap.get? C = some o := let ⟨o, _, _, e, _⟩ := hm; ⟨o, e⟩
  have f₁ := f.setApart hC (Keeps.hp k) hmC
  have seqC : ∀ (hh : Heap) m, hh.Ns C m → ∀ o, hh.get? C = some o → ∀ xs n, o.data ≠ .seq xs n := fun hh m hm o e xs n q => by
    obtain ⟨o', es, ep, e1, e2, _⟩ := hm; rw [e1] at e; cases e; rw [e2] at q; cases q
  have r₁ : RdT (fun a => P a ∧ a ≠ C) s'.heap (.ref D) (.py (.list ((its.filter p).map g))) := by
    cases r with | py r =>
      exact .py (r.monoL (fun _ _ e => e) fun b vs n e u => ⟨u.elim id fun q => f.up b q, fun q => by subst q; exact seqC _ _ hm _ e _ _ rfl⟩)
  refine wpAny_assign_Name (fs_store f₁ (.inl hy) r₁ hω fun s'' p₂ => ?_)
  have nO : ¬ O C := (f₁.nox C (.inr rfl)).2
  have lC : C ≠ env.locals := fun q => f₁.noloc.2.2 (.inr q.symm)
  have cC : ∀ z, env.cells.lookup z ≠ some C := fun z e => (f₁.nocell z C e).2.2 (.inr rfl)
  obtain ⟨P₂, O₂, f₂, hp₂, ho₂⟩ := p₂.fs
  have hmC2 : s''.heap.Ns C m := by
    obtain ⟨h2, t2, e2, q2⟩ := p₂.mv
    rw [e2]; exact hm.at' fun o e => q2 C o lC cC nO e
  refine ⟨m, hmC2, fun h' hs' => hQ _ _ ⟨rfl, ?_⟩⟩
  have inS : ∀ b o, s.heap.get? b = some o → b ≠ C := fun b o e q => by rw [q, hC] at e; cases e
  have nX : ¬ X C := fun q => (f.nox C q).1 (f.up C hC)
  have fe := f₂.drop (h' := h') (seqC _ _ hmC2) (fun b o hb e => hs'.extBut b o hb e) (f.sub C (f.up C hC)) nX fun outer eA e he q => by
    obtain ⟨L, o, e1, e2⟩ := f.frames outer eA e he
    rw [q] at e1; cases e1; exact inS _ o e2 rfl
  refine ⟨⟨_, O₂, fe, fun b o e p => .inl ?_, fun b o e p => ho₂ b o (Keeps.hp k _ _ e) p⟩, ?_, fun b q => ?_⟩
  · exact hp₂ b o (Keeps.hp k _ _ e) ⟨p, inS b o e⟩
  · obtain ⟨h1, t1, e1, q1⟩ := k
    subst e1
    obtain ⟨h2, t2, e2, q2⟩ := p₂.mv
    subst e2
    exact ⟨h', _, rfl, fun b o h1 h2 h3 e => hs'.extBut b o (inS b o e) (q2 b o h1 h2 h3 (q1 b o e))⟩
  · show h'.get? b ≠ none
    cases e : s.heap.get? b with
    | none => exact absurd e q
    | some o =>
      rw [hs'.2 b (inS b o e)]
      exact p₂.alive b (by rw [Keeps.hp k _ _ e]; exact fun z => nomatch z)
end
end Mine

open PySem PySem.W PyProof.Rows PySem.Calls
set_option Elab.async false
set_option maxRecDepth 100000
namespace Mine

noncomputable def fEnv (qual : Str) (scope : Scope) (f : Addr) (cdv : Value) (L : Addr) : Env :=
  { scope := scope, locals := L, globals := mainGlobals, cells := cellsFrom (L + 1) scope.names [], qual := qual ++ ".<locals>.", func := some f, code := cdv, frame := some L, builtins := builtinsNs }

theorem bindL_get {kindOf : Str → Option NameKind} : ∀ {binds : List (Str × Value)} {m : Str → Option Value} {y : Str}, kindOf y = some .local → (binds.map (·.1)).Nodup → bindL kindOf binds m y = ((binds.lookup y).or (m y))
  | [], m, y, _, _ => by simp [bindL]
  | (n, v) :: r, m, y, hk, hnd => by
    rw [List.map_cons, List.nodup_cons] at hnd
    rw [bindL, bindL_get hk hnd.2, List.lookup_cons]
    cases e : y == n with
    | true =>
      have en := beq_iff_eq.mp e
      have hr : r.lookup y = none := by
        cases q : r.lookup y with
        | none => rfl
        | some v' => exact absurd (en ▸ List.mem_map.mpr ⟨_, mem_of_lookup q, rfl⟩) hnd.1
      rw [hr, ← en, hk]; simp
    | false =>
      have ne : y ≠ n := fun q => by rw [q] at e; simp at e
      split
      · simp [ne]
      · rfl
theorem bindC_get {kindOf : Str → Option NameKind} : ∀ {binds : List (Str × Value)} {m : Str → Option Value} {y : Str}, kindOf y = some .cell → (binds.map (·.1)).Nodup → bindC kindOf binds m y = ((binds.lookup y).or (m y))
  | [], m, y, _, _ => by simp [bindC]
  | (n, v) :: r, m, y, hk, hnd => by
    rw [List.map_cons, List.nodup_cons] at hnd
    rw [bindC, bindC_get hk hnd.2, List.lookup_cons]
    cases e : y == n with
    | true =>
      have en := beq_iff_eq.mp e
      have hr : r.lookup y = none := by
        cases q : r.lookup y with
        | none => rfl
        | some v' => exact absurd (en ▸ List.mem_map.mpr ⟨_, mem_of_lookup q, rfl⟩) hnd.1
      rw [hr, ← en, hk]; simp
    | false =>
      have ne : y ≠ n := fun q => by rw [q] at e; simp at e
      split
      · rfl
      · simp [ne]

/-- a def's promise: from these data this datum, the heap only grows -/
noncomputable def Fn (w : World) (k : Nat) (f : Addr) (ds : List Dt) (d : Dt) : Prop :=
  ∀ (A : Around) (P : Addr → Prop) (s : Shared) (Q E : Value → Shared → Prop) (vs : List Value), Room A k → Base w s.heap → (∃ base outer, Below A base outer s.heap) → RdTs P s.heap vs ds →
    (∀ v s', Keeps s s' → RdT (Up P s.heap) s'.heap v d → Q v s') → wpAny (model pr w) A (call (.ref f) vs) Q E s

section
variable {w : World} {A : Around} {env : Env} {ρ ρ' : Rho} {ω ω' : Omg} {pos : Pos}

noncomputable def SubL : Rho → Rho → Prop
  | [], _ => True
  | p :: r, ρ => ρ.lookup p.1 = some p.2 ∧ SubL r ρ
theorem sub_mem : ∀ {ρ' ρ : Rho}, SubL ρ' ρ → ∀ p ∈ ρ', ρ.lookup p.1 = some p.2
  | _ :: _, _, ⟨h, _⟩, _, .head _ => h
  | _ :: _, _, ⟨_, r⟩, _, .tail _ m => sub_mem r _ m
theorem sub_of {ρ' ρ : Rho} (h : SubL ρ' ρ) : Sub ρ' ρ := fun y d e => sub_mem h (y, d) (mem_of_lookup e)
theorem sx_sub {ss : List Stmt} (h : Sx w A env ρ ω ss (.next ρ' ω')) {ρ'' : Rho} (hs : SubL ρ'' ρ') : Sx w A env ρ ω ss (.next ρ'' ω') :=
  fun P₀ P O X s Q E f hQ => h P₀ P O X s Q E f fun fl s' y => hQ fl s' ⟨y.1, y.2.weak (sub_of hs)⟩
theorem s1_sub {st : Stmt} (h : S1 w A env ρ ω st (.next ρ' ω')) {ρ'' : Rho} (hs : SubL ρ'' ρ') : S1 w A env ρ ω st (.next ρ'' ω') :=
  fun P₀ P O X s Q E f hQ => h P₀ P O X s Q E f fun fl s' y => hQ fl s' ⟨y.1, y.2.weak (sub_of hs)⟩
theorem sx_pre {ss : List Stmt} {o : Out} (h : Sx w A env ρ' ω ss o) (hs : SubL ρ' ρ) : Sx w A env ρ ω ss o := sx_weak (sub_of hs) h

theorem Room.deeper {k : Nat} (R : Room A (k + 1)) (env : Env) : Room (A.deeper env) k :=
  ⟨R.handled, by have := R.depth; show A.depth + 1 + k < _; omega, by have := R.units; show A.units + 3 + 10 * k + 200 < _; omega⟩
theorem Room.le {k k' : Nat} (R : Room A k) (h : k' ≤ k) : Room A k' := ⟨R.handled, by have := R.depth; omega, by have := R.units; omega⟩

theorem ev_call {x : Str} {p : Pos} {f : Addr} {e : Expr} {es : List Expr} {ds : List Dt} {d : Dt} {k : Nat} (R : Room A k) (hes : Evs w A env ρ (e :: es) ds) (hf : Fn w k f ds d)
    (hn : nsIn (hd0.heap_1 w.params) mainGlobals x = some (some (.ref f))) (hfn : fnIn (hd0.heap_1 w.params) f = true)
    (hk : env.kindOf x = some .globalImplicit := by rfl) (he : starEach (e :: es) env = (false, eval e env) :: starEach es env := by rfl) (hb : backTo pos (starEach (e :: es) env) = starEach (e :: es) env := by rfl)
    (hdb : (x == ("__debug__" : Str)) = false := by decide) : Ev w A env ρ (.Call (.Name x p) (e :: es) [] pos) d := by
  intro P s Q E ok hQ
  refine PyProof.Rows.Call_Name hb (gname ok hk hn ?_ hdb)
  obtain ⟨o, fd, ho, hdt⟩ : ∃ o fd, (hd0.heap_1 w.params).lookup f = some o ∧ o.data = .func fd := by
    unfold fnIn at hfn
    split at hfn
    · rename_i fd _ q; exact ⟨_, _, q, rfl⟩
    · cases hfn
  refine callWith_function (o := o) (fd := fd) ?_
  have h := hes P s
  rw [he] at h ⊢
  refine Calls.evalArgs_plain (h _ _ ok fun vs s₁ k₁ r => ⟨⟨(ok.base.keeps (Keeps.hp k₁)).K _ _ ho, hdt⟩, ?_⟩)
  exact hf A (Up P s.heap) s₁ Q E vs R (ok.base.keeps (Keeps.hp k₁)) (let ⟨b, l, x⟩ := ok.bel; ⟨b, l, below_keeps (Keeps.hp k₁) x⟩) r fun v s₂ k₂ r₂ => hQ v s₂ (Keeps.tr k₁ k₂) (r₂.mono (fun _ _ e => e) fun a _ _ p => up_up (Keeps.hp k₁) a p)

theorem fn_enter {s : Shared} {P : Addr → Prop} {R : Result → Shared → Prop} {f : Addr} {k : Nat} {name qual : Str} {params : Arguments} {body : List Stmt} {scope : Scope} {dV kV doc pm cdv ct oc : Value} {an od : Option Addr} {osl : Array (Option Value)} {args : Args} {binds : List (Str × Value)} {d : Dt}
    (Rm : Room A (k + 1)) (B : Base w s.heap) (bl : ∃ base outer, Below A base outer s.heap)
    (ho : (hd0.heap_1 w.params).lookup f = some ⟨oc, od, .func (fnOf name qual params body scope dV kV doc pm an cdv ct), osl⟩) (hcd : codeIn (hd0.heap_1 w.params) cdv qual = true)
    (hbind : BindsTo s (fnOf name qual params body scope dV kV doc pm an cdv ct) args binds)
    (hkind : (binds.all fun y => scope.names.lookup y.1 == some .local || scope.names.lookup y.1 == some .cell) = true) (hnd : (binds.map (·.1)).Nodup)
    (hρ : ∀ y d, ρ.lookup y = some d → ∃ v, binds.lookup y = some v ∧ RdT P s.heap v d)
    (hco : scope.isCoroutine = false) (hgen : scope.isGenerator = false) (hk : scope.kind = .function)
    (hbody : ∀ L, Room (A.deeper (fEnv qual scope f cdv L)) k → Sx w (A.deeper (fEnv qual scope f cdv L)) (fEnv qual scope f cdv L) ρ none body (.ret d))
    (hQ : ∀ v s', Keeps s s' → RdT (Up P s.heap) s'.heap v d → R (.ok (.ret v)) s') : codeAny (model pr w) A (.call (.ref f) args) R s := by
  obtain ⟨_, mg, mb, T⟩ := B.T
  refine codeAny_call_function (Nat.lt_of_le_of_lt (Nat.le_add_right _ _) Rm.depth) (B.K _ _ ho) rfl hco hgen rfl (codeRec_of B.K hcd) (hbind _ _ _ _ ?_)
  refine wpAny_newFunctionEnv_cells hk (kindsX hkind _) fun env' he s₁ x => ?_
  subst he
  refine ⟨T.nolimit.keeps x.toInCall.keep, codeAny_func ?_⟩
  generalize hL : s.heap.objs.size = L at x ⊢
  have eqE : newEnv scope L mainGlobals (cellsFrom (L + 1) scope.names []) (qual ++ ".<locals>.") (some f) cdv none builtinsNs = fEnv qual scope f cdv L := rfl
  have x' : InCallC s L (bindL (fEnv qual scope f cdv L).kindOf binds fun _ => none) (fEnv qual scope f cdv L).cells (bindC (fEnv qual scope f cdv L).kindOf binds fun _ => none) s₁ := x
  show wpAny _ (A.deeper (fEnv qual scope f cdv L)) (execs body (fEnv qual scope f cdv L)) _ _ _
  have hk₁ : KeepsH s.heap s₁.heap := x'.toInCall.keep
  have cl : ∀ y c, (fEnv qual scope f cdv L).cells.lookup y = some c → L < c := fun y c e => x'.above y c (mem_of_lookup e)
  have fr : ∀ a, L ≤ a → s.heap.get? a = none := fun a h => fresh_le (by rw [hL]; exact h)
  let P' : Addr → Prop := fun a => Up P s.heap a ∧ a ≠ L ∧ ∀ y, (fEnv qual scope f cdv L).cells.lookup y ≠ some a
  have fs : Fs w (A.deeper (fEnv qual scope f cdv L)) (Up P s.heap) P' (fun _ => False) (fun _ => False) (fEnv qual scope f cdv L) ρ none s₁.heap := by
    refine ⟨?_, hk, rfl, rfl, ?_, fun a p => p.1, ?_, fun _ _ q => q, fun _ q => q.elim, fun _ _ q => q.elim, fun _ q => q.elim, ⟨fun p => p.2.1 rfl, fun q => q, fun q => q⟩, fun y c e => ⟨fun p => p.2.2 y e, fun q => q, fun q => q⟩, ⟨_, x'.toInCall.ns⟩, fun y c e => ⟨_, x'.cell y c e⟩, ?_, fun _ _ e => by cases e⟩
    · obtain ⟨base, outer, bb⟩ := bl
      have F : Fr s.heap L s₁.heap _ := ⟨x'.toInCall.ns, hk₁, hL ▸ Nat.le_refl _⟩
      have bb' := pushX (env := fEnv qual scope f cdv L) bb F rfl hk
      refine ⟨s.heap, base, _, B, bb.stays, hk₁, bb'.stack, bb'.frames, fun a ha => ?_⟩
      rcases ha with rfl | ⟨y, e⟩ | q | q
      · exact fr _ (Nat.le_refl _)
      · exact fr _ (Nat.le_of_lt (cl y a e))
      · exact q.elim
      · exact q.elim
    · intro y d' e
      obtain ⟨v, hv, r⟩ := hρ y d' e
      have r' : RdT P' s₁.heap v d' := r.mono hk₁ fun a o e p => ⟨.inl p, (fun q => by rw [q, fr _ (Nat.le_refl _)] at e; exact (nomatch e)), (fun y' e' => by rw [fr _ (Nat.le_of_lt (cl y' a e'))] at e; exact (nomatch e))⟩
      have hy := List.all_eq_true.mp hkind _ (mem_of_lookup hv)
      rcases Bool.or_eq_true_iff.mp hy with q | q
      · have q' : (fEnv qual scope f cdv L).kindOf y = some .local := beq_iff_eq.mp q
        exact .loc q' x'.toInCall.ns (by rw [bindL_get q' hnd, hv]; rfl) r'
      · have q' : (fEnv qual scope f cdv L).kindOf y = some .cell := beq_iff_eq.mp q
        have hs : ((fEnv qual scope f cdv L).cells.lookup y).isSome = true := cellsFrom_some _ _ _ (.inl q')
        obtain ⟨c, hc⟩ := Option.isSome_iff_exists.mp hs
        have hcv := x'.cell y c hc
        rw [bindC_get q' hnd, hv] at hcv
        exact .cel q' hc hcv r'
    · intro a e
      refine ⟨.inr ?_, fun q => ?_, fun y q => ?_⟩
      · cases e' : s.heap.get? a with
        | none => rfl
        | some o => rw [hk₁ _ _ e'] at e; cases e
      · obtain ⟨o, _, _, e', _⟩ := x'.toInCall.ns; rw [q, e'] at e; cases e
      · obtain ⟨o, e', _⟩ := x'.cell y a q; rw [e'] at e; cases e
    · intro y z c e1 e2
      exact name_of_addr x'.apart (mem_of_lookup e1) (mem_of_lookup e2)
  refine hbody L (Rm.deeper _) _ _ _ _ s₁ _ _ fs fun fl s' y => ?_
  obtain ⟨v, rfl, r, m⟩ := y
  refine hQ v s' ?_ r
  obtain ⟨h1, t1, e1⟩ := x'.toInCall.same
  obtain ⟨h2, t2, e2, q2⟩ := m
  subst e2
  refine ⟨h2, t2, by rw [e1], fun b o e => q2 b o (fun q => ?_) (fun y q => ?_) (fun q => q) (hk₁ b o e)⟩
  · rw [show b = L from q, fr _ (Nat.le_refl _)] at e; cases e
  · rw [fr _ (Nat.le_of_lt (cl y b q))] at e; cases e
end
end Mine

open PySem PySem.W PyProof.Rows PySem.Calls
set_option Elab.async false
set_option maxRecDepth 100000
namespace Mine

theorem RdAll.ints {P : Addr → Prop} {h : Heap} {vs : List Value} {ns : List Int} (r : RdAll P h vs (ns.map .int)) : IntsAre vs ns := by
  induction ns generalizing vs with
  | nil => cases r; exact .nil
  | cons n ns ih => cases r with | cons a r => cases a; exact .cons _ _ (ih r)
theorem RdAll.strs {P : Addr → Prop} {h : Heap} {vs : List Value} {ns : List Str} (r : RdAll P h vs (ns.map .str)) : StrsAre vs ns := by
  induction ns generalizing vs with
  | nil => cases r; exact .nil
  | cons n ns ih => cases r with | cons a r => cases a; exact .cons _ _ (ih r)
theorem RdAll.ofStrs {P : Addr → Prop} {h : Heap} : ∀ (l : List (Str × Tok)), RdAll P h (strValues l) ((l.map (·.1)).map .str)
  | [] => .nil
  | (x, t) :: r => .cons (.str x t) (RdAll.ofStrs r)

section
variable {w : World} {A : Around} {env : Env} {ρ ρ' : Rho} {ω ω' : Omg} {pos : Pos}

/-- a built-in function of one argument -/
theorem ev_bcall {x : Str} {id : String} {p : Pos} {e : Expr} {d₁ d : Dt} (h : Ev w A env ρ e d₁) (hb : bootBuiltins x = some (.builtin id))
    (hc : ∀ (P : Addr → Prop) (s : Shared) (Q E : Value → Shared → Prop) (v : Value), Base w s.heap → RdT P s.heap v d₁ → (∀ v s', Keeps s s' → RdT (Up P s.heap) s'.heap v d → Q v s') → wpAny (model pr w) A (call (.builtin id) [v]) Q E s)
    (hk : env.kindOf x = some .globalImplicit := by rfl) (hn : ∀ P, nsIn (hd0.heap_1 P) mainGlobals x = some none := by intro _; kernel_rfl)
    (hs : starEach [e] env = [(false, eval e env)] := by rfl) (hnm : x ≠ "__name__" := by decide) (hdb : (x == ("__debug__" : Str)) = false := by decide) : Ev w A env ρ (.Call (.Name x p) [e] [] pos) d := by
  intro P s Q E ok hQ
  refine PyProof.Rows.Call_Name1 (bname ok hk (hn _) hb ?_ hnm hdb) hs
  refine callWith_builtin1 (h P s _ _ ok fun v s₁ k₁ r => ?_)
  exact hc _ s₁ Q E v (ok.base.keeps (Keeps.hp k₁)) r fun v' s₂ k₂ r₂ => hQ v' s₂ (Keeps.tr k₁ k₂) (r₂.mono (fun _ _ e => e) fun a _ _ p => up_up (Keeps.hp k₁) a p)

theorem ev_lenl {p : Pos} {e : Expr} {ds : List PyData} (h : Ev w A env ρ e (.py (.list ds))) (hl : ds.length < 2 ^ 62 := by decide) (hk : env.kindOf (Str.ofString "len") = some .globalImplicit := by rfl) (hs : starEach [e] env = [(false, eval e env)] := by rfl) :
    Ev w A env ρ (.Call (.Name (Str.ofString "len") p) [e] [] pos) (.py (.int ds.length)) :=
  ev_bcall h PySem.boot_len (fun P s Q E v B r hQ => by
    cases r with | py r => cases r with | list pa g q =>
      rename_i a vs n
      have e : vs.toArray.size = ds.length := by rw [List.size_toArray, q.length]
      exact call_len_list ⟨_, g, rfl, _, rfl⟩ (by rw [e]; omega) (hQ _ _ (Keeps.tok _ _) (by rw [e]; exact .py (.int _ _)))) hk (hs := hs)
theorem ev_sum {p : Pos} {e : Expr} {ns : List Int} {k : Nat} (R : Room A k) (h : Ev w A env ρ e (.py (.list (ns.map .int)))) (hk : env.kindOf (Str.ofString "sum") = some .globalImplicit := by rfl) (hs : starEach [e] env = [(false, eval e env)] := by rfl) :
    Ev w A env ρ (.Call (.Name (Str.ofString "sum") p) [e] [] pos) (.py (.int ns.sum)) :=
  ev_bcall h PyProof.Rows.boot_sum (fun P s Q E v B r hQ => by
    cases r with | py r => cases r with | list pa g q =>
      rename_i a vs n
      have hi := q.ints
      have hne : a ≠ s.heap.objs.size := Nat.ne_of_lt (Heap.lt_size g)
      refine call_sum_walkG (wpAny_pyIter_list ⟨_, g, rfl, _, rfl⟩ ⟨s.heap.objs.size, [s.heap.objs.size, a], [s.heap.objs.size], vs.toArray.size, _, _, fun i => ns.getD i 0, rfl, Walks.list (prog := pr) (w := w) (A := A.in1) R.handled s.heap.objs.size a hne vs.toArray, ⟨⟨_, Heap.get?_push_size _ rfl, rfl, rfl⟩, ⟨_, keepsPush _ _ _ _ g, rfl, _, rfl⟩⟩, ?_, ?_, ?_⟩)
      · intro b hb
        show b < (s.heap.push _).objs.size
        rw [Heap.size_push]
        rcases List.mem_cons.mp hb with rfl | hb
        · exact Nat.lt_succ_self _
        · rw [List.mem_singleton.mp hb]; exact Nat.lt_succ_of_lt (Heap.lt_size g)
      · intro i v hv
        have hv' : vs[i]? = some v := by simpa using hv
        have hlt : i < ns.length := by rw [← hi.length]; exact (List.getElem?_eq_some_iff.mp hv').1
        obtain ⟨t, ht⟩ := hi.get i ns[i] (by simp [hlt])
        rw [hv'] at ht; cases ht
        exact ⟨t, by simp [List.getD, hlt]⟩
      · intro h' tk t' hk'
        have e : preSum (fun i => ns.getD i 0) vs.toArray.size = ns.sum := by
          rw [List.size_toArray, hi.length]
          rw [preSum_getD, List.take_length]
        rw [e]
        exact hQ _ _ (Keeps.mk' fun b o e => hk' b o (by simp; exact Nat.ne_of_lt (Heap.lt_size e)) (keepsPush _ _ _ _ e)) (.py (.int _ _))) hk (hs := hs)
theorem ev_hex {p : Pos} {e : Expr} {i : Int} (h : Ev w A env ρ e (.py (.int i))) (hsz : (PySem.baseText "0x" 16 i).length ≤ sizeLine) (hk : env.kindOf (Str.ofString "hex") = some .globalImplicit := by rfl) (hs : starEach [e] env = [(false, eval e env)] := by rfl) :
    Ev w A env ρ (.Call (.Name (Str.ofString "hex") p) [e] [] pos) (.py (.str (PySem.baseText "0x" 16 i))) :=
  ev_bcall h PyProof.Rows.boot_hex (fun P s Q E v B r hQ => by
    cases r with | py r => cases r; exact PySem.P.hex_of_int (hQ _ _ (Keeps.tok _ _) (.py (.str _ _))) hsz) hk (hs := hs)
theorem ev_chr {p : Pos} {e : Expr} {i : Int} (h : Ev w A env ρ e (.py (.int i))) (hi : (decide (i < 0) || decide (i > 0x10FFFF)) = false) (hk : env.kindOf (Str.ofString "chr") = some .globalImplicit := by rfl) (hs : starEach [e] env = [(false, eval e env)] := by rfl) :
    Ev w A env ρ (.Call (.Name (Str.ofString "chr") p) [e] [] pos) (.py (.str ⟨#[i.toNat]⟩)) :=
  ev_bcall h PyProof.Rows.boot_chr (fun P s Q E v B r hQ => by
    cases r with | py r => cases r; exact PySem.P.chr_of_int hi (hQ _ _ (Keeps.tok _ _) (.py (.str _ _)))) hk (hs := hs)

/-- a method of a str -/
theorem ev_smeth0 {o : Expr} {name : Str} {id : String} {ap : Pos} {x : Str} {d : Dt} (ho : Ev w A env ρ o (.py (.str x))) (slot : Slot "str" name id) (ty : typeOf (.builtin id) = pure (.type "method_descriptor"))
    (hc : ∀ (P : Addr → Prop) (s : Shared) (Q E : Value → Shared → Prop) (t : Tok), (∀ v s', Keeps s s' → RdT (Up P s.heap) s'.heap v d → Q v s') → wpAny (model pr w) A (call (.builtin id) [.str x t]) Q E s)
    (hbase : attributeBase o name env (eval o env) = eval o env := by rfl) (hline : (ap.endLine == pos.line) = true := by rfl) : Ev w A env ρ (.Call (.Attribute o name ap) [] [] pos) d := by
  intro P s Q E ok hQ
  refine Call_method0 hbase hline (ho P s _ _ ok fun v s₁ k₁ r => ?_)
  cases r with | py r => cases r with | str _ t =>
    refine ⟨"str", id, PySem.F.plainAttrs_str, slot, ty, typeIs_str _ _ _, (fun _ e => nomatch e), ?_⟩
    refine Calls.callWith_builtin rfl (PyProof.Rows.evalArgs_nil3 ?_)
    exact hc (Up P s.heap) s₁ Q E t fun v' s₂ k₂ r₂ => hQ v' s₂ (Keeps.tr k₁ k₂) (r₂.mono (fun _ _ e => e) fun a _ _ p => up_up (Keeps.hp k₁) a p)
theorem ev_smeth {o e : Expr} {es : List Expr} {name : Str} {id : String} {ap : Pos} {x : Str} {ds : List Dt} {d : Dt} (ho : Ev w A env ρ o (.py (.str x))) (hes : Evs w A env ρ (e :: es) ds) (slot : Slot "str" name id) (ty : typeOf (.builtin id) = pure (.type "method_descriptor"))
    (hc : ∀ (P : Addr → Prop) (s : Shared) (Q E : Value → Shared → Prop) (t : Tok) (vs : List Value), RdTs P s.heap vs ds → (∀ v s', Keeps s s' → RdT (Up P s.heap) s'.heap v d → Q v s') → wpAny (model pr w) A (call (.builtin id) (.str x t :: vs)) Q E s)
    (hbase : attributeBase o name env (eval o env) = eval o env := by rfl) (hline : (ap.endLine == pos.line) = true := by rfl)
    (hfew : ((backTo pos (starEach (e :: es) env)).all (fun x => !x.1) && (backToKw pos (keywordEach [] env)).all (fun x => x.1.isSome) && decide ((e :: es).length + ([] : List Keyword).length + (if ([] : List Keyword).isEmpty then 0 else 1) < 30)) = true := by rfl)
    (hb : backTo pos (starEach (e :: es) env) = (false, eval e env) :: starEach es env := by rfl) (hb' : starEach (e :: es) env = (false, eval e env) :: starEach es env := by rfl) (hst : ((false, eval e env) :: starEach es env).any (·.1) = false := by rfl) : Ev w A env ρ (.Call (.Attribute o name ap) (e :: es) [] pos) d := by
  intro P s Q E ok hQ
  refine wpAny_Call_method_lateS hbase hfew hline (ho P s _ _ ok fun v s₁ k₁ r => ?_)
  cases r with | py r => cases r with | str _ t =>
    refine ⟨"str", id, PySem.F.plainAttrs_str, slot, ty, typeIs_str _ _ _, (fun _ e => nomatch e), ?_⟩
    have h := hes P s₁
    rw [hb'] at h
    rw [hb]
    refine Calls.callWith_builtin hst (Calls.evalArgs_plain (h _ _ (ok.keeps (Keeps.hp k₁)) fun vs s₂ k₂ r₂ => ?_))
    have k' := Keeps.tr k₁ k₂
    exact hc (Up P s₁.heap) s₂ Q E t vs r₂ fun v' s₃ k₃ r₃ => hQ v' s₃ (Keeps.tr k' k₃) (r₃.mono (fun _ _ e => e) fun a _ _ p => up_mono (Keeps.hp k₁) a (up_up (Keeps.hp k₂) a p))
/-- a method of a list, with one argument -/
theorem ev_lmeth1 {o e : Expr} {name : Str} {id : String} {ap : Pos} {xs : List PyData} {d₁ d : Dt} (ho : Ev w A env ρ o (.py (.list xs))) (he : Ev w A env ρ e d₁) (slot : Slot "list" name id) (ty : typeOf (.builtin id) = pure (.type "method_descriptor"))
    (hc : ∀ (P : Addr → Prop) (s : Shared) (Q E : Value → Shared → Prop) (a : Addr) (vs : List Value) (n : Nat) (v : Value), s.heap.get? a = some (lob vs n) → RdAll P s.heap vs xs → RdT P s.heap v d₁ → (∀ v s', Keeps s s' → RdT (Up P s.heap) s'.heap v d → Q v s') → wpAny (model pr w) A (call (.builtin id) [.ref a, v]) Q E s)
    (hbase : attributeBase o name env (eval o env) = eval o env := by rfl) (hline : (ap.endLine == pos.line) = true := by rfl) (hs : starEach [e] env = [(false, eval e env)] := by rfl) : Ev w A env ρ (.Call (.Attribute o name ap) [e] [] pos) d := by
  intro P s Q E ok hQ
  refine Call_method1 hbase hs hline (ho P s _ _ ok fun v s₁ k₁ r => ?_)
  cases r with | py r => cases r with | list pa g q =>
    refine ⟨"list", id, PySem.F.plainAttrs_list, slot, ty, ⟨_, g, rfl⟩, (fun a e => by cases e; exact ⟨_, g, rfl⟩), ?_⟩
    refine Calls.callWith_builtin rfl (Calls.evalArgs_plain (Calls.spliced_cons (he P s₁ _ _ (ok.keeps (Keeps.hp k₁)) fun v s₂ k₂ r₂ => Calls.spliced_nil ?_)))
    have k' := Keeps.tr k₁ k₂
    exact hc (Up P s.heap) s₂ Q E _ _ _ v (Keeps.hp k₂ _ _ g) (q.mono (Keeps.hp k₂) fun _ _ _ p => p) (r₂.mono (fun _ _ e => e) fun a _ _ p => up_mono (Keeps.hp k₁) a p) fun v' s₃ k₃ r₃ => hQ v' s₃ (Keeps.tr k' k₃) (r₃.mono (fun _ _ e => e) fun a _ _ p => up_up (Keeps.hp k') a p)

theorem ev_lower {o : Expr} {ap : Pos} {x : Str} (ho : Ev w A env ρ o (.py (.str x))) (hx : x.length ≤ 5592405) (hbase : attributeBase o "lower" env (eval o env) = eval o env := by rfl) (hline : (ap.endLine == pos.line) = true := by rfl) :
    Ev w A env ρ (.Call (.Attribute o (Str.ofString "lower") ap) [] [] pos) (.py (.str (Txt.lower x))) :=
  ev_smeth0 ho PySem.F.slot_str_lower PySem.F.type_str_lower (fun P s Q E t hQ => SC.lower (PyProof.Rows.fit_lower hx) (hQ _ _ (Keeps.tok _ _) (.py (.str _ _)))) hbase hline
theorem ev_startswith {o e : Expr} {ap : Pos} {x y : Str} (ho : Ev w A env ρ o (.py (.str x))) (he : Ev w A env ρ e (.py (.str y))) (hbase : attributeBase o "startswith" env (eval o env) = eval o env := by rfl) (hline : (ap.endLine == pos.line) = true := by rfl) (hs : starEach [e] env = [(false, eval e env)] := by rfl) :
    Ev w A env ρ (.Call (.Attribute o (Str.ofString "startswith") ap) [e] [] pos) (.py (.bool (Txt.startswith x y))) :=
  ev_smeth ho (evs_cons he evs_nil hs) PySem.F.slot_str_startswith PySem.F.type_str_startswith (fun P s Q E t vs r hQ => by
    cases r with | cons a r => cases r; cases a with | py a => cases a; exact SC.startswith (hQ _ _ (Keeps.rf _) (.py (.bool _)))) hbase hline (by rw [hs]; rfl) (by rw [hs]; rfl) hs rfl
theorem ev_endswith {o e : Expr} {ap : Pos} {x y : Str} (ho : Ev w A env ρ o (.py (.str x))) (he : Ev w A env ρ e (.py (.str y))) (hbase : attributeBase o "endswith" env (eval o env) = eval o env := by rfl) (hline : (ap.endLine == pos.line) = true := by rfl) (hs : starEach [e] env = [(false, eval e env)] := by rfl) :
    Ev w A env ρ (.Call (.Attribute o (Str.ofString "endswith") ap) [e] [] pos) (.py (.bool (Txt.endswith x y))) :=
  ev_smeth ho (evs_cons he evs_nil hs) PySem.F.slot_str_endswith PySem.F.type_str_endswith (fun P s Q E t vs r hQ => by
    cases r with | cons a r => cases r; cases a with | py a => cases a; exact SC.endswith (hQ _ _ (Keeps.rf _) (.py (.bool _)))) hbase hline (by rw [hs]; rfl) (by rw [hs]; rfl) hs rfl
theorem ev_join {o e : Expr} {ap : Pos} {x : Str} {ys : List Str} (ho : Ev w A env ρ o (.py (.str x))) (he : Ev w A env ρ e (.py (.list (ys.map .str)))) (hok : (ys.map (·.length)).sum + ys.length * x.length ≤ 16777216)
    (hbase : attributeBase o "join" env (eval o env) = eval o env := by rfl) (hline : (ap.endLine == pos.line) = true := by rfl) (hs : starEach [e] env = [(false, eval e env)] := by rfl) :
    Ev w A env ρ (.Call (.Attribute o (Str.ofString "join") ap) [e] [] pos) (.py (.str (Txt.join x ys))) :=
  ev_smeth ho (evs_cons he evs_nil hs) PySem.F.slot_str_join PySem.F.type_str_join (fun P s Q E t vs r hQ => by
    cases r with | cons a r => cases r; cases a with | py a => cases a with | list pa g q => exact join_list ⟨_, g, rfl, _, rfl⟩ q.strs hok (fun t' k => hQ _ _ (Keeps.tok _ _) (.py (.str _ _)))) hbase hline (by rw [hs]; rfl) (by rw [hs]; rfl) hs rfl
end
end Mine

open PySem PySem.W PyProof.Rows PySem.Calls
set_option Elab.async false
set_option maxRecDepth 100000
namespace Mine
example : (PySem.Challenge.rw_rl0110_01, hd0.heap_1) = (PySem.Challenge.rw_rl0110_01, hd0.heap_1) := by k_fill; rfl

noncomputable def bitI (c : Int) (k : Nat) : Bool := (c.fdiv (2 ^ k)).fmod 2 == 1
noncomputable def litA (c : Int) (rs : List Int) : Nat → Int
  | 0 => 0
  | k + 1 => if bitI c k then Builtin.bitXor (litA c rs k) (rs.getD k 0) else litA c rs k
noncomputable def litF (c : Int) (rs : List Int) : Int := litA c rs 4

theorem RdTs.two {P : Addr → Prop} {h : Heap} {vs : List Value} {d₁ d₂ : Dt} (r : RdTs P h vs [d₁, d₂]) : ∃ v₁ v₂, vs = [v₁, v₂] ∧ RdT P h v₁ d₁ ∧ RdT P h v₂ d₂ := by
  cases r with | cons a r => cases r with | cons b r => cases r; exact ⟨_, _, rfl, a, b⟩
theorem lookup2 {x y : Str} {v₁ v₂ : Value} {d₁ d₂ : Dt} {P : Addr → Prop} {h : Heap} (a : RdT P h v₁ d₁) (b : RdT P h v₂ d₂) : ∀ z d, ([(x, d₁), (y, d₂)] : Rho).lookup z = some d → ∃ v, [(x, v₁), (y, v₂)].lookup z = some v ∧ RdT P h v d := by
  intro z d e
  simp only [List.lookup_cons] at e ⊢
  cases h1 : z == x with
  | true => rw [h1] at e; cases e; exact ⟨_, rfl, a⟩
  | false =>
    rw [h1] at e
    cases h2 : z == y with
    | true => rw [h2] at e; cases e; exact ⟨_, rfl, b⟩
    | false => rw [h2] at e; simp at e

theorem pow2_fits {n : Int} (h : n ≤ 1000) : (Builtin.Int.intBits 2 : Int) * n ≤ 2 ^ 27 := by
  have : Builtin.Int.intBits 2 = 2 := by decide +kernel
  rw [this]; omega
theorem pow2_ne (n : Nat) : (2 : Int) ^ n ≠ 0 := by
  have : (0 : Int) < 2 ^ n := Int.pow_pos (by decide)
  omega
theorem pow2_small {n : Nat} (h : n < 1000) : ((2 : Int) ^ n).natAbs.log2 < 9000 := by
  rw [Int.natAbs_pow]
  show (2 ^ n).log2 < 9000
  rw [Nat.log2_two_pow]; omega
theorem ints_get (rs : List Int) {k : Nat} (h : k < rs.length) : (rs.map PyData.int)[((k : Nat) : Int).toNat]? = some (.int (rs.getD k 0)) := by
  simp [h]
theorem range_get {n i a : Nat} (h : (List.range n)[i]? = some a) : a = i ∧ i < n := by
  obtain ⟨h1, h2⟩ := List.getElem?_eq_some_iff.mp h
  rw [List.length_range] at h1
  rw [List.getElem_range] at h2
  exact ⟨h2.symm, h1⟩
set_option maxHeartbeats 4000000 in
theorem lit_fn {w : World} {c : Int} {rs : List Int} (h0 : 0 ≤ c) (h1 : c < 16) (hl : rs.length = 4) : Fn w 1 228 [.py (.int c), .py (.list (rs.map .int))] (.py (.int (litF c rs))) := by
  intro A P s Q E vs R B bl r hQ
  obtain ⟨v₁, v₂, rfl, r₁, r₂⟩ := r.two
  refine wpAny_call ?_
  refine fn_enter (k := 0) R B bl (by k_dflt k_is) (by k_dflt k_is) (BindsTo.of_eq rfl) (by rfl) (by exact (by decide : [Str.ofString "choice", Str.ofString "rows"].Nodup)) (lookup2 (x := Str.ofString "choice") (y := Str.ofString "rows") r₁ r₂) (by rfl) (by rfl) (by rfl) (fun L R' => ?_) hQ
  revert R'
  generalize A.deeper _ = A'
  intro R'
  refine sx_cons (s_assign ev_int) ?_
  refine sx_cons (s_for_gen (α := Nat) (enc := fun i => .int i) (its := List.range 4) (fun i => [(Str.ofString "lit", .py (.int (litA c rs i))), (Str.ofString "choice", .py (.int c)), (Str.ofString "rows", .py (.list (rs.map .int)))]) (fun _ => none) 4
    (src_range1 R'.handled ev_int (by decide)) (fun _ _ e => e) rfl (fun i a hi ha => ?_) (by decide) (.all rfl sx_nil) (hω := fun _ _ _ e => by cases e)) ?_
  · obtain ⟨rfl, hi4⟩ : a = i ∧ i < 4 := range_get ha
    refine ⟨[(Str.ofString "lit", .py (.int (litA c rs (a + 1)))), (Str.ofString "choice", .py (.int c)), (Str.ofString "rows", .py (.list (rs.map .int)))],
      sx_cons (s_if (b := bitI c a) (tv_cmp (ev_mod (ev_div (ev_name rfl) (ev_pow ev_int (ev_name rfl) (by omega) (pow2_fits (by omega))) (pow2_ne _) (pow2_small (by omega))) ev_int (by decide)) ev_int cmp_eqi) (fun hb => ?_) (fun hb => ?_)) sx_nil, fun _ _ e => e⟩
    · refine sx_sub (sx_cons (s_assign (ev_xor (ev_name rfl) (ev_item (ev_name rfl) (ev_name rfl) (by omega) (by omega) (ints_get rs (by omega))))) sx_nil) ⟨?_, rfl, rfl, trivial⟩
      rw [litA, if_pos hb]; rfl
    · refine sx_sub sx_nil ⟨?_, rfl, rfl, trivial⟩
      rw [litA, if_neg (by rw [hb]; decide)]; rfl
  · exact sx_ret (s_return (ev_name rfl))
end Mine

open PySem PySem.W PyProof.Rows PySem.Calls
set_option Elab.async false
set_option maxRecDepth 100000
namespace Mine
example : (PySem.Challenge.rw_rl0110_01, hd0.heap_1) = (PySem.Challenge.rw_rl0110_01, hd0.heap_1) := by k_fill; rfl
theorem ev_eq {w : World} {A : Around} {env : Env} {ρ : Rho} {e : Expr} {d d' : Dt} (h : Ev w A env ρ e d) (hd' : d = d') : Ev w A env ρ e d' := hd' ▸ h
theorem tv_eq {w : World} {A : Around} {env : Env} {ρ : Rho} {e : Expr} {d d' : Bool} (h : Tv w A env ρ e d) (hd' : d = d') : Tv w A env ρ e d' := hd' ▸ h

noncomputable def flagT : List (Int × PyData) := [(1, .str "OPTIMIZED"), (2, .str "NEWLOCALS"), (4, .str "VARARGS"), (8, .str "VARKEYWORDS"), (16, .str "NESTED"), (32, .str "GENERATOR"), (64, .str "NOFREE"), (128, .str "COROUTINE"), (256, .str "ITERABLE_COROUTINE"), (512, .str "ASYNC_GENERATOR")]
noncomputable def flagName (i : Int) : Str := match KTD.datumAt i flagT with
  | some (.str x) => x
  | _ => PySem.baseText "0x" 16 i

theorem flagLook (w : World) : KTD.keyedLook (fun b => (hd0.heap_1 w.params).lookup b) 180 flagT = true := by
  kernel_rfl

theorem flagAt (i : Int) : (∃ x, KTD.datumAt i flagT = some (.str x)) ∨ KTD.datumAt i flagT = none := by
  unfold flagT
  simp only [KTD.datumAt]
  repeat' split
  all_goals first | exact .inl ⟨_, rfl⟩ | exact .inr rfl

section
variable {w : World} {A : Around} {env : Env} {ρ ρ' : Rho} {ω ω' : Omg} {pos : Pos}
theorem ev_flagget {x : Str} {p ap : Pos} {e₁ e₂ : Expr} {i : Int} (h₁ : Ev w A env ρ e₁ (.py (.int i))) (h₂ : Ev w A env ρ e₂ (.py (.str (PySem.baseText "0x" 16 i))))
    (hn : nsIn (hd0.heap_1 w.params) mainGlobals x = some (some (.ref 180)))
    (hk : env.kindOf x = some .globalImplicit := by rfl) (hbase : attributeBase (.Name x p) "get" env (eval (.Name x p) env) = eval (.Name x p) env := by rfl) (hline : (ap.endLine == pos.line) = true := by rfl)
    (hs : starEach [e₁, e₂] env = [(false, eval e₁ env), (false, eval e₂ env)] := by rfl) (hdb : (x == ("__debug__" : Str)) = false := by decide) :
    Ev w A env ρ (.Call (.Attribute (.Name x p) "get" ap) [e₁, e₂] [] pos) (.py (.str (flagName i))) := by
  intro P s Q E ok hQ
  refine Call_method2 hbase hs hline (gname ok hk hn ?_ hdb)
  have K : KTD.Keyed s.heap 180 flagT := kt_keyed_in ok.base.K (flagLook w)
  obtain ⟨_, kvs, ⟨o, es, ep, ho, hc, _⟩, _⟩ := K pr w
  refine ⟨"dict", "dict.get", PySem.F.plainAttrs_dict, PySem.F.slot_dict_get, PySem.F.type_dict_get, ⟨o, ho, hc.1⟩, (fun a e => by cases e; exact ⟨o, ho, hc.2.1⟩), ?_⟩
  refine Calls.callWith_builtin rfl (Calls.evalArgs_plain (Calls.spliced_cons (h₁ P s _ _ ok fun v₁ s₁ k₁ r₁ => Calls.spliced_cons (h₂ P s₁ _ _ (ok.keeps (Keeps.hp k₁)) fun v₂ s₂ k₂ r₂ => Calls.spliced_nil ?_))))
  cases r₁ with | py r₁ => cases r₁ with | int _ t₁ => cases r₂ with | py r₂ => cases r₂ with | str _ t₂ =>
    have k' := Keeps.tr k₁ k₂
    refine call_get2_intTab ((K.keep (Keeps.hp k')) pr w) (PyProof.V.Flat.str _ t₂) fun v hv => hQ v _ (Keeps.tr k' (Keeps.tok _ _)) (.py ?_)
    rw [KTD.lookup_keyed] at hv
    unfold flagName
    rcases flagAt i with ⟨x, e⟩ | e
    · rw [e] at hv ⊢; obtain ⟨t, rfl⟩ := PyProof.V.Flat.str_inv hv; exact .str _ _
    · rw [e] at hv ⊢; obtain ⟨t, rfl⟩ := PyProof.V.Flat.str_inv hv; exact .str _ _
end
end Mine

open PySem PySem.W PyProof.Rows PySem.Calls
set_option Elab.async false
set_option maxRecDepth 100000
namespace Mine
example : (PySem.Challenge.rw_rl0110_01, hd0.heap_1) = (PySem.Challenge.rw_rl0110_01, hd0.heap_1) := by k_fill; rfl

theorem gives_find4 (x y : Str) (i j : Int) (t u v z : Tok) : Gives (Builtin.«str.find» ⟨[.str x t, .str y u, .int i v, .int j z], []⟩) (.int (match Builtin.Str.occurrences x y (fromIndex x.length i) (min (fromIndex x.length j) x.length) 1 with | k :: _ => (k : Int) | [] => -1)) := by
  show Gives (match Builtin.Str.occurrences x y (fromIndex x.length i) (min (fromIndex x.length j) x.length) 1 with | k :: _ => retInt k | [] => (do rule "str.find.not-found"; retInt (-1))) _
  cases Builtin.Str.occurrences x y (fromIndex x.length i) (min (fromIndex x.length j) x.length) 1 with
  | nil => exact .rule (.of_eq rfl)
  | cons k _ => exact .of_eq rfl

noncomputable def findF (x y : Str) (i j : Int) : Int := match Builtin.Str.occurrences x y (fromIndex x.length i) (min (fromIndex x.length j) x.length) 1 with | k :: _ => (k : Int) | [] => -1

section
variable {w : World} {A : Around} {P₀ P O X : Addr → Prop} {env : Env} {ρ ρ' : Rho} {ω ω' : Omg} {pos : Pos}

theorem ev_find {o e₁ e₂ e₃ : Expr} {ap : Pos} {x y : Str} {i j : Int} (ho : Ev w A env ρ o (.py (.str x))) (h₁ : Ev w A env ρ e₁ (.py (.str y))) (h₂ : Ev w A env ρ e₂ (.py (.int i))) (h₃ : Ev w A env ρ e₃ (.py (.int j)))
    (hbase : attributeBase o "find" env (eval o env) = eval o env := by rfl) (hline : (ap.endLine == pos.line) = true := by rfl)
    (hfew : ((backTo pos (starEach [e₁, e₂, e₃] env)).all (fun x => !x.1) && (backToKw pos (keywordEach [] env)).all (fun x => x.1.isSome) && decide ([e₁, e₂, e₃].length + ([] : List Keyword).length + (if ([] : List Keyword).isEmpty then 0 else 1) < 30)) = true := by rfl)
    (hb : backTo pos (starEach [e₁, e₂, e₃] env) = (false, eval e₁ env) :: starEach [e₂, e₃] env := by rfl) (h1 : starEach [e₁, e₂, e₃] env = (false, eval e₁ env) :: starEach [e₂, e₃] env := by rfl) (h2 : starEach [e₂, e₃] env = (false, eval e₂ env) :: starEach [e₃] env := by rfl) (h3 : starEach [e₃] env = [(false, eval e₃ env)] := by rfl)
    (hst : ((false, eval e₁ env) :: starEach [e₂, e₃] env).any (·.1) = false := by rfl) :
    Ev w A env ρ (.Call (.Attribute o (Str.ofString "find") ap) [e₁, e₂, e₃] [] pos) (.py (.int (findF x y i j))) :=
  ev_smeth ho (evs_cons h₁ (evs_cons h₂ (evs_cons h₃ evs_nil h3) h2) h1) PySem.F.slot_str_find PySem.F.type_str_find (fun P s Q E t vs r hQ => by
    cases r with | cons a r => cases r with | cons b r => cases r with | cons c r => cases r; cases a with | py a => cases a; cases b with | py b => cases b; cases c with | py c => cases c; exact call_gives PySem.F.slot_str_find (typeIs_str _ _ _) PySem.F.entry_str_find (PySem.F.args_str_find_4 _ _ _ _) (gives_find4 _ _ _ _ _ _ _ _) (hQ _ _ (Keeps.tok _ _) (.py (.int _ _)))) hbase hline hfew hb h1 hst

theorem ev_lens {p : Pos} {e : Expr} {x : Str} (h : Ev w A env ρ e (.py (.str x))) (hl : x.length < 2 ^ 62) (hk : env.kindOf (Str.ofString "len") = some .globalImplicit := by rfl) (hs : starEach [e] env = [(false, eval e env)] := by rfl) :
    Ev w A env ρ (.Call (.Name (Str.ofString "len") p) [e] [] pos) (.py (.int x.length)) :=
  ev_bcall h PySem.boot_len (fun P s Q E v B r hQ => by
    cases r with | py r => cases r; exact PyProof.Rows.len_str (by omega) (hQ _ _ (Keeps.tok _ _) (.py (.int _ _)))) (hk := hk) (hs := hs)

/-- a global name that holds a text -/
theorem ev_gstr {x : Str} {p : Pos} {y : Str} {t : Tok} (hn : nsIn (hd0.heap_1 w.params) mainGlobals x = some (some (.str y t))) (hk : env.kindOf x = some .globalImplicit := by rfl) (hdb : (x == ("__debug__" : Str)) = false := by decide) : Ev w A env ρ (.Name x p) (.py (.str y)) :=
  fun P s Q E ok hQ => gname ok hk hn (hQ _ _ (Keeps.rf _) (.py (.str _ _))) hdb

theorem s_assert {t : Expr} {m : Option Expr} (h : Tv w A env (vis ρ ω) t true) : S1 w A env ρ ω (.Assert t m pos) (.next ρ ω) :=
  fun P₀ P O X s Q E f hQ => wpAny_Assert_holds (h _ s _ _ f.okV fun s₁ k => ⟨rfl, hQ _ _ ⟨rfl, Post.kp f k⟩⟩)

/-- texts made anew -/
theorem RdAll.texts {P : Addr → Prop} {h : Heap} (tk : Nat) (xs : List Str) : RdAll P h (strsFrom tk xs) (xs.map .str) := by
  have := RdAll.ofStrs (P := P) (h := h) (numbered tk xs)
  rwa [← strsFrom_eq, numbered_texts] at this

theorem evf_split0 {o : Expr} {ap : Pos} {x : Str} (ho : Ev w A env ρ o (.py (.str x))) (hx : x.length ≤ sizeLine) (hn : (Builtin.Str.spaceWords x (x.length + 1)).length ≤ sizeLine) (hne : (Builtin.Str.spaceWords x (x.length + 1) == [(0, x.length)]) = false)
    (hbase : attributeBase o "split" env (eval o env) = eval o env := by rfl) (hline : (ap.endLine == pos.line) = true := by rfl) : EvF w A env ρ (.Call (.Attribute o (Str.ofString "split") ap) [] [] pos) ((PySem.wordsOf x).map .str) := by
  intro P s Q E ok hQ
  refine Call_method0 hbase hline (ho P s _ _ ok fun v s₁ k₁ r => ?_)
  cases r with | py r => cases r with | str _ t =>
    refine ⟨"str", "str.split", PySem.F.plainAttrs_str, PySem.F.slot_str_split, PySem.F.type_str_split, typeIs_str _ _ _, (fun _ e => nomatch e), ?_⟩
    refine Calls.callWith_builtin rfl (PyProof.Rows.evalArgs_nil3 ?_)
    refine call_meets PySem.F.slot_str_split (typeIs_str _ _ _) PySem.F.entry_str_split (PySem.F.args_str_split_1 _) (meets_str_split_space x t hx hn) ?_
    rw [if_neg (by rw [hne]; decide)]
    have fr : s.heap.get? s₁.heap.objs.size = none := by
      cases e : s.heap.get? s₁.heap.objs.size with
      | none => rfl
      | some o => have := Keeps.hp k₁ _ _ e; rw [fresh_size] at this; cases this
    exact hQ _ _ 0 _ (Keeps.tr k₁ (Keeps.mk' (keepsPush _ _))) fr (Heap.get?_push_size _ rfl) (RdAll.texts _ _)

theorem evf_split1 {o e : Expr} {ap : Pos} {x y : Str} (ho : Ev w A env ρ o (.py (.str x))) (he : Ev w A env ρ e (.py (.str y))) (h1 : (decide (x.length < y.length) || decide (Builtin.Str.strKind x < Builtin.Str.strKind y)) = false) (hy : (y.length == 0) = false)
    (hf : (Builtin.Str.occurrences x y 0 x.length (x.length + 1)).isEmpty = false) (hx : x.length ≤ sizeLine)
    (hn : (Builtin.Str.partsBetween x (Builtin.Str.occurrences x y 0 x.length (x.length + 1)) y.length).length ≤ sizeLine)
    (hbase : attributeBase o "split" env (eval o env) = eval o env := by rfl) (hline : (ap.endLine == pos.line) = true := by rfl) (hs : starEach [e] env = [(false, eval e env)] := by rfl) :
    EvF w A env ρ (.Call (.Attribute o (Str.ofString "split") ap) [e] [] pos) ((Builtin.Str.partsBetween x (Builtin.Str.occurrences x y 0 x.length (x.length + 1)) y.length).map .str) := by
  intro P s Q E ok hQ
  refine Call_method1 hbase hs hline (ho P s _ _ ok fun v s₁ k₁ r => ?_)
  cases r with | py r => cases r with | str _ t =>
    refine ⟨"str", "str.split", PySem.F.plainAttrs_str, PySem.F.slot_str_split, PySem.F.type_str_split, typeIs_str _ _ _, (fun _ e => nomatch e), ?_⟩
    refine Calls.callWith_builtin rfl (Calls.evalArgs_plain (Calls.spliced_cons (he P s₁ _ _ (ok.keeps (Keeps.hp k₁)) fun v s₂ k₂ r₂ => Calls.spliced_nil ?_)))
    cases r₂ with | py r₂ => cases r₂ with | str _ u =>
      refine call_meets PySem.F.slot_str_split (typeIs_str _ _ _) PySem.F.entry_str_split (PySem.F.args_str_split_2 _ _) (meets_str_split_sep x y t u h1 hy hf hx hn) ?_
      have k' := Keeps.tr k₁ k₂
      have fr : s.heap.get? s₂.heap.objs.size = none := by
        cases e : s.heap.get? s₂.heap.objs.size with
        | none => rfl
        | some o => have := Keeps.hp k' _ _ e; rw [fresh_size] at this; cases this
      exact hQ _ _ 0 _ (Keeps.tr k' (Keeps.mk' (keepsPush _ _))) fr (Heap.get?_push_size _ rfl) (RdAll.texts _ _)
end
end Mine

open PySem PySem.W PyProof.Rows PySem.Calls
set_option Elab.async false
set_option maxRecDepth 100000
namespace Mine

theorem seq_list_iadd : seqSlot? (.type "list") (dunderI "add") = pure (some (.builtin "list.__iadd__")) := PySem.seqSlot_of PySem.F.slot_list_iadd.lookup (by decide +kernel)
theorem noFillI_list : fillsInplaceSlot (.type "list") "add" (Operator.Add == .Add) = pure false := by
  unfold fillsInplaceSlot
  show (typeLookup (.type "list") (dunderI "add") >>= fun fi => pure (fi.isSome && !isSeqSlot fi)) = pure false
  rw [PySem.F.slot_list_iadd.lookup, pure_bind]
  have : isSeqSlot (some (.builtin "list.__iadd__")) = true := by decide +kernel
  rw [this]; rfl

theorem RdT.flat2 {P P' : Addr → Prop} {h h' : Heap} {v : Value} {d : Dt} (hf : flatD d = true) (r : RdT P h v d) : RdT P' h' v d := RdT.flat hf r

section
variable {w : World} {A : Around} {P₀ P O X : Addr → Prop} {env : Env} {ρ ρ' : Rho} {ω ω' : Omg} {pos : Pos}

theorem iadd_lists {s : Shared} {E Q : Value → Shared → Prop} {l b : Addr} {vs ws : List Value} {n n2 : Nat} (h1 : s.heap.get? l = some (lob vs n)) (h2 : s.heap.get? b = some (lob ws n2))
    (hsz : vs.length + ws.length ≤ sizeLine) (h : ∀ h', Heap.SameBut l s.heap h' → (∃ n', h'.get? l = some (lob (vs ++ ws) n')) → Q (.ref l) { s with heap := h' }) : wpAny (model pr w) A (inplaceOp .Add (.ref l) (.ref b)) Q E s := by
  unfold inplaceOp
  refine wpAny_holding ?_
  refine wpAny_bind (wpAny_typeOf (T := "list") ⟨_, h1, rfl⟩ (wpAny_bind (wpAny_of_eq noFillI_list ?_)))
  show wpAny _ A (if false = true then _ else _) Q E s
  rw [if_neg Bool.false_ne_true]
  refine wpAny_bind (wpAny_binaryOp1_none (T := "list") (nm := "add") ⟨_, h1, rfl⟩ ⟨_, h2, rfl⟩ noFill_list_add ?_)
  refine wpAny_bind (wpAny_of_eq seq_list_iadd ?_)
  refine wpAny_bind (wpAny_rule ?_)
  refine call_meets PySem.F.slot_list_iadd ⟨_, h1, rfl⟩ PySem.F.entry_list_iadd (PySem.F.args_list_iadd_2 _ _) (PySem.AutoSeq1.list___iadd___list_list_0 l vs.toArray n b ws.toArray n2 ?_ (by rw [List.size_toArray]; omega) (by rw [List.size_toArray, List.size_toArray]; omega)) ⟨h1, h2, ?_⟩
  · have : Builtin.List.listTooLong (vs.toArray.size + ws.toArray.size) = false := by
      unfold Builtin.List.listTooLong; rw [List.size_toArray, List.size_toArray]; simp; omega
    rw [this]; simp
  · refine h _ (Heap.SameBut.update ..) ⟨if (vs.toArray ++ ws.toArray).size == vs.toArray.size then n else n + 1, ?_⟩
    refine (Heap.get?_update_self _ h1 rfl).trans ?_
    have e : vs.toArray ++ ws.toArray = (vs ++ ws).toArray := by simp
    simp only [Obj.mapSeq, lob, e]

/-- the same value stored again -/
theorem Fs.again {h h' : Heap} {m : Str → Option Value} (f : Fs w A P₀ P O X env ρ ω h) (hm : h.Ns env.locals m) (hn : h'.Ns env.locals m) (hs : Heap.SameBut env.locals h h') : Fs w A P₀ P O X env ρ ω h' := by
  have hu : ∀ o, h.get? env.locals = some o → ∀ xs n, o.data ≠ .seq xs n := fun o e xs n q => by
    obtain ⟨o', es, ep, e1, e2, _⟩ := hm; rw [e1] at e; cases e; rw [e2] at q; cases q
  have rd := fun {v d} => f.same (v := v) (d := d) hs hu f.noloc.1 f.noloc.2.1
  have hcl : ∀ y c, env.cells.lookup y = some c → c ≠ env.locals := fun y c e q => by
    obtain ⟨v', o', e1, e2⟩ := f.cells y c e
    obtain ⟨o, es, ep, e3, e4, _⟩ := hm
    rw [q, e3] at e1; cases e1; rw [e4] at e2; cases e2
  refine ⟨f.gr.change hs (.inl rfl) ?_, f.fn, f.gl, f.bu, ?_, f.sub, ?_, f.off, f.ino, (fun a o oa e => f.olist a o oa (by rw [← hs.2 a (fun q => f.noloc.2.1 (q ▸ oa))]; exact e)), f.nox, f.noloc, f.nocell, ⟨_, hn⟩, ?_, f.apart, ?_⟩
  · obtain ⟨o', es, ep, e1, e2, _⟩ := hn; exact ⟨o', e1, fun vs q => by rw [e2] at q; cases q⟩
  · intro y d' e
    cases f.vars y d' e with
    | loc a b c r' => rw [ns_unique b hm] at c; exact .loc a hn c (rd r')
    | cel a b c r' => obtain ⟨o', e1, e2⟩ := c; exact .cel a b ⟨o', hs.extBut _ _ (hcl y _ b) e1, e2⟩ (rd r')
    | fre a b c r' => obtain ⟨o', e1, e2⟩ := c; exact .fre a b ⟨o', hs.extBut _ _ (hcl y _ b) e1, e2⟩ (rd r')
  · intro a e
    by_cases q : a = env.locals
    · obtain ⟨o', _, _, e1, _⟩ := hn; rw [q, e1] at e; cases e
    · rw [hs.2 a q] at e; exact f.up a e
  · intro y c e
    obtain ⟨v', o', e1, e2⟩ := f.cells y c e
    exact ⟨v', o', hs.extBut _ _ (hcl y c e) e1, e2⟩
  · intro y ds e
    obtain ⟨hk, m', u, a, vs, n, h1, h2, hv, h3, h4, h5⟩ := f.own y ds e
    rw [ns_unique h1 hm] at h2
    exact ⟨hk, _, u, a, vs, n, hn, h2, hv.butS (S := fun a => a = env.locals) (fun a o ha e => hs.extBut a o ha e) (fun a ha => by subst ha; exact f.noloc.1), h3, hs.extBut _ _ (fun q => f.noloc.2.1 (q ▸ h3)) h4, h5.butS (S := fun a => a = env.locals) (fun a o ha e => hs.extBut a o ha e) fun a o ha e => .inl (by subst ha; exact hu o e)⟩

/-- x += e on the own list -/
theorem s_iaddl {x : Str} {px : Pos} {e : Expr} {ds ds' : List PyData} (h : Ev w A env ρ e (.py (.list ds'))) (hsz : ds.length + ds'.length ≤ sizeLine) (hx : env.kindOf x = some .local := by rfl) :
    S1 w A env ρ (some (x, false, ds)) (.AugAssign (.Name x px) .Add e pos) (.next ρ (some (x, false, ds ++ ds'))) := by
  intro P₀ P O X s Q E f hQ
  obtain ⟨hk, m, u, a, vs, n, h1, h2, hv, h3, h4, h5⟩ := f.own x (false, ds) rfl
  cases hv
  refine wpAny_AugAssign_Name (wpAny_loadName_local f.fn hx h1 h2 ?_)
  refine h P s _ _ f.ok fun v s₁ k r => ?_
  have f₁ := f.keeps (Keeps.hp k)
  cases r with | py r => cases r with | list pb g q =>
    refine iadd_lists (Keeps.hp k _ _ h4) g (by rw [h5.length, q.length]; exact hsz) fun h' hs ⟨n', g'⟩ => ?_
    have r1 := q.mono (P' := P) (fun _ _ e => e) fun b _ _ p => p.elim id fun q => f.up b q
    have f' := f₁.ownUpd (h1.keeps (Keeps.hp k)) h2 .self h3 hk (Keeps.hp k _ _ h4) hs g' ((h5.mono (Keeps.hp k) fun _ _ _ p => p).append r1)
    have hl : env.locals ≠ a := fun q => f.noloc.2.1 (q ▸ h3)
    have m' : h'.Ns env.locals m := (h1.keeps (Keeps.hp k)).sameBut hs hl
    refine wpAny_storeName_local hx m' (fun h'' hn hs' => ?_) (by rw [f.fn]; rfl)
    have em : (fun y => if y = x then some (Value.ref a) else m y) = m := by funext y; split <;> simp_all
    have hn' : h''.Ns env.locals m := by
      have := hn; rw [← em]; exact this
    have f'' := f'.again m' hn' hs'
    refine hQ _ _ (kpPost f k ⟨rfl, ⟨P, O, f'', fun _ _ _ p => p, fun _ _ _ p => p⟩, ?_, fun b q => ?_⟩)
    · exact ⟨h'', _, rfl, fun b o q1 q2 q3 e => hs'.extBut b o q1 (hs.extBut b o (fun z => q3 (z ▸ h3)) e)⟩
    · show h''.get? b ≠ none
      by_cases e : b = env.locals
      · obtain ⟨o', _, _, e1, _⟩ := hn'; rw [e, e1]; exact fun z => nomatch z
      · rw [hs'.2 b e]
        by_cases e' : b = a
        · rw [e', g']; exact fun z => nomatch z
        · rw [hs.2 b e']; exact q

theorem s_assign2 {x y : Str} {px py tp vp : Pos} {k k' : Nat} {e₁ e₂ : Expr} {d₁ d₂ : PyData} (hh : A.handled = none) (h₁ : Ev w A env (vis ρ ω) e₁ (.py d₁)) (h₂ : Ev w A env (vis ρ ω) e₂ (.py d₂)) (hf₁ : flatD (.py d₁) = true := by rfl) (hf₂ : flatD (.py d₂) = true := by rfl)
    (hx : env.kindOf x = some .local := by rfl) (hy : env.kindOf y = some .local := by rfl) (hωx : ∀ z ds, ω = some (z, ds) → z ≠ x := by first | (intro _ _ z; cases z; done) | (intro _ _ z; cases z; decide)) (hωy : ∀ z ds, ω = some (z, ds) → z ≠ y := by first | (intro _ _ z; cases z; done) | (intro _ _ z; cases z; decide))
    (hb : backTo vp (starEach [e₁, e₂] env) = starEach [e₁, e₂] env := by rfl) (hb1 : starEach [e₁, e₂] env = (false, eval e₁ env) :: starEach [e₂] env := by rfl) (hb2 : starEach [e₂] env = [(false, eval e₂ env)] := by rfl)
    (hs : swapsWithSole [.Tuple [.Name x px, .Name y py] k tp] (.Tuple [e₁, e₂] k' vp) pos.line env = pure false := by rfl)
    (hw : swappedStores [.Tuple [.Name x px, .Name y py] k tp] (.Tuple [e₁, e₂] k' vp) env = pure (some [x, y]) := by rfl) :
    S1 w A env ρ ω (.Assign [.Tuple [.Name x px, .Name y py] k tp] (.Tuple [e₁, e₂] k' vp) pos) (.next ((x, .py d₁) :: (y, .py d₂) :: ρ) ω) := by
  intro P₀ P O X s Q E f hQ
  refine Assign_Tuple_swapped ?_ hs hw
  refine ev_tuple (ds := [d₁, d₂]) (evs_cons h₁ (evs_cons h₂ evs_nil hb2) hb1) (by show 2 ≤ sizeLine; decide) hb _ s _ _ f.okV fun v s₁ k₁ r => ?_
  cases r with | py r => cases r with | tuple g q => cases q with | cons q1 q => cases q with | cons q2 q => cases q with | nil =>
    rename_i a n v₁ v₂
    refine unpackItems_tuple (items := #[v₁, v₂]) hh ⟨_, g, rfl, n, rfl⟩ fun h' he => ?_
    have k2 : Keeps s₁ { s₁ with heap := h' } := ⟨h', _, rfl, fun b o e => he b o (fun z => by rw [z, fresh_size] at e; cases e) e⟩
    have k' := Keeps.tr k₁ k2
    have q1' : RdT P h' v₁ (.py d₁) := RdT.flat hf₁ (.py (q1.mono (Keeps.hp k2) fun _ _ _ p => p))
    have q2' : RdT P h' v₂ (.py d₂) := RdT.flat hf₂ (.py (q2.mono (Keeps.hp k2) fun _ _ _ p => p))
    show wpAny _ A (do holding [v₁] (bindName env y v₂); (do holding [] (bindName env x v₁); pure ())) _ _ _
    refine wpAny_bind (wpAny_holding (bindName_ (fs_store (f.keeps (Keeps.hp k')) (.inl hy) q2' hωy fun s₂ p₂ => ?_)))
    obtain ⟨P', O', f₂, hp, ho⟩ := p₂.fs
    refine wpAny_bind (wpAny_holding (bindName_ (fs_store f₂ (.inl hx) (d := .py d₁) ?_ hωx fun s₃ p₃ => wpAny_pure ?_)))
    · exact RdT.flat2 hf₁ q1'
    · exact hQ _ _ (kpPost f k' (OutOk.behind p₂ f₂ hp ho ⟨rfl, p₃⟩))
end
end Mine

open PySem PySem.W PyProof.Rows PySem.Calls
set_option Elab.async false
set_option maxRecDepth 100000
namespace Mine
section
variable {w : World} {A : Around} {P₀ P O X : Addr → Prop} {env : Env} {ρ ρ' : Rho} {ω ω' : Omg} {pos : Pos}

theorem ev_neg {e : Expr} {i : Int} (h : Ev w A env ρ e (.py (.int i))) : Ev w A env ρ (.UnaryOp .USub e pos) (.py (.int (-i))) := fun P s Q E ok hQ =>
  UnaryOp_ (h P s _ _ ok fun v s₁ k r => by
    cases r with | py r => cases r; exact PyProof.Rows.neg_int (hQ _ _ (Keeps.tr k (Keeps.tok _ _)) (.py (.int _ _))))

theorem ev_item_neg {e i : Expr} {ds : List PyData} {k : Int} {d : PyData} (h : Ev w A env ρ e (.py (.list ds))) (hi : Ev w A env ρ i (.py (.int k))) (h0 : k < 0) (h1 : -(ds.length : Int) ≤ k) (hfit : -(2 ^ 63) ≤ k) (hx : ds[(k + ds.length).toNat]? = some d)
    (hs : ∀ a k u, ∃ ops, subscripted i false (.ref a) (.int k u) = operate ops (getItem (.ref a) (.int k u)) := by intro _ _ _; exact ⟨_, by with_unfolding_all rfl⟩) : Ev w A env ρ (.Subscript e i pos) (.py d) := by
  intro P s Q E ok hQ
  refine Subscript_ (ev_two ok h hi fun v₁ v₂ s' k' r₁ r₂ => ?_)
  cases r₁ with | py r₁ => cases r₁ with | list p g q => cases r₂ with | py r₂ => cases r₂ with | int _ t =>
    obtain ⟨x, hx1, hx2⟩ := q.get _ _ hx
    obtain ⟨ops, e⟩ := hs _ k t
    exact tail_any (T := "list") ⟨_, g, rfl⟩ slot_list_getitem.lookup (wpAny_getItem_list_neg ⟨_, g, rfl, _, rfl⟩ h0 (by rw [List.size_toArray, q.length]; exact h1) hfit (by rw [List.size_toArray, q.length]; simpa using hx1) (hQ _ _ k' (.py hx2))) e

theorem strs_at : ∀ {vs : List Value} {ys : List Str}, StrsAre vs ys → ∀ (j : Nat) (hj : j < vs.length) (hj' : j < ys.length) (x : Str), isStrOf x vs[j] = (ys[j] == x)
  | _, _, .cons _ _ _, 0, _, _, _ => rfl
  | _, _, .cons _ _ h, j + 1, hj, hj', x => strs_at h j _ _ x

theorem ev_index {o e : Expr} {ap : Pos} {ys : List Str} {x : Str} {j : Nat} (ho : Ev w A env ρ o (.py (.list (ys.map .str)))) (he : Ev w A env ρ e (.py (.str x))) (hj : j < ys.length) (hjs : ys.length < 1000000) (hit : ys[j] = x) (hno : ∀ m (hm : m < j), ys[m]'(by omega) ≠ x)
    (hbase : attributeBase o "index" env (eval o env) = eval o env := by rfl) (hline : (ap.endLine == pos.line) = true := by rfl) (hs : starEach [e] env = [(false, eval e env)] := by rfl) :
    Ev w A env ρ (.Call (.Attribute o (Str.ofString "index") ap) [e] [] pos) (.py (.int j)) :=
  ev_lmeth1 ho he PySem.F.slot_list_index PySem.F.type_list_index (fun P s Q E a vs n v g q r hQ => by
    cases r with | py r => cases r with | str _ t =>
      have st := q.strs
      have ln : vs.length = ys.length := by have := q.length; simpa using this
      refine call_meets PySem.F.slot_list_index ⟨_, g, rfl⟩ PySem.F.entry_list_index (PySem.F.args_list_index_2 _ _) (PySem.SeqAt.list_indexAt a vs.toArray n none #[] (.str x t) (isStrOf x) j (by rw [List.size_toArray, ln]; exact hj) (by omega) ?_ ?_) ⟨g, fun y hy => (eq_isStrOf x t st y (by simpa using hy)).at _ _, hQ _ _ (Keeps.tok _ _) (.py (.int _ _))⟩
      · have := strs_at st j (by omega) hj x
        simp only [List.getElem_toArray]
        rw [this, hit]; exact beq_self_eq_true _
      · intro m hm hmj
        have := strs_at st m (by omega) (by omega) x
        simp only [List.getElem_toArray]
        rw [this]; exact beq_false_of_ne (hno m hmj)) hbase hline hs

theorem ev_count {o e : Expr} {ap : Pos} {bs : List Bool} {b : Bool} (ho : Ev w A env ρ o (.py (.list (bs.map .bool)))) (he : Ev w A env ρ e (.py (.bool b)))
    (hbase : attributeBase o "count" env (eval o env) = eval o env := by rfl) (hline : (ap.endLine == pos.line) = true := by rfl) (hs : starEach [e] env = [(false, eval e env)] := by rfl) :
    Ev w A env ρ (.Call (.Attribute o (Str.ofString "count") ap) [e] [] pos) (.py (.int (PySem.Spec.countIn (.bool b) (bs.map .bool)))) :=
  ev_lmeth1 ho he PySem.F.slot_list_count PySem.F.type_list_count (fun P s Q E a vs n v g q r hQ => by
    cases r with | py r => cases r with | bool _ =>
      obtain ⟨as, ra⟩ := q.reads
      exact count_list_bools ⟨_, g, rfl, _, rfl⟩ ra (by simp; exact ⟨fun _ => rfl, fun _ => rfl⟩) (hQ _ _ (Keeps.tok _ _) (.py (.int _ _)))) hbase hline hs
end
end Mine

open PySem PySem.W PyProof.Rows PySem.Calls
set_option Elab.async false
set_option maxRecDepth 100000
namespace Mine

theorem compTurn2_out (elt t0 i0 t1 i1 : Expr) (scope : Scope) (pos : Pos) (it acc : Value) (env : Env) :
    compTurn (.ListComp elt [⟨t0, i0, [], 0⟩, ⟨t1, i1, [], 0⟩] scope pos) 0 it acc env = (standAt i0.pos >>= fun _ => pyNext it >>= fun r => match r with
      | none => pure (.done .next)
      | some v => letOwnedTupleGo t0 it v >>= fun _ => assign t0 env v >>= fun _ =>
        (eval i1 env >>= fun x => standAt i1.pos >>= fun _ => foldedSetIterable i1 env x >>= fun x => holding [x] (pyIter x) >>= fun it' => runOwn (.compStart (.ListComp elt [⟨t0, i0, [], 0⟩, ⟨t1, i1, [], 0⟩] scope pos) 1 it' acc env) env >>= fun _ =>
          again (.compLoop (.ListComp elt [⟨t0, i0, [], 0⟩, ⟨t1, i1, [], 0⟩] scope pos) 0 it acc env))) := by rfl
theorem compTurn2_in (elt t0 i0 t1 i1 : Expr) (scope : Scope) (pos : Pos) (it acc : Value) (env : Env) :
    compTurn (.ListComp elt [⟨t0, i0, [], 0⟩, ⟨t1, i1, [], 0⟩] scope pos) 1 it acc env = (standAt i1.pos >>= fun _ => pyNext it >>= fun r => match r with
      | none => pure (.done .next)
      | some v => letOwnedTupleGo t1 it v >>= fun _ => assign t1 env v >>= fun _ =>
        (eval elt env >>= fun x => call (.builtin "list.append") [acc, x] >>= fun _ => pure ()) >>= fun _ =>
          again (.compLoop (.ListComp elt [⟨t0, i0, [], 0⟩, ⟨t1, i1, [], 0⟩] scope pos) 1 it acc env)) := by rfl

section
variable {w : World} {A : Around} {env : Env} {ρ : Rho} {R : Result → Shared → Prop} {s : Shared}
theorem codeAny_comp2_in {elt t0 i0 t1 i1 : Expr} {scope : Scope} {pos : Pos} {it acc : Value} {env : Env} (I : Nat → Shared → Prop)
    (turn : ∀ n s, I n s → wpAny (model pr w) A (pyNext it) (fun r s₁ => match r with
      | none => R (.ok .next) s₁
      | some v => wpAny (model pr w) A (assign t1 env v) (fun _ s₂ => wpAny (model pr w) A (eval elt env) (fun x s₃ =>
          wpAny (model pr w) A (call (.builtin "list.append") [acc, x]) (fun _ s₄ => ∃ m, m < n ∧ I m s₄) (notedBy (model pr w) A env fun e s' => R (.error e) s') s₃)
          (notedBy (model pr w) A env fun e s' => R (.error e) s') s₂) (notedBy (model pr w) A env fun e s' => R (.error e) s') s₁) (notedBy (model pr w) A env fun e s' => R (.error e) s') s)
    (n : Nat) (h : I n s) (ht : ∀ v, letOwnedTupleGo t1 it v = pure () := by intro _; rfl) :
    codeAny (model pr w) A (.compLoop (.ListComp elt [⟨t0, i0, [], 0⟩, ⟨t1, i1, [], 0⟩] scope pos) 1 it acc env) R s := by
  refine codeAny_loop rfl I (fun n s hI => ?_) n h
  show wpAny _ _ ((compTurn (.ListComp elt [⟨t0, i0, [], 0⟩, ⟨t1, i1, [], 0⟩] scope pos) 1 it acc env).onRaise (fun x => do noteFrame x env; theTreesLotGoes x)) _ _ s
  refine wpAny_noted ?_
  rw [compTurn2_in]
  refine wpAny_bind (wpAny_standAt (wpAny_bind (wpAny_mono (turn n s hI) (fun r s₁ h₁ => ?_) fun _ _ h' => h')))
  cases r with
  | none => exact wpAny_pure h₁
  | some v =>
    refine wpAny_bind (wpAny_of_eq (ht v) ?_)
    exact wpAny_bind (wpAny_mono h₁ (fun _ s₂ h₂ => wpAny_bind (wpAny_bind (wpAny_mono h₂ (fun x s₃ h₃ => wpAny_bind (wpAny_mono h₃
      (fun _ s₄ h₄ => wpAny_pure (wpAny_pure ⟨rfl, h₄⟩)) fun _ _ h' => h')) fun _ _ h' => h'))) fun _ _ h' => h')

theorem codeAny_comp2_out {elt t0 i0 t1 i1 : Expr} {scope : Scope} {pos : Pos} {it acc : Value} {env : Env} (I : Nat → Shared → Prop)
    (turn : ∀ n s, I n s → wpAny (model pr w) A (pyNext it) (fun r s₁ => match r with
      | none => R (.ok .next) s₁
      | some v => wpAny (model pr w) A (assign t0 env v) (fun _ s₂ => wpAny (model pr w) A (eval i1 env) (fun x s₃ => wpAny (model pr w) A (pyIter x) (fun it' s₄ =>
          codeAny (model pr w) (A.mark none) (.compStart (.ListComp elt [⟨t0, i0, [], 0⟩, ⟨t1, i1, [], 0⟩] scope pos) 1 it' acc env) (fun r s₅ => match r with | .ok f => ∃ m, m < n ∧ I m s₅ | .error e => False) s₄)
          (notedBy (model pr w) A env fun e s' => R (.error e) s') s₃)
          (notedBy (model pr w) A env fun e s' => R (.error e) s') s₂) (notedBy (model pr w) A env fun e s' => R (.error e) s') s₁) (notedBy (model pr w) A env fun e s' => R (.error e) s') s)
    (n : Nat) (h : I n s) (ht : ∀ v, letOwnedTupleGo t0 it v = pure () := by intro _; rfl) (hf : ∀ x, foldedSetIterable i1 env x = pure x := by intro _; rfl) :
    codeAny (model pr w) A (.compLoop (.ListComp elt [⟨t0, i0, [], 0⟩, ⟨t1, i1, [], 0⟩] scope pos) 0 it acc env) R s := by
  refine codeAny_loop rfl I (fun n s hI => ?_) n h
  show wpAny _ _ ((compTurn (.ListComp elt [⟨t0, i0, [], 0⟩, ⟨t1, i1, [], 0⟩] scope pos) 0 it acc env).onRaise (fun x => do noteFrame x env; theTreesLotGoes x)) _ _ s
  refine wpAny_noted ?_
  rw [compTurn2_out]
  refine wpAny_bind (wpAny_standAt (wpAny_bind (wpAny_mono (turn n s hI) (fun r s₁ h₁ => ?_) fun _ _ h' => h')))
  cases r with
  | none => exact wpAny_pure h₁
  | some v =>
    refine wpAny_bind (wpAny_of_eq (ht v) ?_)
    refine wpAny_bind (wpAny_mono h₁ (fun _ s₂ h₂ => ?_) fun _ _ h' => h')
    refine wpAny_bind (wpAny_mono h₂ (fun x s₃ h₃ => ?_) fun _ _ h' => h')
    refine wpAny_bind (wpAny_standAt (wpAny_bind (wpAny_of_eq (hf x) (wpAny_bind (wpAny_holding (wpAny_mono h₃ (fun it' s₄ h₄ => ?_) fun _ _ h' => h'))))))
    refine wpAny_bind (wpAny_runOwn (codeAny_mono h₄ fun r s₅ h₅ => ?_))
    cases r with
    | ok f => exact wpAny_pure ⟨rfl, h₅⟩
    | error e => exact h₅.elim

theorem codeAny_comp2_start {elt t0 i0 t1 i1 : Expr} {scope : Scope} {pos : Pos} {it acc : Value} {env : Env}
    (h0 : codeAny (model pr w) A (.compLoop (.ListComp elt [⟨t0, i0, [], 0⟩, ⟨t1, i1, [], 0⟩] scope pos) 1 it acc env) R s)
    (h : wpAny (model pr w) A (pyIter it) (fun it' s' => codeAny (model pr w) A (.compLoop (.ListComp elt [⟨t0, i0, [], 0⟩, ⟨t1, i1, [], 0⟩] scope pos) 1 it' acc env) R s')
      (notedBy (model pr w) A env fun x s' => R (.error x) s') s) :
    codeAny (model pr w) A (.compStart (.ListComp elt [⟨t0, i0, [], 0⟩, ⟨t1, i1, [], 0⟩] scope pos) 1 it acc env) R s := by
  refine codeAny_of_tree ?_
  show wpAny _ _ ((compStart (.ListComp elt [⟨t0, i0, [], 0⟩, ⟨t1, i1, [], 0⟩] scope pos) 1 it acc env).onRaise (fun x => do noteFrame x env; standAt theWindowsPlace)) _ _ s
  refine wpAny_notedAt ?_
  unfold compStart
  show wpAny _ _ (ask >>= _) _ _ s
  refine wpAny_bind (wpAny_askSetting (wpAny_ite ?_))
  split
  · first
      | exact wpAny_bind (wpAny_pure (wpAny_pure (And.intro rfl h0)))
      | exact wpAny_pure (And.intro rfl h0)
  · first
      | exact wpAny_bind (wpAny_rule (wpAny_bind (wpAny_standAt (wpAny_bind (wpAny_mono h (fun it' s' h' => wpAny_pure (And.intro rfl h')) fun _ _ x => x)))))
      | (refine wpAny_bind (wpAny_rule ?_); show wpAny _ _ (standAt i1.pos >>= _) _ _ s; exact wpAny_bind (wpAny_standAt (wpAny_bind (wpAny_mono h (fun it' s' h' => wpAny_pure (And.intro rfl h')) fun _ _ x => x))))
end
theorem flat_int {P : Addr → Prop} {h : Heap} {v : Value} {i : Int} (r : Rd P h v (.int i)) : ∃ t, v = .int i t := by cases r; exact ⟨_, rfl⟩
section
variable {w : World} {A : Around} {env : Env} {ρ : Rho} {pos : Pos}
set_option maxHeartbeats 1000000 in
/-- a comprehension of two clauses, numbers in both -/
theorem ev_comp2 {α β : Type} {enc : α → Int} {its : List α} {enc' : β → Int} {jts : α → List β} {g : α → β → PyData} {elt i0 i1 : Expr} {x y : Str} {px py : Pos} {scope : Scope}
    (hsrc : Src w A env ρ i0 (its.map fun a => .int (enc a)))
    (hsrc' : ∀ C a, a ∈ its → Src w A (cEnv scope env C) ((x, .py (.int (enc a))) :: cap scope ρ) i1 ((jts a).map fun b => .int (enc' b)))
    (he : ∀ C a b, a ∈ its → b ∈ jts a → Ev w A (cEnv scope env C) ((y, .py (.int (enc' b))) :: (x, .py (.int (enc a))) :: cap scope ρ) elt (.py (g a b)))
    (hsz : (its.flatMap fun a => (jts a).map (g a)).length ≤ sizeLine)
    (hx : scope.names.lookup x = some .local := by rfl) (hy : scope.names.lookup y = some .local := by rfl) (hxy : x ≠ y := by decide)
    (hfree : (scope.names.all fun y => y.2 != .free || env.kindOf y.1 != some .local) = true := by rfl)
    (hcells : (scope.names.all fun y => y.2 != .free || (env.cells.lookup y.1).isSome) = true := by rfl)
    (hkind : scope.kind = .function := by rfl) (hnd : (scope.names.map (·.1)).Nodup := by decide)
    (hs : ∀ x, foldedSetIterable i0 env x = pure x := by intro _; rfl) (hf' : ∀ C x, foldedSetIterable i1 (cEnv scope env C) x = pure x := by intro _ _; rfl) :
    Ev w A env ρ (.ListComp elt [⟨.Name x px, i0, [], 0⟩, ⟨.Name y py, i1, [], 0⟩] scope pos) (.py (.list (its.flatMap fun a => (jts a).map (g a)))) := by
  intro P s Q E ok hQ
  rw [eval_ListComp]
  have hcl : closureFor scope env = pure (closL env.cells scope.names []) := closureFor_eq fun y hy hf => by
    have := List.all_eq_true.mp hcells y hy
    rw [hf] at this; simpa using this
  have hnames : ∀ y ∈ scope.names, y.2 = .local → scope.names.lookup y.1 = some .local := fun y hy hl => hl ▸ lookup_of_mem_nodup hnd (by cases y; exact hy)
  refine wpAny_comprehension_free (use := none) rfl hs hcl hkind hnames (hsrc P s _ _ ok fun I fp Pv St s₂ k₂ W hst hI hfp₀ hfld hitems _ => ?_)
  have hfp : ∀ b ∈ fp, b < s₂.heap.objs.size := fun b hb => let ⟨_, o, e⟩ := hfp₀ b hb; Heap.lt_size e
  have hseq : ∀ i h o, St i h → h.get? I = some o → ∀ xs n, o.data ≠ .seq xs n := fun i h o st e xs n q => by
    obtain ⟨o', vs, e1, e2⟩ := hfld i h st
    rw [e1] at e; cases e; rw [e2] at q; cases q
  rw [List.length_map] at W
  refine wpAny_newObj_type ?_
  show wpAny _ A (newFunctionEnv scope env.globals (closL env.cells scope.names []) [] env.qual none .none (some env)) _ E _
  refine newCompEnv ?_
  dsimp only
  generalize hD : s₂.heap.objs.size = D
  generalize hH3 : s₂.heap.push { cls := .type "list", dict := none, data := .seq ([] : List Value).toArray } = H3
  have hH3s : H3.objs.size = D + 1 := by rw [← hH3, Heap.size_push, hD]
  rw [hH3s]
  generalize hC : D + 1 = C
  generalize hH4 : pushCells (H3.push { cls := .type "dict", data := .dict #[] }) scope.names = H4
  have k34 : KeepsH H3 H4 := fun b o e => hH4 ▸ pushCells_keeps _ _ _ _ (Heap.get?_push_of_some _ e)
  have k24 : KeepsH s₂.heap H4 := fun b o e => k34 _ _ (hH3 ▸ Heap.get?_push_of_some _ e)
  have lDC : D < C := hC ▸ Nat.lt_succ_self D
  have fI : I < D := by rw [← hD]; exact hfp I (W.sub I (by simp))
  have gD : H4.get? D = some (lob [] 0) := k34 _ _ (by rw [← hH3, ← hD]; exact Heap.get?_push_size _ rfl)
  have gC : H4.Ns C fun _ => none := by
    have := (Heap.Ns.new H3 (.type "dict")).keeps (pushCells_keeps scope.names (H3.push { cls := .type "dict", data := .dict #[] }))
    rw [hH4, hH3s, hC] at this; exact this
  show codeAny _ A (.compStart _ 0 (.ref I) (.ref D) (cEnv scope env C)) (compPost (model pr w) A E none Q (.ref D) C) _
  have kx : ∀ z, scope.names.lookup z = some .local → (cEnv scope env C).kindOf z = some .local := fun z hz => by
    show (relabel scope env).names.lookup z = _
    rw [relabel_kind ok.fn hz]; rfl
  have kcls : ((cEnv scope env C).scope.kind == .class || ((cEnv scope env C).scope.kind == .module && (cEnv scope env C).locals != (cEnv scope env C).globals)) = false := by
    show (scope.kind == .class || (scope.kind == .module && C != env.globals)) = false
    rw [hkind]; rfl
  let P₂ : Addr → Prop := fun a => Up P s.heap a ∧ a ≠ D ∧ a ≠ C
  have inS : ∀ b o, s.heap.get? b = some o → b ≠ I ∧ b ≠ D ∧ b ≠ C := fun b o e => by
    have e2 := Keeps.hp k₂ _ _ e
    have l := Heap.lt_size e2
    rw [hD] at l
    exact ⟨fun q => by rw [q, hI] at e; exact (nomatch e), Nat.ne_of_lt l, Nat.ne_of_lt (Nat.lt_trans l lDC)⟩
  have in2 : ∀ b o, s₂.heap.get? b = some o → b ≠ D ∧ b ≠ C := fun b o e => by
    have l := Heap.lt_size e
    rw [hD] at l
    exact ⟨Nat.ne_of_lt l, Nat.ne_of_lt (Nat.lt_trans l lDC)⟩
  -- what holds all the time
  let Inv : Heap → List PyData → (Str → Option Value) → Prop := fun h ds m => KeepsH s.heap h ∧ (∀ b o, b ≠ I → s₂.heap.get? b = some o → h.get? b = some o) ∧ (∃ ys ny, h.get? D = some (lob ys ny) ∧ RdAll P₂ h ys ds) ∧ h.Ns C m
  have invK : ∀ {h h' ds m}, KeepsH h h' → Inv h ds m → Inv h' ds m := fun k ⟨a, b, ⟨ys, ny, c, d⟩, e⟩ => ⟨fun b o q => k _ _ (a b o q), fun b' o z q => k _ _ (b b' o z q), ⟨ys, ny, k _ _ c, d.mono k fun _ _ _ p => p⟩, e.keeps k⟩
  -- a change of an iterator
  have invI : ∀ {h h' ds m} (J : Addr), (∀ b o, b ≠ J → h.get? b = some o → h'.get? b = some o) → (J = I ∨ (s₂.heap.get? J = none ∧ J ≠ C)) → J ≠ D → (∀ o, h.get? J = some o → ∀ xs n, o.data ≠ .seq xs n) → Inv h ds m → Inv h' ds m := by
    rintro h h' ds m J k hJ nD hu ⟨a, b, ⟨ys, ny, c, d⟩, e⟩
    have nS : ∀ z o, s.heap.get? z = some o → z ≠ J := fun z o q hz => by
      rcases hJ with rfl | ⟨q', _⟩
      · exact (inS z o q).1 hz
      · rw [← hz, Keeps.hp k₂ _ _ q] at q'; cases q'
    have nC : C ≠ J := by
      rcases hJ with rfl | ⟨_, q'⟩
      · exact Nat.ne_of_gt (Nat.lt_trans fI lDC)
      · exact Ne.symm q'
    refine ⟨fun z o q => k z o (nS z o q) (a z o q), fun z o hz q => k z o (fun e => ?_) (b z o hz q), ⟨ys, ny, k D _ (Ne.symm nD) c, d.butS (S := fun z => z = J) (fun z o hz q => k z o hz q) fun z o hz q => .inl (by subst hz; exact hu o q)⟩, e.at' fun o q => k C o nC q⟩
    rcases hJ with rfl | ⟨q', _⟩
    · exact hz e
    · rw [← e, q] at q'; cases q'
  -- a name stored
  have invC : ∀ {h h' ds m m'}, Heap.SameBut C h h' → h'.Ns C m' → Inv h ds m → Inv h' ds m' := by
    rintro h h' ds m m' hs' hn ⟨a, b, ⟨ys, ny, c, d⟩, e⟩
    refine ⟨fun z o q => hs'.extBut z o (inS z o q).2.2 (a z o q), fun z o hz q => hs'.extBut z o (in2 z o q).2 (b z o hz q), ⟨ys, ny, hs'.extBut D _ (Nat.ne_of_lt lDC) c, d.butS (S := fun z => z = C) (fun z o hz q => hs'.extBut z o hz q) fun z o hz q => .inl fun xs n q' => ?_⟩, hn⟩
    subst hz
    obtain ⟨o', es, ep, e1, e2, _⟩ := e
    rw [e1] at q; cases q; rw [e2] at q'; cases q'
  have okI : ∀ {h ds m}, Inv h ds m → ∀ (l : List (Str × Int)), (∀ z i, l.lookup z = some i → scope.names.lookup z = some .local ∧ ∃ t, m z = some (.int i t)) → Ok w A P₂ (cEnv scope env C) ((l.map fun p => (p.1, Dt.py (.int p.2))) ++ cap scope ρ) h := by
    rintro h ds m ⟨a, b, c, e⟩ l hl
    have o1 : Ok w A P₂ (cEnv scope env C) (cap scope ρ) h := ok_cap hkind hnd hfree (ok.mono a fun a o e pa => ⟨.inl pa, (inS a o e).2.1, (inS a o e).2.2⟩)
    refine ⟨o1.base, o1.bel, o1.fn, o1.gl, o1.bu, fun z d q => ?_⟩
    rw [List.lookup_append] at q
    cases hz : (l.map fun p => (p.1, Dt.py (.int p.2))).lookup z with
    | none => rw [hz] at q; exact o1.vars z d q
    | some d' =>
      rw [hz] at q; cases q
      have : ∃ i, l.lookup z = some i ∧ d = .py (.int i) := by
        clear hl
        induction l with
        | nil => simp at hz
        | cons p l ih =>
          obtain ⟨n, i⟩ := p
          simp only [List.map_cons, List.lookup_cons] at hz ⊢
          cases hzn : z == n with
          | true => rw [hzn] at hz; cases hz; exact ⟨i, rfl, rfl⟩
          | false => rw [hzn] at hz; exact ih hz
      obtain ⟨i, hi, rfl⟩ := this
      obtain ⟨h1, t, h2⟩ := hl z i hi
      exact .loc (kx z h1) e h2 (.py (.int _ _))
  -- the inner loop
  have inner : ∀ (a : α), a ∈ its → ∀ (ds : List PyData) (h0 : Heap) (tk0 : Nat) (m0 : Str → Option Value) (t : Tok), ds.length + (jts a).length ≤ sizeLine → Inv h0 ds m0 → m0 x = some (.int (enc a) t) → ∀ (J : Addr) (fp' : List Addr) (Pv' : Nat → Value → Prop) (St' : Nat → Heap → Prop),
      Walks pr w A J fp' [J] (jts a).length Pv' St' → St' 0 h0 → J ≠ I → s₂.heap.get? J = none → J ≠ C → J ≠ D → (∀ b ∈ fp', b ≠ D ∧ b ≠ C) → (∀ i h, St' i h → ∃ o vs, h.get? J = some o ∧ o.data = .fields vs) →
      (∀ i v, Pv' i v → ∃ b u, (jts a)[i]? = some b ∧ v = .int (enc' b) u) →
      ∀ (R : Result → Shared → Prop), (∀ h' tk' m', Inv h' (ds ++ (jts a).map (g a)) m' → (∀ b o, b ≠ D → b ≠ C → b ≠ J → h0.get? b = some o → h'.get? b = some o) → R (.ok .next) { s₂ with heap := h', toks := tk' }) →
      codeAny (model pr w) A (.compLoop (.ListComp elt [⟨.Name x px, i0, [], 0⟩, ⟨.Name y py, i1, [], 0⟩] scope pos) 1 (.ref J) (.ref D) (cEnv scope env C)) R { s₂ with heap := h0, toks := tk0 } := by
    intro a ha ds h0 tk0 m0 t hlen inv0 hm0 J fp' Pv' St' W' hst' nJI nJ2 nJC nJD hfp' hfld' hit' R hR
    refine codeAny_comp2_in (fun k s' => ∃ h tk j m, s' = { s₂ with heap := h, toks := tk } ∧ St' j h ∧ j ≤ (jts a).length ∧ k = (jts a).length + 1 - j ∧ Inv h (ds ++ ((jts a).take j).map (g a)) m ∧ m x = some (.int (enc a) t) ∧ (∀ b o, b ≠ D → b ≠ C → b ≠ J → h0.get? b = some o → h.get? b = some o)) ?_ ((jts a).length + 1)
      ⟨h0, tk0, 0, m0, rfl, hst', Nat.zero_le _, rfl, by simpa using inv0, hm0, fun _ _ _ _ _ e => e⟩
    rintro k s' ⟨h, tk, j, m, rfl, hstj, hj, rfl, inv, hmx, hk⟩
    have hu : ∀ o, h.get? J = some o → ∀ xs n, o.data ≠ .seq xs n := fun o e xs n q => by
      obtain ⟨o', vs, e1, e2⟩ := hfld' j h hstj
      rw [e1] at e; cases e; rw [e2] at q; cases q
    by_cases hlt : j < (jts a).length
    · refine W'.item j _ _ _ hlt hstj fun v h₁ tk₁ hP hst₁ hk₁ => ?_
      obtain ⟨b, u, hb, rfl⟩ := hit' j v hP
      have hk₁' : ∀ z o, z ≠ J → h.get? z = some o → h₁.get? z = some o := fun z o hz e => hk₁ z o (by simpa using hz) e
      have inv₁ := invI J hk₁' (.inr ⟨nJ2, nJC⟩) nJD hu inv
      refine wpAny_assign_Name (wpAny_storeName_local (kx y hy) inv₁.2.2.2 (fun h₂ hn₂ hs₂ => ?_) kcls)
      have inv₂ := invC hs₂ hn₂ inv₁
      have ok₂ := okI inv₂ [(y, enc' b), (x, enc a)] (fun z i q => by
        simp only [List.lookup_cons] at q
        cases hzy : z == y with
        | true => rw [hzy] at q; cases q; rw [beq_iff_eq.mp hzy]; exact ⟨hy, u, by simp⟩
        | false =>
          rw [hzy] at q
          cases hzx : z == x with
          | true => rw [hzx] at q; cases q; rw [beq_iff_eq.mp hzx]; exact ⟨hx, t, by simpa [hxy] using hmx⟩
          | false => rw [hzx] at q; simp at q)
      refine he C a b ha (List.mem_of_getElem? hb) P₂ _ _ _ ok₂ fun v s₃ k₃ r₃ => ?_
      obtain ⟨h₃, tk₃, rfl, hk₃⟩ := k₃
      have inv₃ := invK hk₃ inv₂
      obtain ⟨a1, a2, ⟨ys, ny, hgD, hys⟩, a4⟩ := inv₃
      have len : ys.length ≤ sizeLine := by
        have e1 := hys.length
        rw [List.length_append, List.length_map, List.length_take] at e1
        omega
      refine wpAny_list_append_plain (hsz := by rw [List.size_toArray]; exact len) ⟨ny, hgD⟩ fun h₅ hl₅ hs₅ => ?_
      obtain ⟨n₅, g₅⟩ := hl₅
      have r₃' : Rd P₂ h₃ v (g a b) := by
        cases r₃ with | py r₃ =>
          refine r₃.mono (fun _ _ e => e) fun a' o' _ q => ?_
          rcases q with q | q
          · exact q
          · refine ⟨.inr ?_, fun e => ?_, fun e => ?_⟩
            · cases e : s.heap.get? a' with
              | none => rfl
              | some o'' => have := inv₂.1 _ _ e; rw [show h₂.get? a' = none from q] at this; cases this
            · obtain ⟨_, _, z, _⟩ := inv₂.2.2.1
              rw [e, show h₂.get? D = some _ from z] at q; cases q
            · obtain ⟨_, _, _, z, _⟩ := inv₂.2.2.2
              rw [e, show h₂.get? C = some _ from z] at q; cases q
      refine ⟨(jts a).length + 1 - (j + 1), by omega, h₅, tk₃, j + 1, _, rfl, W'.frame _ _ _ hst₁ (fun z hz o e => ?_), hlt, rfl, ⟨fun z o e => hs₅.extBut z o (inS z o e).2.1 (a1 z o e), fun z o hz e => hs₅.extBut z o (in2 z o e).1 (a2 z o hz e), ⟨ys ++ [v], n₅, by simpa using g₅, ?_⟩, a4.sameBut hs₅ (Nat.ne_of_gt lDC)⟩, by simpa [hxy] using hmx, fun z o z1 z2 z3 e => hs₅.extBut z o z1 (hk₃ z o (hs₂.extBut z o z2 (hk₁' z o z3 (hk z o z1 z2 z3 e))))⟩
      · exact hs₅.extBut z o (hfp' z hz).1 (hk₃ z o (hs₂.extBut z o (hfp' z hz).2 e))
      · rw [List.take_add_one, hb, List.map_append, ← List.append_assoc]
        exact (hys.append (.cons r₃' .nil)).butS (S := fun a => a = D) (fun a' o ha' e => hs₅.extBut a' o ha' e) fun a' o ha' e => .inr (by
          subst ha'
          rw [hgD] at e; cases e; exact ⟨rfl, fun q => q.2.1 rfl⟩)
    · have hjl : j = (jts a).length := by omega
      subst hjl
      refine W'.done _ _ _ hstj fun h₁ tk₁ hk₁ => ?_
      have hk₁' : ∀ z o, z ≠ J → h.get? z = some o → h₁.get? z = some o := fun z o hz e => hk₁ z o (by simpa using hz) e
      rw [List.take_length] at inv
      exact hR h₁ tk₁ m (invI J hk₁' (.inr ⟨nJ2, nJC⟩) nJD hu inv) fun z o z1 z2 z3 e => hk₁' z o z3 (hk z o z1 z2 z3 e)
  have split : ∀ (j : Nat) (a : α), its[j]? = some a → (its.take (j + 1)).flatMap (fun a => (jts a).map (g a)) = (its.take j).flatMap (fun a => (jts a).map (g a)) ++ (jts a).map (g a) := fun j a ha => by
    rw [List.take_add_one, ha, List.flatMap_append]; simp
  have short : ∀ (j : Nat) (a : α), its[j]? = some a → ((its.take j).flatMap fun a => (jts a).map (g a)).length + (jts a).length ≤ sizeLine := fun j a ha => by
    have e : its.flatMap (fun a => (jts a).map (g a)) = (its.take (j + 1)).flatMap (fun a => (jts a).map (g a)) ++ (its.drop (j + 1)).flatMap (fun a => (jts a).map (g a)) := by
      rw [← List.flatMap_append, List.take_append_drop]
    rw [e, split j a ha] at hsz
    simp only [List.length_append, List.length_map] at hsz ⊢
    omega
  have loop : ∀ s₃ : Shared, (∃ tk, s₃ = { s₂ with heap := H4, toks := tk }) →
      codeAny (model pr w) A (.compLoop (.ListComp elt [⟨.Name x px, i0, [], 0⟩, ⟨.Name y py, i1, [], 0⟩] scope pos) 0 (.ref I) (.ref D) (cEnv scope env C)) (compPost (model pr w) A E none Q (.ref D) C) s₃ := by
    rintro s₃ ⟨tk₀, rfl⟩
    refine codeAny_comp2_out (hf := hf' C) (fun k s' => ∃ h tk j m, s' = { s₂ with heap := h, toks := tk } ∧ St j h ∧ j ≤ its.length ∧ k = its.length + 1 - j ∧ Inv h ((its.take j).flatMap fun a => (jts a).map (g a)) m) ?_ (its.length + 1)
      ⟨H4, tk₀, 0, _, rfl, W.frame 0 _ _ hst fun b _ o e => k24 b o e, Nat.zero_le _, rfl, fun b o e => k24 _ _ (Keeps.hp k₂ _ _ e), fun b o _ e => k24 b o e, ⟨[], 0, gD, by simpa using RdAll.nil⟩, gC⟩
    rintro k s' ⟨h, tk, j, m, rfl, hstj, hj, rfl, inv⟩
    by_cases hlt : j < its.length
    · obtain ⟨a, ha⟩ : ∃ a, its[j]? = some a := ⟨its[j], by simp [hlt]⟩
      have hmem : a ∈ its := List.mem_of_getElem? ha
      refine W.item j _ _ _ hlt hstj fun v h₁ tk₁ hP hst₁ hk₁ => ?_
      have hk₁' : ∀ b o, b ≠ I → h.get? b = some o → h₁.get? b = some o := fun b o hb e => hk₁ b o (by simpa using hb) e
      obtain ⟨d, hd, hrd⟩ := hitems j v hP
      rw [List.getElem?_map, ha] at hd
      cases hd
      obtain ⟨t, rfl⟩ := flat_int hrd
      have inv₁ := invI I hk₁' (.inl rfl) (Nat.ne_of_lt fI) (fun o e => hseq j h o hstj e) inv
      refine wpAny_assign_Name (wpAny_storeName_local (kx x hx) inv₁.2.2.2 (fun h₂ hn₂ hs₂ => ?_) kcls)
      have inv₂ := invC hs₂ hn₂ inv₁
      have ok₂ := okI inv₂ [(x, enc a)] (fun z i q => by
        simp only [List.lookup_cons] at q
        cases hzx : z == x with
        | true => rw [hzx] at q; cases q; rw [beq_iff_eq.mp hzx]; exact ⟨hx, t, by simp⟩
        | false => rw [hzx] at q; simp at q)
      refine hsrc' C a hmem P₂ _ _ _ ok₂ fun J fp' Pv' St' s₃ k₃ W' hst' hJ hfp' hfld' hit' _ => ?_
      obtain ⟨h₃, tk₃, rfl, hk₃⟩ := k₃
      have inv₃ := invK hk₃ inv₂
      rw [List.length_map] at W'
      have hJ2 : h₂.get? J = none := hJ
      have ne2 : ∀ z o, h₂.get? z = some o → z ≠ J := fun z o e q => by rw [q, hJ2] at e; cases e
      obtain ⟨oI, _, eI, _⟩ := hfld _ _ hst₁
      have nJI : J ≠ I := fun q => by
        have := hs₂.extBut I oI (Nat.ne_of_lt (Nat.lt_trans fI lDC)) eI
        rw [← q, hJ2] at this; cases this
      have nJ2 : s₂.heap.get? J = none := by
        cases e : s₂.heap.get? J with
        | none => rfl
        | some o => have := inv₂.2.1 J o nJI e; rw [hJ2] at this; cases this
      have nJC : J ≠ C := by obtain ⟨o, _, _, e, _⟩ := inv₂.2.2.2; exact Ne.symm (ne2 C o e)
      have nJD : J ≠ D := by obtain ⟨_, _, e, _⟩ := inv₂.2.2.1; exact Ne.symm (ne2 D _ e)
      have hfp2 : ∀ b ∈ fp', b ≠ D ∧ b ≠ C := fun b hb => by
        rcases (hfp' b hb).1 with p | p
        · exact ⟨p.2.1, p.2.2⟩
        · have p' : h₂.get? b = none := p
          refine ⟨fun q => ?_, fun q => ?_⟩
          · obtain ⟨_, _, e, _⟩ := inv₂.2.2.1; rw [q, e] at p'; cases p'
          · obtain ⟨o, _, _, e, _⟩ := inv₂.2.2.2; rw [q, e] at p'; cases p'
      have hit2 : ∀ i v, Pv' i v → ∃ b u, (jts a)[i]? = some b ∧ v = .int (enc' b) u := fun i v hp => by
        obtain ⟨d, e1, e2⟩ := hit' i v hp
        rw [List.getElem?_map] at e1
        cases e3 : (jts a)[i]? with
        | none => rw [e3] at e1; cases e1
        | some b => rw [e3] at e1; cases e1; obtain ⟨u, rfl⟩ := flat_int e2; exact ⟨b, u, rfl, rfl⟩
      have fin := inner a hmem _ h₃ tk₃ _ t (short j a ha) inv₃ (by simp) J fp' Pv' St' W' hst' nJI nJ2 nJC nJD hfp2 hfld' hit2
        (fun r s₅ => match r with | .ok f => ∃ m, m < its.length + 1 - j ∧ ∃ h tk j m', s₅ = { s₂ with heap := h, toks := tk } ∧ St j h ∧ j ≤ its.length ∧ m = its.length + 1 - j ∧ Inv h ((its.take j).flatMap fun a => (jts a).map (g a)) m' | .error e => False)
        (fun h' tk' m' inv' fr => ⟨its.length + 1 - (j + 1), by omega, h', tk', j + 1, m', rfl, W.frame _ _ _ hst₁ (fun b hb o e => ?_), hlt, rfl, by rw [split j a ha]; exact inv'⟩)
      · exact codeAny_comp2_start fin (W'.self 0 _ _ _ hst' fin)
      · have lb : b < D := hD ▸ hfp b hb
        have e2 := hs₂.extBut b o (Nat.ne_of_lt (Nat.lt_trans lb lDC)) e
        exact fr b o (Nat.ne_of_lt lb) (Nat.ne_of_lt (Nat.lt_trans lb lDC)) (ne2 b o e2) (hk₃ b o e2)
    · have hjl : j = its.length := by omega
      subst hjl
      refine W.done _ _ _ hstj fun h₁ tk₁ hk₁ => ?_
      have hk₁' : ∀ b o, b ≠ I → h.get? b = some o → h₁.get? b = some o := fun b o hb e => hk₁ b o (by simpa using hb) e
      have inv₁ := invI I hk₁' (.inl rfl) (Nat.ne_of_lt fI) (fun o e => hseq _ h o hstj e) inv
      rw [List.take_length] at inv₁
      obtain ⟨a1, a2, ⟨ys, ny, hgD, hys⟩, a4⟩ := inv₁
      refine ⟨m, a4, fun h' hs' => ?_⟩
      obtain ⟨h₂, t₂, e₂, _⟩ := k₂
      subst e₂
      refine hQ _ _ ⟨h', tk₁, rfl, fun b o e => hs'.extBut b o (inS b o e).2.2 (a1 b o e)⟩ (.py (.list (n := ny) (.inr ?_) (hs'.extBut D _ (Nat.ne_of_lt lDC) hgD) ?_))
      · cases e : s.heap.get? D with
        | none => rfl
        | some o => exact absurd rfl (inS D o e).2.1
      · refine RdAll.mono (P := P₂) (fun _ _ e => e) (fun _ _ _ q => q.1) (hys.butS (S := fun a => a = C) (fun a o ha e => hs'.extBut a o ha e) fun a o ha e => .inl fun xs n q => ?_)
        subst ha
        obtain ⟨o', es, ep, e1, e2, _⟩ := a4
        rw [show h₁.get? _ = _ from e1] at e; cases e; rw [e2] at q; cases q
  exact codeAny_compStart_list (loop _ ⟨_, rfl⟩) (W.self 0 _ _ _ (W.frame 0 _ _ hst fun b _ o e => k24 b o e) (loop _ ⟨_, rfl⟩))
end
end Mine

open PySem PySem.W PyProof.Rows PySem.Calls
set_option Elab.async false
set_option maxRecDepth 100000
namespace Mine
example : (PySem.Challenge.rw_rl0110_01, hd0.heap_1) = (PySem.Challenge.rw_rl0110_01, hd0.heap_1) := by k_fill; rfl

theorem RdTs.one {P : Addr → Prop} {h : Heap} {vs : List Value} {d₁ : Dt} (r : RdTs P h vs [d₁]) : ∃ v₁, vs = [v₁] ∧ RdT P h v₁ d₁ := by
  cases r with | cons a r => cases r; exact ⟨_, rfl, a⟩
theorem lookup1 {x : Str} {v₁ : Value} {d₁ : Dt} {P : Addr → Prop} {h : Heap} (a : RdT P h v₁ d₁) : ∀ z d, ([(x, d₁)] : Rho).lookup z = some d → ∃ v, [(x, v₁)].lookup z = some v ∧ RdT P h v d := by
  intro z d e
  simp only [List.lookup_cons] at e ⊢
  cases h1 : z == x with
  | true => rw [h1] at e; cases e; exact ⟨_, rfl, a⟩
  | false => rw [h1] at e; simp at e

noncomputable def pfB (fl : Int) (i : Nat) : Bool := Builtin.bitAnd fl (2 ^ i) != 0
noncomputable def pfS (v : Int) : Nat → Int × List Str
  | 0 => (v, [])
  | i + 1 => if pfB (pfS v i).1 i then (Builtin.bitXor (pfS v i).1 (2 ^ i), (pfS v i).2 ++ [flagName (2 ^ i)]) else pfS v i
theorem pfS_len (v : Int) : ∀ i, (pfS v i).2.length ≤ i
  | 0 => Nat.le_refl _
  | i + 1 => by
    have := pfS_len v i
    rw [pfS]; split
    · simp; omega
    · omega
theorem hex_small : ∀ i < 32, (PySem.baseText "0x" 16 (2 ^ i)).length ≤ 100 := by decide +kernel

theorem sx_subB {w : World} {A : Around} {env : Env} {ρ ρ' ρ'' : Rho} {ω ω' : Omg} {ss : List Stmt} (h : Sx w A env ρ ω ss (.brk ρ' ω')) (hs : SubL ρ'' ρ') : Sx w A env ρ ω ss (.brk ρ'' ω') :=
  fun P₀ P O X s Q E f hQ => h P₀ P O X s Q E f fun fl s' y => hQ fl s' ⟨y.1, y.2.weak (sub_of hs)⟩
set_option maxHeartbeats 4000000 in
theorem pf_fn {w : World} {v : Int} {j : Nat} (hj : j < 32) (hno : ∀ i < j, pfB (pfS v i).1 i = true → (pfS v (i + 1)).1 ≠ 0) (hb : pfB (pfS v j).1 j = true) (hz : (pfS v (j + 1)).1 = 0)
    (hok : ((pfS v (j + 1)).2.map (·.length)).sum + (pfS v (j + 1)).2.length * 2 ≤ 16777216) : Fn w 1 187 [.py (.int v)] (.py (.str (Txt.join ", " (pfS v (j + 1)).2))) := by
  intro A P s Q E vs R B bl r hQ
  obtain ⟨v₁, rfl, r₁⟩ := r.one
  refine wpAny_call ?_
  refine fn_enter (k := 0) R B bl (by k_dflt k_is) (by k_dflt k_is) (BindsTo.of_eq rfl) (by rfl) (by exact (by decide : [Str.ofString "flags"].Nodup)) (lookup1 (x := Str.ofString "flags") r₁) (by rfl) (by rfl) (by rfl) (fun L R' => ?_) hQ
  revert R'
  generalize A.deeper _ = A'
  intro R'
  refine sx_cons (s_own (evf_list (ds := []) evs_nil)) ?_
  refine sx_cons (ρ' := []) (ω' := some (Str.ofString "names", false, (pfS v (j + 1)).2.map .str)) (s_for_gen (α := Nat) (enc := fun i => .int i) (its := List.range 32) (fun i => [(Str.ofString "flags", .py (.int (pfS v i).1))]) (fun i => some (Str.ofString "names", false, (pfS v i).2.map .str)) j
    (src_range1 R'.handled ev_int (by decide)) (fun _ _ e => e) rfl (fun i a hi ha => ?_) (by show j ≤ 32; omega) (.brk (a := j) (by simp [hj]) ?_) (hω := fun _ _ _ e => by cases e; decide)) ?_
  · obtain ⟨rfl, hi32⟩ : a = i ∧ i < 32 := range_get ha
    have hlen := pfS_len v a
    refine ⟨[(Str.ofString "flags", .py (.int (pfS v (a + 1)).1))], ?_, fun _ _ e => e⟩
    refine sx_cons (s_assign (ev_eq (ev_lshift ev_int (ev_name rfl) (by omega) (by omega) (by decide)) (d' := .py (.int (2 ^ a))) (by simp))) ?_
    refine sx_cons (s_if (b := pfB (pfS v a).1 a) (tv_plain (ev_and (ev_name rfl) (ev_name rfl)) trivial) (fun hb => ?_) (fun hb => ?_)) sx_nil
    · rw [pfS, if_pos hb]
      simp only [List.map_append, List.map_cons, List.map_nil]
      refine sx_sub (sx_cons (s_append (ev_flagget (ev_name rfl) (ev_hex (ev_name rfl) (Nat.le_trans (hex_small a hi32) (by decide))) (by k_dflt k_is)) (by simp; exact Nat.le_trans hlen (by have : sizeLine = 2^24 := rfl; omega))) (sx_cons (s_aug rfl (ev_name rfl) (fun s t u Q E hQ => ixor_int (hQ _ _ (Keeps.tok _ _)))) (sx_cons (s_if (b := false) (tv_eq (tv_not (tv_plain (d := .int _) (ev_name rfl) trivial)) ?_) (fun h => by cases h) (fun _ => sx_nil)) sx_nil))) ⟨rfl, trivial⟩
      have := hno a hi hb
      rw [pfS, if_pos hb] at this
      have t : (tru (.int (Builtin.bitXor (pfS v a).1 (2 ^ a)))) = true := by simpa [tru] using this
      rw [t]; rfl
    · rw [pfS, if_neg (by rw [hb]; decide)]
      exact sx_sub sx_nil ⟨rfl, trivial⟩
  · have hlen := pfS_len v j
    refine sx_cons (s_assign (ev_eq (ev_lshift ev_int (ev_name rfl) (by omega) (by omega) (by decide)) (d' := .py (.int (2 ^ j))) (by simp))) ?_
    refine sx_brk (s_if (b := true) (tv_eq (tv_plain (ev_and (ev_name rfl) (ev_name rfl)) trivial) hb) (fun _ => ?_) (fun h => by cases h))
    rw [pfS, if_pos hb] at hz ⊢
    simp only [List.map_append, List.map_cons, List.map_nil]
    refine sx_subB (sx_cons (s_append (ev_flagget (ev_name rfl) (ev_hex (ev_name rfl) (Nat.le_trans (hex_small j hj) (by decide))) (by k_dflt k_is)) (by simp; exact Nat.le_trans hlen (by have : sizeLine = 2^24 := rfl; omega))) (sx_cons (s_aug rfl (ev_name rfl) (fun s t u Q E hQ => ixor_int (hQ _ _ (Keeps.tok _ _)))) (sx_brk (s_if (b := true) (tv_eq (tv_not (tv_plain (d := .int _) (ev_name rfl) trivial)) ?_) (fun _ => sx_brk s_break) (fun h => by cases h))))) trivial
    have hz' : Builtin.bitXor (pfS v j).1 (2 ^ j) = 0 := hz
    rw [hz']; rfl
  · exact sx_ret (s_returnV (ev_join ev_str (ev_name rfl) hok))
theorem and0 : ∀ i < 32, (tru (.int (Builtin.bitAnd 0 (2 ^ i)))) = false := by decide +kernel
set_option maxHeartbeats 4000000 in
theorem pf0_fn {w : World} : Fn w 1 187 [.py (.int 0)] (.py (.str "0x0")) := by
  intro A P s Q E vs R B bl r hQ
  obtain ⟨v₁, rfl, r₁⟩ := r.one
  refine wpAny_call ?_
  refine fn_enter (k := 0) R B bl (by k_dflt k_is) (by k_dflt k_is) (BindsTo.of_eq rfl) (by rfl) (by exact (by decide : [Str.ofString "flags"].Nodup)) (lookup1 (x := Str.ofString "flags") r₁) (by rfl) (by rfl) (by rfl) (fun L R' => ?_) hQ
  revert R'
  generalize A.deeper _ = A'
  intro R'
  refine sx_cons (s_own (evf_list (ds := []) evs_nil)) ?_
  refine sx_cons (ω' := some (Str.ofString "names", false, [.str "0x0"])) (s_for_gen (α := Nat) (enc := fun i => .int i) (its := List.range 32) (fun i => [(Str.ofString "flags", .py (.int 0))]) (fun i => some (Str.ofString "names", false, [])) 32
    (src_range1 R'.handled ev_int (by decide)) (fun _ _ e => e) rfl (fun i a hi ha => ?_) (by decide) (.all rfl (sx_cons (s_append (ev_eq (ev_hex (ev_name rfl) (by decide +kernel)) (congrArg (fun x => Dt.py (.str x)) (by decide +kernel : PySem.baseText "0x" 16 0 = Str.ofString "0x0"))) (by decide)) sx_nil)) (hω := fun _ _ _ e => by cases e; decide)) ?_
  · obtain ⟨rfl, hi32⟩ : a = i ∧ i < 32 := range_get ha
    refine ⟨[(Str.ofString "flags", .py (.int 0))], ?_, fun _ _ e => e⟩
    refine sx_cons (s_assign (ev_eq (ev_lshift ev_int (ev_name rfl) (by omega) (by omega) (by decide)) (d' := .py (.int (2 ^ a))) (by simp))) ?_
    refine sx_cons (s_if (b := false) (tv_eq (tv_plain (d := .int _) (ev_and (ev_name rfl) (ev_name rfl)) trivial) (and0 a hi32)) (fun hb => by cases hb) (fun hb => sx_sub (ρ'' := [(Str.ofString "flags", .py (.int 0))]) sx_nil ⟨rfl, trivial⟩)) sx_nil
  · exact sx_ret (s_returnV (ev_eq (ev_join (ys := ["0x0"]) ev_str (ev_name rfl) (by decide)) (congrArg (fun x => Dt.py (.str x)) (by decide +kernel : Txt.join (Str.ofString ", ") [Str.ofString "0x0"] = Str.ofString "0x0"))))
end Mine

open PySem PySem.W PyProof.Rows PySem.Calls
set_option Elab.async false
set_option maxRecDepth 100000
namespace Mine
example : (PySem.Challenge.rw_rl0110_01, hd0.heap_1) = (PySem.Challenge.rw_rl0110_01, hd0.heap_1) := by k_fill; rfl


noncomputable def evenF (a b : Int) : Bool := (((List.range 4).map fun (k : Nat) => ((Builtin.bitAnd a b).fdiv (2 ^ k)).fmod 2).sum).fmod 2 == 0

set_option maxHeartbeats 4000000 in
theorem even_fn {w : World} {a b : Int} : Fn w 1 247 [.py (.int a), .py (.int b)] (.py (.bool (evenF a b))) := by
  intro A P s Q E vs R B bl r hQ
  obtain ⟨v₁, v₂, rfl, r₁, r₂⟩ := r.two
  refine wpAny_call ?_
  refine fn_enter (k := 0) R B bl (by k_dflt k_is) (by k_dflt k_is) (BindsTo.of_eq rfl) (by rfl) (by exact (by decide : [Str.ofString "one", Str.ofString "other"].Nodup)) (lookup2 (x := Str.ofString "one") (y := Str.ofString "other") r₁ r₂) (by rfl) (by rfl) (by rfl) (fun L R' => ?_) hQ
  revert R'
  generalize A.deeper _ = A'
  intro R'
  refine sx_ret (s_return (ev_cmp (ev_mod (ev_sum R' (ns := (List.range 4).map fun (k : Nat) => ((Builtin.bitAnd a b).fdiv (2 ^ k)).fmod 2) (ev_eq (ev_comp (α := Nat) (enc := fun i => .int i) (its := List.range 4) (p := fun _ => true) (g := fun (k : Nat) => PyData.int (((Builtin.bitAnd a b).fdiv (2 ^ k)).fmod 2)) (src_range1 R'.handled ev_int (by decide)) (fun C a ha => tests_nil) (fun C k hk _ => ?_)) (by rfl))) ev_int (by decide)) ev_int cmp_eqi))
  have hk4 : k < 4 := by simpa using hk
  exact ev_eq (ev_mod (ev_div (ev_and (ev_name rfl) (ev_name rfl)) (ev_pow ev_int (ev_name rfl) (by omega) (pow2_fits (by omega))) (pow2_ne _) (pow2_small (by omega))) ev_int (by decide)) rfl
end Mine

open PySem PySem.W PyProof.Rows PySem.Calls
set_option Elab.async false
set_option maxRecDepth 100000
namespace Mine
example : (PySem.Challenge.rw_rl0110_01, hd0.heap_1) = (PySem.Challenge.rw_rl0110_01, hd0.heap_1) := by k_fill; rfl

noncomputable def namesT : Str := "OPTIMIZED NEWLOCALS VARARGS VARKEYWORDS NESTED GENERATOR NOFREE COROUTINE"
noncomputable def namesH : List Str := (List.range 22).map fun (i : Nat) => PySem.baseText "0x" 16 (2 ^ ((10 : Int) + i).toNat)
noncomputable def namesL : List Str := PySem.wordsOf namesT ++ ([Str.ofString "ITERABLE_COROUTINE", Str.ofString "ASYNC_GENERATOR"] ++ namesH)
noncomputable def wordsL (s : Nat) : List Str := (namesL.drop s).take 4
noncomputable def lampB (l k : Nat) : Bool := ((l : Int).fdiv (2 ^ k)).fmod 2 == 1
noncomputable def lampT (ws : List Str) (l : Nat) : Str := Txt.join ", " (((List.range 4).filter (lampB l)).map fun k => ws.getD k "")
noncomputable def textsL (s : Nat) : List Str := Str.ofString "0x0" :: ((List.range 16).map (lampT (wordsL s))).drop 1

noncomputable def okS (s : Nat) : Prop := s ∈ [0, 2, 4, 9, 28]
theorem wordsL_len {s : Nat} (h : okS s) : (wordsL s).length = 4 := by
  have : ∀ s ∈ [0, 2, 4, 9, 28], (wordsL s).length = 4 := by decide +kernel
  exact this s h
theorem wordsL_pick {s : Nat} (h : okS s) : pickD (namesL.map .str) (some (s : Int)) (some ((s : Int) + 4)) none = (wordsL s).map .str := by
  have : ∀ s : Nat, s ∈ [0, 2, 4, 9, 28] → pickD (namesL.map .str) (some (s : Int)) (some ((s : Int) + 4)) none = (wordsL s).map .str := by
    intro s hs
    simp only [List.mem_cons, List.mem_nil_iff, or_false] at hs
    rcases hs with rfl | rfl | rfl | rfl | rfl <;> kernel_rfl
  exact this s h
theorem namesL_len : namesL.length = 32 := by decide +kernel
theorem textsL_pick (xs : List Str) (h : xs.length = 16) : pickD (xs.map .str) (some 1) none none = (xs.drop 1).map .str := by
  match xs, h with
  | [a0, a1, a2, a3, a4, a5, a6, a7, a8, a9, a10, a11, a12, a13, a14, a15], _ => kernel_rfl
theorem textsE {f : Nat → Str} : pickD (((List.range 16).filter (fun _ => true)).map fun (l : Nat) => PyData.str (f l)) (some 1) none none = (((List.range 16).map f).drop 1).map .str := by
  have := textsL_pick ((List.range 16).map f) (by simp)
  rw [List.map_map] at this
  rw [← this]
  rw [List.filter_eq_self.mpr (by simp)]; rfl
theorem lampT_short {s : Nat} (h : okS s) : ∀ l < 16, ((((List.range 4).filter (lampB l)).map fun k => (wordsL s).getD k "").map (·.length)).sum + (((List.range 4).filter (lampB l)).map fun k => (wordsL s).getD k "").length * 2 ≤ 1000 := by
  have : ∀ s ∈ [0, 2, 4, 9, 28], ∀ l < 16, ((((List.range 4).filter (lampB l)).map fun k => (wordsL s).getD k "").map (·.length)).sum + (((List.range 4).filter (lampB l)).map fun k => (wordsL s).getD k "").length * 2 ≤ 1000 := by decide +kernel
  exact this s h
theorem strs_get (xs : List Str) {k : Nat} (h : k < xs.length) : (xs.map PyData.str)[((k : Nat) : Int).toNat]? = some (.str (xs.getD k "")) := by
  simp [h]
theorem hex_small2 : ∀ i < 22, (PySem.baseText "0x" 16 (2 ^ ((10 : Int) + (i : Nat)).toNat)).length ≤ 100 := by decide +kernel
set_option maxHeartbeats 4000000 in
theorem words_fn {w : World} {s : Nat} (h : okS s) : Fn w 1 204 [.py (.int s)] (.py (.list ((textsL s).map .str))) := by
  have hs30 : s ≤ 28 := by
    have : ∀ s ∈ [0, 2, 4, 9, 28], s ≤ 28 := by decide
    exact this s h
  intro A P st Q E vs R B bl r hQ
  obtain ⟨v₁, rfl, r₁⟩ := r.one
  refine wpAny_call ?_
  refine fn_enter (k := 0) R B bl (by k_dflt k_is) (by k_dflt k_is) (BindsTo.of_eq rfl) (by rfl) (by exact (by decide : [Str.ofString "shift"].Nodup)) (lookup1 (x := Str.ofString "shift") r₁) (by rfl) (by rfl) (by rfl) (fun L R' => ?_) hQ
  revert R'
  generalize A.deeper _ = A'
  intro R'
  refine sx_cons (s_own (evf_split0 (x := namesT) ev_str (by decide +kernel) (by decide +kernel) (by decide +kernel))) ?_
  refine sx_cons (s_iaddl (ds' := (([Str.ofString "ITERABLE_COROUTINE", Str.ofString "ASYNC_GENERATOR"] ++ namesH).map .str)) (ev_eq (ev_catl (ev_list (ds := [.str "ITERABLE_COROUTINE", .str "ASYNC_GENERATOR"]) (evs_cons ev_str (evs_cons ev_str evs_nil)) (by decide +kernel)) (ev_comp (α := Nat) (enc := fun i => .int ((10 : Int) + i)) (its := List.range 22) (p := fun _ => true) (g := fun (i : Nat) => PyData.str (PySem.baseText "0x" 16 (2 ^ ((10 : Int) + i).toNat))) (src_range2 R'.handled ev_int ev_int (by decide) (by decide) (by decide)) (fun C a ha => tests_nil) (fun C i hi _ => ?_)) (by decide +kernel)) (by rfl)) (by decide +kernel)) ?_
  · have hi' : i < 22 := by simpa using hi
    exact ev_hex (ev_pow ev_int (ev_name rfl) (by omega) (pow2_fits (by omega))) (Nat.le_trans (hex_small2 i hi') (by decide))
  refine sx_freeze ?_
  refine sx_cons (s_assign (ev_eq (ev_slice (ds := namesL.map .str) (kl := some (s : Int)) (ku := some ((s : Int) + 4)) (ks := none) (ev_eq (ev_name rfl) ?_) (ev_name rfl) (ev_add (ev_name rfl) ev_int) trivial (by decide) (by rw [List.length_map, namesL_len]; decide)) (congrArg (fun x => Dt.py (.list x)) (wordsL_pick h)))) ?_
  · show Dt.py (.list ((PySem.wordsOf namesT).map .str ++ (([Str.ofString "ITERABLE_COROUTINE", Str.ofString "ASYNC_GENERATOR"] ++ namesH).map .str))) = _
    rw [← List.map_append]; rfl
  refine sx_cons (s_comp (α := Nat) (enc := fun i => .int i) (its := List.range 16) (p := fun _ => true) (g := fun (l : Nat) => PyData.str (lampT (wordsL s) l)) (src_range1 R'.handled ev_int (by decide)) (fun C a ha => tests_nil) (fun C l hl _ => ?_)) ?_
  · have hl' : l < 16 := by simpa using hl
    refine ev_join (ys := ((List.range 4).filter (lampB l)).map fun k => (wordsL s).getD k "") ev_str (ev_eq (ev_comp (α := Nat) (enc := fun i => .int i) (its := List.range 4) (p := lampB l) (g := fun (k : Nat) => PyData.str ((wordsL s).getD k "")) (src_range1 R'.handled ev_int (by decide)) (fun C k hk => tests_one ?_) (fun C k hk _ => ?_)) (by rw [List.map_map]; rfl)) (Nat.le_trans (lampT_short h l hl') (by decide))
    · have hk' : k < 4 := by simpa using hk
      exact tv_eq (tv_cmp (ev_mod (ev_div (ev_name rfl) (ev_pow ev_int (ev_name rfl) (by omega) (pow2_fits (by omega))) (pow2_ne _) (pow2_small (by omega))) ev_int (by decide)) ev_int cmp_eqi) rfl
    · have hk' : k < 4 := by simpa using hk
      exact ev_item (ev_name rfl) (ev_name rfl) (by omega) (by omega) (strs_get _ (by rw [wordsL_len h]; exact hk'))
  refine sx_ret (s_return (ev_eq (ev_catl (ev_list (ds := [.str "0x0"]) (evs_cons ev_str evs_nil) (by decide +kernel)) (ev_slice (kl := some 1) (ku := none) (ks := none) (ev_name rfl) ev_int trivial trivial (by decide) (by rw [List.length_map]; exact (by decide : (List.filter (fun x => true) (List.range 16)).length ≤ sizeLine))) ?_) ?_))
  · show 1 + (pickD (((List.range 16).filter (fun _ => true)).map fun (l : Nat) => PyData.str (lampT (wordsL s) l)) (some 1) none none).length ≤ sizeLine
    rw [textsE]; simp
    exact (by decide : 1 + 15 ≤ sizeLine)
  · show Dt.py (.list ([PyData.str "0x0"] ++ pickD (((List.range 16).filter (fun _ => true)).map fun (l : Nat) => PyData.str (lampT (wordsL s) l)) (some 1) none none)) = _
    rw [textsE]; rfl
end Mine

open PySem PySem.W PyProof.Rows PySem.Calls
set_option Elab.async false
set_option maxRecDepth 100000
namespace Mine
example : (PySem.Challenge.rw_rl0110_01, hd0.heap_1) = (PySem.Challenge.rw_rl0110_01, hd0.heap_1) := by k_fill; rfl

noncomputable def pairD (j k : Nat) : PyData := .tuple [.int j, .int k]
noncomputable def pairsD : List PyData := ((List.range 4).map fun j => pairD j j) ++ (List.range 4).flatMap fun j => (List.range (3 - j)).map fun k => pairD j (j + 1 + k)
noncomputable def linkD (n : Int) : List PyData := ((List.range 10).filter fun p => bitI n p).map fun p => pairsD.getD p .none
noncomputable def rowB (n : Int) (k j : Nat) : Bool := ((linkD n).any fun y => PyData.eqv y (pairD j k)) || (linkD n).any fun y => PyData.eqv y (pairD k j)
noncomputable def rowF (n : Int) (k : Nat) : Int := (((List.range 4).filter (rowB n k)).map fun (j : Nat) => (2 : Int) ^ j).sum
noncomputable def rowsF (n : Int) : List Int := (List.range 4).map (rowF n)

theorem src_eq {w : World} {A : Around} {env : Env} {ρ : Rho} {e : Expr} {ds ds' : List PyData} (h : Src w A env ρ e ds) (e' : ds = ds') : Src w A env ρ e ds' := e' ▸ h
theorem pairs_get : ∀ p < 10, pairsD[((p : Nat) : Int).toNat]? = some (pairsD.getD p .none) := by
  intro p hp
  have : pairsD.length = 10 := by rfl
  simp [this, hp]
theorem pairs_all : ∀ p < 10, ∃ j k, j < 4 ∧ k < 4 ∧ pairsD.getD p .none = pairD j k := by
  intro p hp
  match p, hp with
  | 0, _ => exact ⟨0, 0, by decide, by decide, rfl⟩
  | 1, _ => exact ⟨1, 1, by decide, by decide, rfl⟩
  | 2, _ => exact ⟨2, 2, by decide, by decide, rfl⟩
  | 3, _ => exact ⟨3, 3, by decide, by decide, rfl⟩
  | 4, _ => exact ⟨0, 1, by decide, by decide, rfl⟩
  | 5, _ => exact ⟨0, 2, by decide, by decide, rfl⟩
  | 6, _ => exact ⟨0, 3, by decide, by decide, rfl⟩
  | 7, _ => exact ⟨1, 2, by decide, by decide, rfl⟩
  | 8, _ => exact ⟨1, 3, by decide, by decide, rfl⟩
  | 9, _ => exact ⟨2, 3, by decide, by decide, rfl⟩
theorem can_pairs : ∀ (ps : List Nat), (∀ p ∈ ps, p < 10) → PyData.canLayAll0 (ps.map fun p => pairsD.getD p .none) = true ∧ PyData.depthAll (ps.map fun p => pairsD.getD p .none) ≤ 2
  | [], _ => ⟨rfl, by decide⟩
  | p :: ps, h => by
    obtain ⟨j, k, hj, hk, e⟩ := pairs_all p (h p (by simp))
    have ih := can_pairs ps fun q hq => h q (by simp [hq])
    simp only [List.map_cons, e]
    refine ⟨?_, ?_⟩
    · simp only [PyData.canLayAll0, ih.1, pairD, PyData.canLay0, Bool.and_true]
    · simp only [PyData.depthAll, pairD, PyData.depth]; omega
set_option maxHeartbeats 4000000 in
theorem rows_fn {w : World} {n : Int} : Fn w 1 199 [.py (.int n)] (.py (.list ((rowsF n).map .int))) := by
  intro A P st Q E vs R B bl r hQ
  obtain ⟨v₁, rfl, r₁⟩ := r.one
  refine wpAny_call ?_
  refine fn_enter (k := 0) R B bl (by k_dflt k_is) (by k_dflt k_is) (BindsTo.of_eq rfl) (by rfl) (by exact (by decide : [Str.ofString "number"].Nodup)) (lookup1 (x := Str.ofString "number") r₁) (by rfl) (by rfl) (by rfl) (fun L R' => ?_) hQ
  revert R'
  generalize A.deeper _ = A'
  intro R'
  refine sx_cons (s_assign (ev_eq (ev_catl (ev_comp (α := Nat) (enc := fun i => .int i) (its := List.range 4) (p := fun _ => true) (g := fun (j : Nat) => pairD j j) (src_range1 R'.handled ev_int (by decide)) (fun C a ha => tests_nil) (fun C j hj _ => ev_tuple (ds := [.int j, .int j]) (evs_cons (ev_name rfl) (evs_cons (ev_name rfl) evs_nil)) (by show 2 ≤ sizeLine; decide)))
      (ev_comp2 (α := Nat) (β := Nat) (enc := fun i => i) (its := List.range 4) (enc' := fun i => i) (jts := fun j => (List.range (3 - j)).map (fun k => j + 1 + k)) (g := pairD) (src_range1 R'.handled ev_int (by decide)) (fun C j hj => ?_) (fun C j k hj hk => ev_tuple (ds := [.int j, .int k]) (evs_cons (ev_name rfl) (evs_cons (ev_name rfl) evs_nil)) (by show 2 ≤ sizeLine; decide)) (by decide +kernel)) (by decide +kernel)) (d' := .py (.list pairsD)) (by rfl))) ?_
  · have hj' : j < 4 := by simpa using hj
    refine src_eq (src_range2 (a := (j : Int) + 1) (n := 3 - j) R'.handled (ev_add (ev_name rfl) ev_int) (ev_eq ev_int (congrArg (fun x => Dt.py (.int x)) (show (4 : Int) = (j : Int) + 1 + ((3 - j : Nat) : Int) by omega))) (by omega) (by omega) (by omega)) ?_
    rw [List.map_map]
    refine List.map_congr_left fun i _ => ?_
    show PyData.int _ = PyData.int _
    congr 1
  refine sx_cons (s_assign (ev_comp (α := Nat) (enc := fun i => .int i) (its := List.range 10) (p := fun p => bitI n p) (g := fun p => pairsD.getD p .none) (src_range1 R'.handled ev_int (by decide)) (fun C p hp => tests_one ?_) (fun C p hp _ => ?_))) ?_
  · have hp' : p < 10 := by simpa using hp
    exact tv_eq (tv_cmp (ev_mod (ev_div (ev_name rfl) (ev_pow ev_int (ev_name rfl) (by omega) (pow2_fits (by omega))) (pow2_ne _) (pow2_small (by omega))) ev_int (by decide)) ev_int cmp_eqi) rfl
  · have hp' : p < 10 := by simpa using hp
    exact ev_item (ev_name rfl) (ev_name rfl) (by omega) (by omega) (pairs_get p hp')
  have can := can_pairs ((List.range 10).filter fun p => bitI n p) (fun p hp => by simp at hp; exact hp.1)
  refine sx_ret (s_return (ev_eq (ev_comp (α := Nat) (enc := fun i => .int i) (its := List.range 4) (p := fun _ => true) (g := fun k => .int (rowF n k)) (src_range1 R'.handled ev_int (by decide)) (fun C k hk => tests_nil) (fun C k hk _ => ?_)) (by rfl)))
  have hk' : k < 4 := by simpa using hk
  refine ev_sum R' (ns := ((List.range 4).filter (rowB n k)).map fun (j : Nat) => (2 : Int) ^ j) (ev_eq (ev_comp (α := Nat) (enc := fun i => .int i) (its := List.range 4) (p := rowB n k) (g := fun (j : Nat) => PyData.int (2 ^ j)) (src_range1 R'.handled ev_int (by decide)) (fun C j hj => tests_one ?_) (fun C j hj _ => ?_)) (by rw [List.map_map]; rfl))
  · exact tv_eq (tv_or (tv_cmp (ev_tuple (ds := [.int j, .int k]) (evs_cons (ev_name rfl) (evs_cons (ev_name rfl) evs_nil)) (by show 2 ≤ sizeLine; decide)) (ev_name rfl) (cmp_inl R' rfl can.1 (by have := can.2; omega))) (fun _ => tv_or (tv_cmp (ev_tuple (ds := [.int k, .int j]) (evs_cons (ev_name rfl) (evs_cons (ev_name rfl) evs_nil)) (by show 2 ≤ sizeLine; decide)) (ev_name rfl) (cmp_inl R' rfl can.1 (by have := can.2; omega))) fun _ => tv_or_nil)) (by rw [Bool.or_false]; rfl)
  · have hj' : j < 4 := by simpa using hj
    exact ev_eq (ev_pow ev_int (ev_name rfl) (by omega) (pow2_fits (by omega))) rfl
end Mine

open PySem PySem.W PyProof.Rows PySem.Calls
set_option Elab.async false
set_option maxRecDepth 100000
namespace Mine
example : (PySem.Challenge.rw_rl0110_01, hd0.heap_1) = (PySem.Challenge.rw_rl0110_01, hd0.heap_1) := by k_fill; rfl

noncomputable def dots : Str := Str.ofString "..."
noncomputable def ellW (want : Str) : List Str := Builtin.Str.partsBetween want (Builtin.Str.occurrences want dots 0 want.length (want.length + 1)) dots.length
noncomputable def fst0 (ws : List Str) : Str := ws.getD 0 ""
noncomputable def lst0 (ws : List Str) : Str := ws.getD (ws.length - 1) ""
noncomputable def fstB (ws : List Str) : Bool := ((fst0 ws).length : Int) != 0
noncomputable def lstB (ws : List Str) : Bool := ((lst0 ws).length : Int) != 0
noncomputable def ellSp (ws : List Str) : Int := if fstB ws then (fst0 ws).length else 0
noncomputable def ellW1 (ws : List Str) : List Str := if fstB ws then ws.eraseIdx 0 else ws
noncomputable def ellEp (got : Str) (ws : List Str) : Int := if lstB ws then (got.length : Int) - (lst0 ws).length else got.length
noncomputable def ellW2 (ws : List Str) : List Str := if lstB ws then ws.eraseIdx (ws.length - 1) else ws
noncomputable def ellPos (got : Str) (ws : List Str) (sp ep : Int) : Nat → Int
  | 0 => sp
  | i + 1 => findF got (ws.getD i "") (ellPos got ws sp ep i) ep + (ws.getD i "").length
noncomputable def ellHit (got : Str) (ws : List Str) (sp ep : Int) (i : Nat) : Bool := decide (0 ≤ findF got (ws.getD i "") (ellPos got ws sp ep i) ep)
noncomputable def ellAll (got : Str) (ws : List Str) (sp ep : Int) : Bool := (List.range ws.length).all (ellHit got ws sp ep)
noncomputable def ellIn (want : Str) : Bool := !(Builtin.Str.occurrences want dots 0 want.length 1).isEmpty
noncomputable def ellF (want got : Str) : Bool :=
  if ellIn want then
    if fstB (ellW want) && !Txt.startswith got (fst0 (ellW want)) then false
    else if lstB (ellW1 (ellW want)) && !Txt.endswith got (lst0 (ellW1 (ellW want))) then false
    else if ellEp got (ellW1 (ellW want)) < ellSp (ellW want) then false
    else ellAll got (ellW2 (ellW1 (ellW want))) (ellSp (ellW want)) (ellEp got (ellW1 (ellW want)))
  else want == got
noncomputable def ellOk (want : Str) : Bool := !ellIn want || (!(decide (want.length < dots.length) || decide (Builtin.Str.strKind want < Builtin.Str.strKind dots)) && !(Builtin.Str.occurrences want dots 0 want.length (want.length + 1)).isEmpty
  && decide (want.length ≤ 100000) && decide (2 ≤ (ellW want).length) && decide ((ellW want).length ≤ 100000) && (ellW want).all fun x => decide (x.length ≤ 100000))

theorem first_miss (p : Nat → Bool) : ∀ n, (∀ i < n, p i = true) ∨ ∃ j, j < n ∧ (∀ i < j, p i = true) ∧ p j = false
  | 0 => .inl fun _ h => absurd h (by omega)
  | n + 1 => by
    rcases first_miss p n with h | ⟨j, h1, h2, h3⟩
    · cases hn : p n with
      | true =>
        refine .inl fun i hi => ?_
        by_cases e : i = n
        · rw [e]; exact hn
        · exact h i (by omega)
      | false => exact .inr ⟨n, by omega, h, hn⟩
    · exact .inr ⟨j, by omega, h2, h3⟩

theorem sx_to {w : World} {A : Around} {env : Env} {ρ ρ' ρ'' : Rho} {ω ω' ω'' : Omg} {ss : List Stmt} (h : Sx w A env ρ ω ss (.next ρ' ω')) (e : ω' = ω'') (hs : SubL ρ'' ρ') : Sx w A env ρ ω ss (.next ρ'' ω'') := e ▸ sx_sub h hs
theorem map_eraseIdx {α β : Type} (f : α → β) : ∀ (l : List α) (k : Nat), (l.map f).eraseIdx k = (l.eraseIdx k).map f
  | [], _ => rfl
  | _ :: _, 0 => rfl
  | a :: l, k + 1 => by simp [List.eraseIdx, map_eraseIdx f l k]
theorem seq_first {n : Nat} (h : 0 < n) : seqIndex? 0 n = some 0 := by
  unfold seqIndex?; simp; omega
theorem seq_last {n : Nat} (h : 0 < n) : seqIndex? (-1) n = some (n - 1) := by
  unfold seqIndex?; simp; omega
set_option maxHeartbeats 4000000 in
theorem ell_fn {w : World} {want got : Str} (hok : ellOk want = true) (hg : got.length ≤ 100000) : Fn w 1 194 [.py (.str want), .py (.str got)] (.py (.bool (ellF want got))) := by
  intro A P s Q E vs R B bl r hQ
  obtain ⟨v₁, v₂, rfl, r₁, r₂⟩ := r.two
  refine wpAny_call ?_
  refine fn_enter (k := 0) R B bl (by k_dflt k_is) (by k_dflt k_is) (BindsTo.of_eq rfl) (by rfl) (by exact (by decide : [Str.ofString "want", Str.ofString "got"].Nodup)) (lookup2 (x := Str.ofString "want") (y := Str.ofString "got") r₁ r₂) (by rfl) (by rfl) (by rfl) (fun L R' => ?_) hQ
  revert R'
  generalize A.deeper _ = A'
  intro R'
  cases hin : ellIn want with
  | false =>
    refine sx_ret (s_if (b := true) (tv_eq (tv_cmp (ev_gstr (y := dots) (by k_dflt k_is)) (ev_name rfl) cmp_notins) (by simpa [ellIn] using hin)) (fun _ => ?_) (fun h => by cases h))
    exact sx_ret (s_return (ev_eq (ev_cmp (ev_name rfl) (ev_name rfl) cmp_eqs) (by simp [ellF, hin])))
  | true =>
  refine sx_cons (s_if (b := false) (tv_eq (tv_cmp (ev_gstr (y := dots) (by k_dflt k_is)) (ev_name rfl) cmp_notins) (by simpa [ellIn] using hin)) (fun h => by cases h) (fun _ => sx_nil)) ?_
  simp only [ellOk, hin, Bool.not_true, Bool.false_or, Bool.and_eq_true, Bool.not_eq_true', decide_eq_true_eq, List.all_eq_true] at hok
  obtain ⟨⟨⟨⟨⟨h1, h2⟩, h3⟩, h4⟩, h5⟩, h6⟩ := hok
  have sl : sizeLine = 2 ^ 24 := rfl
  refine sx_cons (s_own (evf_split1 (x := want) (y := dots) (ev_name rfl) (ev_gstr (by k_dflt k_is)) h1 (by decide) h2 (by omega) (by show (ellW want).length ≤ _; omega))) ?_
  show Sx w A' _ _ (some (_, false, (ellW want).map .str)) _ _
  generalize hws : ellW want = ws at *
  refine sx_cons (s_assert (tv_eq (tv_cmp (ev_lenl (ev_name rfl) (by simp; omega)) ev_int cmp_gei) (by simp; omega))) ?_
  refine sx_cons (s_assign2 R'.handled ev_int (ev_lens (ev_name rfl) (by omega))) ?_
  have fits : ∀ x ∈ ws, x.length ≤ 100000 := h6
  refine sx_cons (s_assign_flat (ev_item (d := .str (fst0 ws)) (ev_name rfl) ev_int (by decide) (by decide) (by cases ws with | nil => simp at h4 | cons a r => rfl))) ?_
  have hlen0 : (fst0 ws).length ≤ 100000 := by
    cases ws with
    | nil => simp at h4
    | cons a r => exact h6 a (by simp)
  cases hbad : fstB ws && !Txt.startswith got (fst0 ws) with
  | true =>
    obtain ⟨b1, b2⟩ := Bool.and_eq_true_iff.mp hbad
    have b2' : Txt.startswith got (fst0 ws) = false := by simpa using b2
    refine sx_ret (s_ifV (b := true) (tv_eq (tv_plain (d := .str _) (ev_name rfl) (by show ((fst0 ws).length : Int) < _; omega)) b1) (fun _ => ?_) (fun h => by cases h))
    refine sx_ret (s_ifV (b := false) (tv_eq (tv_plain (ev_startswith (ev_name rfl) (ev_name rfl)) trivial) b2') (fun h => by cases h) (fun _ => ?_))
    exact sx_ret (s_return (ev_eq ev_bool (by simp only [ellF, hin, hws, hbad, if_true])))
  | false =>
  refine sx_cons (ρ' := [(Str.ofString "startpos", .py (.int (ellSp ws))), (Str.ofString "endpos", .py (.int got.length)), (Str.ofString "got", .py (.str got))]) (ω' := some (Str.ofString "ws", false, (ellW1 ws).map .str))
    (s_ifV (b := fstB ws) (tv_eq (tv_plain (d := .str _) (ev_name rfl) (by show ((fst0 ws).length : Int) < _; omega)) rfl) (fun hb => ?_) (fun hb => ?_)) ?_
  · have e1 : ellSp ws = (fst0 ws).length := by simp [ellSp, hb]
    have e2 : ellW1 ws = ws.eraseIdx 0 := by simp [ellW1, hb]
    rw [e1, e2]
    have hst : Txt.startswith got (fst0 ws) = true := by simpa [hb] using hbad
    refine sx_to (sx_cons (s_ifV (b := true) (tv_eq (tv_plain (ev_startswith (ev_name rfl) (ev_name rfl)) trivial) hst) (fun _ => sx_cons (s_assign_flat (ev_lens (ev_name rfl) (by omega))) (sx_cons (s_del (k := 0) ev_int (by decide) ?_ (by simp; omega)) sx_nil)) (fun h => by cases h)) sx_nil) ?_ ⟨rfl, rfl, rfl, trivial⟩
    · exact seq_first (by simp; omega)
    · rw [map_eraseIdx]
  · have e1 : ellSp ws = 0 := by simp [ellSp, hb]
    have e2 : ellW1 ws = ws := by simp [ellW1, hb]
    rw [e1, e2]
    exact sx_to sx_nil rfl ⟨rfl, rfl, rfl, trivial⟩
  have h7 : 1 ≤ (ellW1 ws).length := by
    unfold ellW1; split
    · rw [List.length_eraseIdx]; split <;> omega
    · omega
  have h8 : ∀ x ∈ ellW1 ws, x.length ≤ 100000 := fun x hx => by
    unfold ellW1 at hx; split at hx
    · exact h6 x (List.mem_of_mem_eraseIdx hx)
    · exact h6 x hx
  have h9 : (ellW1 ws).length ≤ 100000 := by
    unfold ellW1; split
    · rw [List.length_eraseIdx]; split <;> omega
    · omega
  generalize hsp : ellSp ws = sp at *
  generalize hw1 : ellW1 ws = w1 at *
  have hlast : (w1.map PyData.str)[(-1 + ((w1.map PyData.str).length : Int)).toNat]? = some (.str (lst0 w1)) := by
    have e : (-1 + ((w1.map PyData.str).length : Int)).toNat = w1.length - 1 := by simp; omega
    rw [e]
    have : w1.length - 1 < w1.length := by omega
    simp [lst0, this]
  have hlenL : (lst0 w1).length ≤ 100000 := by
    have : w1.length - 1 < w1.length := by omega
    refine h8 _ ?_
    simp only [lst0, List.getD_eq_getElem?_getD, List.getElem?_eq_getElem this, Option.getD_some]
    exact List.getElem_mem this
  refine sx_cons (s_assign_flat (ev_item_neg (d := .str (lst0 w1)) (ev_name rfl) (ev_neg ev_int) (by decide) (by simp; omega) (by decide) hlast)) ?_
  cases hbad2 : lstB w1 && !Txt.endswith got (lst0 w1) with
  | true =>
    obtain ⟨b1, b2⟩ := Bool.and_eq_true_iff.mp hbad2
    have b2' : Txt.endswith got (lst0 w1) = false := by simpa using b2
    refine sx_ret (s_ifV (b := true) (tv_eq (tv_plain (d := .str _) (ev_name rfl) (by show ((lst0 w1).length : Int) < _; omega)) b1) (fun _ => ?_) (fun h => by cases h))
    refine sx_ret (s_ifV (b := false) (tv_eq (tv_plain (ev_endswith (ev_name rfl) (ev_name rfl)) trivial) b2') (fun h => by cases h) (fun _ => ?_))
    exact sx_ret (s_return (ev_eq ev_bool (by simp only [ellF, hin, hws, hbad, hw1, hbad2, if_true, Bool.false_eq_true, if_false])))
  | false =>
  refine sx_cons (ρ' := [(Str.ofString "startpos", .py (.int sp)), (Str.ofString "endpos", .py (.int (ellEp got w1))), (Str.ofString "got", .py (.str got))]) (ω' := some (Str.ofString "ws", false, (ellW2 w1).map .str))
    (s_ifV (b := lstB w1) (tv_eq (tv_plain (d := .str _) (ev_name rfl) (by show ((lst0 w1).length : Int) < _; omega)) rfl) (fun hb => ?_) (fun hb => ?_)) ?_
  · have e1 : ellEp got w1 = (got.length : Int) - (lst0 w1).length := by simp [ellEp, hb]
    have e2 : ellW2 w1 = w1.eraseIdx (w1.length - 1) := by simp [ellW2, hb]
    rw [e1, e2]
    have hst : Txt.endswith got (lst0 w1) = true := by simpa [hb] using hbad2
    refine sx_to (sx_cons (s_ifV (b := true) (tv_eq (tv_plain (ev_endswith (ev_name rfl) (ev_name rfl)) trivial) hst) (fun _ => sx_cons (s_aug rfl (ev_lens (ev_name rfl) (by omega)) (fun s t u Q E hQ => PyProof.Rows.isub_int (hQ _ _ (Keeps.tok _ _)))) (sx_cons (s_del (k := w1.length - 1) (ev_neg ev_int) (by decide) ?_ (by simp; omega)) sx_nil)) (fun h => by cases h)) sx_nil) ?_ ⟨rfl, rfl, rfl, trivial⟩
    · have := seq_last (n := (w1.map PyData.str).length) (by simp; omega)
      rw [this]; simp
    · rw [map_eraseIdx]
  · have e1 : ellEp got w1 = got.length := by simp [ellEp, hb]
    have e2 : ellW2 w1 = w1 := by simp [ellW2, hb]
    rw [e1, e2]
    exact sx_to sx_nil rfl ⟨rfl, rfl, rfl, trivial⟩
  have h10 : ∀ x ∈ ellW2 w1, x.length ≤ 100000 := fun x hx => by
    unfold ellW2 at hx; split at hx
    · exact h8 x (List.mem_of_mem_eraseIdx hx)
    · exact h8 x hx
  generalize hep : ellEp got w1 = ep at *
  generalize hw2 : ellW2 w1 = w2 at *
  by_cases hlt : ep < sp
  · refine sx_ret (s_if (b := true) (tv_eq (tv_cmp (ev_name rfl) (ev_name rfl) cmp_gti) (by simpa using hlt)) (fun _ => ?_) (fun h => by cases h))
    exact sx_ret (s_return (ev_eq ev_bool (by simp only [ellF, hin, hws, hbad, hw1, hbad2, hep, hsp, hlt, if_true, Bool.false_eq_true, if_false])))
  refine sx_cons (s_if (b := false) (tv_eq (tv_cmp (ev_name rfl) (ev_name rfl) cmp_gti) (by simpa using hlt)) (fun h => by cases h) (fun _ => sx_nil)) ?_
  refine sx_freeze ?_
  have res : ellF want got = ellAll got w2 sp ep := by simp only [ellF, hin, hws, hbad, hw1, hbad2, hep, hsp, hlt, hw2, if_true, Bool.false_eq_true, if_false]
  rw [res]
  have gw : ∀ i a, w2[i]? = some a → a = w2.getD i "" := fun i a h => by simp [h]
  have ww : ∀ i a, w2[i]? = some a → (w2.getD i "").length ≤ 100000 := fun i a h => by rw [← gw i a h]; exact h10 a (List.mem_of_getElem? h)
  rcases first_miss (ellHit got w2 sp ep) w2.length with hall | ⟨j, hj, hbefore, hmiss⟩
  · have res2 : ellAll got w2 sp ep = true := List.all_eq_true.mpr fun i hi => hall i (by simpa using hi)
    rw [res2]
    refine sx_cons (s_for_gen (α := Str) (enc := fun x => .str x) (its := w2) (fun i => [(Str.ofString "startpos", .py (.int (ellPos got w2 sp ep i))), (Str.ofString "endpos", .py (.int ep)), (Str.ofString "got", .py (.str got))]) (fun _ => none) w2.length
      (src_list R'.handled (ev_name rfl)) (sub_of ⟨rfl, rfl, rfl, trivial⟩) rfl (fun i a hi ha => ?_) (Nat.le_refl _) (.all rfl sx_nil) (hω := fun _ _ _ e => by cases e)) (sx_ret (s_return ev_bool))
    have hh := hall i hi
    have hn : 0 ≤ findF got (w2.getD i "") (ellPos got w2 sp ep i) ep := by simpa [ellHit] using hh
    have e := gw i a ha
    subst e
    exact ⟨_, sx_cons (s_assign (ev_find (ev_name rfl) (ev_name rfl) (ev_name rfl) (ev_name rfl))) (sx_cons (s_if (b := false) (tv_eq (tv_cmp (ev_name rfl) ev_int cmp_lti) (by simpa using hn)) (fun h => by cases h) (fun _ => sx_nil)) (sx_cons (s_aug rfl (ev_lens (ev_name rfl) (by have := ww i _ ha; omega)) (fun s t u Q E hQ => PyProof.Rows.iadd_int (hQ _ _ (Keeps.tok _ _)))) sx_nil)), sub_of ⟨rfl, rfl, rfl, trivial⟩⟩
  · have res2 : ellAll got w2 sp ep = false := by
      cases h : ellAll got w2 sp ep with
      | false => rfl
      | true => have := List.all_eq_true.mp h j (by simpa using hj); rw [hmiss] at this; cases this
    rw [res2]
    refine sx_ret (s_for_gen (α := Str) (enc := fun x => .str x) (its := w2) (fun i => [(Str.ofString "startpos", .py (.int (ellPos got w2 sp ep i))), (Str.ofString "endpos", .py (.int ep)), (Str.ofString "got", .py (.str got))]) (fun _ => none) j
      (src_list R'.handled (ev_name rfl)) (sub_of ⟨rfl, rfl, rfl, trivial⟩) rfl (fun i a hi ha => ?_) (Nat.le_of_lt hj) (.ret (a := w2.getD j "") (by simp [hj]) ?_) (hω := fun _ _ _ e => by cases e))
    · have hh := hbefore i hi
      have hn : 0 ≤ findF got (w2.getD i "") (ellPos got w2 sp ep i) ep := by simpa [ellHit] using hh
      have e := gw i a ha
      subst e
      exact ⟨_, sx_cons (s_assign (ev_find (ev_name rfl) (ev_name rfl) (ev_name rfl) (ev_name rfl))) (sx_cons (s_if (b := false) (tv_eq (tv_cmp (ev_name rfl) ev_int cmp_lti) (by simpa using hn)) (fun h => by cases h) (fun _ => sx_nil)) (sx_cons (s_aug rfl (ev_lens (ev_name rfl) (by have := ww i _ ha; omega)) (fun s t u Q E hQ => PyProof.Rows.iadd_int (hQ _ _ (Keeps.tok _ _)))) sx_nil)), sub_of ⟨rfl, rfl, rfl, trivial⟩⟩
    · have hn : findF got (w2.getD j "") (ellPos got w2 sp ep j) ep < 0 := by simpa [ellHit] using hmiss
      exact sx_cons (s_assign (ev_find (ev_name rfl) (ev_name rfl) (ev_name rfl) (ev_name rfl))) (sx_ret (s_if (b := true) (tv_eq (tv_cmp (ev_name rfl) ev_int cmp_lti) (by simpa using hn)) (fun _ => sx_ret (s_return ev_bool)) (fun h => by cases h)))
end Mine

open PySem PySem.W PyProof.Rows PySem.Calls
set_option Elab.async false
set_option maxRecDepth 100000
namespace Mine
example : (PySem.Challenge.rw_rl0110_01, hd0.heap_1) = (PySem.Challenge.rw_rl0110_01, hd0.heap_1) := by k_fill; rfl

noncomputable def asked1 (x : Str) : List Str := [x, x ++ Str.ofString ", ...", Str.ofString "..., " ++ x, Str.ofString "..., " ++ x ++ Str.ofString ", ..."]
noncomputable def asked2 (x : Str) : List Str := [x ++ dots ++ x, dots ++ x ++ dots ++ x ++ dots, dots ++ x ++ dots ++ x]
noncomputable def toldL (x row : Str) : List Bool := (asked1 x ++ asked2 x).map fun want => ellF want row
noncomputable def standsF (x row : Str) : Int := PySem.Spec.countIn (.bool true) (((toldL x row).take 4).map .bool) + 100 * PySem.Spec.countIn (.bool true) (((toldL x row).drop 4).map .bool)
noncomputable def standsOk (x : Str) : Bool := (asked1 x ++ asked2 x).all ellOk

theorem told_pick1 : ∀ bs : List Bool, bs.length = 7 → pickD (bs.map .bool) none (some 4) none = (bs.take 4).map .bool
  | [b0, b1, b2, b3, b4, b5, b6], _ => by kernel_rfl
theorem told_pick2 : ∀ bs : List Bool, bs.length = 7 → pickD (bs.map .bool) (some 4) none none = (bs.drop 4).map .bool
  | [b0, b1, b2, b3, b4, b5, b6], _ => by kernel_rfl
theorem slen {a b : Str} : (a ++ b).length = a.length + b.length := by
  show (a.cps ++ b.cps).size = _; rw [Array.size_append]; rfl
theorem filter_ff {α : Type} (l : List α) : l.filter (fun _ => false) = [] := by induction l <;> simp_all
set_option maxHeartbeats 4000000 in
theorem stands_fn {w : World} {x row : Str} (hx : x.length ≤ 1000) (hok : standsOk x = true) (hg : row.length ≤ 100000) : Fn w 2 209 [.py (.str x), .py (.str row)] (.py (.int (standsF x row))) := by
  intro A P s Q E vs R B bl r hQ
  obtain ⟨v₁, v₂, rfl, r₁, r₂⟩ := r.two
  refine wpAny_call ?_
  refine fn_enter (k := 1) R B bl (by k_dflt k_is) (by k_dflt k_is) (BindsTo.of_eq rfl) (by rfl) (by exact (by decide : [Str.ofString "word", Str.ofString "row"].Nodup)) (lookup2 (x := Str.ofString "word") (y := Str.ofString "row") r₁ r₂) (by rfl) (by rfl) (by rfl) (fun L R' => ?_) hQ
  revert R'
  generalize A.deeper _ = A'
  intro R'
  have sl : sizeLine = 2 ^ 24 := rfl
  have d3 : dots.length = 3 := by decide
  have d5 : (Str.ofString ", ...").length = 5 := by decide
  have d6 : (Str.ofString "..., ").length = 5 := by decide
  refine sx_cons (s_own (evf_list (ds := (asked1 x).map .str) (evs_cons (ev_name rfl) (evs_cons (ev_cat (ev_name rfl) ev_str (by omega)) (evs_cons (ev_cat ev_str (ev_name rfl) (by omega)) (evs_cons (ev_cat (ev_cat ev_str (ev_name rfl) (by omega)) ev_str (by rw [slen]; omega)) evs_nil)))) (by show 4 ≤ sizeLine; decide))) ?_
  refine sx_cons (s_iaddl (ds' := (asked2 x).map .str) (ev_list (evs_cons (ev_cat (ev_cat (ev_name rfl) ev_str (by omega)) (ev_name rfl) (by rw [slen]; omega)) (evs_cons (ev_cat (ev_cat (ev_cat (ev_cat ev_str (ev_name rfl) (by omega)) ev_str (by rw [slen]; omega)) (ev_name rfl) (by rw [slen, slen]; omega)) ev_str (by rw [slen, slen, slen]; omega)) (evs_cons (ev_cat (ev_cat (ev_cat ev_str (ev_name rfl) (by omega)) ev_str (by rw [slen]; omega)) (ev_name rfl) (by rw [slen, slen]; omega)) evs_nil))) (by show 3 ≤ sizeLine; decide)) (by show 4 + 3 ≤ sizeLine; decide)) ?_
  refine sx_freeze ?_
  rw [← List.map_append]
  refine sx_cons (s_comp (α := Str) (enc := fun x => .str x) (its := asked1 x ++ asked2 x) (p := fun _ => true) (g := fun want => .bool (ellF want row)) (src_list R'.handled (ev_name rfl)) (fun C a ha => tests_nil) (fun C want hm _ => ?_) (by show 7 ≤ sizeLine; decide)) ?_
  · exact ev_call R' (evs_cons (ev_name rfl) (evs_cons (ev_name rfl) evs_nil)) (ell_fn (List.all_eq_true.mp hok want hm) hg) (by k_dflt k_is) (by k_dflt k_is)
  have e1 : ((asked1 x ++ asked2 x).filter (fun _ => true)).map (fun want => PyData.bool (ellF want row)) = (toldL x row).map .bool := by
    rw [List.filter_eq_self.mpr (by simp), toldL, List.map_map]; rfl
  rw [e1]
  have l7 : (toldL x row).length = 7 := by simp [toldL, asked1, asked2]
  refine sx_cons (s_if (b := false) (tv_eq (tv_cmp (ev_comp (α := Bool) (enc := fun b => .bool b) (its := toldL x row) (p := fun _ => false) (g := fun b => .bool b) (src_list R'.handled (ev_name rfl)) (fun C b hb => tests_one ?_) (fun C b hb h => by cases h) (by rw [l7]; decide)) (ev_list (ds := []) evs_nil (by decide)) (cmp_ne R' (by rw [filter_ff]; rfl) rfl (Nat.le_trans (Nat.min_le_right _ _) (by decide)))) (by rw [filter_ff]; rfl)) (fun h => by cases h) (fun _ => sx_nil)) ?_
  · exact tv_eq (tv_and (tv_cmp (ev_name rfl) ev_bool cmp_isnotb) fun _ => tv_and (tv_cmp (ev_name rfl) ev_bool cmp_isnotb) fun _ => tv_and_nil) (by cases b <;> rfl)
  refine sx_ret (s_return (ev_eq (ev_add (ev_count (bs := (toldL x row).take 4) (ev_eq (ev_slice (kl := none) (ku := some 4) (ks := none) (ev_name rfl) trivial ev_int trivial (by decide) (by rw [List.length_map, l7]; decide)) (by rw [told_pick1 _ l7])) ev_bool) (ev_mul ev_int (ev_count (bs := (toldL x row).drop 4) (ev_eq (ev_slice (kl := some 4) (ku := none) (ks := none) (ev_name rfl) ev_int trivial trivial (by decide) (by rw [List.length_map, l7]; decide)) (by rw [told_pick2 _ l7])) ev_bool) (IntMulOk.of_left (by decide)))) rfl))
end Mine

open PySem PySem.W PyProof.Rows PySem.Calls
set_option Elab.async false
set_option maxRecDepth 100000
namespace Mine
example : (PySem.Challenge.rw_rl0110_01, hd0.heap_1) = (PySem.Challenge.rw_rl0110_01, hd0.heap_1) := by k_fill; rfl

theorem slot_search : Slot "re.Pattern" "search" "re.Pattern.search" :=
  .of (owner := "re.Pattern") (n := "search") (by rw [typeLookup_type, builtinLookup_eq_fast]; kernel_rfl) (by decide +kernel) (by decide +kernel) (by decide +kernel)
    (by first | exact .inl (by decide +kernel) | exact .inr (by decide +kernel)) (by rw [isSubtype_type]; kernel_rfl)
theorem type_search : typeOf (.builtin "re.Pattern.search") = pure (.type "method_descriptor") := by show builtinType _ = _; rw [builtinType_eq_fast]; kernel_rfl
theorem entry_search : entryFor table "re.Pattern.search" = some Builtin.«re.Pattern.search» := entryFor_of_tree (by kernel_rfl)
theorem args_search (a b : Value) : argsOk "re.Pattern.search" ⟨[a, b], []⟩ := by
  unfold argsOk; kernel_rfl
theorem plainAttrs_pattern : PlainAttrs "re.Pattern" :=
  ⟨⟨"object.__getattribute__", by rw [typeLookup_type, builtinLookup_eq_fast]; kernel_rfl, by decide +kernel⟩, by rw [typeLookup_type, builtinLookup_eq_fast]; kernel_rfl⟩

noncomputable def nameCode : List Nat := [14, 10, 4, 1, 1, 22, 0, 31, 16, 127, 0, 13, 7, 22, 0, 31, 16, 127, 0, 1]
noncomputable def valueCode : List Nat := [14, 14, 4, 1, 1, 9, 4294966783, 0, 0, 2147483648, 0, 0, 0, 0, 0, 13, 11, 9, 4294966783, 0, 0, 2147483648, 0, 0, 0, 0, 0, 1]

/-- a pattern that lies ready -/
structure PatAt (h : Heap) (p : Addr) (code : List Nat) : Prop where
  obj : ∃ fs T ws n, h.get? p = some { cls := .type "re.Pattern", data := .fields fs } ∧ fs.getD 5 .none = .ref T ∧ Builtin.Re.reRawNat (fs.getD 2 .none) = 0 ∧ Builtin.Re.reRawNat (fs.getD 6 .none) = 0 ∧
    h.get? T = some { cls := .type "tuple", data := .seq ws n } ∧ ((ws.map Builtin.Re.reRawOf).map (·.toNat)) = code.toArray
theorem PatAt.keeps {h h' : Heap} {p : Addr} {code : List Nat} (k : KeepsH h h') (x : PatAt h p code) : PatAt h' p code :=
  let ⟨fs, T, ws, n, a, b, c, d, e, f⟩ := x.obj; ⟨fs, T, ws, n, k _ _ a, b, c, d, k _ _ e, f⟩

noncomputable def mach (code : List Nat) (x : Str) : Sre.M := Sre.forSearch code.toArray x.cps 0 0 x.cps.size false

section
variable {w : World} {A : Around} {E : Value → Shared → Prop} {s : Shared}
theorem wp_target {p : Addr} {code : List Nat} {x : Str} {t : Tok} {Q : Builtin.Re.ReTarget → Shared → Prop} (hp : PatAt s.heap p code) (hx : (x.cps.size : Int) < 2 ^ 62)
    (h : Q { pattern := .ref p, string := .str x t, code := code.toArray, text := x.cps, kind := 0, groups := 0, pos := 0, lim := x.cps.size } s) :
    wpAny (model pr w) A (Builtin.Re.reTarget "re.Pattern.search" "search" ⟨[.ref p, .str x t], []⟩) Q E s := by
  obtain ⟨fs, T, ws, n, a, b, c, d, e, f⟩ := hp.obj
  have named : Builtin.Re.reNamed "re.Pattern.search" "search" ["string", "pos", "endpos"] 1 [.str x t] [] = pure [some (.str x t), none, none] := by rfl
  unfold Builtin.Re.reTarget
  simp only [named, pure_bind]
  refine wpAny_bind (wpAny_fieldsOf a rfl ?_)
  refine wpAny_bind (wpAny_pure ?_)
  simp only [d]
  show wpAny _ A (Builtin.Re.reNoCollectionInside _ 0 >>= _) _ _ _
  refine wpAny_bind (wpAny_pure ?_)
  rw [b]
  refine wpAny_bind (wpAny_bind (wpAny_seqItems e rfl (wpAny_pure ?_)))
  refine wpAny_pure ?_
  simp only [Option.getD_some, f, c]
  have e1 : min (Int.toNat 0) x.cps.size = 0 := by simp
  have e2 : min (Int.toNat (2 ^ 63 - 1)) x.cps.size = x.cps.size := by
    refine Nat.min_eq_right ?_; omega
  rw [e1, e2]; exact h

theorem drive_end {m m' : Sre.M} {n : Nat} {Q : Sre.M → Shared → Prop} (e : m.runFor 4 = m') (ho : m'.outcome.isSome = true) (h : Q m' s) : wpAny (model pr w) A (Builtin.Re.reDrive (n + 1) m) Q E s := by
  show wpAny _ A (if (m.runFor 4).outcome.isSome = true then pure (m.runFor 4) else _) _ _ _
  rw [e, if_pos ho]; exact wpAny_pure h
theorem drive_on {m m' : Sre.M} {n : Nat} {Q : Sre.M → Shared → Prop} (e : m.runFor 4 = m') (ho : m'.outcome.isSome = false) (h : wpAny (model pr w) A (Builtin.Re.reDrive n m') Q E s) : wpAny (model pr w) A (Builtin.Re.reDrive (n + 1) m) Q E s := by
  subst e
  show wpAny _ A (if (m.runFor 4).outcome.isSome = true then pure (m.runFor 4) else _) _ _ _
  rw [if_neg (by rw [ho]; decide)]; exact wpAny_bind (wpAny_rule h)

theorem rules_of {m : Sre.M} {l : List Nat} {Q : PUnit → Shared → Prop} (h : Q ⟨⟩ s) : wpAny (model pr w) A (forIn l PUnit.unit fun i _ => if m.seen.has i = true then (do rule (Sre.names.getD i ""); pure (ForInStep.yield PUnit.unit)) else pure (ForInStep.yield PUnit.unit) : Sem PUnit) Q E s := by
  induction l with
  | nil => exact wpAny_pure h
  | cons a l ih =>
    rw [List.forIn_cons]
    refine wpAny_bind ?_
    cases m.seen.has a with
    | true => exact wpAny_bind (wpAny_rule (wpAny_pure ih))
    | false => exact wpAny_pure ih

noncomputable def noHit (code : List Nat) (x : Str) : Bool := match ((mach code x).runFor 4).outcome with | some .failed => true | _ => false
noncomputable def hit2 (code : List Nat) (x : Str) : Bool := (((mach code x).runFor 4).outcome.isNone) && match (((mach code x).runFor 4).runFor 4).outcome with | some .matched => true | _ => false

theorem search_no {p : Addr} {code : List Nat} {x : Str} {t : Tok} {Q : Value → Shared → Prop} (hp : PatAt s.heap p code) (hx : (x.cps.size : Int) < 2 ^ 62) (hn : noHit code x = true) (h : Q .none s) :
    wpAny (model pr w) A (call (.builtin "re.Pattern.search") [.ref p, .str x t]) Q E s := by
  obtain ⟨fs, T, ws, n, a, _⟩ := hp.obj
  refine wpAny_call_entry slot_search ⟨_, a, rfl⟩ entry_search ?_ (args_search _ _)
  unfold Builtin.«re.Pattern.search»
  refine wpAny_bind (wp_target hp hx ?_)
  unfold Builtin.Re.reAnswer Builtin.Re.reRunToEnd
  unfold noHit at hn
  show wpAny _ A.in1 ((Builtin.Re.reDrive (2 ^ 64) (mach code x) >>= _) >>= _) _ _ _
  generalize hm : (mach code x).runFor 4 = m' at hn
  split at hn
  · rename_i ho
    have e64 : (2 : Nat) ^ 64 = (2 ^ 64 - 1) + 1 := by decide
    rw [e64]
    refine wpAny_bind (wpAny_bind (drive_end hm (by rw [ho]; rfl) (wpAny_bind (rules_of ?_))))
    rw [ho]
    exact wpAny_pure (wpAny_pure ⟨_, rfl, h⟩)
  · cases hn
end
end Mine

open PySem PySem.W PyProof.Rows PySem.Calls
set_option Elab.async false
set_option maxRecDepth 100000
namespace Mine
example : (PySem.Challenge.rw_rl0110_01, hd0.heap_1) = (PySem.Challenge.rw_rl0110_01, hd0.heap_1) := by k_fill; rfl

section
variable {w : World} {A : Around} {P₀ P O X : Addr → Prop} {env : Env} {ρ ρ' : Rho} {ω ω' : Omg} {pos : Pos}

theorem ev_bval {x : Str} {p : Pos} {v : Value} (hb : bootBuiltins x = some v) (hk : env.kindOf x = some .globalImplicit := by rfl) (hn : ∀ P, nsIn (hd0.heap_1 P) mainGlobals x = some none := by intro _; kernel_rfl) (hnm : x ≠ "__name__" := by decide) (hdb : (x == ("__debug__" : Str)) = false := by decide) : Ev w A env ρ (.Name x p) (.val v) :=
  fun P s Q E ok hQ => bname ok hk (hn _) hb (hQ _ _ (Keeps.rf _) .val) hnm hdb
theorem ev_gval {x : Str} {p : Pos} {v : Value} (hn : nsIn (hd0.heap_1 w.params) mainGlobals x = some (some v)) (hk : env.kindOf x = some .globalImplicit := by rfl) (hdb : (x == ("__debug__" : Str)) = false := by decide) : Ev w A env ρ (.Name x p) (.val v) :=
  fun P s Q E ok hQ => gname ok hk hn (hQ _ _ (Keeps.rf _) .val) hdb

noncomputable def tyD : PyData → String
  | .none => "NoneType"
  | .bool _ => "bool"
  | .int _ => "int"
  | .str _ => "str"
  | .list _ => "list"
  | .tuple _ => "tuple"
  | .dict _ => "dict"
theorem ev_type {p : Pos} {e : Expr} {d : PyData} (h : Ev w A env ρ e (.py d)) (hk : env.kindOf (Str.ofString "type") = some .globalImplicit := by rfl) (hn : ∀ P, nsIn (hd0.heap_1 P) mainGlobals (Str.ofString "type") = some none := by intro _; kernel_rfl)
    (hs : starEach [e] env = [(false, eval e env)] := by rfl) : Ev w A env ρ (.Call (.Name (Str.ofString "type") p) [e] [] pos) (.val (.type (tyD d))) := by
  intro P s Q E ok hQ
  refine PyProof.Rows.Call_Name1 (bname ok hk (hn _) PyProof.Rows.boot_type ?_) hs
  refine PySem.callWith_type1 (h P s _ _ ok fun v s₁ k₁ r => ?_)
  have hQ' := hQ (.type (tyD d)) s₁ k₁ .val
  cases r with | py r =>
    cases r with
    | none => exact call_type_of (typeIs_none _) (by decide) hQ'
    | bool b => exact call_type_of (PyProof.Rows.typeIs_bool _ _) (by decide) hQ'
    | int i t => exact call_type_of (typeIs_int _ _ _) (by decide) hQ'
    | str x t => exact call_type_of (typeIs_str _ _ _) (by decide) hQ'
    | list p g q => exact call_type_of ⟨_, g, rfl⟩ (by decide) hQ'
    | tuple g q => exact call_type_of ⟨_, g, rfl⟩ (by decide) hQ'

theorem cmp_is_ty {T U : String} : CmpR w A .Is (.val (.type T)) (.val (.type U)) (Value.type T == Value.type U) := by
  intro P s v₁ v₂ Q E r₁ r₂ hQ
  cases r₁; cases r₂; exact wpAny_is_plain (by rfl) (hQ s (Keeps.rf _))
theorem cmp_isnot_ty {T U : String} : CmpR w A .IsNot (.val (.type T)) (.val (.type U)) (!(Value.type T == Value.type U)) := by
  intro P s v₁ v₂ Q E r₁ r₂ hQ
  cases r₁; cases r₂; exact wpAny_isNot_plain (by rfl) (hQ s (Keeps.rf _))

theorem pat_name {h : Heap} (B : Base w h) : PatAt h 41 nameCode :=
  ⟨_, _, _, _, B.K _ _ (by k_dflt k_is), rfl, rfl, rfl, B.K _ _ (by k_dflt k_is), by decide +kernel⟩
theorem pat_value {h : Heap} (B : Base w h) : PatAt h 46 valueCode :=
  ⟨_, _, _, _, B.K _ _ (by k_dflt k_is), rfl, rfl, rfl, B.K _ _ (by k_dflt k_is), by decide +kernel⟩

theorem ev_search {o e : Expr} {ap : Pos} {p : Addr} {code : List Nat} {x : Str} (hP : ∀ h, Base w h → PatAt h p code) (ho : Ev w A env ρ o (.val (.ref p))) (he : Ev w A env ρ e (.py (.str x))) (hx : x.length ≤ 1000000) (hn : noHit code x = true)
    (hbase : attributeBase o "search" env (eval o env) = eval o env := by rfl) (hline : (ap.endLine == pos.line) = true := by rfl) (hs : starEach [e] env = [(false, eval e env)] := by rfl) :
    Ev w A env ρ (.Call (.Attribute o (Str.ofString "search") ap) [e] [] pos) (.py .none) := by
  intro P s Q E ok hQ
  refine Call_method1 hbase hs hline (ho P s _ _ ok fun v s₁ k₁ r => ?_)
  cases r
  obtain ⟨fs, T, ws, n, a, _⟩ := (hP _ (ok.base.keeps (Keeps.hp k₁))).obj
  refine ⟨"re.Pattern", "re.Pattern.search", plainAttrs_pattern, slot_search, type_search, ⟨_, a, rfl⟩, (fun _ e => by cases e; exact ⟨_, a, rfl⟩), ?_⟩
  refine Calls.callWith_builtin rfl (Calls.evalArgs_plain (Calls.spliced_cons (he P s₁ _ _ (ok.keeps (Keeps.hp k₁)) fun v s₂ k₂ r₂ => Calls.spliced_nil ?_)))
  cases r₂ with | py r₂ => cases r₂ with | str _ u =>
    have hx' : (x.cps.size : Int) < 2 ^ 62 := by have : x.length = x.cps.size := rfl; omega
    exact search_no (hP _ (ok.base.keeps (Keeps.hp (Keeps.tr k₁ k₂)))) hx' hn (hQ _ _ (Keeps.tr k₁ k₂) (.py .none))
end

noncomputable def BindsL (P : Addr → Prop) (h : Heap) : Rho → List (Str × Value) → Prop
  | [], _ => True
  | p :: r, b => (∃ v, b.lookup p.1 = some v ∧ RdT P h v p.2) ∧ BindsL P h r b
theorem binds_of {P : Addr → Prop} {h : Heap} : ∀ {ρ : Rho} {b : List (Str × Value)}, BindsL P h ρ b → ∀ y d, ρ.lookup y = some d → ∃ v, b.lookup y = some v ∧ RdT P h v d
  | [], _, _, y, d, e => by simp at e
  | (n, d') :: r, b, ⟨x, xs⟩, y, d, e => by
    rw [List.lookup_cons] at e
    cases hy : y == n with
    | true => rw [hy] at e; cases e; rw [beq_iff_eq.mp hy]; exact x
    | false => rw [hy] at e; exact binds_of xs y d e

/-- the keyword call self._convert_string_type(x, name=b), from the def's side -/
noncomputable def ConvFn (w : World) (x : Str) (b : Bool) : Prop :=
  ∀ (A : Around) (P : Addr → Prop) (s : Shared) (Q E : Value → Shared → Prop) (self v : Value), Room A 1 → Base w s.heap → (∃ base outer, Below A base outer s.heap) → RdT P s.heap v (.py (.str x)) →
    (∀ v s', Keeps s s' → RdT (Up P s.heap) s'.heap v (.py (.str x)) → Q v s') → wpAny (model pr w) A (call (.ref 76) [self, v] [(Str.ofString "name", .bool b)]) Q E s

noncomputable def reOf (b : Bool) : List Nat := if b then nameCode else valueCode
set_option maxHeartbeats 4000000 in
theorem conv_fn {w : World} {x : Str} {b : Bool} (hx : x.length ≤ 1000000) (hn : noHit (reOf b) x = true) : ConvFn w x b := by
  intro A P s Q E self v R B bl r hQ
  refine wpAny_call ?_
  refine fn_enter (k := 0) (ρ := [(Str.ofString "value", .py (.str x)), (Str.ofString "name", .py (.bool b))]) R B bl (by k_dflt k_is) (by k_dflt k_is) (BindsTo.of_eq rfl) (by rfl) (by exact (by decide : [Str.ofString "self", Str.ofString "value", Str.ofString "name"].Nodup)) ?_ (by rfl) (by rfl) (by rfl) (fun L R' => ?_) hQ
  · exact binds_of ⟨⟨_, rfl, r⟩, ⟨_, rfl, .py (.bool _)⟩, trivial⟩
  revert R'
  generalize A.deeper _ = A'
  intro R'
  refine sx_ret (s_if (b := true) (tv_eq (tv_cmp (ev_type (ev_name rfl)) (ev_bval PyProof.Rows.boot_str) cmp_is_ty) (by rfl)) (fun _ => ?_) (fun h => by cases h))
  refine sx_cons (s_assign (d := .val (.ref (if b then 41 else 46))) (ev_ifexp (b := b) (tv_plain (d := .bool b) (ev_name rfl) trivial) (fun hb => ev_eq (ev_gval (v := .ref 41) (by k_dflt k_is)) (by rw [hb]; rfl)) (fun hb => ev_eq (ev_gval (v := .ref 46) (by k_dflt k_is)) (by rw [hb]; rfl)))) ?_
  refine sx_cons (s_if (b := false) (tv_plain (ev_search (code := reOf b) (fun h B => ?_) (ev_name rfl) (ev_name rfl) hx hn) trivial) (fun h => by cases h) (fun _ => sx_nil)) ?_
  · cases b
    · exact pat_value B
    · exact pat_name B
  exact sx_ret (s_return (ev_name rfl))
end Mine

open PySem PySem.W PyProof.Rows PySem.Calls
set_option Elab.async false
set_option maxRecDepth 100000
namespace Mine
example : (PySem.Challenge.rw_rl0110_01, hd0.heap_1) = (PySem.Challenge.rw_rl0110_01, hd0.heap_1) := by k_fill; rfl

section
variable {w : World} {A : Around} {P₀ P O X : Addr → Prop} {env : Env} {ρ ρ' : Rho} {ω ω' : Omg} {pos : Pos}

theorem HdrAt.inst' {h : Heap} {a dd l ps} (x : HdrAt h a dd l ps) : ∃ es n, InstAt h a (instObj hdrCls dd) hdrCls (some (dictOf es n)) ∧ hdrEs es l :=
  let ⟨es, n, e, q⟩ := x.dict; ⟨es, n, ⟨x.inst, rfl, rfl, e⟩, q⟩

theorem hdr_ga : findIn (hd0.heap_1 w.params) (.ref hdrCls) "__getattribute__" = some (some (.builtin "object.__getattribute__")) := by k_dflt k_is
theorem hdr_gt : findIn (hd0.heap_1 w.params) (.ref hdrCls) "__getattr__" = some none := by k_dflt k_is
theorem hdr_own : findIn (hd0.heap_1 w.params) (.ref hdrCls) "_headers" = some none := by k_dflt k_is
theorem hdr_hd : hasDictIn (hd0.heap_1 w.params) hdrCls = true := by k_dflt k_is

theorem hmethod {s : Shared} {E : Value → Shared → Prop} {a dd l f : Addr} {es : List DictEntry} {n : Nat} {name : Str} {pl : Sem Bool} {Q : Value × List Value → Shared → Prop} (B : Base w s.heap) (I : InstAt s.heap a (instObj hdrCls dd) hdrCls (some (dictOf es n))) (he : hdrEs es l)
    (hf : findIn (hd0.heap_1 w.params) (.ref hdrCls) name = some (some (.ref f))) (ht : typeIn (hd0.heap_1 w.params) (.ref f) = some (.type "function")) (hne : name ≠ Str.ofString "_headers") (h : Q (.ref f, [.ref a]) s) :
    wpAny (model pr w) A (getMethod (.ref a) name pl) Q E s :=
  method_fn B.K I hdr_ga hdr_gt hf ht (by show (lookIn name (dictOf es n)).map _ = _; rw [lookIn_dict, he name, if_neg hne]; rfl) h

/-- what self._headers reads as -/
noncomputable def prD (p : Str × Str) : PyData := .tuple [.str p.1, .str p.2]
theorem prs_rd {P : Addr → Prop} {h : Heap} : ∀ {vs : List Value} {ps : List (Str × Str)}, Prs h vs ps → RdAll P h vs (ps.map prD)
  | _, _, .nil => .nil
  | _, _, .cons e r => .cons (.tuple e (.cons (.str _ _) (.cons (.str _ _) .nil))) (prs_rd r)

theorem ev_headers {x : Str} {xp ap : Pos} {ps : List (Str × Str)} (ho : Ev w A env ρ (.Name x xp) (.hdr ps))
    (he : eval (.Attribute (.Name x xp) (Str.ofString "_headers") ap) env = (do
      let o ← eval (.Name x xp) env
      standAt ap.atName
      let r ← holding [o] (getAttr o (Str.ofString "_headers") true)
      letTemporaryGo (.Name x xp) o r
      pure r) := by with_unfolding_all rfl) : Ev w A env ρ (.Attribute (.Name x xp) (Str.ofString "_headers") ap) (.py (.list (ps.map prD))) := by
  intro P s Q E ok hQ
  refine Attribute_Name_ (ho P s _ _ ok fun v s₁ k₁ r => ?_) he
  cases r with | hdr pa pd pl x =>
    rename_i a dd l
    obtain ⟨es, n, I, he⟩ := x.inst'
    have B := ok.base.keeps (Keeps.hp k₁)
    refine get_value (v := .ref l) B.K I hdr_ga (findObj_own hdr_hd hdr_own rfl (by rw [lookIn_dict, he, if_pos rfl])) rfl ?_
    obtain ⟨vs, n', e, q⟩ := x.items
    exact hQ _ _ (Keeps.tr k₁ (Keeps.tok _ _)) (.py (.list pl e (prs_rd q)))

/-- a method of a Headers object -/
theorem ev_hmeth {o e : Expr} {es : List Expr} {name : Str} {ap : Pos} {ps : List (Str × Str)} {f : Addr} {k : Nat} {ds : List Dt} {d : Dt} {pl : Sem Bool} (R : Room A k) (ho : Ev w A env ρ o (.hdr ps)) (hes : Evs w A env ρ (e :: es) ds) (hfn : Fn w k f (.hdr ps :: ds) d)
    (hf : findIn (hd0.heap_1 w.params) (.ref hdrCls) name = some (some (.ref f))) (ht : typeIn (hd0.heap_1 w.params) (.ref f) = some (.type "function")) (hfi : fnIn (hd0.heap_1 w.params) f = true) (hne : name ≠ Str.ofString "_headers" := by decide)
    (hb : backTo pos (starEach (e :: es) env) = starEach (e :: es) env := by rfl) (hb' : starEach (e :: es) env = (false, eval e env) :: starEach es env := by rfl)
    (hcall : eval (.Call (.Attribute o name ap) (e :: es) [] pos) env = (do
      let ov ← eval o env
      standAt ap.atName
      let (f, first) ← holding [ov] (getMethod ov name pl)
      callWith pos f first (backTo pos (starEach (e :: es) env)) (backToKw pos (keywordEach [] env))) := by rfl) : Ev w A env ρ (.Call (.Attribute o name ap) (e :: es) [] pos) d := by
  intro P s Q E ok hQ
  refine methodCall_KW (ho P s _ _ ok fun v s₁ k₁ r => ?_) hcall
  cases r with | hdr pa pd pl x =>
    rename_i a dd l
    obtain ⟨es', n, I, he⟩ := x.inst'
    have B := ok.base.keeps (Keeps.hp k₁)
    refine hmethod B I he hf ht hne ?_
    obtain ⟨o', fd, ho', hdt⟩ : ∃ o fd, (hd0.heap_1 w.params).lookup f = some o ∧ o.data = .func fd := by
      unfold fnIn at hfi
      split at hfi
      · rename_i fd _ q; exact ⟨_, _, q, rfl⟩
      · cases hfi
    refine callWith_function (o := o') (fd := fd) ?_
    have h := hes P s₁
    rw [hb'] at h
    rw [hb, hb']
    refine Calls.evalArgs_plain (h _ _ (ok.keeps (Keeps.hp k₁)) fun vs s₂ k₂ r₂ => ⟨⟨(B.keeps (Keeps.hp k₂)).K _ _ ho', hdt⟩, ?_⟩)
    have k' := Keeps.tr k₁ k₂
    refine hfn A (Up P s.heap) s₂ Q E (.ref a :: vs) R (ok.base.keeps (Keeps.hp k')) (let ⟨b, l, x⟩ := ok.bel; ⟨b, l, below_keeps (Keeps.hp k') x⟩) (.cons (.hdr pa pd pl (x.keeps (Keeps.hp k₂))) (r₂.mono (fun _ _ e => e) fun a _ _ p => up_mono (Keeps.hp k₁) a p)) fun v s₃ k₃ r₃ => hQ v s₃ (Keeps.tr k' k₃) (r₃.mono (fun _ _ e => e) fun a _ _ p => up_up (Keeps.hp k') a p)

noncomputable def IsH (d : Dt) : Prop := (∃ ps, d = .hdr ps) ∨ ∃ a, d = .box a
theorem RdT.isH {P : Addr → Prop} {h : Heap} {v : Value} {d : Dt} (r : RdT P h v d) (q : IsH d) : ∃ a dd es n l, v = .ref a ∧ InstAt h a (instObj hdrCls dd) hdrCls (some (dictOf es n)) ∧ hdrEs es l := by
  rcases q with ⟨ps, rfl⟩ | ⟨a, rfl⟩
  · cases r with | hdr pa pd pl x =>
      obtain ⟨es, n, I, he⟩ := x.inst'
      exact ⟨_, _, es, n, _, rfl, I, he⟩
  · cases r with | box pa pd i d e => exact ⟨_, _, _, _, _, rfl, ⟨i, rfl, rfl, d⟩, e⟩
/-- self._convert_string_type(e, name=b) -/
theorem ev_conv {o e : Expr} {ap kp : Pos} {dS : Dt} {x : Str} {b : Bool} {k : Nat} {pl : Sem Bool} (R : Room A (k + 1)) (ho : Ev w A env ρ o dS) (he : Ev w A env ρ e (.py (.str x))) (hc : ConvFn w x b) {ke : Expr} (hke : Ev w A env ρ ke (.py (.bool b)))
    (hS : IsH dS := by first | exact .inl ⟨_, rfl⟩ | exact .inr ⟨_, rfl⟩)
    (hb : backTo pos (starEach [e] env) = [(false, eval e env)] := by rfl)
    (hkw : backToKw pos (keywordEach [⟨some (Str.ofString "name"), ke, kp⟩] env) = [(some (Str.ofString "name"), do let v ← eval ke env; standAt pos; pure v)] := by rfl)
    (hcall : eval (.Call (.Attribute o (Str.ofString "_convert_string_type") ap) [e] [⟨some (Str.ofString "name"), ke, kp⟩] pos) env = (do
      let ov ← eval o env
      standAt ap.atName
      let (f, first) ← holding [ov] (getMethod ov (Str.ofString "_convert_string_type") pl)
      callWith pos f first (backTo pos (starEach [e] env)) (backToKw pos (keywordEach [⟨some (Str.ofString "name"), ke, kp⟩] env))) := by rfl) : Ev w A env ρ (.Call (.Attribute o (Str.ofString "_convert_string_type") ap) [e] [⟨some (Str.ofString "name"), ke, kp⟩] pos) (.py (.str x)) := by
  intro P s Q E ok hQ
  refine methodCall_KW (ho P s _ _ ok fun v s₁ k₁ r => ?_) hcall
  · obtain ⟨a, dd, es', n, l, rfl, I, he'⟩ := r.isH hS
    have B := ok.base.keeps (Keeps.hp k₁)
    refine hmethod (f := 76) B I he' (by k_dflt k_is) (by k_dflt k_is) (by decide) ?_
    rw [hb, hkw]
    obtain ⟨o', fd, ho', hdt⟩ : ∃ o fd, (hd0.heap_1 w.params).lookup 76 = some o ∧ o.data = .func fd := ⟨_, _, by k_dflt k_is, rfl⟩
    refine callWith_function_kw (o := o') (fd := fd) (evalArgs_kw rfl (Calls.spliced_cons (he P s₁ _ _ (ok.keeps (Keeps.hp k₁)) fun v s₂ k₂ r₂ => Calls.spliced_nil ?_)))
    have k' := Keeps.tr k₁ k₂
    refine wpAny_evalAll_cons (wpAny_bind (hke P s₂ _ _ (ok.keeps (Keeps.hp k')) fun kv s₃ k₃ r₃ => wpAny_bind (wpAny_standAt (wpAny_pure (wpAny_evalAll_nil ?_)))))
    have ekv : kv = .bool b := by cases r₃ with | py r => cases r; rfl
    subst ekv
    have k'' := Keeps.tr k' k₃
    refine ⟨⟨(B.keeps (Keeps.hp (Keeps.tr k₂ k₃))).K _ _ ho', hdt⟩, ?_⟩
    refine hc A (Up P s.heap) s₃ Q E (.ref a) v (R.le (by omega)) (ok.base.keeps (Keeps.hp k'')) (let ⟨b, l, x⟩ := ok.bel; ⟨b, l, below_keeps (Keeps.hp k'') x⟩) (r₂.mono (Keeps.hp k₃) fun a _ _ p => up_mono (Keeps.hp k₁) a p) fun v s₄ k₄ r₄ => hQ v s₄ (Keeps.tr k'' k₄) (r₄.mono (fun _ _ e => e) fun a _ _ p => up_up (Keeps.hp k'') a p)
end
end Mine

open PySem PySem.W PyProof.Rows PySem.Calls
set_option Elab.async false
set_option maxRecDepth 100000
namespace Mine
example : (PySem.Challenge.rw_rl0110_01, hd0.heap_1) = (PySem.Challenge.rw_rl0110_01, hd0.heap_1) := by k_fill; rfl

section
variable {w : World} {A : Around} {P₀ P O X : Addr → Prop} {env : Env} {ρ ρ' : Rho} {ω ω' : Omg} {pos : Pos}

theorem go_plain {s : Shared} {E : Value → Shared → Prop} {elts : List Expr} {x1 : Nat} {tp : Pos} {I T : Addr} {Q : Unit → Shared → Prop} {o : Obj} {vs : Array Value} (hI : s.heap.get? I = some o) (hd : o.data = .fields vs) (hc : o.cls = .type "list_iterator" ∨ o.cls = .type "range_iterator") (hQ : Q () s) :
    wpAny (model pr w) A (letOwnedTupleGo (.Tuple elts x1 tp) (.ref I) (.ref T)) Q E s := by
  unfold letOwnedTupleGo
  refine wpAny_bind (wpAny_load hI ?_)
  rw [hd]
  rcases hc with hc | hc
  all_goals
    rw [hc]
    dsimp only
    rw [if_neg (by
      intro h
      have := (Bool.and_eq_true_iff.mp h).1
      revert this; decide)]
    exact wpAny_pure hQ

theorem asg_pair {x y : Str} {px py tp : Pos} {k : Nat} {a b : Str} (hh : A.handled = none) (hx : env.kindOf x = some .local) (hy : env.kindOf y = some .local) (hωx : ∀ z ds, ω = some (z, ds) → z ≠ x) (hωy : ∀ z ds, ω = some (z, ds) → z ≠ y) :
    Asg w A env ω (.Tuple [.Name x px, .Name y py] k tp) (.tuple [.str a, .str b]) fun ρ => (y, .py (.str b)) :: (x, .py (.str a)) :: ρ := by
  intro P₀ P O X s ρ Q E v I f r hI h
  obtain ⟨o, vs, e, d, c⟩ := hI
  cases r with | tuple g q => cases q with | cons q1 q => cases q with | cons q2 q => cases q with | nil =>
    cases q1 with | str _ t => cases q2 with | str _ u =>
    rename_i T n
    refine go_plain e d c ?_
    refine assign_Tuple_tuple (items := #[.str a t, .str b u]) hh ⟨_, g, rfl, n, rfl⟩ rfl rfl fun h' he => ?_
    have k2 : Keeps s { s with heap := h' } := ⟨h', _, rfl, fun b o e => he b o (fun z => by rw [z, fresh_size] at e; cases e) e⟩
    show wpAny _ A (do holding [.str b u] (assign (.Name x px) env (.str a t)); (do holding [] (assign (.Name y py) env (.str b u)); pure ())) _ _ _
    refine wpAny_bind (wpAny_holding (wpAny_assign_Name (fs_store (s := { s with heap := h' }) (f.keeps (Keeps.hp k2)) (.inl hx) (d := .py (.str a)) (.py (.str _ _)) hωx fun s₂ p₂ => ?_)))
    obtain ⟨P', O', f₂, hp, ho⟩ := p₂.fs
    refine wpAny_bind (wpAny_holding (wpAny_assign_Name (fs_store f₂ (.inl hy) (d := .py (.str b)) (.py (.str _ _)) hωy fun s₃ p₃ => wpAny_pure (h _ ?_))))
    exact (OutOk.behind (o := .next _ _) (fl := .next) (Post.kp f k2) (f.keeps (Keeps.hp k2)) (fun _ _ _ p => p) (fun _ _ _ p => p) (OutOk.behind p₂ f₂ hp ho ⟨rfl, p₃⟩)).2
end

noncomputable def getF (ps : List (Str × Str)) (n : Str) : Option Str := (ps.find? fun p => Txt.lower p.1 == n).map (·.2)
noncomputable def optD : Option Str → PyData
  | some x => .str x
  | none => .none

theorem first_hit (p : Nat → Bool) : ∀ n, (∀ i < n, p i = false) ∨ ∃ j, j < n ∧ (∀ i < j, p i = false) ∧ p j = true
  | 0 => .inl fun _ h => absurd h (by omega)
  | n + 1 => by
    rcases first_hit p n with h | ⟨j, h1, h2, h3⟩
    · cases hn : p n with
      | false =>
        refine .inl fun i hi => ?_
        by_cases e : i = n
        · rw [e]; exact hn
        · exact h i (by omega)
      | true => exact .inr ⟨n, by omega, h, hn⟩
    · exact .inr ⟨j, by omega, h2, h3⟩

theorem find_first {α : Type} (p : α → Bool) : ∀ (l : List α), (l.find? p = none ∧ ∀ (i : Nat) a, l[i]? = some a → p a = false) ∨ ∃ (j : Nat) (a : α), l[j]? = some a ∧ l.find? p = some a ∧ p a = true ∧ ∀ (i : Nat) b, i < j → l[i]? = some b → p b = false
  | [] => .inl ⟨rfl, fun i a h => by simp at h⟩
  | x :: l => by
    cases hx : p x with
    | true => exact .inr ⟨0, x, rfl, by simp [hx], hx, fun i b h => by omega⟩
    | false =>
      rcases find_first p l with ⟨h1, h2⟩ | ⟨j, a, h1, h2, h3, h4⟩
      · refine .inl ⟨by simp [hx, h1], fun i a h => ?_⟩
        cases i with
        | zero => simp at h; rw [← h]; exact hx
        | succ i => exact h2 i a (by simpa using h)
      · refine .inr ⟨j + 1, a, by simpa using h1, by simp [hx, h2], h3, fun i b hi h => ?_⟩
        cases i with
        | zero => simp at h; rw [← h]; exact hx
        | succ i => exact h4 i b (by omega) (by simpa using h)

set_option maxHeartbeats 4000000 in
/-- Headers.get(name) -/
theorem get_fn {w : World} {ps : List (Str × Str)} {n : Str} (hn : n.length ≤ 100000) (hl : (Txt.lower n).length ≤ 1000000) (hc : noHit nameCode (Txt.lower n) = true) (hp : ∀ p ∈ ps, p.1.length ≤ 100000) : Fn w 2 122 [.hdr ps, .py (.str n)] (.py (optD (getF ps (Txt.lower n)))) := by
  intro A P s Q E vs R B bl r hQ
  obtain ⟨v₁, v₂, rfl, r₁, r₂⟩ := r.two
  refine wpAny_call ?_
  refine fn_enter (k := 1) (ρ := [(Str.ofString "self", .hdr ps), (Str.ofString "name", .py (.str n)), (Str.ofString "default", .py .none)]) (binds := [(Str.ofString "self", v₁), (Str.ofString "name", v₂), (Str.ofString "default", .none)]) R B bl (by k_dflt k_is) (by k_dflt k_is) ?_ (by rfl) (by exact (by decide : [Str.ofString "self", Str.ofString "name", Str.ofString "default"].Nodup)) ?_ (by rfl) (by rfl) (by rfl) (fun L R' => ?_) hQ
  · exact binds_K B.K rfl (by k_dflt k_is) rfl rfl rfl
  · exact binds_of ⟨⟨_, rfl, r₁⟩, ⟨_, rfl, r₂⟩, ⟨_, rfl, .py .none⟩, trivial⟩
  revert R'
  generalize A.deeper _ = A'
  intro R'
  refine sx_cons (s_assign (ev_conv R' (ev_name rfl) (ev_lower (ev_name rfl) (by omega)) (conv_fn (b := true) hl hc) ev_bool)) ?_
  rcases find_first (fun p : Str × Str => Txt.lower p.1 == Txt.lower n) ps with ⟨h1, h2⟩ | ⟨j, p, h1, h2, h3, h4⟩
  · have e : getF ps (Txt.lower n) = none := by simp [getF, h1]
    rw [e]
    refine sx_cons (s_for_any (α := Str × Str) (enc := prD) (its := ps) (ext := fun p ρ => (Str.ofString "v", .py (.str p.2)) :: (Str.ofString "k", .py (.str p.1)) :: ρ) (fun _ => [(Str.ofString "name", .py (.str (Txt.lower n))), (Str.ofString "default", .py .none)]) (fun _ => none) ps.length
      (src_list R'.handled (ev_headers (ev_name rfl))) (sub_of ⟨rfl, rfl, trivial⟩) rfl (fun i a hi ha => ?_) (Nat.le_refl _) (.all rfl sx_nil) (fun i a ha => asg_pair R'.handled rfl rfl (fun _ _ e => by cases e) (fun _ _ e => by cases e))) (sx_ret (s_return (ev_name rfl)))
    have := hp a (List.mem_of_getElem? ha)
    exact ⟨_, sx_cons (s_if (b := false) (tv_eq (tv_cmp (ev_lower (ev_name rfl) (by omega)) (ev_name rfl) cmp_eqs) (h2 i a ha)) (fun h => by cases h) (fun _ => sx_nil)) sx_nil, sub_of ⟨rfl, rfl, trivial⟩⟩
  · have e : getF ps (Txt.lower n) = some p.2 := by simp [getF, h2]
    rw [e]
    refine sx_ret (s_for_any (α := Str × Str) (enc := prD) (its := ps) (ext := fun p ρ => (Str.ofString "v", .py (.str p.2)) :: (Str.ofString "k", .py (.str p.1)) :: ρ) (fun _ => [(Str.ofString "name", .py (.str (Txt.lower n))), (Str.ofString "default", .py .none)]) (fun _ => none) j
      (src_list R'.handled (ev_headers (ev_name rfl))) (sub_of ⟨rfl, rfl, trivial⟩) rfl (fun i a hi ha => ?_) (Nat.le_of_lt (List.getElem?_eq_some_iff.mp h1).1) (.ret h1 ?_) (fun i a ha => asg_pair R'.handled rfl rfl (fun _ _ e => by cases e) (fun _ _ e => by cases e)))
    · have := hp a (List.mem_of_getElem? ha)
      exact ⟨_, sx_cons (s_if (b := false) (tv_eq (tv_cmp (ev_lower (ev_name rfl) (by omega)) (ev_name rfl) cmp_eqs) (h4 i a hi ha)) (fun h => by cases h) (fun _ => sx_nil)) sx_nil, sub_of ⟨rfl, rfl, trivial⟩⟩
    · have := hp p (List.mem_of_getElem? h1)
      exact sx_ret (s_if (b := true) (tv_eq (tv_cmp (ev_lower (ev_name rfl) (by omega)) (ev_name rfl) cmp_eqs) h3) (fun _ => sx_ret (s_return (ev_name rfl))) (fun h => by cases h))
end Mine

open PySem PySem.W PyProof.Rows PySem.Calls
set_option Elab.async false
set_option maxRecDepth 100000
namespace Mine
example : (PySem.Challenge.rw_rl0110_01, hd0.heap_1) = (PySem.Challenge.rw_rl0110_01, hd0.heap_1) := by k_fill; rfl

theorem seq_nat {k : Int} {n : Nat} (h0 : 0 ≤ k) (h : k.toNat < n) : seqIndex? k n = some k.toNat := by
  unfold seqIndex?
  have e : ¬ k < 0 := by omega
  simp only [e, if_false]
  have : (decide (0 ≤ k) && decide (k < n)) = true := by simp; omega
  rw [if_pos this]

section
variable {w : World} {A : Around} {P₀ P O X : Addr → Prop} {env : Env} {ρ ρ' : Rho} {ω ω' : Omg} {pos : Pos}
theorem ev_titem {e i : Expr} {ds : List PyData} {k : Int} {d : PyData} (h : Ev w A env ρ e (.py (.tuple ds))) (hi : Ev w A env ρ i (.py (.int k))) (h0 : 0 ≤ k) (h1 : k < 2 ^ 63) (hx : ds[k.toNat]? = some d)
    (hs : ∀ a k u, ∃ ops, subscripted i false (.ref a) (.int k u) = operate ops (getItem (.ref a) (.int k u)) := by intro _ _ _; exact ⟨_, by with_unfolding_all rfl⟩) : Ev w A env ρ (.Subscript e i pos) (.py d) := by
  intro P s Q E ok hQ
  refine Subscript_ (ev_two ok h hi fun v₁ v₂ s' k' r₁ r₂ => ?_)
  cases r₁ with | py r₁ => cases r₁ with | tuple g q => cases r₂ with | py r₂ => cases r₂ with | int _ t =>
    obtain ⟨x, hx1, hx2⟩ := q.get _ _ hx
    obtain ⟨ops, e⟩ := hs _ k t
    exact tail_any (T := "tuple") ⟨_, g, rfl⟩ PyProof.Rows.slot_tuple_getitem.lookup (getItem_tuple (j := k.toNat) ⟨_, g, rfl, _, rfl⟩ (by omega) (by omega) (seq_nat h0 (by rw [List.size_toArray]; exact (List.getElem?_eq_some_iff.mp hx1).1)) (by simpa using hx1) (hQ _ _ k' (.py hx2))) e
end

noncomputable def allF (ps : List (Str × Str)) (n : Str) : List Str := (ps.filter fun p => Txt.lower p.1 == n).map (·.2)
set_option maxHeartbeats 4000000 in
/-- Headers.get_all(name) -/
theorem getall_fn {w : World} {ps : List (Str × Str)} {n : Str} (hn : n.length ≤ 100000) (hl : (Txt.lower n).length ≤ 1000000) (hc : noHit nameCode (Txt.lower n) = true) (hp : ∀ p ∈ ps, p.1.length ≤ 100000) (hps : ps.length ≤ 1000) : Fn w 2 114 [.hdr ps, .py (.str n)] (.py (.list ((allF ps (Txt.lower n)).map .str))) := by
  intro A P s Q E vs R B bl r hQ
  obtain ⟨v₁, v₂, rfl, r₁, r₂⟩ := r.two
  refine wpAny_call ?_
  refine fn_enter (k := 1) R B bl (by k_dflt k_is) (by k_dflt k_is) (BindsTo.of_eq rfl) (by rfl) (by exact (by decide : [Str.ofString "self", Str.ofString "name"].Nodup)) (lookup2 (x := Str.ofString "self") (y := Str.ofString "name") r₁ r₂) (by rfl) (by rfl) (by rfl) (fun L R' => ?_) hQ
  revert R'
  generalize A.deeper _ = A'
  intro R'
  refine sx_cons (s_assign (ev_conv R' (ev_name rfl) (ev_lower (ev_name rfl) (by omega)) (conv_fn (b := true) hl hc) ev_bool)) ?_
  refine sx_ret (s_return (ev_eq (ev_comp (α := Str × Str) (enc := prD) (its := ps) (p := fun p => Txt.lower p.1 == Txt.lower n) (g := fun p => .str p.2) (src_list R'.handled (ev_headers (ev_name rfl))) (fun C p hm => tests_one ?_) (fun C p hm _ => ev_titem (ds := [.str p.1, .str p.2]) (ev_name rfl) ev_int (by decide) (by decide) rfl) (by have : sizeLine = 2^24 := rfl; omega)) (by simp [allF])))
  have := hp p hm
  exact tv_eq (tv_cmp (ev_lower (ev_titem (ds := [.str p.1, .str p.2]) (ev_name rfl) ev_int (by decide) (by decide) rfl) (by omega)) (ev_name rfl) cmp_eqs) rfl
end Mine

open PySem PySem.W PyProof.Rows PySem.Calls
set_option Elab.async false
set_option maxRecDepth 100000
namespace Mine
example : (PySem.Challenge.rw_rl0110_01, hd0.heap_1) = (PySem.Challenge.rw_rl0110_01, hd0.heap_1) := by k_fill; rfl
section
variable {w : World} {A : Around} {env : Env} {ρ : Rho} {pos : Pos}
set_option maxHeartbeats 1000000 in
/-- [elt for x, y in ..] over pairs of texts -/
theorem ev_compP {its : List (Str × Str)} {g : Str × Str → PyData} {elt i0 : Expr} {x y : Str} {px py tp : Pos} {tk : Nat} {scope : Scope} (hh : A.handled = none)
    (hsrc : Src w A env ρ i0 (its.map prD))
    (he : ∀ C p, p ∈ its → Ev w A (cEnv scope env C) ((y, .py (.str p.2)) :: (x, .py (.str p.1)) :: cap scope ρ) elt (.py (g p)))
    (hsz : its.length ≤ sizeLine)
    (hx : scope.names.lookup x = some .local := by rfl) (hy : scope.names.lookup y = some .local := by rfl) (hxy : x ≠ y := by decide)
    (hfree : (scope.names.all fun y => y.2 != .free || env.kindOf y.1 != some .local) = true := by rfl)
    (hcells : (scope.names.all fun y => y.2 != .free || (env.cells.lookup y.1).isSome) = true := by rfl)
    (hkind : scope.kind = .function := by rfl) (hnd : (scope.names.map (·.1)).Nodup := by decide)
    (hs : ∀ x, foldedSetIterable i0 env x = pure x := by intro _; rfl) :
    Ev w A env ρ (.ListComp elt [⟨.Tuple [.Name x px, .Name y py] tk tp, i0, [], 0⟩] scope pos) (.py (.list (its.map g))) := by
  intro P s Q E ok hQ
  rw [eval_ListComp]
  have hcl : closureFor scope env = pure (closL env.cells scope.names []) := closureFor_eq fun y hy hf => by
    have := List.all_eq_true.mp hcells y hy
    rw [hf] at this; simpa using this
  have hnames : ∀ y ∈ scope.names, y.2 = .local → scope.names.lookup y.1 = some .local := fun y hy hl => hl ▸ lookup_of_mem_nodup hnd (by cases y; exact hy)
  refine wpAny_comprehension_free (use := none) rfl hs hcl hkind hnames (hsrc P s _ _ ok fun I fp Pv St s₂ k₂ W hst hI hfp₀ hfld hitems hcls => ?_)
  have hfp : ∀ b ∈ fp, b < s₂.heap.objs.size := fun b hb => let ⟨_, o, e⟩ := hfp₀ b hb; Heap.lt_size e
  have hseq : ∀ i h o, St i h → h.get? I = some o → ∀ xs n, o.data ≠ .seq xs n := fun i h o st e xs n q => by
    obtain ⟨o', vs, e1, e2⟩ := hfld i h st
    rw [e1] at e; cases e; rw [e2] at q; cases q
  rw [List.length_map] at W
  refine wpAny_newObj_type ?_
  show wpAny _ A (newFunctionEnv scope env.globals (closL env.cells scope.names []) [] env.qual none .none (some env)) _ E _
  refine newCompEnv ?_
  dsimp only
  generalize hD : s₂.heap.objs.size = D
  generalize hH3 : s₂.heap.push { cls := .type "list", dict := none, data := .seq ([] : List Value).toArray } = H3
  have hH3s : H3.objs.size = D + 1 := by rw [← hH3, Heap.size_push, hD]
  rw [hH3s]
  generalize hC : D + 1 = C
  generalize hH4 : pushCells (H3.push { cls := .type "dict", data := .dict #[] }) scope.names = H4
  have k34 : KeepsH H3 H4 := fun b o e => hH4 ▸ pushCells_keeps _ _ _ _ (Heap.get?_push_of_some _ e)
  have k24 : KeepsH s₂.heap H4 := fun b o e => k34 _ _ (hH3 ▸ Heap.get?_push_of_some _ e)
  have lDC : D < C := hC ▸ Nat.lt_succ_self D
  have fI : I < D := by rw [← hD]; exact hfp I (W.sub I (by simp))
  have gD : H4.get? D = some (lob [] 0) := k34 _ _ (by rw [← hH3, ← hD]; exact Heap.get?_push_size _ rfl)
  have gC : H4.Ns C fun _ => none := by
    have := (Heap.Ns.new H3 (.type "dict")).keeps (pushCells_keeps scope.names (H3.push { cls := .type "dict", data := .dict #[] }))
    rw [hH4, hH3s, hC] at this; exact this
  show codeAny _ A (.compStart _ 0 (.ref I) (.ref D) (cEnv scope env C)) (compPost (model pr w) A E none Q (.ref D) C) _
  have kx : ∀ z, scope.names.lookup z = some .local → (cEnv scope env C).kindOf z = some .local := fun z hz => by
    show (relabel scope env).names.lookup z = _
    rw [relabel_kind ok.fn hz]; rfl
  have kcls : ((cEnv scope env C).scope.kind == .class || ((cEnv scope env C).scope.kind == .module && (cEnv scope env C).locals != (cEnv scope env C).globals)) = false := by
    show (scope.kind == .class || (scope.kind == .module && C != env.globals)) = false
    rw [hkind]; rfl
  let P₂ : Addr → Prop := fun a => Up P s.heap a ∧ a ≠ D ∧ a ≠ C
  have inS : ∀ b o, s.heap.get? b = some o → b ≠ I ∧ b ≠ D ∧ b ≠ C := fun b o e => by
    have e2 := Keeps.hp k₂ _ _ e
    have l := Heap.lt_size e2
    rw [hD] at l
    exact ⟨fun q => by rw [q, hI] at e; exact (nomatch e), Nat.ne_of_lt l, Nat.ne_of_lt (Nat.lt_trans l lDC)⟩
  have in2 : ∀ b o, s₂.heap.get? b = some o → b ≠ D ∧ b ≠ C := fun b o e => by
    have l := Heap.lt_size e
    rw [hD] at l
    exact ⟨Nat.ne_of_lt l, Nat.ne_of_lt (Nat.lt_trans l lDC)⟩
  -- what holds all the time
  let Inv : Heap → List PyData → (Str → Option Value) → Prop := fun h ds m => KeepsH s.heap h ∧ (∀ b o, b ≠ I → s₂.heap.get? b = some o → h.get? b = some o) ∧ (∃ ys ny, h.get? D = some (lob ys ny) ∧ RdAll P₂ h ys ds) ∧ h.Ns C m
  have invK : ∀ {h h' ds m}, KeepsH h h' → Inv h ds m → Inv h' ds m := fun k ⟨a, b, ⟨ys, ny, c, d⟩, e⟩ => ⟨fun b o q => k _ _ (a b o q), fun b' o z q => k _ _ (b b' o z q), ⟨ys, ny, k _ _ c, d.mono k fun _ _ _ p => p⟩, e.keeps k⟩
  -- a change of an iterator
  have invI : ∀ {h h' ds m} (J : Addr), (∀ b o, b ≠ J → h.get? b = some o → h'.get? b = some o) → (J = I ∨ (s₂.heap.get? J = none ∧ J ≠ C)) → J ≠ D → (∀ o, h.get? J = some o → ∀ xs n, o.data ≠ .seq xs n) → Inv h ds m → Inv h' ds m := by
    rintro h h' ds m J k hJ nD hu ⟨a, b, ⟨ys, ny, c, d⟩, e⟩
    have nS : ∀ z o, s.heap.get? z = some o → z ≠ J := fun z o q hz => by
      rcases hJ with rfl | ⟨q', _⟩
      · exact (inS z o q).1 hz
      · rw [← hz, Keeps.hp k₂ _ _ q] at q'; cases q'
    have nC : C ≠ J := by
      rcases hJ with rfl | ⟨_, q'⟩
      · exact Nat.ne_of_gt (Nat.lt_trans fI lDC)
      · exact Ne.symm q'
    refine ⟨fun z o q => k z o (nS z o q) (a z o q), fun z o hz q => k z o (fun e => ?_) (b z o hz q), ⟨ys, ny, k D _ (Ne.symm nD) c, d.butS (S := fun z => z = J) (fun z o hz q => k z o hz q) fun z o hz q => .inl (by subst hz; exact hu o q)⟩, e.at' fun o q => k C o nC q⟩
    rcases hJ with rfl | ⟨q', _⟩
    · exact hz e
    · rw [← e, q] at q'; cases q'
  -- a name stored
  have invC : ∀ {h h' ds m m'}, Heap.SameBut C h h' → h'.Ns C m' → Inv h ds m → Inv h' ds m' := by
    rintro h h' ds m m' hs' hn ⟨a, b, ⟨ys, ny, c, d⟩, e⟩
    refine ⟨fun z o q => hs'.extBut z o (inS z o q).2.2 (a z o q), fun z o hz q => hs'.extBut z o (in2 z o q).2 (b z o hz q), ⟨ys, ny, hs'.extBut D _ (Nat.ne_of_lt lDC) c, d.butS (S := fun z => z = C) (fun z o hz q => hs'.extBut z o hz q) fun z o hz q => .inl fun xs n q' => ?_⟩, hn⟩
    subst hz
    obtain ⟨o', es, ep, e1, e2, _⟩ := e
    rw [e1] at q; cases q; rw [e2] at q'; cases q'
  have okI : ∀ {h ds m}, Inv h ds m → ∀ (l : List (Str × Str)), (∀ z i, l.lookup z = some i → scope.names.lookup z = some .local ∧ ∃ t, m z = some (.str i t)) → Ok w A P₂ (cEnv scope env C) ((l.map fun p => (p.1, Dt.py (.str p.2))) ++ cap scope ρ) h := by
    rintro h ds m ⟨a, b, c, e⟩ l hl
    have o1 : Ok w A P₂ (cEnv scope env C) (cap scope ρ) h := ok_cap hkind hnd hfree (ok.mono a fun a o e pa => ⟨.inl pa, (inS a o e).2.1, (inS a o e).2.2⟩)
    refine ⟨o1.base, o1.bel, o1.fn, o1.gl, o1.bu, fun z d q => ?_⟩
    rw [List.lookup_append] at q
    cases hz : (l.map fun p => (p.1, Dt.py (.str p.2))).lookup z with
    | none => rw [hz] at q; exact o1.vars z d q
    | some d' =>
      rw [hz] at q; cases q
      have : ∃ i, l.lookup z = some i ∧ d = .py (.str i) := by
        clear hl
        induction l with
        | nil => simp at hz
        | cons p l ih =>
          obtain ⟨n, i⟩ := p
          simp only [List.map_cons, List.lookup_cons] at hz ⊢
          cases hzn : z == n with
          | true => rw [hzn] at hz; cases hz; exact ⟨i, rfl, rfl⟩
          | false => rw [hzn] at hz; exact ih hz
      obtain ⟨i, hi, rfl⟩ := this
      obtain ⟨h1, t, h2⟩ := hl z i hi
      exact .loc (kx z h1) e h2 (.py (.str _ _))
  have loop : ∀ s₃ : Shared, (∃ tk, s₃ = { s₂ with heap := H4, toks := tk }) →
      codeAny (model pr w) A (.compLoop (.ListComp elt [⟨.Tuple [.Name x px, .Name y py] tk tp, i0, [], 0⟩] scope pos) 0 (.ref I) (.ref D) (cEnv scope env C)) (compPost (model pr w) A E none Q (.ref D) C) s₃ := by
    rintro s₃ ⟨tk₀, rfl⟩
    refine LCp.codeAny_compLoop_pair (fun k s' => ∃ h tk j m, s' = { s₂ with heap := h, toks := tk } ∧ St j h ∧ j ≤ its.length ∧ k = its.length + 1 - j ∧ Inv h ((its.take j).map g) m) ?_ (its.length + 1)
      ⟨H4, tk₀, 0, _, rfl, W.frame 0 _ _ hst fun b _ o e => k24 b o e, Nat.zero_le _, rfl, fun b o e => k24 _ _ (Keeps.hp k₂ _ _ e), fun b o _ e => k24 b o e, ⟨[], 0, gD, by simpa using RdAll.nil⟩, gC⟩
    rintro k s' ⟨h, tk', j, m, rfl, hstj, hj, rfl, inv⟩
    by_cases hlt : j < its.length
    · obtain ⟨a, ha⟩ : ∃ a, its[j]? = some a := ⟨its[j], by simp [hlt]⟩
      have hmem : a ∈ its := List.mem_of_getElem? ha
      refine W.item j _ _ _ hlt hstj fun v h₁ tk₁ hP hst₁ hk₁ => ?_
      have hk₁' : ∀ b o, b ≠ I → h.get? b = some o → h₁.get? b = some o := fun b o hb e => hk₁ b o (by simpa using hb) e
      obtain ⟨d, hd, hrd⟩ := hitems j v hP
      rw [List.getElem?_map, ha] at hd
      cases hd
      have inv₁ := invI I hk₁' (.inl rfl) (Nat.ne_of_lt fI) (fun o e => hseq j h o hstj e) inv
      cases hrd with | tuple gT qT => cases qT with | cons q1 qT => cases qT with | cons q2 qT => cases qT with | nil => cases q1 with | str _ t => cases q2 with | str _ u =>
      rename_i T nT
      obtain ⟨oI, vI, eI, dI⟩ := hfld _ _ hst₁
      have nTI : T ≠ I := fun q => by
        obtain ⟨o', vs', e', d'⟩ := hfld 0 _ hst
        rw [q, e'] at gT; cases gT; cases d'
      have gT₁ : h₁.get? T = some (tob [.str a.1 t, .str a.2 u] nT) := inv₁.2.1 T _ nTI gT
      refine go_plain (s := { s₂ with heap := h₁, toks := tk₁ }) eI dI (hcls _ _ oI hst₁ eI) ?_
      refine assign_Tuple_tuple (s := { s₂ with heap := h₁, toks := tk₁ }) (items := #[.str a.1 t, .str a.2 u]) hh ⟨_, gT₁, rfl, nT, rfl⟩ rfl rfl fun h₂ he₂ => ?_
      have kk₂ : KeepsH h₁ h₂ := fun b o e => he₂ b o (fun z => by rw [z, fresh_size] at e; cases e) e
      have inv₂ := invK kk₂ inv₁
      show wpAny _ A (do holding [.str a.2 u] (assign (.Name x px) (cEnv scope env C) (.str a.1 t)); (do holding [] (assign (.Name y py) (cEnv scope env C) (.str a.2 u)); pure ())) _ _ _
      refine wpAny_bind (wpAny_holding (wpAny_assign_Name (wpAny_storeName_local (kx x hx) inv₂.2.2.2 (fun h₃ hn₃ hs₃ => ?_) kcls)))
      have inv₃ := invC hs₃ hn₃ inv₂
      refine wpAny_bind (wpAny_holding (wpAny_assign_Name (wpAny_storeName_local (kx y hy) inv₃.2.2.2 (fun h₄ hn₄ hs₄ => wpAny_pure ?_) kcls)))
      have inv₄ := invC hs₄ hn₄ inv₃
      have hst₄ : St (j + 1) h₄ := W.frame _ _ _ hst₁ fun b hb o e => by
        have lb : b < D := hD ▸ hfp b hb
        have nC := Nat.ne_of_lt (Nat.lt_trans lb lDC)
        exact hs₄.extBut b o nC (hs₃.extBut b o nC (kk₂ b o e))
      have ok₄ := okI inv₄ [(y, a.2), (x, a.1)] (fun z i q => by
        simp only [List.lookup_cons] at q
        cases hzy : z == y with
        | true => rw [hzy] at q; cases q; rw [beq_iff_eq.mp hzy]; exact ⟨hy, u, by simp⟩
        | false =>
          rw [hzy] at q
          cases hzx : z == x with
          | true => rw [hzx] at q; cases q; rw [beq_iff_eq.mp hzx]; exact ⟨hx, t, by simp [hxy]⟩
          | false => rw [hzx] at q; simp at q)
      refine he C a hmem P₂ _ _ _ ok₄ fun v s₅ k₅ r₅ => ?_
      obtain ⟨h₅, tk₅, rfl, hk₅⟩ := k₅
      have inv₅ := invK hk₅ inv₄
      obtain ⟨a1, a2, ⟨ys, ny, hgD, hys⟩, a4⟩ := inv₅
      have len : ys.length ≤ sizeLine := by
        have e1 := hys.length
        rw [List.length_map, List.length_take] at e1
        omega
      refine wpAny_list_append_plain (hsz := by rw [List.size_toArray]; exact len) ⟨ny, hgD⟩ fun h₆ hl₆ hs₆ => ?_
      obtain ⟨n₆, g₆⟩ := hl₆
      have r₅' : Rd P₂ h₅ v (g a) := by
        cases r₅ with | py r₅ =>
          refine r₅.mono (fun _ _ e => e) fun a' o' _ q => ?_
          rcases q with q | q
          · exact q
          · have q' : h₄.get? a' = none := q
            refine ⟨.inr ?_, fun e => ?_, fun e => ?_⟩
            · cases e : s.heap.get? a' with
              | none => rfl
              | some o'' => have := inv₄.1 _ _ e; rw [q'] at this; cases this
            · obtain ⟨_, _, z, _⟩ := inv₄.2.2.1
              rw [e, z] at q'; cases q'
            · obtain ⟨_, _, _, z, _⟩ := inv₄.2.2.2
              rw [e, z] at q'; cases q'
      refine ⟨its.length + 1 - (j + 1), by omega, h₆, tk₅, j + 1, _, rfl, W.frame _ _ _ hst₄ (fun b hb o e => ?_), hlt, rfl, ⟨fun z o e => hs₆.extBut z o (inS z o e).2.1 (a1 z o e), fun z o hz e => hs₆.extBut z o (in2 z o e).1 (a2 z o hz e), ⟨ys ++ [v], n₆, by simpa using g₆, ?_⟩, a4.sameBut hs₆ (Nat.ne_of_gt lDC)⟩⟩
      · have lb : b < D := hD ▸ hfp b hb
        exact hs₆.extBut b o (Nat.ne_of_lt lb) (hk₅ b o e)
      · rw [List.take_add_one, ha, List.map_append]
        exact (hys.append (.cons r₅' .nil)).butS (S := fun a => a = D) (fun a' o ha' e => hs₆.extBut a' o ha' e) fun a' o ha' e => .inr (by
          subst ha'
          rw [hgD] at e; cases e; exact ⟨rfl, fun q => q.2.1 rfl⟩)
    · have hjl : j = its.length := by omega
      subst hjl
      refine W.done _ _ _ hstj fun h₁ tk₁ hk₁ => ?_
      have hk₁' : ∀ b o, b ≠ I → h.get? b = some o → h₁.get? b = some o := fun b o hb e => hk₁ b o (by simpa using hb) e
      have inv₁ := invI I hk₁' (.inl rfl) (Nat.ne_of_lt fI) (fun o e => hseq _ h o hstj e) inv
      rw [List.take_length] at inv₁
      obtain ⟨a1, a2, ⟨ys, ny, hgD, hys⟩, a4⟩ := inv₁
      refine ⟨m, a4, fun h' hs' => ?_⟩
      obtain ⟨h₂, t₂, e₂, _⟩ := k₂
      subst e₂
      refine hQ _ _ ⟨h', tk₁, rfl, fun b o e => hs'.extBut b o (inS b o e).2.2 (a1 b o e)⟩ (.py (.list (n := ny) (.inr ?_) (hs'.extBut D _ (Nat.ne_of_lt lDC) hgD) ?_))
      · cases e : s.heap.get? D with
        | none => rfl
        | some o => exact absurd rfl (inS D o e).2.1
      · refine RdAll.mono (P := P₂) (fun _ _ e => e) (fun _ _ _ q => q.1) (hys.butS (S := fun a => a = C) (fun a o ha e => hs'.extBut a o ha e) fun a o ha e => .inl fun xs n q => ?_)
        subst ha
        obtain ⟨o', es, ep, e1, e2, _⟩ := a4
        rw [show h₁.get? _ = _ from e1] at e; cases e; rw [e2] at q; cases q
  exact codeAny_compStart_list (loop _ ⟨_, rfl⟩) (W.self 0 _ _ _ (W.frame 0 _ _ hst fun b _ o e => k24 b o e) (loop _ ⟨_, rfl⟩))
end

section
variable {w : World} {A : Around} {env : Env} {ρ : Rho} {pos : Pos}
/-- a method of a Headers object, no arguments -/
theorem ev_hmeth0 {o : Expr} {name : Str} {ap : Pos} {ps : List (Str × Str)} {f : Addr} {k : Nat} {d : Dt} {pl : Sem Bool} (R : Room A k) (ho : Ev w A env ρ o (.hdr ps)) (hfn : Fn w k f [.hdr ps] d)
    (hf : findIn (hd0.heap_1 w.params) (.ref hdrCls) name = some (some (.ref f))) (ht : typeIn (hd0.heap_1 w.params) (.ref f) = some (.type "function")) (hfi : fnIn (hd0.heap_1 w.params) f = true) (hne : name ≠ Str.ofString "_headers" := by decide)
    (hcall : eval (.Call (.Attribute o name ap) [] [] pos) env = (do
      let ov ← eval o env
      standAt ap.atName
      let (f, first) ← holding [ov] (getMethod ov name pl)
      callWith pos f first (backTo pos (starEach [] env)) (backToKw pos (keywordEach [] env))) := by rfl) : Ev w A env ρ (.Call (.Attribute o name ap) [] [] pos) d := by
  intro P s Q E ok hQ
  refine methodCall_KW (ho P s _ _ ok fun v s₁ k₁ r => ?_) hcall
  cases r with | hdr pa pd pl x =>
    rename_i a dd l
    obtain ⟨es', n, I, he⟩ := x.inst'
    have B := ok.base.keeps (Keeps.hp k₁)
    refine hmethod B I he hf ht hne ?_
    obtain ⟨o', fd, ho', hdt⟩ : ∃ o fd, (hd0.heap_1 w.params).lookup f = some o ∧ o.data = .func fd := by
      unfold fnIn at hfi
      split at hfi
      · rename_i fd _ q; exact ⟨_, _, q, rfl⟩
      · cases hfi
    refine callWith_function (o := o') (fd := fd) (PyProof.Rows.evalArgs_nil3 ⟨⟨B.K _ _ ho', hdt⟩, ?_⟩)
    exact hfn A (Up P s.heap) s₁ Q E [.ref a] R B (let ⟨b, l, x⟩ := ok.bel; ⟨b, l, below_keeps (Keeps.hp k₁) x⟩) (.cons (.hdr pa pd pl x) .nil) fun v s₃ k₃ r₃ => hQ v s₃ (Keeps.tr k₁ k₃) (r₃.mono (fun _ _ e => e) fun a _ _ p => up_up (Keeps.hp k₁) a p)
end

set_option maxHeartbeats 4000000 in
/-- Headers.keys() -/
theorem keys_fn {w : World} {ps : List (Str × Str)} (hps : ps.length ≤ 1000) : Fn w 1 127 [.hdr ps] (.py (.list ((ps.map (·.1)).map .str))) := by
  intro A P s Q E vs R B bl r hQ
  obtain ⟨v₁, rfl, r₁⟩ := r.one
  refine wpAny_call ?_
  refine fn_enter (k := 0) R B bl (by k_dflt k_is) (by k_dflt k_is) (BindsTo.of_eq rfl) (by rfl) (by exact (by decide : [Str.ofString "self"].Nodup)) (lookup1 (x := Str.ofString "self") r₁) (by rfl) (by rfl) (by rfl) (fun L R' => ?_) hQ
  revert R'
  generalize A.deeper _ = A'
  intro R'
  exact sx_ret (s_return (ev_eq (ev_compP (g := fun p => .str p.1) R'.handled (src_list R'.handled (ev_headers (ev_name rfl))) (fun C p hp => ev_name rfl) (by have : sizeLine = 2^24 := rfl; omega)) (by simp)))
end Mine

open PySem PySem.W PyProof.Rows PySem.Calls
set_option Elab.async false
set_option maxRecDepth 100000
namespace Mine
example : (PySem.Challenge.rw_rl0110_01, hd0.heap_1) = (PySem.Challenge.rw_rl0110_01, hd0.heap_1) := by k_fill; rfl

section
variable {w : World} {A : Around} {P₀ P O X : Addr → Prop} {env : Env} {ρ ρ' : Rho} {ω ω' : Omg} {pos : Pos}
theorem cmp_is_none {o : Option Str} : CmpR w A .Is (.py (optD o)) (.py .none) o.isNone := by
  intro P s v₁ v₂ Q E r₁ r₂ hQ
  have hq := hQ s (Keeps.rf _)
  cases r₂ with | py r₂ => cases r₂; cases r₁ with | py r₁ => cases o with
    | none => cases r₁; exact wpAny_is_plain (by rfl) hq
    | some x => cases r₁; exact is_str_none hq
theorem cmp_isnot_none_str {x : Str} : CmpR w A .IsNot (.py (.str x)) (.py .none) true := by
  intro P s v₁ v₂ Q E r₁ r₂ hQ
  have hq := hQ s (Keeps.rf _)
  cases r₂ with | py r₂ => cases r₂; cases r₁ with | py r₁ => cases r₁; exact wpAny_isNot_plain (by rfl) hq
end

set_option maxHeartbeats 4000000 in
/-- Headers.setdefault(name, value), the name being there -/
theorem setdef_there {w : World} {ps : List (Str × Str)} {n v r : Str} (hn : n.length ≤ 100000) (hl : (Txt.lower n).length ≤ 1000000) (hc : noHit nameCode (Txt.lower n) = true) (hp : ∀ p ∈ ps, p.1.length ≤ 100000) (hr : getF ps (Txt.lower n) = some r) :
    Fn w 3 165 [.hdr ps, .py (.str n), .py (.str v)] (.py (.str r)) := by
  intro A P s Q E vs R B bl r' hQ
  cases r' with | cons r₁ r' => cases r' with | cons r₂ r' => cases r' with | cons r₃ r' => cases r' with | nil =>
  refine wpAny_call ?_
  refine fn_enter (k := 2) (ρ := [(Str.ofString "self", .hdr ps), (Str.ofString "name", .py (.str n)), (Str.ofString "value", .py (.str v))]) R B bl (by k_dflt k_is) (by k_dflt k_is) (BindsTo.of_eq rfl) (by rfl) (by exact (by decide : [Str.ofString "self", Str.ofString "name", Str.ofString "value"].Nodup)) (binds_of ⟨⟨_, rfl, r₁⟩, ⟨_, rfl, r₂⟩, ⟨_, rfl, r₃⟩, trivial⟩) (by rfl) (by rfl) (by rfl) (fun L R' => ?_) hQ
  revert R'
  generalize A.deeper _ = A'
  intro R'
  refine sx_cons (s_assign (ev_hmeth R' (ev_name rfl) (evs_cons (ev_name rfl) evs_nil) (get_fn hn hl hc hp) (by k_dflt k_is) (by k_dflt k_is) (by k_dflt k_is))) ?_
  rw [hr]
  exact sx_ret (s_if (b := false) (tv_cmp (ev_name rfl) ev_none (cmp_is_none (o := some r))) (fun h => by cases h) (fun _ => sx_ret (s_return (ev_name rfl))))
end Mine

open PySem PySem.W PyProof.Rows PySem.Calls
set_option Elab.async false
set_option maxRecDepth 100000
namespace Mine
example : (PySem.Challenge.rw_rl0110_01, hd0.heap_1) = (PySem.Challenge.rw_rl0110_01, hd0.heap_1) := by k_fill; rfl

theorem rd_prs {P : Addr → Prop} {h : Heap} : ∀ {vs : List Value} {ps : List (Str × Str)}, RdAll P h vs (ps.map prD) → Prs h vs ps
  | _, [], .nil => .nil
  | _, (_, _) :: _, .cons r rs => by
    cases r with | tuple g q => cases q with | cons q1 q => cases q with | cons q2 q => cases q with | nil => cases q1; cases q2; exact .cons g (rd_prs rs)

section
variable {w : World} {A : Around} {P₀ P O X : Addr → Prop} {env : Env} {ρ ρ' : Rho} {ω ω' : Omg} {pos : Pos} {x : Str} {ps : List (Str × Str)}

theorem Fs.okH {h : Heap} (f : Fs w A P₀ P O X env ρ (some (x, true, ps.map prD)) h) : Ok w A (fun a => P a ∨ O a) env ((x, .hdr ps) :: ρ) h := by
  refine ⟨f.gr.base, f.gr.bel, f.fn, f.gl, f.bu, fun y d e => ?_⟩
  rw [List.lookup_cons] at e
  cases hy : y == x with
  | false => rw [hy] at e; exact (f.vars y d e).mono (fun _ _ e => e) fun _ _ _ p => .inl p
  | true =>
    rw [hy] at e; cases e
    obtain ⟨hk, m, u, a, vs, n, h1, h2, hv, h3, h4, h5⟩ := f.own x (true, ps.map prD) rfl
    cases hv with | hdr pa pd i dd he =>
      rw [beq_iff_eq.mp hy]
      exact .loc hk h1 h2 (.hdr (.inl pa) (.inl pd) (.inr h3) ⟨i, ⟨_, _, dd, he⟩, ⟨_, _, h4, rd_prs h5⟩⟩)

theorem s_assignH {z : Str} {px : Pos} {e : Expr} {d : Dt} (h : Ev w A env ((x, .hdr ps) :: ρ) e d) (hf : flatD d = true := by rfl)
    (hz : env.kindOf z = some .local := by rfl) (hne : x ≠ z := by decide) (hs : swapsWith e (some (.Name z px)) pos.line env = pure false := by rfl) :
    S1 w A env ρ (some (x, true, ps.map prD)) (.Assign [.Name z px] e pos) (.next ((z, d) :: ρ) (some (x, true, ps.map prD))) :=
  fun P₀ P O X s Q E f hQ => wpAny_Assign_Name (h _ s _ _ f.okH fun v s₁ k r => fs_store (f.keeps (Keeps.hp k)) (.inl hz) (RdT.flat hf r) (fun _ _ e => by cases e; exact hne) fun s₂ p₂ => hQ _ _ (kpPost f k ⟨rfl, p₂⟩)) hs

/-- x._headers.append(e) on the own Headers object -/
theorem s_happend {px ap ap2 : Pos} {e : Expr} {p : Str × Str} {p' : Pos} (h : Ev w A env ((x, .hdr ps) :: ρ) e (.py (prD p))) (hsz : ps.length ≤ 1000)
    (hx : env.kindOf x = some .local := by rfl) (hdb : (x == ("__debug__" : Str)) = false := by decide)
    (hbase : attributeBase (.Attribute (.Name x px) (Str.ofString "_headers") ap) "append" env (eval (.Attribute (.Name x px) (Str.ofString "_headers") ap) env) = eval (.Attribute (.Name x px) (Str.ofString "_headers") ap) env := by rfl) (hline : (ap2.endLine == p'.line) = true := by rfl)
    (htrees : backTo p' (starEach [e] env) = [(false, eval e env)] := by rfl) (hi : interactive env = false := by rfl) (hsw : swapsWith (.Call (.Attribute (.Attribute (.Name x px) (Str.ofString "_headers") ap) "append" ap2) [e] [] p') none pos.line env = pure false := by rfl)
    (hat : eval (.Attribute (.Name x px) (Str.ofString "_headers") ap) env = (do
      let o ← eval (.Name x px) env
      standAt ap.atName
      let r ← holding [o] (getAttr o (Str.ofString "_headers") true)
      letTemporaryGo (.Name x px) o r
      pure r) := by with_unfolding_all rfl) :
    S1 w A env ρ (some (x, true, ps.map prD)) (.Expr (.Call (.Attribute (.Attribute (.Name x px) (Str.ofString "_headers") ap) "append" ap2) [e] [] p') pos) (.next ρ (some (x, true, (ps ++ [p]).map prD))) := by
  intro P₀ P O X s Q E f hQ
  refine wpAny_Expr (wpAny_Call_append hbase (by rw [htrees]; rfl) hline htrees ?_) hi hsw
  obtain ⟨hk, m, u, l, vs, n, h1, h2, hv, h3, h4, h5⟩ := f.own x (true, ps.map prD) rfl
  cases hv with | hdr pa pd i dd he =>
  refine Attribute_Name_ (wpAny_Name (wpAny_loadName_local f.fn hx h1 h2 ?_) hdb) hat
  refine get_value (v := .ref l) f.gr.base.K ⟨i, rfl, rfl, dd⟩ hdr_ga (findObj_own hdr_hd hdr_own rfl (by rw [lookIn_dict, he, if_pos rfl])) rfl ?_
  refine ⟨l, vs.toArray, rfl, ⟨_, n, h4, rfl, rfl, rfl⟩, ?_⟩
  have k0 : Keeps s { s with toks := s.toks + 1 } := Keeps.tok _ _
  refine h _ { s with toks := s.toks + 1 } _ _ f.okH fun v s₁ k r => ?_
  have f₁ := f.keeps (Keeps.hp k)
  have ln : vs.length = ps.length := by have := h5.length; simpa using this
  cases r with | py r =>
    have r1 : Rd P s₁.heap v (prD p) := by
      cases r with | tuple g q => cases q with | cons q1 q => cases q with | cons q2 q => cases q with | nil => cases q1; cases q2; exact .tuple g (.cons (.str _ _) (.cons (.str _ _) .nil))
    have sl : sizeLine = 2 ^ 24 := rfl
    refine wpAny_list_append_plain (hsz := by rw [List.size_toArray, ln]; omega) ⟨n, Keeps.hp k _ _ h4⟩ fun h' hl hs => ?_
    obtain ⟨n', g'⟩ := hl
    have g'' : h'.get? l = some (lob (vs ++ [v]) n') := by simpa using g'
    have f' := f₁.ownUpd (h1.keeps (Keeps.hp k)) h2 (.hdr pa pd (Keeps.hp k _ _ i) (Keeps.hp k _ _ dd) he) h3 hk (Keeps.hp k _ _ h4) hs g'' ((h5.mono (Keeps.hp k) fun _ _ _ p => p).append (.cons r1 .nil))
    have e' : ps.map prD ++ [prD p] = (ps ++ [p]).map prD := by simp
    rw [e'] at f'
    exact hQ _ _ (kpPost f (Keeps.tr k0 k) ⟨rfl, ownPost (ds := ps.map prD) h3 f' hs ⟨_, g''⟩⟩)
end
end Mine

open PySem PySem.W PyProof.Rows PySem.Calls
set_option Elab.async false
set_option maxRecDepth 100000
namespace Mine
example : (PySem.Challenge.rw_rl0110_01, hd0.heap_1) = (PySem.Challenge.rw_rl0110_01, hd0.heap_1) := by k_fill; rfl

noncomputable def MKeeps (l : Addr) (s s' : Shared) : Prop := ∃ h tk, s' = { s with heap := h, toks := tk } ∧ ∀ b o, b ≠ l → s.heap.get? b = some o → h.get? b = some o

/-- a method that changes its Headers object's list -/
noncomputable def MFn (w : World) (k : Nat) (f : Addr) (ps : List (Str × Str)) (ds : List Dt) (ps' : List (Str × Str)) : Prop :=
  ∀ (A : Around) (P : Addr → Prop) (s : Shared) (Q E : Value → Shared → Prop) (a l : Addr) (vs : List Value) (n : Nat) (args : List Value), Room A k → Gr w A (fun b => b = l) s.heap → Via P s.heap true (.ref a) l → ¬ P l →
    s.heap.get? l = some (lob vs n) → RdAll P s.heap vs (ps.map prD) → RdTs P s.heap args ds →
    (∀ v s' vs' n', (∀ b, v ≠ .ref b) → MKeeps l s s' → s'.heap.get? l = some (lob vs' n') → RdAll (fun b => Up P s.heap b ∧ b ≠ l) s'.heap vs' (ps'.map prD) → Q v s') → wpAny (model pr w) A (call (.ref f) (.ref a :: args)) Q E s

/-- the ends of such a method's body -/
inductive MEnd (a : Addr) (ps' : List (Str × Str)) : Out → Prop
  | ret {x ρ} : ρ.lookup (Str.ofString "self") = some (.box a) → MEnd a ps' (.retO (.py (.str x)) ρ (some (Str.ofString "self", true, ps'.map prD)))
  | next {ρ} : ρ.lookup (Str.ofString "self") = some (.box a) → MEnd a ps' (.next ρ (some (Str.ofString "self", true, ps'.map prD)))

section
variable {w : World} {A : Around} {ρ : Rho}
theorem fn_enterM {s : Shared} {P : Addr → Prop} {R : Result → Shared → Prop} {f a l : Addr} {k : Nat} {name qual : Str} {params : Arguments} {body : List Stmt} {scope : Scope} {dV kV doc pm cdv ct oc : Value} {an od : Option Addr} {osl : Array (Option Value)} {args : Args} {names : List Str} {ps ps' : List (Str × Str)} {vs : List Value} {n : Nat}
    (Rm : Room A (k + 1)) (G : Gr w A (fun b => b = l) s.heap) (V : Via P s.heap true (.ref a) l) (hl : ¬ P l) (gl : s.heap.get? l = some (lob vs n)) (rl : RdAll P s.heap vs (ps.map prD))
    (ho : (hd0.heap_1 w.params).lookup f = some ⟨oc, od, .func (fnOf name qual params body scope dV kV doc pm an cdv ct), osl⟩) (hcd : codeIn (hd0.heap_1 w.params) cdv qual = true)
    (hbind : ∀ (A' : Around) (E' : Value → Shared → Prop) (Q' : List (Str × Value) → Shared → Prop), (∀ s₀ binds, Keeps s s₀ → binds.map (·.1) = names → binds.lookup (Str.ofString "self") = some (.ref a) → (∀ y d, ρ.lookup y = some d → ∃ v, binds.lookup y = some v ∧ RdT (fun b => Up P s.heap b ∧ b ≠ l) s₀.heap v d) → Q' binds s₀) →
      wpAny (model pr w) A' (bindArgs (fnOf name qual params body scope dV kV doc pm an cdv ct) args) Q' E' s)
    (hkind : (names.all fun y => scope.names.lookup y == some .local || scope.names.lookup y == some .cell) = true) (hnd : names.Nodup) (hself : scope.names.lookup (Str.ofString "self") = some .local)
    (hco : scope.isCoroutine = false) (hgen : scope.isGenerator = false) (hk : scope.kind = .function) {o : Out} (hE : MEnd a ps' o)
    (hbody : ∀ L, Room (A.deeper (fEnv qual scope f cdv L)) k → Sx w (A.deeper (fEnv qual scope f cdv L)) (fEnv qual scope f cdv L) ρ (some (Str.ofString "self", true, ps.map prD)) body o)
    (hQ : ∀ v s' vs' n', (∀ b, v ≠ .ref b) → MKeeps l s s' → s'.heap.get? l = some (lob vs' n') → RdAll (fun b => Up P s.heap b ∧ b ≠ l) s'.heap vs' (ps'.map prD) → R (.ok (.ret v)) s') : codeAny (model pr w) A (.call (.ref f) args) R s := by
  have B := G.base
  obtain ⟨_, mg, mb, T⟩ := B.T
  refine codeAny_call_function (Nat.lt_of_le_of_lt (Nat.le_add_right _ _) Rm.depth) (B.K _ _ ho) rfl hco hgen rfl (codeRec_of B.K hcd) (hbind _ _ _ fun s₀ binds k₀ hnames hbs hρ => ?_)
  have hkind' : (binds.all fun y => scope.names.lookup y.1 == some .local || scope.names.lookup y.1 == some .cell) = true := by
    rw [← hnames, List.all_map] at hkind; exact hkind
  have hnd' : (binds.map (·.1)).Nodup := by rw [hnames]; exact hnd
  refine wpAny_newFunctionEnv_cells hk (kindsX hkind' _) fun env' he s₁ x => ?_
  subst he
  refine ⟨(T.nolimit.keeps (Keeps.hp k₀)).keeps x.toInCall.keep, codeAny_func ?_⟩
  generalize hL : s₀.heap.objs.size = L at x ⊢
  have x' : InCallC s₀ L (bindL (fEnv qual scope f cdv L).kindOf binds fun _ => none) (fEnv qual scope f cdv L).cells (bindC (fEnv qual scope f cdv L).kindOf binds fun _ => none) s₁ := x
  show wpAny _ (A.deeper (fEnv qual scope f cdv L)) (execs body (fEnv qual scope f cdv L)) _ _ _
  have hk₀ := Keeps.hp k₀
  have hk₁ : KeepsH s₀.heap s₁.heap := x'.toInCall.keep
  have hk01 : KeepsH s.heap s₁.heap := fun b o e => hk₁ _ _ (hk₀ _ _ e)
  have cl : ∀ y c, (fEnv qual scope f cdv L).cells.lookup y = some c → L < c := fun y c e => x'.above y c (mem_of_lookup e)
  have fr₀ : ∀ b, L ≤ b → s₀.heap.get? b = none := fun b h => fresh_le (by rw [hL]; exact h)
  have fr : ∀ b, L ≤ b → s.heap.get? b = none := fun b h => by
    cases e : s.heap.get? b with
    | none => rfl
    | some o => have := hk₀ _ _ e; rw [fr₀ b h] at this; cases this
  let P' : Addr → Prop := fun b => (Up P s.heap b ∧ b ≠ l) ∧ b ≠ L ∧ ∀ y, (fEnv qual scope f cdv L).cells.lookup y ≠ some b
  have up1 : ∀ b o, s₀.heap.get? b = some o → (Up P s.heap b ∧ b ≠ l) → P' b := fun b o e p => ⟨p, (fun q => by rw [q, fr₀ _ (Nat.le_refl _)] at e; exact (nomatch e)), fun y q => by rw [fr₀ _ (Nat.le_of_lt (cl y b q))] at e; exact (nomatch e)⟩
  have up0 : ∀ b o, s.heap.get? b = some o → P b → P' b := fun b o e p => up1 b o (hk₀ _ _ e) ⟨.inl p, fun q => hl (q ▸ p)⟩
  have hselfk : (fEnv qual scope f cdv L).kindOf (Str.ofString "self") = some .local := hself
  have nL : ∀ b o, s.heap.get? b = some o → b ≠ L := fun b o e q => by rw [q, fr _ (Nat.le_refl _)] at e; cases e
  have nC : ∀ b o, s.heap.get? b = some o → ∀ y, (fEnv qual scope f cdv L).cells.lookup y ≠ some b := fun b o e y q => by rw [fr _ (Nat.le_of_lt (cl y b q))] at e; cases e
  have fs : Fs w (A.deeper (fEnv qual scope f cdv L)) (fun b => Up P s.heap b ∨ b = l) P' (fun b => b = l) (fun _ => False) (fEnv qual scope f cdv L) ρ (some (Str.ofString "self", true, ps.map prD)) s₁.heap := by
    refine ⟨?_, hk, rfl, rfl, ?_, fun b p => .inl p.1.1, ?_, fun b p q => p.1.2 q, fun b q => .inr q, ?_, fun _ q => q.elim, ⟨fun p => p.2.1 rfl, fun q => nL l _ gl q.symm, fun q => q⟩, fun y c e => ⟨fun p => p.2.2 y e, fun q => nC l _ gl y (q ▸ e), fun q => q⟩, ⟨_, x'.toInCall.ns⟩, fun y c e => ⟨_, x'.cell y c e⟩, ?_, ?_⟩
    · obtain ⟨g, base, outer, Bg, st, kg, eA, ff, ng⟩ := G
      have bb : Below A base outer s₀.heap := below_keeps hk₀ ⟨eA, fun b o q => kg _ _ (st b o q), ff⟩
      have F : Fr s₀.heap L s₁.heap _ := ⟨x'.toInCall.ns, hk₁, hL ▸ Nat.le_refl _⟩
      have bb' := pushX (env := fEnv qual scope f cdv L) bb F rfl hk
      refine ⟨g, base, _, Bg, st, fun b o q => hk01 _ _ (kg b o q), bb'.stack, bb'.frames, fun b hb => ?_⟩
      have fg : ∀ b, s.heap.get? b = none → g.get? b = none := fun b e => by
        cases q : g.get? b with
        | none => rfl
        | some o => rw [kg _ _ q] at e; cases e
      rcases hb with rfl | ⟨y, e⟩ | q | q
      · exact fg _ (fr _ (Nat.le_refl _))
      · exact fg _ (fr _ (Nat.le_of_lt (cl y b e)))
      · exact ng b q
      · exact q.elim
    · intro y d' e
      obtain ⟨v, hv, r⟩ := hρ y d' e
      have r' : RdT P' s₁.heap v d' := r.mono hk₁ up1
      have hy := List.all_eq_true.mp hkind' _ (mem_of_lookup hv)
      rcases Bool.or_eq_true_iff.mp hy with q | q
      · have q' : (fEnv qual scope f cdv L).kindOf y = some .local := beq_iff_eq.mp q
        exact .loc q' x'.toInCall.ns (by rw [bindL_get q' hnd', hv]; rfl) r'
      · have q' : (fEnv qual scope f cdv L).kindOf y = some .cell := beq_iff_eq.mp q
        have hs : ((fEnv qual scope f cdv L).cells.lookup y).isSome = true := cellsFrom_some _ _ _ (.inl q')
        obtain ⟨c, hc⟩ := Option.isSome_iff_exists.mp hs
        have hcv := x'.cell y c hc
        rw [bindC_get q' hnd', hv] at hcv
        exact .cel q' hc hcv r'
    · intro b e
      refine ⟨⟨.inr ?_, fun q => ?_⟩, fun q => ?_, fun y q => ?_⟩
      · cases e' : s.heap.get? b with
        | none => rfl
        | some o => rw [hk01 _ _ e'] at e; cases e
      · rw [q, hk01 _ _ gl] at e; cases e
      · obtain ⟨o, _, _, e', _⟩ := x'.toInCall.ns; rw [q, e'] at e; cases e
      · obtain ⟨o, e', _⟩ := x'.cell y b q; rw [e'] at e; cases e
    · rintro b o rfl e
      rw [hk01 _ _ gl] at e; cases e; rfl
    · intro y z c e1 e2
      exact name_of_addr x'.apart (mem_of_lookup e1) (mem_of_lookup e2)
    · intro y ds e
      cases e
      exact ⟨hselfk, _, .ref a, l, vs, n, x'.toInCall.ns, by rw [bindL_get hselfk hnd', hbs]; rfl, V.mono hk01 up0, rfl, hk01 _ _ gl, rl.mono hk01 up0⟩
  -- the end: the list is still the same one
  have fin : ∀ (ρ' : Rho) (s' : Shared), ρ'.lookup (Str.ofString "self") = some (.box a) → Post w (A.deeper (fEnv qual scope f cdv L)) (fun b => Up P s.heap b ∨ b = l) P' (fun b => b = l) (fun _ => False) (fEnv qual scope f cdv L) s₁ ρ' (some (Str.ofString "self", true, ps'.map prD)) s' →
      MKeeps l s s' ∧ ∃ vs' n', s'.heap.get? l = some (lob vs' n') ∧ RdAll (fun b => Up P s.heap b ∧ b ≠ l) s'.heap vs' (ps'.map prD) := by
    intro ρ' s' hbox p
    obtain ⟨P'', O'', f', hp, ho⟩ := p.fs
    have mv := p.mv
    obtain ⟨hk', m, u, l', vs', n', h1, h2, hv, h3, h4, h5⟩ := f'.own (Str.ofString "self") (true, ps'.map prD) rfl
    have keepB : ∀ b o, b ≠ l → s.heap.get? b = some o → s'.heap.get? b = some o := fun b o hb e => by
      obtain ⟨h2, t2, e2, q2⟩ := mv
      rw [e2]
      exact q2 b o (nL b o e) (nC b o e) hb (hk01 b o e)
    have hu : u = .ref a := by
      cases f'.vars _ _ hbox with
      | loc q1 q2 q3 r => rw [ns_unique q2 h1, h2] at q3; cases q3; cases r; rfl
      | cel q1 => rw [hk'] at q1; cases q1
      | fre q1 => rw [hk'] at q1; cases q1
    subst hu
    have hll : l' = l := by
      cases V with | hdr pa pd i d he =>
      rename_i dd es₁ n₁
      cases hv with | hdr pa' pd' i' d' he' =>
      have na : a ≠ l := fun q => by rw [q, gl] at i; cases i
      rw [keepB a _ na i] at i'
      cases i'
      have nd : dd ≠ l := fun q => by
        rw [q, gl] at d
        have := congrArg (fun o : Obj => o.cls) (Option.some.inj d)
        simp [lob, dictOf] at this
      rw [keepB _ _ nd d] at d'
      have de := Option.some.inj d'
      have ee : _ = _ := congrArg (fun o : Obj => match o.data with | .dict es _ => es.toList | _ => []) de
      have ee' := (show _ = _ from ee)
      simp only [dictOf] at ee'
      have e1 := he (Str.ofString "_headers")
      have e2 := he' (Str.ofString "_headers")
      rw [← ee', e1] at e2
      simpa using e2.symm
    subst hll
    refine ⟨?_, vs', n', h4, h5.mono (fun _ _ e => e) fun b _ _ pb => ?_⟩
    · obtain ⟨h2, t2, e2, q2⟩ := mv
      obtain ⟨hA, tA, eA⟩ := x'.toInCall.same
      obtain ⟨hB, tB, eB, _⟩ := k₀
      refine ⟨h2, t2, by rw [e2, eA, eB], fun b o hb e => ?_⟩
      exact q2 b o (nL b o e) (nC b o e) hb (hk01 b o e)
    · have nb : b ≠ l' := fun q => f'.off b pb (q ▸ h3)
      exact ⟨(f'.sub b pb).elim id fun q => absurd q nb, nb⟩
  refine hbody L (Rm.deeper _) _ _ _ _ s₁ _ _ fs fun fl s' y => ?_
  cases hE with
  | ret hb =>
    obtain ⟨v, rfl, r, p⟩ := y
    obtain ⟨mk, vs', n', g', r'⟩ := fin _ s' hb p
    exact hQ v s' vs' n' (fun b e => by subst e; cases r with | py r => cases r) mk g' r'
  | next hb =>
    obtain ⟨rfl, p⟩ := y
    obtain ⟨mk, vs', n', g', r'⟩ := fin _ s' hb p
    exact hQ .none s' vs' n' (fun b e => by cases e) mk g' r'
end
end Mine

open PySem PySem.W PyProof.Rows PySem.Calls
set_option Elab.async false
set_option maxRecDepth 100000
namespace Mine
example : (PySem.Challenge.rw_rl0110_01, hd0.heap_1) = (PySem.Challenge.rw_rl0110_01, hd0.heap_1) := by k_fill; rfl

theorem via_box {P : Addr → Prop} {h : Heap} {a l : Addr} (V : Via P h true (.ref a) l) : RdT P h (.ref a) (.box a) := by
  cases V with | hdr pa pd i d he => exact .box pa pd i d he
theorem RdT.apart {P : Addr → Prop} {h g : Heap} {l : Addr} {v : Value} {d : Dt} (hl : ¬ P l) (r : RdT P h v d) : RdT (fun b => Up P g b ∧ b ≠ l) h v d := r.mono (fun _ _ e => e) fun b _ _ p => ⟨.inl p, fun q => hl (q ▸ p)⟩

/-- the words of one name and one value -/
structure PairOk (n v : Str) : Prop where
  len : n.length ≤ 100000
  low : (Txt.lower n).length ≤ 1000000
  hitL : noHit nameCode (Txt.lower n) = true
  hitN : noHit nameCode n = true
  lenV : v.length ≤ 1000000
  hitV : noHit valueCode v = true

set_option maxHeartbeats 4000000 in
/-- Headers.setdefault(name, value), a new name -/
theorem setdef_new {w : World} {ps : List (Str × Str)} {n v : Str} (hk : PairOk n v) (hp : ∀ p ∈ ps, p.1.length ≤ 100000) (hps : ps.length ≤ 900) (hr : getF ps (Txt.lower n) = none) : MFn w 3 165 ps [.py (.str n), .py (.str v)] (ps ++ [(n, v)]) := by
  intro A P s Q E a l vs nn args R G V hl gl rl r' hQ
  cases r' with | cons r₂ r' => cases r' with | cons r₃ r' => cases r' with | nil =>
  rename_i v₂ v₃
  refine wpAny_call ?_
  refine fn_enterM (k := 2) (ρ := [(Str.ofString "self", .box a), (Str.ofString "name", .py (.str n)), (Str.ofString "value", .py (.str v))]) (names := [Str.ofString "self", Str.ofString "name", Str.ofString "value"]) R G V hl gl rl (by k_dflt k_is) (by k_dflt k_is)
    (fun A' E' Q' h => (BindsTo.of_eq (binds := [(Str.ofString "self", .ref a), (Str.ofString "name", v₂), (Str.ofString "value", v₃)]) rfl) _ _ _ _ (h s _ (Keeps.rf _) rfl rfl (binds_of ⟨⟨_, rfl, (via_box V).apart hl⟩, ⟨_, rfl, r₂.apart hl⟩, ⟨_, rfl, r₃.apart hl⟩, trivial⟩)))
    (by rfl) (by decide) (by rfl) (by rfl) (by rfl) (by rfl) (.ret (ρ := [(Str.ofString "result", .py .none), (Str.ofString "self", .box a), (Str.ofString "name", .py (.str n)), (Str.ofString "value", .py (.str v))]) (x := v) rfl) (fun L R' => ?_) hQ
  revert R'
  generalize A.deeper _ = A'
  intro R'
  have hg := get_fn (w := w) (ps := ps) hk.len hk.low hk.hitL hp
  rw [hr] at hg
  refine sx_cons (s_assignH (d := .py .none) (ev_hmeth R' (ev_name rfl) (evs_cons (ev_name rfl) evs_nil) hg (by k_dflt k_is) (by k_dflt k_is) (by k_dflt k_is))) ?_
  refine sx_retO (s_if (b := true) (tv_cmp (ev_name rfl) ev_none (cmp_is_none (o := none))) (fun _ => ?_) (fun h => by cases h))
  refine sx_cons (s_happend (p := (n, v)) (ev_tuple (ds := [.str n, .str v]) (evs_cons (ev_conv R' (ev_name rfl) (ev_name rfl) (conv_fn (b := true) (by have := hk.len; omega) hk.hitN) ev_bool) (evs_cons (ev_conv R' (ev_name rfl) (ev_name rfl) (conv_fn (b := false) hk.lenV hk.hitV) ev_bool) evs_nil)) (by show 2 ≤ sizeLine; decide)) (by omega)) ?_
  exact sx_retO (s_returnO (ev_name rfl))
end Mine

open PySem PySem.W PyProof.Rows PySem.Calls
set_option Elab.async false
set_option maxRecDepth 100000
namespace Mine
example : (PySem.Challenge.rw_rl0110_01, hd0.heap_1) = (PySem.Challenge.rw_rl0110_01, hd0.heap_1) := by k_fill; rfl

section
variable {w : World} {A : Around} {P₀ P O X : Addr → Prop} {env : Env} {ρ ρ' : Rho} {ω ω' : Omg} {pos : Pos} {x : Str} {ps ps' : List (Str × Str)}

/-- the own list with another content, the heap grown -/
theorem Fs.ownUpdG {h h' : Heap} {ds ds' : List PyData} {m : Str → Option Value} {a : Addr} {vs vs' : List Value} {n n' : Nat} {v : Value} {bb : Bool} (f : Fs w A P₀ P O X env ρ (some (x, bb, ds)) h) (hm : h.Ns env.locals m) (hx : m x = some v) (hv : Via P h bb v a) (ha : O a)
    (hk : env.kindOf x = some .local) (g : h.get? a = some (lob vs n)) (keep : ∀ b o, b ≠ a → h.get? b = some o → h'.get? b = some o) (g' : h'.get? a = some (lob vs' n')) (r : RdAll P h' vs' ds') : Fs w A P₀ P O X env ρ (some (x, bb, ds')) h' := by
  have np : ¬ P a := fun p => f.off a p ha
  have un : ∀ b o, b = a → h.get? b = some o → Unseen P b o := fun b o hb e => .inr (by subst hb; exact ⟨f.olist b o ha e, np⟩)
  have rd : ∀ {v d}, RdT P h v d → RdT P h' v d := fun r => r.butS (S := fun b => b = a) (fun b o hb e => keep b o hb e) un fun b hb => by subst hb; exact np
  have hl : env.locals ≠ a := fun q => f.noloc.2.1 (q ▸ ha)
  have hc : ∀ y c, env.cells.lookup y = some c → c ≠ a := fun y c e q => (f.nocell y c e).2.1 (q ▸ ha)
  refine ⟨?_, f.fn, f.gl, f.bu, ?_, f.sub, ?_, f.off, f.ino, ?_, f.nox, f.noloc, f.nocell, ⟨m, hm.at' fun o q => keep _ o hl q⟩, ?_, f.apart, ?_⟩
  · obtain ⟨g0, base, outer, b, st, k, e, ff, nn⟩ := f.gr
    refine ⟨g0, base, outer, b, st, fun b o q => keep b o (fun z => by rw [z, nn a (.inr (.inr (.inl ha)))] at q; cases q) (k b o q), e, funFrames_some (fun b o q d => ?_) ff, nn⟩
    by_cases z : b = a
    · subst z; exact ⟨_, g', fun vs q => by cases q⟩
    · exact ⟨o, keep b o z q, d⟩
  · intro y d e
    cases f.vars y d e with
    | loc q1 q2 q3 r => exact .loc q1 (q2.at' fun o q => keep _ o hl q) q3 (rd r)
    | cel q1 q2 q3 r => obtain ⟨o, e1, e2⟩ := q3; exact .cel q1 q2 ⟨o, keep _ o (hc _ _ q2) e1, e2⟩ (rd r)
    | fre q1 q2 q3 r => obtain ⟨o, e1, e2⟩ := q3; exact .fre q1 q2 ⟨o, keep _ o (hc _ _ q2) e1, e2⟩ (rd r)
  · intro b e
    by_cases q : b = a
    · rw [q, g'] at e; cases e
    · exact f.up b (by
        cases e' : h.get? b with
        | none => rfl
        | some o => rw [keep b o q e'] at e; cases e)
  · intro b o ob e
    by_cases q : b = a
    · rw [q, g'] at e; cases e; rfl
    · cases e' : h.get? b with
      | none => exact absurd ob (f.off b (f.up b e'))
      | some o' => rw [keep b o' q e'] at e; cases e; exact f.olist b _ ob e'
  · intro y c e
    obtain ⟨v, o, e1, e2⟩ := f.cells y c e
    exact ⟨v, o, keep _ o (hc y c e) e1, e2⟩
  · intro y ds'' e
    cases e
    exact ⟨hk, m, v, a, vs', n', hm.at' fun o q => keep _ o hl q, hx, hv.butS (S := fun b => b = a) (fun b o hb e => keep b o hb e) (fun b hb => by subst hb; exact np), ha, g', r⟩

/-- x.name(..) as a statement, the method changing the own Headers object x -/
theorem s_hcall {name : Str} {px ap p' : Pos} {e : Expr} {es : List Expr} {ds : List Dt} {f : Addr} {k : Nat} {pl : Sem Bool} (R : Room A k) (hes : Evs w A env ρ (e :: es) ds) (hfn : MFn w k f ps ds ps')
    (hf : findIn (hd0.heap_1 w.params) (.ref hdrCls) name = some (some (.ref f))) (ht : typeIn (hd0.heap_1 w.params) (.ref f) = some (.type "function")) (hfi : fnIn (hd0.heap_1 w.params) f = true) (hne : name ≠ Str.ofString "_headers" := by decide)
    (hx : env.kindOf x = some .local := by rfl) (hdb : (x == ("__debug__" : Str)) = false := by decide)
    (hb : backTo p' (starEach (e :: es) env) = starEach (e :: es) env := by rfl) (hb' : starEach (e :: es) env = (false, eval e env) :: starEach es env := by rfl)
    (hi : interactive env = false := by rfl) (hsw : swapsWith (.Call (.Attribute (.Name x px) name ap) (e :: es) [] p') none pos.line env = pure false := by rfl)
    (hcall : eval (.Call (.Attribute (.Name x px) name ap) (e :: es) [] p') env = (do
      let ov ← eval (.Name x px) env
      standAt ap.atName
      let (f, first) ← holding [ov] (getMethod ov name pl)
      callWith p' f first (backTo p' (starEach (e :: es) env)) (backToKw p' (keywordEach [] env))) := by rfl) :
    S1 w A env ρ (some (x, true, ps.map prD)) (.Expr (.Call (.Attribute (.Name x px) name ap) (e :: es) [] p') pos) (.next ρ (some (x, true, ps'.map prD))) := by
  intro P₀ P O X s Q E f₀ hQ
  refine wpAny_Expr (methodCall_KW ?_ hcall) hi hsw
  obtain ⟨hk, m, u, l, vs, n, h1, h2, hv, h3, h4, h5⟩ := f₀.own x (true, ps.map prD) rfl
  have hv' := hv
  cases hv with | hdr pa pd i dd he =>
  rename_i a d₁ es₁ n₁
  refine wpAny_Name (wpAny_loadName_local f₀.fn hx h1 h2 ?_) hdb
  refine hmethod f₀.gr.base ⟨i, rfl, rfl, dd⟩ he hf ht hne ?_
  obtain ⟨o', fd, ho', hdt⟩ : ∃ o fd, (hd0.heap_1 w.params).lookup f = some o ∧ o.data = .func fd := by
    unfold fnIn at hfi
    split at hfi
    · rename_i fd _ q; exact ⟨_, _, q, rfl⟩
    · cases hfi
  refine callWith_function (o := o') (fd := fd) ?_
  have h := hes P s
  rw [hb'] at h
  rw [hb, hb']
  refine Calls.evalArgs_plain (h _ _ f₀.ok fun args s₂ k₂ r₂ => ⟨⟨(f₀.gr.base.keeps (Keeps.hp k₂)).K _ _ ho', hdt⟩, ?_⟩)
  have f₂ := f₀.keeps (Keeps.hp k₂)
  have tp : ∀ b, Up P s.heap b → P b := fun b p => p.elim id fun q => f₀.up b q
  refine hfn A P s₂ _ E a l vs n args R (f₂.gr.mono fun b hb => .inl (.inr (.inr (.inl (hb ▸ h3))))) (hv'.mono (Keeps.hp k₂) fun _ _ _ p => p) (fun p => f₀.off l p h3) (Keeps.hp k₂ _ _ h4) (h5.mono (Keeps.hp k₂) fun _ _ _ p => p) (r₂.mono (fun _ _ e => e) fun b _ _ p => tp b p) fun v s₃ vs' n' nr mk g' r' => ?_
  obtain ⟨h', t', rfl, keep⟩ := mk
  have f' := f₂.ownUpdG (h' := h') (h1.keeps (Keeps.hp k₂)) h2 (hv'.mono (Keeps.hp k₂) fun _ _ _ p => p) h3 hk (Keeps.hp k₂ _ _ h4) keep g' (r'.mono (fun _ _ e => e) fun b _ _ p => p.1.elim id fun q => f₂.up b q)
  have al : ∀ b, s₂.heap.get? b ≠ none → h'.get? b ≠ none := fun b q => by
    by_cases e : b = l
    · rw [e, g']; exact fun z => nomatch z
    · cases e' : s₂.heap.get? b with
      | none => exact absurd e' q
      | some o => rw [keep b o e e']; exact fun z => nomatch z
  have fin := hQ .next { s₂ with heap := h', toks := t' } (kpPost f₀ k₂ ⟨rfl, ⟨P, O, f', fun _ _ _ p => p, fun _ _ _ p => p⟩, ⟨h', t', rfl, fun b o _ _ h3' e => keep b o (fun q => h3' (q ▸ h3)) e⟩, al⟩)
  cases v with
  | ref b => exact absurd rfl (nr b)
  | _ => exact fin
end
end Mine

open PySem PySem.W PyProof.Rows PySem.Calls
set_option Elab.async false
set_option maxRecDepth 100000
namespace Mine
example : (PySem.Challenge.rw_rl0110_01, hd0.heap_1) = (PySem.Challenge.rw_rl0110_01, hd0.heap_1) := by k_fill; rfl
section
variable {w : World} {A : Around} {ρ : Rho}
theorem fn_enterX {s : Shared} {P : Addr → Prop} {R : Result → Shared → Prop} {S : Addr → Prop} {f : Addr} {k : Nat} {name qual : Str} {params : Arguments} {body : List Stmt} {scope : Scope} {dV kV doc pm cdv ct oc : Value} {an od : Option Addr} {osl : Array (Option Value)} {args : Args} {names : List Str}
    (Rm : Room A (k + 1)) (G : Gr w A S s.heap) (hl : ∀ b, S b → ¬ P b) (gl : ∀ b, S b → ∃ o, s.heap.get? b = some o)
    (ho : (hd0.heap_1 w.params).lookup f = some ⟨oc, od, .func (fnOf name qual params body scope dV kV doc pm an cdv ct), osl⟩) (hcd : codeIn (hd0.heap_1 w.params) cdv qual = true)
    (hbind : ∀ (A' : Around) (E' : Value → Shared → Prop) (Q' : List (Str × Value) → Shared → Prop), (∀ s₀ binds, Keeps s s₀ → binds.map (·.1) = names → (∀ y d, ρ.lookup y = some d → ∃ v, binds.lookup y = some v ∧ RdT (fun b => Up P s.heap b ∧ ¬ S b) s₀.heap v d) → Q' binds s₀) →
      wpAny (model pr w) A' (bindArgs (fnOf name qual params body scope dV kV doc pm an cdv ct) args) Q' E' s)
    (hkind : (names.all fun y => scope.names.lookup y == some .local || scope.names.lookup y == some .cell) = true) (hnd : names.Nodup)
    (hco : scope.isCoroutine = false) (hgen : scope.isGenerator = false) (hk : scope.kind = .function)
    (hbody : ∀ L s₁ P', Room (A.deeper (fEnv qual scope f cdv L)) k → Fs w (A.deeper (fEnv qual scope f cdv L)) (Up P s.heap) P' (fun _ => False) S (fEnv qual scope f cdv L) ρ none s₁.heap → Keeps s s₁ → (∀ b o, s.heap.get? b = some o → P b → P' b) →
      (∀ b o, s.heap.get? b = some o → b ≠ L ∧ ∀ y, (fEnv qual scope f cdv L).cells.lookup y ≠ some b) →
      wpAny (model pr w) (A.deeper (fEnv qual scope f cdv L)) (execs body (fEnv qual scope f cdv L)) (fun fl s' => R (.ok (.ret (match fl with | .ret v => v | _ => .none))) s') (fun _ _ => False) s₁) : codeAny (model pr w) A (.call (.ref f) args) R s := by
  have B := G.base
  obtain ⟨_, mg, mb, T⟩ := B.T
  refine codeAny_call_function (Nat.lt_of_le_of_lt (Nat.le_add_right _ _) Rm.depth) (B.K _ _ ho) rfl hco hgen rfl (codeRec_of B.K hcd) (hbind _ _ _ fun s₀ binds k₀ hnames hρ => ?_)
  have hkind' : (binds.all fun y => scope.names.lookup y.1 == some .local || scope.names.lookup y.1 == some .cell) = true := by
    rw [← hnames, List.all_map] at hkind; exact hkind
  have hnd' : (binds.map (·.1)).Nodup := by rw [hnames]; exact hnd
  refine wpAny_newFunctionEnv_cells hk (kindsX hkind' _) fun env' he s₁ x => ?_
  subst he
  refine ⟨(T.nolimit.keeps (Keeps.hp k₀)).keeps x.toInCall.keep, codeAny_func ?_⟩
  generalize hL : s₀.heap.objs.size = L at x ⊢
  have x' : InCallC s₀ L (bindL (fEnv qual scope f cdv L).kindOf binds fun _ => none) (fEnv qual scope f cdv L).cells (bindC (fEnv qual scope f cdv L).kindOf binds fun _ => none) s₁ := x
  show wpAny _ (A.deeper (fEnv qual scope f cdv L)) (execs body (fEnv qual scope f cdv L)) _ _ _
  have hk₀ := Keeps.hp k₀
  have hk₁ : KeepsH s₀.heap s₁.heap := x'.toInCall.keep
  have hk01 : KeepsH s.heap s₁.heap := fun b o e => hk₁ _ _ (hk₀ _ _ e)
  have cl : ∀ y c, (fEnv qual scope f cdv L).cells.lookup y = some c → L < c := fun y c e => x'.above y c (mem_of_lookup e)
  have fr₀ : ∀ b, L ≤ b → s₀.heap.get? b = none := fun b h => fresh_le (by rw [hL]; exact h)
  have fr : ∀ b, L ≤ b → s.heap.get? b = none := fun b h => by
    cases e : s.heap.get? b with
    | none => rfl
    | some o => have := hk₀ _ _ e; rw [fr₀ b h] at this; cases this
  let P' : Addr → Prop := fun b => (Up P s.heap b ∧ ¬ S b) ∧ b ≠ L ∧ ∀ y, (fEnv qual scope f cdv L).cells.lookup y ≠ some b
  have up1 : ∀ b o, s₀.heap.get? b = some o → (Up P s.heap b ∧ ¬ S b) → P' b := fun b o e p => ⟨p, (fun q => by rw [q, fr₀ _ (Nat.le_refl _)] at e; exact (nomatch e)), fun y q => by rw [fr₀ _ (Nat.le_of_lt (cl y b q))] at e; exact (nomatch e)⟩
  have up0 : ∀ b o, s.heap.get? b = some o → P b → P' b := fun b o e p => up1 b o (hk₀ _ _ e) ⟨.inl p, fun q => hl b q p⟩
  have nL : ∀ b o, s.heap.get? b = some o → b ≠ L := fun b o e q => by rw [q, fr _ (Nat.le_refl _)] at e; cases e
  have nC : ∀ b o, s.heap.get? b = some o → ∀ y, (fEnv qual scope f cdv L).cells.lookup y ≠ some b := fun b o e y q => by rw [fr _ (Nat.le_of_lt (cl y b q))] at e; cases e
  have fs : Fs w (A.deeper (fEnv qual scope f cdv L)) (Up P s.heap) P' (fun _ => False) S (fEnv qual scope f cdv L) ρ none s₁.heap := by
    refine ⟨?_, hk, rfl, rfl, ?_, fun b p => p.1.1, ?_, fun b p q => q, fun b q => q.elim, fun b o q => q.elim, fun b q => ⟨fun p => p.1.2 q, fun z => z⟩, ⟨fun p => p.2.1 rfl, fun q => q, fun q => let ⟨o, e⟩ := gl _ q; nL _ o e rfl⟩, fun y c e => ⟨fun p => p.2.2 y e, fun q => q, fun q => let ⟨o, e'⟩ := gl _ q; nC _ o e' y e⟩, ⟨_, x'.toInCall.ns⟩, fun y c e => ⟨_, x'.cell y c e⟩, ?_, ?_⟩
    · obtain ⟨g, base, outer, Bg, st, kg, eA, ff, ng⟩ := G
      have bb : Below A base outer s₀.heap := below_keeps hk₀ ⟨eA, fun b o q => kg _ _ (st b o q), ff⟩
      have F : Fr s₀.heap L s₁.heap _ := ⟨x'.toInCall.ns, hk₁, hL ▸ Nat.le_refl _⟩
      have bb' := pushX (env := fEnv qual scope f cdv L) bb F rfl hk
      refine ⟨g, base, _, Bg, st, fun b o q => hk01 _ _ (kg b o q), bb'.stack, bb'.frames, fun b hb => ?_⟩
      have fg : ∀ b, s.heap.get? b = none → g.get? b = none := fun b e => by
        cases q : g.get? b with
        | none => rfl
        | some o => rw [kg _ _ q] at e; cases e
      rcases hb with rfl | ⟨y, e⟩ | q | q
      · exact fg _ (fr _ (Nat.le_refl _))
      · exact fg _ (fr _ (Nat.le_of_lt (cl y b e)))
      · exact q.elim
      · exact ng b q
    · intro y d' e
      obtain ⟨v, hv, r⟩ := hρ y d' e
      have r' : RdT P' s₁.heap v d' := r.mono hk₁ up1
      have hy := List.all_eq_true.mp hkind' _ (mem_of_lookup hv)
      rcases Bool.or_eq_true_iff.mp hy with q | q
      · have q' : (fEnv qual scope f cdv L).kindOf y = some .local := beq_iff_eq.mp q
        exact .loc q' x'.toInCall.ns (by rw [bindL_get q' hnd', hv]; rfl) r'
      · have q' : (fEnv qual scope f cdv L).kindOf y = some .cell := beq_iff_eq.mp q
        have hs : ((fEnv qual scope f cdv L).cells.lookup y).isSome = true := cellsFrom_some _ _ _ (.inl q')
        obtain ⟨c, hc⟩ := Option.isSome_iff_exists.mp hs
        have hcv := x'.cell y c hc
        rw [bindC_get q' hnd', hv] at hcv
        exact .cel q' hc hcv r'
    · intro b e
      refine ⟨⟨.inr ?_, fun q => ?_⟩, fun q => ?_, fun y q => ?_⟩
      · cases e' : s.heap.get? b with
        | none => rfl
        | some o => rw [hk01 _ _ e'] at e; cases e
      · obtain ⟨o, e'⟩ := gl b q; rw [hk01 _ _ e'] at e; cases e
      · obtain ⟨o, _, _, e', _⟩ := x'.toInCall.ns; rw [q, e'] at e; cases e
      · obtain ⟨o, e', _⟩ := x'.cell y b q; rw [e'] at e; cases e
    · intro y z c e1 e2
      exact name_of_addr x'.apart (mem_of_lookup e1) (mem_of_lookup e2)
    · intro y ds e; cases e
  have kk : Keeps s s₁ := by
    obtain ⟨hA, tA, eA⟩ := x'.toInCall.same
    obtain ⟨hB, tB, eB, _⟩ := k₀
    refine ⟨hA, tA, by rw [eA, eB], fun b o e => ?_⟩
    have := hk01 b o e; rw [eA] at this; exact this
  exact wpAny_mono (hbody L s₁ P' (Rm.deeper _) fs kk up0 fun b o e => ⟨nL b o e, nC b o e⟩) (fun _ _ z => z) fun _ _ z => z.elim
end
end Mine

open PySem PySem.W PyProof.Rows PySem.Calls
set_option Elab.async false
set_option maxRecDepth 100000
namespace Mine
example : (PySem.Challenge.rw_rl0110_01, hd0.heap_1) = (PySem.Challenge.rw_rl0110_01, hd0.heap_1) := by k_fill; rfl

theorem hdr_sa {w : World} : findIn (hd0.heap_1 w.params) (.ref hdrCls) "__setattr__" = some (some (.builtin "object.__setattr__")) := by k_dflt k_is
theorem hdr_po {w : World} : plainOver (hd0.heap_1 w.params) hdrCls = true := by k_dflt k_is
theorem hdr_tk {w : World} : takerIn (hd0.heap_1 w.params) hdrCls "_headers" = some none := by k_dflt k_is

theorem hdrEs_new (hsh : Int) (t : Tok) (l : Addr) : hdrEs (putL (Str.ofString "_headers") hsh (.str (Str.ofString "_headers") t) (.ref l) []) l := by
  intro name
  unfold putL getL
  by_cases e : name = Str.ofString "_headers"
  · subst e; simp [Value.isStr]
  · have : (Str.ofString "_headers" == name) = false := beq_false_of_ne fun q => e q.symm
    simp [Value.isStr, this, e, DictEntry.refKey]
section
variable {w : World} {A : Around} {E : Value → Shared → Prop} {s : Shared}
/-- self._headers = v, the first time -/
theorem hset {a dd l : Addr} {Q : Unit → Shared → Prop} (B : Base w s.heap) (ia : s.heap.get? a = some (instObj hdrCls dd)) (dx : s.heap.get? dd = some (dictOf [] 0))
    (h : ∀ h' es n, Heap.SameBut dd s.heap h' → h'.get? dd = some (dictOf es n) → hdrEs es l → Q () { s with heap := h', toks := s.toks + 2 }) :
    wpAny (model pr w) A (setAttr (.ref a) (Str.ofString "_headers") (.ref l)) Q E s := by
  have I : InstAt s.heap a (instObj hdrCls dd) hdrCls (some (dictOf [] 0)) := ⟨ia, rfl, rfl, dx⟩
  refine set_plain B.K I hdr_sa ?_
  refine osa_open (s := { s with toks := s.toks + 1 }) B.K I hdr_po hdr_tk fun b => ?_
  obtain ⟨cd, hc, hd'⟩ := any_some (hdr_hd (w := w))
  refine wpAny_bind (wpAny_pure (wpAny_bind (wpAny_bind (wpAny_loadPart ia (wpAny_bind ((Looks.here (s := { s with toks := s.toks + 1 }) (looks_clsIn B.K hc)) ?_))))))
  rw [hd']
  refine wpAny_pure (a := some dd) (wpAny_bind (wpAny_pure (wpAny_bind ?_)))
  unfold nsSet
  refine wpAny_bind (wpAny_bind (wpAny_askSetting (wpAny_pure (wpAny_bind (wpAny_mkText (wpAny_bind (wpAny_loadPart dx ?_)))))))
  rw [show (dictOf [] 0).data = .dict #[] 0 from rfl]
  dsimp only
  rw [aRefKeyMayBeTheName_at, if_neg (by simp)]
  refine wpAny_updatePart (s := { s with toks := s.toks + 1 + 1 }) dx ?_
  have e := putName_dict (Str.ofString "_headers") (PyData.keyHash w.params (Str.ofString "_headers")) (.str (Str.ofString "_headers") (s.toks + 1)) (.ref l) [] 0
  have D' := Heap.get?_update_self (Obj.putName (Str.ofString "_headers") (PyData.keyHash w.params (Str.ofString "_headers")) (.str (Str.ofString "_headers") (s.toks + 1)) (.ref l)) dx (by rw [e]; rfl)
  rw [e] at D'
  refine wpAny_bind (wpAny_lookBehind D' (pastItsLine_dict (by show 1 ≤ sizeLine + 1; decide)) ?_)
  exact wpAny_pure (h _ _ _ (Heap.SameBut.update ..) D' (hdrEs_new _ _ _))
end
end Mine

open PySem PySem.W PyProof.Rows PySem.Calls
set_option Elab.async false
set_option maxRecDepth 100000
namespace Mine
example : (PySem.Challenge.rw_rl0110_01, hd0.heap_1) = (PySem.Challenge.rw_rl0110_01, hd0.heap_1) := by k_fill; rfl

section
variable {w : World} {A : Around} {env : Env} {ρ : Rho} {pos : Pos}
theorem evf_ifexp {t e₁ e₂ : Expr} {ds : List PyData} (h : Tv w A env ρ t false) (h₂ : EvF w A env ρ e₂ ds) : EvF w A env ρ (.IfExp t e₁ e₂ pos) ds :=
  fun P s Q E ok hQ => wpAny_IfExp (h P s _ _ ok fun s₁ k => by
    simp only [Bool.false_eq_true, if_false]
    exact h₂ P s₁ Q E (ok.keeps (Keeps.hp k)) fun a vs n s' k' fr g r => hQ a vs n s' (Keeps.tr k k') (by
      cases e : s.heap.get? a with
      | none => rfl
      | some o => have := Keeps.hp k _ _ e; rw [fr] at this; cases this) g (r.mono (fun _ _ e => e) fun b _ _ p => ⟨up_mono (Keeps.hp k) b p.1, p.2⟩))
theorem cmp_isnot_none : CmpR w A .IsNot (.py .none) (.py .none) false := by
  intro P s v₁ v₂ Q E r₁ r₂ hQ
  have hq := hQ s (Keeps.rf _)
  cases r₂ with | py r₂ => cases r₂; cases r₁ with | py r₁ => cases r₁; exact wpAny_isNot_plain (by rfl) hq
theorem ev_debug {p : Pos} : Ev w A env ρ (.Name (Str.ofString "__debug__") p) (.py (.bool true)) := by
  intro P s Q E ok hQ
  have h := hQ (.bool true) s (Keeps.rf _) (.py (.bool true))
  show wpAny _ A (do standAt p; debugConstant) Q E s
  exact wpAny_bind (wpAny_standAt (wpAny_bind (wpAny_rule (wpAny_pure h))))
end

theorem Fs.freeze {w : World} {A : Around} {env : Env} {ρ : Rho} {P₀ P O X : Addr → Prop} {h : Heap} {x : Str} {ds : List PyData} {m : Str → Option Value} {a : Addr} {vs : List Value} {n : Nat} (f : Fs w A P₀ P O X env ρ (some (x, false, ds)) h) (hk : env.kindOf x = some .local) (h1 : h.Ns env.locals m) (h2 : m x = some (.ref a)) (h3 : O a) (h4 : h.get? a = some (lob vs n)) (h5 : RdAll P h vs ds) :
    Fs w A P₀ (fun b => P b ∨ b = a) (fun b => O b ∧ b ≠ a) X env ((x, .py (.list ds)) :: ρ) none h := by
  refine ⟨f.gr.mono fun b hb => .inl ?_, f.fn, f.gl, f.bu, fun y d e => ?_, ?_, fun b e => .inl (f.up b e), ?_, fun b ob => f.ino b ob.1, fun b o ob e => f.olist b o ob.1 e, ?_, ?_, ?_, f.ns, f.cells, f.apart, fun _ _ e => by cases e⟩
  · rcases hb with hb | hb | hb | hb
    · exact .inl hb
    · exact .inr (.inl hb)
    · exact .inr (.inr (.inl hb.1))
    · exact .inr (.inr (.inr hb))
  · rw [List.lookup_cons] at e
    cases hy : y == x with
    | false => rw [hy] at e; exact (f.vars y d e).mono (fun _ _ e => e) fun _ _ _ p => .inl p
    | true =>
      rw [hy] at e; cases e
      rw [beq_iff_eq.mp hy]
      exact .loc hk h1 h2 (.py (.list (.inr rfl) h4 (h5.mono (fun _ _ e => e) fun _ _ _ p => .inl p)))
  · rintro b (p | rfl)
    · exact f.sub b p
    · exact f.ino b h3
  · rintro b (p | rfl) ob
    · exact f.off b p ob.1
    · exact ob.2 rfl
  · exact fun b hb => ⟨fun p => p.elim (f.nox b hb).1 fun q => (f.nox b hb).2 (q ▸ h3), fun ob => (f.nox b hb).2 ob.1⟩
  · exact ⟨fun p => p.elim f.noloc.1 fun q => f.noloc.2.1 (q ▸ h3), fun ob => f.noloc.2.1 ob.1, f.noloc.2.2⟩
  · exact fun y c e => ⟨fun p => p.elim (f.nocell y c e).1 fun q => (f.nocell y c e).2.1 (q ▸ h3), fun ob => (f.nocell y c e).2.1 ob.1, (f.nocell y c e).2.2⟩
theorem at_cons {w : World} {A : Around} {env : Env} {ρ ρ' : Rho} {ω ω' : Omg} {P₀ P O X : Addr → Prop} {s : Shared} {st : Stmt} {rest : List Stmt} {Q : Flow → Shared → Prop} {E : Value → Shared → Prop} (f : Fs w A P₀ P O X env ρ ω s.heap) (h : S1 w A env ρ ω st (.next ρ' ω'))
    (k : ∀ s₁, Post w A P₀ P O X env s ρ' ω' s₁ → wpAny (model pr w) A (execs rest env) Q E s₁) : wpAny (model pr w) A (execs (st :: rest) env) Q E s :=
  wpAny_execs_cons (h P₀ P O X s _ _ f fun fl s₁ y => by obtain ⟨rfl, p⟩ := y; exact k s₁ p)
set_option maxHeartbeats 4000000 in
theorem init_fn {w : World} {A : Around} {s : Shared} {R : Result → Shared → Prop} {a dd : Addr} (Rm : Room A 1) (G : Gr w A (fun b => b = dd) s.heap) (ia : s.heap.get? a = some (instObj hdrCls dd)) (dx : s.heap.get? dd = some (dictOf [] 0))
    (hQ : ∀ s' l, MKeeps dd s s' → HdrAt s'.heap a dd l [] → s.heap.get? l = none → R (.ok (.ret .none)) s') : codeAny (model pr w) A (.call (.ref 69) ⟨[.ref a], []⟩) R s := by
  have nad : a ≠ dd := fun q => by rw [q, dx] at ia; cases ia
  refine fn_enterX (k := 0) (P := fun b => b ≠ dd) (S := fun b => b = dd) (ρ := [(Str.ofString "self", .val (.ref a)), (Str.ofString "headers", .py .none)]) (names := [Str.ofString "self", Str.ofString "headers"]) Rm G (fun b h p => p h) (fun b h => ⟨_, h ▸ dx⟩) (by k_dflt k_is) (by k_dflt k_is)
    (fun A' E' Q' h => (binds_K (binds := [(Str.ofString "self", .ref a), (Str.ofString "headers", .none)]) G.base.K rfl (by k_dflt k_is) rfl rfl rfl) _ _ _ _ (h s _ (Keeps.rf _) rfl (binds_of ⟨⟨_, rfl, .val⟩, ⟨_, rfl, .py .none⟩, trivial⟩)))
    (by rfl) (by decide) (by rfl) (by rfl) (by rfl) (fun L s₁ P' R' fs kk up0 nLC => ?_)
  revert R' fs
  generalize A.deeper _ = A'
  intro R' fs
  refine at_cons fs (s_own (evf_ifexp (tv_cmp (ev_name rfl) ev_none cmp_isnot_none) (evf_list (ds := []) evs_nil))) fun s₂ p₂ => ?_
  obtain ⟨P₂, O₂, f₂, hp₂, ho₂⟩ := p₂.fs
  refine at_cons f₂ (s_ifV (b := false) (tv_eq (tv_cmp (ev_type (ev_name rfl)) (ev_bval PyProof.Rows.boot_list) cmp_isnot_ty) (by rfl)) (fun h => by cases h) (fun _ => sx_nil)) fun s₃ p₃ => ?_
  obtain ⟨P₃, O₃, f₃, hp₃, ho₃⟩ := p₃.fs
  obtain ⟨hk, m, u, l, vs, n, h1, h2, hv, h3, h4, h5⟩ := f₃.own (Str.ofString "headers") (false, []) rfl
  cases hv
  cases h5
  have in1 : ∀ b o, s.heap.get? b = some o → s₁.heap.get? b = some o := fun b o e => Keeps.hp kk b o e
  have in2 : ∀ b o, s.heap.get? b = some o → s₂.heap.get? b = some o := fun b o e => by
    obtain ⟨h', t', e', q⟩ := p₂.mv
    rw [e']; exact q b o (nLC b o e).1 (nLC b o e).2 (fun z => z) (in1 b o e)
  have nO2 : ∀ b o, s.heap.get? b = some o → ¬ O₂ b := fun b o e q => ho₂ b o (in1 b o e) q
  have in3 : ∀ b o, s.heap.get? b = some o → s₃.heap.get? b = some o := fun b o e => by
    obtain ⟨h', t', e', q⟩ := p₃.mv
    rw [e']; exact q b o (nLC b o e).1 (nLC b o e).2 (nO2 b o e) (in2 b o e)
  have nO3 : ∀ b o, s.heap.get? b = some o → ¬ O₃ b := fun b o e q => nO2 b o e (ho₃ b o (in2 b o e) q)
  have fl : s.heap.get? l = none := by
    cases e : s.heap.get? l with
    | none => rfl
    | some o => exact absurd h3 (nO3 l o e)
  refine wpAny_execs_cons (plainObj_wpAny_Assign_Attribute (wpAny_Name (wpAny_loadName_local f₃.fn rfl h1 h2 ?_)))
  refine ev_name (d := .val (.ref a)) rfl (by decide) (by decide) P₃ s₃ _ _ f₃.ok fun v s₄ k₄ r₄ => ?_
  cases r₄
  have f₄ := f₃.keeps (Keeps.hp k₄)
  refine hset f₄.gr.base (Keeps.hp k₄ _ _ (in3 _ _ ia)) (Keeps.hp k₄ _ _ (in3 _ _ dx)) fun h₅ es₅ n₅ sb g₅ he₅ => ?_
  have f₅ : Fs w A' _ P₃ O₃ _ _ _ _ h₅ := f₄.chg (c := dd) rfl (fun o e xs nn q => by rw [Keeps.hp k₄ _ _ (in3 _ _ dx)] at e; cases e; cases q) (fun b o hb e => sb.extBut b o hb e) ⟨_, g₅, fun vs q => by cases q⟩
  have ndl : l ≠ dd := fun q => by rw [q, dx] at fl; cases fl
  have gl₅ : h₅.get? l = some (lob [] n) := sb.extBut l _ ndl (Keeps.hp k₄ _ _ h4)
  have f₆ := f₅.freeze hk ((h1.keeps (Keeps.hp k₄)).at' fun o q => sb.extBut _ o (fun z => f₃.noloc.2.2 z) q) h2 h3 gl₅ .nil
  refine at_cons (s := { s₄ with heap := h₅, toks := s₄.toks + 2 }) (ρ' := []) (ω' := none) f₆ ?_ fun s₇ p₇ => ?_
  · refine s_if (b := true) ?_ ?_ ?_
    · exact tv_eq (tv_plain (d := .bool true) ev_bool trivial) rfl
    · intro _
      exact sx_cons (s_for_any (α := Str × Str) (enc := prD) (its := []) (ext := fun _ ρ => ρ) (fun _ => []) (fun _ => none) 0 (src_list R'.handled (ev_name rfl)) (fun _ _ e => by simp at e) rfl (fun i a hi => absurd hi (by omega)) (Nat.le_refl _) (.all rfl sx_nil) (fun i a ha => by simp at ha)) sx_nil
    · intro h; cases h
  refine wpAny_execs_nil ?_
  have in7 : ∀ b o, b ≠ dd → s.heap.get? b = some o → s₇.heap.get? b = some o := fun b o hb e => by
    obtain ⟨h', t', e', q⟩ := p₇.mv
    rw [e']; exact q b o (nLC b o e).1 (nLC b o e).2 (fun z => nO3 b o e z.1) (sb.extBut b o hb (Keeps.hp k₄ _ _ (in3 b o e)))
  have keep7 : ∀ b o, b ≠ (fEnv _ _ _ _ L).locals → (∀ y, (fEnv _ _ _ _ L).cells.lookup y ≠ some b) → ¬ (O₃ b ∧ b ≠ l) → h₅.get? b = some o → s₇.heap.get? b = some o := fun b o a1 a2 a3 e => by
    obtain ⟨h', t', e', q⟩ := p₇.mv
    rw [e']; exact q b o a1 a2 a3 e
  refine hQ s₇ l ?_ ⟨in7 a _ nad ia, ⟨es₅, n₅, keep7 dd _ (nLC dd _ dx).1 (nLC dd _ dx).2 (fun z => nO3 dd _ dx z.1) g₅, he₅⟩, ⟨[], n, keep7 l _ (fun q => f₃.noloc.2.1 (q ▸ h3)) (fun y q => (f₃.nocell y l q).2.1 h3) (fun z => z.2 rfl) gl₅, .nil⟩⟩ fl
  obtain ⟨ha, ta, e1, _⟩ := kk
  obtain ⟨hb, tb, e2, _⟩ := p₂.mv
  obtain ⟨hc, tc, e3, _⟩ := p₃.mv
  obtain ⟨hd', td, e4, _⟩ := k₄
  obtain ⟨he, te, e7, _⟩ := p₇.mv
  refine ⟨he, te, by rw [e7, e4, e3, e2, e1], fun b o hb e => by have := in7 b o hb e; rw [e7] at this; exact this⟩
end Mine

open PySem PySem.W PyProof.Rows PySem.Calls
set_option Elab.async false
set_option maxRecDepth 100000
namespace Mine
example : (PySem.Challenge.rw_rl0110_01, hd0.heap_1) = (PySem.Challenge.rw_rl0110_01, hd0.heap_1) := by k_fill; rfl

section
variable {w : World} {A : Around} {P₀ P O X : Addr → Prop} {env : Env} {ρ ρ' : Rho} {ω ω' : Omg} {pos : Pos} {x : Str} {ps : List (Str × Str)}

abbrev crea : Code := .builtin "type.__call__" ⟨[.ref hdrCls], []⟩
theorem crea_w : crea.weight = 1 := by decide +kernel
theorem crea_u : crea.cUnits ≤ 5 := by decide +kernel
theorem crea_f : (A.under crea).frames = A.frames := by rfl
theorem Room.crea {k : Nat} (R : Room A (k + 1)) : Room (A.under crea) k :=
  ⟨R.handled, by have := R.depth; show A.depth + Code.weight _ + k < _; rw [crea_w]; omega, by have := R.units; have := crea_u; show A.units + Code.cUnits _ + 10 * k + 200 < _; omega⟩

/-- a new Headers object -/
noncomputable def EvH (w : World) (A : Around) (env : Env) (ρ : Rho) (e : Expr) : Prop :=
  ∀ (P : Addr → Prop) (s : Shared) (Q E : Value → Shared → Prop), Ok w A P env ρ s.heap →
    (∀ a dd l s', Keeps s s' → s.heap.get? a = none → s.heap.get? dd = none → s.heap.get? l = none → HdrAt s'.heap a dd l [] → Q (.ref a) s') → wpAny (model pr w) A (eval e env) Q E s

theorem hdr_makes : makesIn (hd0.heap_1 w.params) hdrCls = true := by k_dflt k_is
theorem hdr_init : findIn (hd0.heap_1 w.params) (.ref hdrCls) "__init__" = some (some (.ref 69)) := by k_dflt k_is
theorem hdr_initT : typeIn (hd0.heap_1 w.params) (.ref 69) = some (.type "function") := by k_dflt k_is
theorem hdr_keep : keepIn (hd0.heap_1 w.params) (.ref hdrCls) = true := by k_dflt k_is

theorem evh_new {p : Pos} {k : Nat} (R : Room A (k + 2)) (hn : nsIn (hd0.heap_1 w.params) mainGlobals x = some (some (.ref hdrCls))) (hk : env.kindOf x = some .globalImplicit := by rfl) (hdb : (x == ("__debug__" : Str)) = false := by decide) :
    EvH w A env ρ (.Call (.Name x p) [] [] pos) := by
  intro P s Q E ok hQ
  refine PyProof.Rows.Call_Name0 (gname ok hk hn ?_ hdb)
  refine callWith_KW0 (env := env) (kws := []) ok.base.K hdr_keep (by rfl) (wpAny_evalAll_nil ⟨ok.base.K, ?_⟩)
  refine wpAny_call ?_
  obtain ⟨hh, g, d, t, os⟩ := s
  have B := ok.base
  refine make_core (makes_of B.K hdr_makes) (looks_findIn B.K hdr_init) (fun self => bind_fn B.K self hdr_initT) (.inl rfl) ?_
  have fr0 : hh.get? hh.objs.size = none := fresh_size hh
  have fr1 : hh.get? (hh.objs.size + 1) = none := fresh_le (Nat.le_succ _)
  have kp : KeepsH hh ((hh.push emptyDict).push (instObj hdrCls hh.objs.size)) := fun b o e => Heap.get?_push_of_some _ (Heap.get?_push_of_some _ e)
  have G : Gr w (A.under crea) (fun b => b = hh.objs.size) ((hh.push emptyDict).push (instObj hdrCls hh.objs.size)) := by
    obtain ⟨base, outer, bb⟩ := ok.bel
    have bb' := below_keeps kp bb
    exact ⟨hh, base, outer, B, bb.stays, kp, by rw [crea_f]; exact bb.stack, bb'.frames, fun b hb => by rw [hb]; exact fr0⟩
  have gd : (hh.push emptyDict).get? hh.objs.size = some (dictOf [] 0) := by heap_get
  have gi : ((hh.push emptyDict).push (instObj hdrCls hh.objs.size)).get? (hh.objs.size + 1) = some (instObj hdrCls hh.objs.size) := by heap_get
  refine init_fn (a := hh.objs.size + 1) (dd := hh.objs.size) (R.crea.le (by omega)) G gi (Heap.get?_push_of_some _ gd) fun s' l mk hx fl => ⟨rfl, ?_⟩
  obtain ⟨h', t', rfl, keep⟩ := mk
  refine hQ (hh.objs.size + 1) hh.objs.size l _ ⟨h', t', rfl, fun b o e => keep b o (fun q => by rw [q] at e; have := fr0; rw [this] at e; cases e) (kp b o e)⟩ fr1 fr0 ?_ hx
  cases e : hh.get? l with
  | none => rfl
  | some o => have := kp _ _ e; rw [fl] at this; cases this

/-- x = Headers(): the own Headers object -/
theorem s_ownH {px : Pos} {e : Expr} (h : EvH w A env ρ e) (hx : env.kindOf x = some .local := by rfl)
    (hs : swapsWith e (some (.Name x px)) pos.line env = pure false := by rfl) : S1 w A env ρ none (.Assign [.Name x px] e pos) (.next (ρ.filter fun p => p.1 != x) (some (x, true, ([] : List (Str × Str)).map prD))) := by
  intro P₀ P O X s Q E f hQ
  refine wpAny_Assign_Name (h P s _ _ f.ok fun ia dd a s₁ k fri frd fr hat => ?_) hs
  have f₁ := f.keeps (Keeps.hp k)
  have pa : P a := f.up a fr
  obtain ⟨inst, ⟨es, nd, gdd, hes⟩, ⟨vs, n, g, prs⟩⟩ := hat
  have nia : ia ≠ a := fun q => by rw [q, g] at inst; cases inst
  have nda : dd ≠ a := fun q => by rw [q, g] at gdd; have := congrArg (fun o : Obj => o.cls) (Option.some.inj gdd); simp [lob, dictOf] at this
  obtain ⟨m, hm⟩ := f₁.ns
  refine wpAny_storeName_local hx hm (fun h' hn hs' => hQ _ _ ?_) (by rw [f.fn]; rfl)
  have inS : ∀ b o, s.heap.get? b = some o → b ≠ a := fun b o e q => by rw [q, fr] at e; cases e
  have hl : env.locals ≠ a := fun q => by obtain ⟨m, o, _, _, e, _⟩ := f.ns; exact inS _ o e q
  have hli : ia ≠ env.locals := fun q => by obtain ⟨m, o, _, _, e, _⟩ := f.ns; rw [← q, fri] at e; cases e
  have hld : dd ≠ env.locals := fun q => by obtain ⟨m, o, _, _, e, _⟩ := f.ns; rw [← q, frd] at e; cases e
  have hc : ∀ y c, env.cells.lookup y = some c → c ≠ a := fun y c e q => by obtain ⟨v, o, e1, _⟩ := f.cells y c e; exact inS _ o e1 q
  have hu : ∀ o, s₁.heap.get? env.locals = some o → ∀ xs n, o.data ≠ .seq xs n := fun o e xs n q => by
    obtain ⟨o', es, ep, e1, e2, _⟩ := hm; rw [e1] at e; cases e; rw [e2] at q; cases q
  have hcl : ∀ y c, env.cells.lookup y = some c → c ≠ env.locals := fun y c e q => by
    obtain ⟨v', o', e1, e2⟩ := f₁.cells y c e
    obtain ⟨o, es, ep, e3, e4, _⟩ := hm
    rw [q, e3] at e1; cases e1; rw [e4] at e2; cases e2
  let P' : Addr → Prop := fun b => P b ∧ b ≠ a
  let O' : Addr → Prop := fun b => O b ∨ b = a
  have rd : ∀ {v d}, RdT P s.heap v d → RdT P' h' v d := fun r => by
    have r1 : RdT P' s₁.heap _ _ := r.mono (Keeps.hp k) fun b o e p => ⟨p, inS b o e⟩
    exact r1.butS (S := fun b => b = env.locals) (fun b o hb e => hs'.extBut b o hb e) (fun b o hb e => .inl (by subst hb; exact hu o e)) fun b hb => by subst hb; exact fun p => f.noloc.1 p.1
  have ga : h'.get? a = some (lob vs n) := hs'.extBut _ _ (Ne.symm hl) g
  have fs' : Fs w A P₀ P' O' X env (ρ.filter fun p => p.1 != x) (some (x, true, ([] : List (Str × Str)).map prD)) h' := by
    refine ⟨((f.gr.mono (S' := offS env O' X) fun b hb => ?_).keeps (Keeps.hp k)).change hs' (.inl rfl) ?_, f.fn, f.gl, f.bu, ?_, fun b p => f.sub b p.1, ?_, ?_, ?_, ?_, ?_, ?_, ?_, ⟨_, hn⟩, ?_, f.apart, ?_⟩
    · rcases hb with hb | hb | (hb | hb) | hb
      · exact .inl (.inl hb)
      · exact .inl (.inr (.inl hb))
      · exact .inl (.inr (.inr (.inl hb)))
      · exact .inr (hb ▸ fr)
      · exact .inl (.inr (.inr (.inr hb)))
    · obtain ⟨o', es, ep, e1, e2, _⟩ := hn; exact ⟨o', e1, fun vs q => by rw [e2] at q; cases q⟩
    · intro y d e
      have hy : y ≠ x ∧ ρ.lookup y = some d := lookup_drop e
      cases f.vars y d hy.2 with
      | loc q1 q2 q3 r => rw [ns_unique (q2.keeps (Keeps.hp k)) hm] at q3; exact .loc q1 hn (by simpa [hy.1] using q3) (rd r)
      | cel q1 q2 q3 r => obtain ⟨o, e1, e2⟩ := isCell_keeps (Keeps.hp k) q3; exact .cel q1 q2 ⟨o, hs'.extBut _ o (hcl _ _ q2) e1, e2⟩ (rd r)
      | fre q1 q2 q3 r => obtain ⟨o, e1, e2⟩ := isCell_keeps (Keeps.hp k) q3; exact .fre q1 q2 ⟨o, hs'.extBut _ o (hcl _ _ q2) e1, e2⟩ (rd r)
    · intro b e
      by_cases q : b = env.locals
      · obtain ⟨o', _, _, e1, _⟩ := hn; rw [q, e1] at e; cases e
      · refine ⟨f₁.up b (by rw [← hs'.2 b q]; exact e), fun z => by rw [z, ga] at e; cases e⟩
    · rintro b ⟨p, hb⟩ (ob | ob)
      · exact f.off b p ob
      · exact hb ob
    · rintro b (ob | rfl)
      · exact f.ino b ob
      · exact f.sub b pa
    · rintro b o (ob | rfl) e
      · exact f₁.olist b o ob (by rw [← hs'.2 b (fun q => f.noloc.2.1 (q ▸ ob))]; exact e)
      · rw [ga] at e; cases e; rfl
    · exact fun b hb => ⟨fun p => (f.nox b hb).1 p.1, fun z => z.elim (f.nox b hb).2 fun q => (f.nox b hb).1 (q ▸ pa)⟩
    · exact ⟨fun p => f.noloc.1 p.1, fun z => z.elim f.noloc.2.1 hl, f.noloc.2.2⟩
    · exact fun y c e => ⟨fun p => (f.nocell y c e).1 p.1, fun z => z.elim (f.nocell y c e).2.1 (hc y c e), (f.nocell y c e).2.2⟩
    · intro y c e
      obtain ⟨v, o, e1, e2⟩ := f₁.cells y c e
      exact ⟨v, o, hs'.extBut _ o (hcl y c e) e1, e2⟩
    · intro y ds' e
      cases e
      refine ⟨hx, _, _, a, vs, n, hn, by simp, .hdr ⟨f.up _ fri, nia⟩ ⟨f.up _ frd, nda⟩ (hs'.extBut _ _ hli inst) (hs'.extBut _ _ hld gdd) hes, .inr rfl, ga, ?_⟩
      cases prs
      exact .nil
  refine ⟨rfl, ⟨P', O', fs', fun b o e p => ⟨p, inS b o e⟩, fun b o e p => p.elim id fun q => absurd q (inS b o e)⟩, ?_, fun b q => ?_⟩
  · obtain ⟨h1, t1, e1, q1⟩ := k
    subst e1
    exact ⟨h', _, rfl, fun b o h1 _ _ e => hs'.extBut b o h1 (q1 b o e)⟩
  · show h'.get? b ≠ none
    by_cases e : b = env.locals
    · obtain ⟨o', _, _, e1, _⟩ := hn; rw [e, e1]; exact fun z => nomatch z
    · rw [hs'.2 b e]
      cases q' : s.heap.get? b with
      | none => exact absurd q' q
      | some o => rw [Keeps.hp k _ _ q']; exact fun z => nomatch z

/-- return e, the own Headers object being seen -/
theorem s_returnH {e : Expr} {d : Dt} (h : Ev w A env ((x, .hdr ps) :: ρ) e d) : S1 w A env ρ (some (x, true, ps.map prD)) (.Return (some e) pos) (.ret d) :=
  fun P₀ P O X s Q E f hQ => wpAny_Return_some (h _ s _ _ f.okH fun v s₁ k r => hQ _ _ ⟨v, rfl, r.mono (fun _ _ e => e) (fun a _ _ p => p.elim (fun q => q.elim (f.sub a) (f.ino a)) fun q => f.sub a (f.up a q)), moves_keeps k⟩)
end
end Mine

open PySem PySem.W PyProof.Rows PySem.Calls
set_option Elab.async false
set_option maxRecDepth 100000
namespace Mine
example : (PySem.Challenge.rw_rl0110_01, hd0.heap_1) = (PySem.Challenge.rw_rl0110_01, hd0.heap_1) := by k_fill; rfl

section
variable {w : World} {A : Around} {P₀ P O X : Addr → Prop} {env : Env} {ρ ρ' : Rho} {ω ω' : Omg} {pos : Pos} {x : Str} {ps : List (Str × Str)}

/-- for .. in x.items(), the dict being empty -/
theorem s_for_items0 {px ap cp : Pos} {tgt : Expr} {body : List Stmt} (hh : A.handled = none) (hx : ρ.lookup x = some .edict) (hk : env.kindOf x = some .local := by rfl) (hdb : (x == ("__debug__" : Str)) = false := by decide)
    (hbase : attributeBase (.Name x px) "items" env (eval (.Name x px) env) = eval (.Name x px) env := by rfl) (hline : (ap.endLine == cp.line) = true := by rfl)
    (hs : ∀ y, foldedSetIterable (.Call (.Attribute (.Name x px) "items" ap) [] [] cp) env y = pure y := by intro _; rfl) :
    S1 w A env ρ ω (.For tgt (.Call (.Attribute (.Name x px) "items" ap) [] [] cp) body [] pos) (.next ρ ω) := by
  intro P₀ P O X s Q E f hQ
  cases f.vars x _ hx with
  | cel q1 => rw [hk] at q1; cases q1
  | fre q1 => rw [hk] at q1; cases q1
  | loc q1 q2 q3 r =>
    cases r with | edict pa ns e =>
    rename_i d n
    have DA : s.heap.DictAt (strKind pr w) d [] n := ⟨_, #[], e, ⟨rfl, rfl, rfl⟩, rfl, (by intro e he; simp at he), (by constructor), (by simp)⟩
    refine wpAny_For (wpAny_Call_items (knd := strKind pr w) ns DA.dictOf hbase hline (fun Q' hq => wpAny_Name (wpAny_loadName_local f.fn hk q2 q3 hq) hdb) ?_) hs
    refine wpAny_pyIter_items (knd := strKind pr w) (d := d) (kvs := []) (ep := n) ⟨_, Heap.get?_push_size _ rfl, rfl, rfl⟩ (DA.push _) ?_
    refine codeAny_forLoop_any (fun _ s' => s' = _) ?_ 1 rfl
    rintro n' s' rfl
    refine wpAny_pyNext_items_end (knd := strKind pr w) hh (Heap.get?_push_size _ rfl) ((DA.push _).push _) rfl fun h₁ he₁ => wpAny_execs_nil ?_
    have kk : Keeps s { s with heap := h₁ } := ⟨h₁, s.toks, rfl, fun b o e => he₁ b o (fun q => by
      have hb := Heap.lt_size e
      have : (s.heap.push { cls := .type "dict_items", data := .fields #[.ref d] }).objs.size = s.heap.objs.size + 1 := Heap.size_push ..
      rw [q] at hb
      exact absurd hb (by show ¬ ((s.heap.push _).objs.size < s.heap.objs.size); rw [this]; omega)) (Heap.get?_push_of_some _ (Heap.get?_push_of_some _ e))⟩
    exact hQ .next _ ⟨rfl, Post.kp f kk⟩

/-- a list set apart becomes the own list of a Headers object -/
theorem Fs.thaw {h : Heap} {a l : Addr} {ds : List PyData} {m : Str → Option Value} {vs : List Value} {n : Nat} (f : Fs w A P₀ P O X env ρ none h) (hX : X l) (hk : env.kindOf x = some .local) (V : Via P h true (.ref a) l) (h1 : h.Ns env.locals m) (h2 : m x = some (.ref a)) (g : h.get? l = some (lob vs n)) (r : RdAll P h vs ds) :
    Fs w A (fun b => P₀ b ∨ b = l) P (fun b => O b ∨ b = l) (fun b => X b ∧ b ≠ l) env ρ (some (x, true, ds)) h := by
  refine ⟨f.gr.mono fun b hb => .inl ?_, f.fn, f.gl, f.bu, f.vars, fun b p => .inl (f.sub b p), f.up, ?_, ?_, ?_, ?_, ?_, ?_, f.ns, f.cells, f.apart, ?_⟩
  · rcases hb with hb | hb | (hb | hb) | hb
    · exact .inl hb
    · exact .inr (.inl hb)
    · exact .inr (.inr (.inl hb))
    · exact .inr (.inr (.inr (hb ▸ hX)))
    · exact .inr (.inr (.inr hb.1))
  · rintro b p (ob | rfl)
    · exact f.off b p ob
    · exact (f.nox b hX).1 p
  · rintro b (ob | rfl)
    · exact .inl (f.ino b ob)
    · exact .inr rfl
  · rintro b o (ob | rfl) e
    · exact f.olist b o ob e
    · rw [g] at e; cases e; rfl
  · rintro b ⟨xb, nb⟩
    exact ⟨(f.nox b xb).1, fun z => z.elim (f.nox b xb).2 nb⟩
  · exact ⟨f.noloc.1, fun z => z.elim f.noloc.2.1 fun q => f.noloc.2.2 (q ▸ hX), fun z => f.noloc.2.2 z.1⟩
  · exact fun y c e => ⟨(f.nocell y c e).1, fun z => z.elim (f.nocell y c e).2.1 fun q => (f.nocell y c e).2.2 (q ▸ hX), fun z => (f.nocell y c e).2.2 z.1⟩
  · intro y ds' e
    cases e
    exact ⟨hk, m, .ref a, l, vs, n, h1, h2, V, .inr rfl, g, r⟩
end

theorem join_one (x y : Str) : Txt.join x [y] = y := rfl
theorem semi_len : (Str.ofString "; ").length = 2 := by decide

set_option maxHeartbeats 4000000 in
/-- Headers.add_header(name, value) -/
theorem addh_fn {w : World} {ps : List (Str × Str)} {n v : Str} (hk : PairOk n v) (hps : ps.length ≤ 900) : MFn w 2 172 ps [.py (.str n), .py (.str v)] (ps ++ [(n, v)]) := by
  intro A P s Q E a l vs nn args R G V hl gl rl r' hQ
  cases r' with | cons r₂ r' => cases r' with | cons r₃ r' => cases r' with | nil =>
  rename_i v₂ v₃
  refine wpAny_call ?_
  refine fn_enterX (k := 1) (P := P) (S := fun b => b = l) (ρ := [(Str.ofString "self", .box a), (Str.ofString "_name", .py (.str n)), (Str.ofString "_value", .py (.str v)), (Str.ofString "_params", .edict)]) (names := [Str.ofString "self", Str.ofString "_name", Str.ofString "_value", Str.ofString "_params"]) R G (fun b h p => hl (h ▸ p)) (fun b h => ⟨_, h ▸ gl⟩) (by k_dflt k_is) (by k_dflt k_is)
    (fun A' E' Q' h => ?_) (by rfl) (by decide) (by rfl) (by rfl) (by rfl) (fun L s₁ P' R' fs kk up0 nLC => ?_)
  · show wpAny _ _ (alloc { cls := .type "dict", data := .dict #[] } >>= fun D => pure [(Str.ofString "self", .ref a), (Str.ofString "_name", v₂), (Str.ofString "_value", v₃), (Str.ofString "_params", .ref D)]) _ _ _
    refine wpAny_bind (wpAny_alloc (wpAny_pure (h _ _ ⟨_, _, rfl, fun b o e => Heap.get?_push_of_some _ e⟩ rfl (binds_of ⟨⟨_, rfl, ?_⟩, ⟨_, rfl, ?_⟩, ⟨_, rfl, ?_⟩, ⟨_, rfl, ?_⟩, trivial⟩))))
    · exact ((via_box V).apart hl).mono (keepsPush _ _) fun _ _ _ p => p
    · exact (r₂.apart hl).mono (keepsPush _ _) fun _ _ _ p => p
    · exact (r₃.apart hl).mono (keepsPush _ _) fun _ _ _ p => p
    · refine .edict (n := 0) ⟨.inr (fresh_size _), fun q => ?_⟩ ?_ (by heap_get)
      · have := fresh_size s.heap; rw [show s.heap.objs.size = l from q, gl] at this; cases this
      · obtain ⟨_, mg, mb, T⟩ := G.base.T
        have := modules_low T.nolimit
        exact beq_false_of_ne (Nat.ne_of_gt this)
  revert R' fs
  generalize A.deeper _ = A'
  intro R' fs
  refine at_cons fs (s1_sub (s_own (evf_list (ds := []) evs_nil)) (ρ'' := [(Str.ofString "self", .box a), (Str.ofString "_name", .py (.str n)), (Str.ofString "_value", .py (.str v)), (Str.ofString "_params", .edict)]) ⟨rfl, rfl, rfl, rfl, trivial⟩) fun s₂ p₂ => ?_
  obtain ⟨P₂, O₂, f₂, hp₂, ho₂⟩ := p₂.fs
  refine at_cons f₂ (s1_sub (s_if (b := true) (o := .next ((Str.ofString "_value", .py (.str v)) :: [(Str.ofString "self", .box a), (Str.ofString "_name", .py (.str n)), (Str.ofString "_value", .py (.str v)), (Str.ofString "_params", .edict)]) (some (Str.ofString "parts", false, [.str v]))) (tv_cmp (ev_name rfl) ev_none cmp_isnot_none_str)
    (fun _ => sx_cons (s_assign (ev_conv R' (ev_name rfl) (ev_name rfl) (conv_fn (b := false) hk.lenV hk.hitV) ev_bool)) (sx_cons (s_append (ds := []) (d := .str v) (ev_name rfl) (by decide)) sx_nil)) (fun h => by cases h))
    (ρ'' := [(Str.ofString "self", .box a), (Str.ofString "_name", .py (.str n)), (Str.ofString "_params", .edict)]) ⟨rfl, rfl, rfl, trivial⟩) fun s₃ p₃ => ?_
  obtain ⟨P₃, O₃, f₃, hp₃, ho₃⟩ := p₃.fs
  refine at_cons f₃ (s_for_items0 R'.handled rfl) fun s₄ p₄ => ?_
  obtain ⟨P₄, O₄, f₄, hp₄, ho₄⟩ := p₄.fs
  obtain ⟨hkp, m, u, pl, vs', n', h1, h2, hv, h3, h4, h5⟩ := f₄.own (Str.ofString "parts") (false, [.str v]) rfl
  cases hv
  have f₅ := f₄.freeze hkp h1 h2 h3 h4 h5
  have in1 : ∀ b o, s.heap.get? b = some o → s₁.heap.get? b = some o := fun b o e => Keeps.hp kk b o e
  have in2 : ∀ b o, s.heap.get? b = some o → s₂.heap.get? b = some o := fun b o e => by
    obtain ⟨h', t', e', q⟩ := p₂.mv
    rw [e']; exact q b o (nLC b o e).1 (nLC b o e).2 (fun z => z) (in1 b o e)
  have nO2 : ∀ b o, s.heap.get? b = some o → ¬ O₂ b := fun b o e q => ho₂ b o (in1 b o e) q
  have in3 : ∀ b o, s.heap.get? b = some o → s₃.heap.get? b = some o := fun b o e => by
    obtain ⟨h', t', e', q⟩ := p₃.mv
    rw [e']; exact q b o (nLC b o e).1 (nLC b o e).2 (nO2 b o e) (in2 b o e)
  have nO3 : ∀ b o, s.heap.get? b = some o → ¬ O₃ b := fun b o e q => nO2 b o e (ho₃ b o (in2 b o e) q)
  have in4 : ∀ b o, s.heap.get? b = some o → s₄.heap.get? b = some o := fun b o e => by
    obtain ⟨h', t', e', q⟩ := p₄.mv
    rw [e']; exact q b o (nLC b o e).1 (nLC b o e).2 (nO3 b o e) (in3 b o e)
  have nO4 : ∀ b o, s.heap.get? b = some o → ¬ O₄ b := fun b o e q => nO3 b o e (ho₄ b o (in3 b o e) q)
  have up4 : ∀ b o, s.heap.get? b = some o → P b → P₄ b := fun b o e p => hp₄ b o (in3 b o e) (hp₃ b o (in2 b o e) (hp₂ b o (in1 b o e) (up0 b o e p)))
  have V4 : Via (fun b => P₄ b ∨ b = pl) s₄.heap true (.ref a) l := V.mono in4 fun b o e p => .inl (up4 b o e p)
  obtain ⟨m', hm', hms⟩ : ∃ m', s₄.heap.Ns _ m' ∧ m' (Str.ofString "self") = some (.ref a) := by
    cases f₄.vars (Str.ofString "self") (.box a) rfl with
    | loc q1 q2 q3 r => cases r with | box => exact ⟨_, q2, q3⟩
    | cel q1 => cases q1
    | fre q1 => cases q1
  have f₆ := f₅.thaw (x := Str.ofString "self") (ds := ps.map prD) rfl rfl V4 hm' hms (in4 _ _ gl) (prs_rd ((rd_prs rl).keeps in4))
  refine at_cons (s := s₄) f₆ (s_happend (p := (n, v)) (ev_tuple (ds := [.str n, .str v]) (evs_cons (ev_conv R' (ev_name rfl) (ev_name rfl) (conv_fn (b := true) (by have := hk.len; omega) hk.hitN) ev_bool) (evs_cons (ev_eq (ev_join (ys := [v]) ev_str (ev_name rfl) (by have := hk.lenV; have := semi_len; simp; omega)) (by rw [join_one])) evs_nil)) (by show 2 ≤ sizeLine; decide)) (by omega)) fun s₇ p₇ => wpAny_execs_nil ?_
  obtain ⟨P₇, O₇, f₇, hp₇, ho₇⟩ := p₇.fs
  obtain ⟨hk', m₇, u, l', vs₇, n₇, g1, g2, hv, g3, g4, g5⟩ := f₇.own (Str.ofString "self") (true, (ps ++ [(n, v)]).map prD) rfl
  have keepB : ∀ b o, b ≠ l → s.heap.get? b = some o → s₇.heap.get? b = some o := fun b o hb e => by
    obtain ⟨h', t', e', q⟩ := p₇.mv
    rw [e']; exact q b o (nLC b o e).1 (nLC b o e).2 (fun z => z.elim (fun z => nO4 b o e z.1) hb) (in4 b o e)
  have hu : u = .ref a := by
    cases f₇.vars (Str.ofString "self") (.box a) rfl with
    | loc q1 q2 q3 r => rw [ns_unique q2 g1, g2] at q3; cases q3; cases r; rfl
    | cel q1 => rw [hk'] at q1; cases q1
    | fre q1 => rw [hk'] at q1; cases q1
  subst hu
  have hll : l' = l := by
    cases V with | hdr pa pd i d he =>
    rename_i dd es₁ n₁
    cases hv with | hdr pa' pd' i' d' he' =>
    have na : a ≠ l := fun q => by rw [q, gl] at i; cases i
    rw [keepB a _ na i] at i'
    cases i'
    have nd : dd ≠ l := fun q => by
      rw [q, gl] at d
      have := congrArg (fun o : Obj => o.cls) (Option.some.inj d)
      simp [dictOf] at this
    rw [keepB _ _ nd d] at d'
    have de := Option.some.inj d'
    have ee : _ = _ := congrArg (fun o : Obj => match o.data with | .dict es _ => es.toList | _ => []) de
    have ee' := (show _ = _ from ee)
    simp only [dictOf] at ee'
    have e1 := he (Str.ofString "_headers")
    have e2 := he' (Str.ofString "_headers")
    rw [← ee', e1] at e2
    simpa using e2.symm
  subst hll
  refine hQ .none s₇ vs₇ n₇ (fun b e => by cases e) ?_ g4 (g5.mono (fun _ _ e => e) fun b _ _ pb => ?_)
  · obtain ⟨ha, ta, e1, _⟩ := kk
    obtain ⟨hb, tb, e2, _⟩ := p₂.mv
    obtain ⟨hc, tc, e3, _⟩ := p₃.mv
    obtain ⟨hd', td, e4, _⟩ := p₄.mv
    obtain ⟨he, te, e7, _⟩ := p₇.mv
    refine ⟨he, te, by rw [e7, e4, e3, e2, e1], fun b o hb e => by have := keepB b o hb e; rw [e7] at this; exact this⟩
  · have nb : b ≠ l' := fun q => f₇.off b pb (q ▸ g3)
    exact ⟨(f₇.sub b pb).elim id fun q => absurd q nb, nb⟩
end Mine

open PySem PySem.W PyProof.Rows PySem.Calls
set_option Elab.async false
set_option maxRecDepth 100000
namespace Mine
example : (PySem.Challenge.rw_rl0110_01, hd0.heap_1) = (PySem.Challenge.rw_rl0110_01, hd0.heap_1) := by k_fill; rfl

theorem strs_getI (xs : List Str) {i : Int} {k : Nat} (e : i.toNat = k) (h : k < xs.length) : (xs.map PyData.str)[i.toNat]? = some (.str (xs.getD k "")) := by
  subst e; simp [h]
noncomputable def boardP (texts : List Str) (rows : List Int) (n : Nat) : List (Str × Str) := (List.range n).map fun k => (texts.getD (2 ^ k) "", texts.getD (rows.getD k 0).toNat "")
theorem boardP_succ (texts : List Str) (rows : List Int) (n : Nat) : boardP texts rows (n + 1) = boardP texts rows n ++ [(texts.getD (2 ^ n) "", texts.getD (rows.getD n 0).toNat "")] := by
  simp [boardP, List.range_succ]
theorem pow_toNat (k : Nat) : ((2 : Int) ^ ((k : Int)).toNat).toNat = 2 ^ k := by
  have : (2 : Int) ^ ((k : Int)).toNat = ((2 ^ k : Nat) : Int) := by simp
  rw [this, Int.toNat_natCast]
theorem pow_lt16 : ∀ k < 4, 2 ^ k < 16 := by decide

set_option maxHeartbeats 4000000 in
theorem board_fn {w : World} {texts : List Str} {rows : List Int} (ht : texts.length = 16) (hr : rows.length = 4) (hr' : ∀ k < 4, 0 ≤ rows.getD k 0 ∧ rows.getD k 0 < 16)
    (hk : ∀ k < 4, PairOk (texts.getD (2 ^ k) "") (texts.getD (rows.getD k 0).toNat "")) (hn : ∀ k < 4, getF (boardP texts rows k) (Txt.lower (texts.getD (2 ^ k) "")) = none) :
    Fn w 4 216 [.py (.list (texts.map .str)), .py (.list (rows.map .int))] (.hdr (boardP texts rows 4)) := by
  intro A P s Q E vs R B bl r hQ
  obtain ⟨v₁, v₂, rfl, r₁, r₂⟩ := r.two
  refine wpAny_call ?_
  refine fn_enter (k := 3) R B bl (by k_dflt k_is) (by k_dflt k_is) (BindsTo.of_eq rfl) (by rfl) (by exact (by decide : [Str.ofString "texts", Str.ofString "rows"].Nodup)) (lookup2 (x := Str.ofString "texts") (y := Str.ofString "rows") r₁ r₂) (by rfl) (by rfl) (by rfl) (fun L R' => ?_) hQ
  revert R'
  generalize A.deeper _ = A'
  intro R'
  refine sx_cons (s_ownH (evh_new (k := 1) R' (by k_dflt k_is))) ?_
  refine sx_cons (s_for_gen (α := Nat) (enc := fun i => .int i) (its := List.range 4) (fun i => [(Str.ofString "texts", .py (.list (texts.map .str))), (Str.ofString "rows", .py (.list (rows.map .int)))]) (fun i => some (Str.ofString "board", true, (boardP texts rows i).map prD)) 4
    (src_range1 R'.handled ev_int (by decide)) (sub_of ⟨rfl, rfl, trivial⟩) rfl (fun i a hi ha => ?_) (by decide) (.all rfl sx_nil) (hω := fun _ _ _ e => by cases e; decide)) ?_
  · obtain ⟨rfl, hi4⟩ : a = i ∧ i < 4 := range_get ha
    obtain ⟨q0, q1⟩ := hr' a hi4
    refine ⟨(Str.ofString "k", .py (.int a)) :: [(Str.ofString "texts", .py (.list (texts.map .str))), (Str.ofString "rows", .py (.list (rows.map .int)))], sx_cons (s_hcall (pl := _) R' (evs_cons (ev_item (ev_name rfl) (ev_pow ev_int (ev_name rfl) (by omega) (pow2_fits (by omega))) ?_ ?_ (strs_getI texts (pow_toNat a) (by rw [ht]; exact pow_lt16 a hi4))) (evs_cons (ev_item (ev_name rfl) (ev_item (ev_name rfl) (ev_name rfl) (by omega) (by omega) (ints_get rows (by omega))) q0 (by omega) (strs_getI texts rfl (by omega))) evs_nil))
      (setdef_new (ps := boardP texts rows a) (hk a hi4) (fun p hp => ?_) (by simp [boardP]; omega) (hn a hi4)) (by k_dflt k_is) (by k_dflt k_is) (by k_dflt k_is)) ?_, sub_of ⟨rfl, rfl, trivial⟩⟩
    · exact Int.le_of_lt (Int.pow_pos (by decide))
    · have : (2 : Int) ^ ((a : Int)).toNat = ((2 ^ a : Nat) : Int) := by simp
      rw [this]; have := pow_lt16 a hi4; omega
    · simp only [boardP, List.mem_map, List.mem_range] at hp
      obtain ⟨k, hk', rfl⟩ := hp
      exact (hk k (by omega)).len
    · rw [boardP_succ]; exact sx_nil
  · exact sx_ret (s_returnH (ev_name rfl))
end Mine

open PySem PySem.W PyProof.Rows PySem.Calls
set_option Elab.async false
set_option maxRecDepth 100000
namespace Mine
example : (PySem.Challenge.rw_rl0110_01, hd0.heap_1) = (PySem.Challenge.rw_rl0110_01, hd0.heap_1) := by k_fill; rfl

theorem strs_getR (xs : List Str) {i : Int} {k : Nat} (e : i.toNat = k) (h : k < xs.length) : (xs.map PyData.str)[i.toNat]? = some (.str (xs.getD k "")) := by
  subst e; simp [h]
theorem pow_toNatR (k : Nat) : ((2 : Int) ^ ((k : Int)).toNat).toNat = 2 ^ k := by
  have : (2 : Int) ^ ((k : Int)).toNat = ((2 ^ k : Nat) : Int) := by simp
  rw [this, Int.toNat_natCast]
theorem pow_lt16R : ∀ k < 4, 2 ^ k < 16 := by decide
theorem pow_nnR (k : Nat) : (0 : Int) ≤ (2 : Int) ^ ((k : Int)).toNat := Int.le_of_lt (Int.pow_pos (by decide))
theorem pow_smR : ∀ k : Nat, k < 4 → (2 : Int) ^ ((k : Int)).toNat < 2 ^ 63 := by
  intro k hk
  have : (2 : Int) ^ ((k : Int)).toNat = ((2 ^ k : Nat) : Int) := by simp
  rw [this]; have := pow_lt16R k hk; omega

theorem pow_bitsR : ∀ j : Nat, j < 4 → Builtin.Int.intBits ((2 : Int) ^ j) ≤ 64 := by decide +kernel
/-- what is read of one row -/
noncomputable def swF (texts : List Str) (row : Str) : Int := ((List.range 4).map fun (j : Nat) => standsF (texts.getD (2 ^ j) "") row * 2 ^ j).sum
noncomputable def readF (texts : List Str) (ps : List (Str × Str)) (n : Nat) : List Int := (List.range n).map fun k => swF texts ((getF ps (Txt.lower (Txt.lower (texts.getD (2 ^ k) "")))).getD "")
theorem readF_succ (texts : List Str) (ps : List (Str × Str)) (n : Nat) : readF texts ps (n + 1) = readF texts ps n ++ [swF texts ((getF ps (Txt.lower (Txt.lower (texts.getD (2 ^ n) "")))).getD "")] := by
  simp [readF, List.range_succ]

structure ReadOk (texts : List Str) (ps : List (Str × Str)) (k : Nat) (r : Str) : Prop where
  len0 : (texts.getD (2 ^ k) "").length ≤ 1000
  len : (Txt.lower (texts.getD (2 ^ k) "")).length ≤ 100000
  low : (Txt.lower (Txt.lower (texts.getD (2 ^ k) ""))).length ≤ 1000000
  hit : noHit nameCode (Txt.lower (Txt.lower (texts.getD (2 ^ k) ""))) = true
  row : getF ps (Txt.lower (Txt.lower (texts.getD (2 ^ k) ""))) = some r
  rlen : r.length ≤ 100000
  st : standsOk (texts.getD (2 ^ k) "") = true

set_option maxHeartbeats 4000000 in
theorem read_fn {w : World} {texts : List Str} {ps : List (Str × Str)} {rs : Nat → Str} (ht : texts.length = 16) (hp : ∀ p ∈ ps, p.1.length ≤ 100000) (hk : ∀ k < 4, ReadOk texts ps k (rs k)) :
    Fn w 4 221 [.py (.list (texts.map .str)), .hdr ps] (.py (.list ((readF texts ps 4).map .int))) := by
  intro A P s Q E vs R B bl r hQ
  obtain ⟨v₁, v₂, rfl, r₁, r₂⟩ := r.two
  refine wpAny_call ?_
  refine fn_enter (k := 3) R B bl (by k_dflt k_is) (by k_dflt k_is) (BindsTo.of_eq rfl) (by rfl) (by exact (by decide : [Str.ofString "texts", Str.ofString "board"].Nodup)) (lookup2 (x := Str.ofString "texts") (y := Str.ofString "board") r₁ r₂) (by rfl) (by rfl) (by rfl) (fun L R' => ?_) hQ
  revert R'
  generalize A.deeper _ = A'
  intro R'
  refine sx_cons (s_own (evf_list (ds := []) evs_nil)) ?_
  refine sx_cons (s_for_gen (α := Nat) (enc := fun i => .int i) (its := List.range 4) (fun i => [(Str.ofString "texts", .py (.list (texts.map .str))), (Str.ofString "board", .hdr ps)]) (fun i => some (Str.ofString "switched", false, (readF texts ps i).map .int)) 4
    (src_range1 R'.handled ev_int (by decide)) (sub_of ⟨rfl, rfl, trivial⟩) rfl (fun i a hi ha => ?_) (by decide) (.all rfl sx_nil) (hω := fun _ _ _ e => by cases e; decide)) ?_
  · obtain ⟨rfl, hi4⟩ : a = i ∧ i < 4 := range_get ha
    have q := hk a hi4
    refine ⟨(Str.ofString "row", .py (.str (rs a))) :: (Str.ofString "k", .py (.int a)) :: [(Str.ofString "texts", .py (.list (texts.map .str))), (Str.ofString "board", .hdr ps)], sx_cons (s_assign (d := .py (.str (rs a))) (ev_hmeth R' (ev_name rfl) (evs_cons (ev_lower (ev_item (ev_name rfl) (ev_pow ev_int (ev_name rfl) (by omega) (pow2_fits (by omega))) (pow_nnR a) (pow_smR a hi4) (strs_getR texts (pow_toNatR a) (by rw [ht]; exact pow_lt16R a hi4))) (by have := q.len0; omega)) (evs_cons ev_str evs_nil))
      (setdef_there q.len q.low q.hit hp q.row) (by k_dflt k_is) (by k_dflt k_is) (by k_dflt k_is))) ?_, sub_of ⟨rfl, rfl, trivial⟩⟩
    have e1 : swF texts (rs a) = swF texts ((getF ps (Txt.lower (Txt.lower (texts.getD (2 ^ a) "")))).getD "") := by rw [q.row]; rfl
    rw [readF_succ, ← e1, List.map_append]
    refine sx_cons (s_append (d := .int (swF texts (rs a))) (ev_eq (ev_sum R' (ns := (List.range 4).map fun (j : Nat) => standsF (texts.getD (2 ^ j) "") (rs a) * 2 ^ j) (ev_eq (ev_comp (α := Nat) (enc := fun i => .int i) (its := List.range 4) (p := fun _ => true) (g := fun (j : Nat) => PyData.int (standsF (texts.getD (2 ^ j) "") (rs a) * 2 ^ j)) (src_range1 R'.handled ev_int (by decide)) (fun C j hj => tests_nil) (fun C j hj _ => ?_)) ?_)) rfl) (by simp [readF]; exact Nat.le_trans (Nat.le_of_lt hi4) (by decide))) sx_nil
    · have hj4 : j < 4 := by simpa using hj
      have qj := hk j hj4
      refine ev_mul (ev_call (R'.le (by omega)) (evs_cons (ev_item (ev_name rfl) (ev_pow ev_int (ev_name rfl) (by omega) (pow2_fits (by omega))) (pow_nnR j) (pow_smR j hj4) (strs_getR texts (pow_toNatR j) (by rw [ht]; exact pow_lt16R j hj4))) (evs_cons (ev_name rfl) evs_nil)) (stands_fn (by have := qj.len0; omega) qj.st q.rlen) (by k_dflt k_is) (by k_dflt k_is)) (ev_eq (ev_pow ev_int (ev_name rfl) (by omega) (pow2_fits (by omega))) (by simp)) (IntMulOk.of_right ?_)
      exact pow_bitsR j hj4
    · rw [List.filter_eq_self.mpr (by simp), List.map_map]; rfl
  · exact sx_ret (s_returnV (ev_name rfl))
end Mine

open PySem PySem.W PyProof.Rows PySem.Calls
set_option Elab.async false
set_option maxRecDepth 100000
namespace Mine
example : (PySem.Challenge.rw_rl0110_01, hd0.heap_1) = (PySem.Challenge.rw_rl0110_01, hd0.heap_1) := by k_fill; rfl

theorem strs_getP (xs : List Str) {i : Int} {k : Nat} (e : i.toNat = k) (h : k < xs.length) : (xs.map PyData.str)[i.toNat]? = some (.str (xs.getD k "")) := by
  subst e; simp [h]
noncomputable def oddB (n : Nat) : Bool := (n : Int).fmod 2 == 1
noncomputable def capF (b : Bool) (x : Str) : Str := if b then Txt.lower x else x
noncomputable def litN (rows : List Int) (c : Nat) : Nat := (litF c rows).toNat
noncomputable def pageP (texts : List Str) (rows : List Int) (n : Nat) : List (Str × Str) := (List.range n).map fun c => (capF (oddB c) (texts.getD (litN rows c) ""), texts.getD c "")
theorem pageP_succ (texts : List Str) (rows : List Int) (n : Nat) : pageP texts rows (n + 1) = pageP texts rows n ++ [(capF (oddB n) (texts.getD (litN rows n) ""), texts.getD n "")] := by
  simp [pageP, List.range_succ]
noncomputable def pageL (texts : List Str) (rows : List Int) : List (Str × Str) := pageP texts rows 16 ++ [(Str.ofString "0X0", texts.getD 0 "")]

set_option maxHeartbeats 4000000 in
theorem page_fn {w : World} {texts : List Str} {rows : List Int} (ht : texts.length = 16) (hr : rows.length = 4) (hlit : ∀ c < 16, 0 ≤ litF (c : Nat) rows ∧ litF (c : Nat) rows < 16) (hlen : ∀ i < 16, (texts.getD i "").length ≤ 1000)
    (hk : ∀ c < 16, PairOk (capF (oddB c) (texts.getD (litN rows c) "")) (texts.getD c "")) (hz : PairOk (Str.ofString "0X0") (texts.getD 0 "")) :
    Fn w 3 235 [.py (.list (texts.map .str)), .py (.list (rows.map .int))] (.hdr (pageL texts rows)) := by
  intro A P s Q E vs R B bl r hQ
  obtain ⟨v₁, v₂, rfl, r₁, r₂⟩ := r.two
  refine wpAny_call ?_
  refine fn_enter (k := 2) R B bl (by k_dflt k_is) (by k_dflt k_is) (BindsTo.of_eq rfl) (by rfl) (by exact (by decide : [Str.ofString "texts", Str.ofString "rows"].Nodup)) (lookup2 (x := Str.ofString "texts") (y := Str.ofString "rows") r₁ r₂) (by rfl) (by rfl) (by rfl) (fun L R' => ?_) hQ
  revert R'
  generalize A.deeper _ = A'
  intro R'
  refine sx_cons (s_ownH (evh_new (k := 0) R' (by k_dflt k_is))) ?_
  refine sx_cons (s_for_gen (α := Nat) (enc := fun i => .int i) (its := List.range 16) (fun i => [(Str.ofString "texts", .py (.list (texts.map .str))), (Str.ofString "rows", .py (.list (rows.map .int)))]) (fun i => some (Str.ofString "page", true, (pageP texts rows i).map prD)) 16
    (src_range1 R'.handled ev_int (by decide)) (sub_of ⟨rfl, rfl, trivial⟩) rfl (fun i a hi ha => ?_) (by decide) (.all rfl sx_nil) (hω := fun _ _ _ e => by cases e; decide)) ?_
  · obtain ⟨rfl, hi16⟩ : a = i ∧ i < 16 := range_get ha
    obtain ⟨q0, q1⟩ := hlit a hi16
    have ql : litN rows a < texts.length := by rw [ht]; unfold litN; omega
    refine ⟨(Str.ofString "name", .py (.str (texts.getD (litN rows a) ""))) :: (Str.ofString "choice", .py (.int a)) :: [(Str.ofString "texts", .py (.list (texts.map .str))), (Str.ofString "rows", .py (.list (rows.map .int)))], sx_cons (s_assign (ev_item (d := .str (texts.getD (litN rows a) "")) (ev_name rfl) (ev_call (R'.le (by omega)) (evs_cons (ev_name rfl) (evs_cons (ev_name rfl) evs_nil)) (lit_fn (by omega) (by omega) hr) (by k_dflt k_is) (by k_dflt k_is)) q0 (by omega) (strs_getP texts rfl ql)))
      (sx_cons (s_hcall (pl := _) R' (evs_cons (ev_ifexp (b := oddB a) (d := .py (.str (capF (oddB a) (texts.getD (litN rows a) "")))) (tv_eq (tv_cmp (ev_mod (ev_name rfl) ev_int (by decide)) ev_int cmp_eqi) rfl) (fun hb => ?_) (fun hb => ?_)) (evs_cons (ev_item (ev_name rfl) (ev_name rfl) (by omega) (by omega) (strs_getP texts (by simp) (by rw [ht]; exact hi16))) evs_nil))
      (addh_fn (ps := pageP texts rows a) (hk a hi16) (by simp [pageP]; omega)) (by k_dflt k_is) (by k_dflt k_is) (by k_dflt k_is)) ?_), sub_of ⟨rfl, rfl, trivial⟩⟩
    · rw [hb]
      exact ev_lower (ev_name rfl) (by have := hlen (litN rows a) (by rw [ht] at ql; exact ql); omega)
    · rw [hb]
      exact ev_name rfl
    · rw [pageP_succ]; exact sx_nil
  · refine sx_cons (s_hcall (pl := _) R' (evs_cons ev_str (evs_cons (ev_item (ev_name rfl) ev_int (by decide) (by decide) (strs_getP texts (by rfl) (by rw [ht]; decide))) evs_nil))
      (addh_fn (ps := pageP texts rows 16) hz (by simp [pageP])) (by k_dflt k_is) (by k_dflt k_is) (by k_dflt k_is)) ?_
    exact sx_ret (s_returnH (ev_name rfl))
end Mine

open PySem PySem.W PyProof.Rows PySem.Calls
set_option Elab.async false
set_option maxRecDepth 100000
namespace Mine
example : (PySem.Challenge.rw_rl0110_01, hd0.heap_1) = (PySem.Challenge.rw_rl0110_01, hd0.heap_1) := by k_fill; rfl

/-- the machine driven on, at most so many turns -/
noncomputable def drv : Nat → Sre.M → Sre.M
  | 0, m => m.runFor 4
  | k + 1, m => if (m.runFor 4).outcome.isSome then m.runFor 4 else drv k (m.runFor 4)
noncomputable def hitB (code : List Nat) (x : Str) : Bool := match (drv 3 (mach code x)).outcome with | some .matched => true | _ => false

section
variable {w : World} {A : Around} {E : Value → Shared → Prop} {s : Shared}
theorem drive_drv {Q : Sre.M → Shared → Prop} : ∀ (k : Nat) {m : Sre.M} {n : Nat}, (drv k m).outcome.isSome = true → Q (drv k m) s → wpAny (model pr w) A (Builtin.Re.reDrive (n + k + 1) m) Q E s
  | 0, m, n, ho, h => drive_end rfl ho h
  | k + 1, m, n, ho, h => by
    unfold drv at ho h
    cases e : (m.runFor 4).outcome.isSome with
    | true => rw [e, if_pos rfl] at ho h; exact drive_end rfl ho h
    | false =>
      rw [e] at ho h
      rw [if_neg (by decide)] at ho h
      exact drive_on rfl e (drive_drv k ho h)

theorem search_hit {p : Addr} {code : List Nat} {x : Str} {t : Tok} {Q : Value → Shared → Prop} (hp : PatAt s.heap p code) (hx : (x.cps.size : Int) < 2 ^ 62) (hn : hitB code x = true)
    (h : ∀ a fs s', Keeps s s' → s'.heap.get? a = some { cls := .type "re.Match", data := .fields fs } → Q (.ref a) s') :
    wpAny (model pr w) A (call (.builtin "re.Pattern.search") [.ref p, .str x t]) Q E s := by
  obtain ⟨fs, T, ws, n, a, _⟩ := hp.obj
  refine wpAny_call_entry slot_search ⟨_, a, rfl⟩ entry_search ?_ (args_search _ _)
  unfold Builtin.«re.Pattern.search»
  refine wpAny_bind (wp_target hp hx ?_)
  unfold Builtin.Re.reAnswer Builtin.Re.reRunToEnd
  unfold hitB at hn
  show wpAny _ A.in1 ((Builtin.Re.reDrive (2 ^ 64) (mach code x) >>= _) >>= _) _ _ _
  generalize hm : drv 3 (mach code x) = m' at hn
  split at hn
  · rename_i ho
    have e64 : (2 : Nat) ^ 64 = (2 ^ 64 - 4) + 3 + 1 := by decide
    rw [e64]
    refine wpAny_bind (wpAny_bind (drive_drv 3 (by rw [hm, ho]; rfl) ?_))
    rw [hm]
    refine wpAny_bind (rules_of ?_)
    rw [ho]
    refine wpAny_pure ?_
    show wpAny _ A.in1 (Builtin.Re.reNewMatch _ _ 0 _ _ m' >>= _) _ _ _
    unfold Builtin.Re.reNewMatch
    refine wpAny_bind ?_
    show wpAny _ A.in1 (newTuple _ >>= fun T => newFields "re.Match" _) _ _ _
    refine wpAny_bind (wpAny_newTuple ?_ (hsz := by show 2 ≤ sizeLine; decide))
    unfold newFields
    refine wpAny_newObj_type (wpAny_pure ⟨_, rfl, h _ _ _ ?_ (Heap.get?_push_size _ rfl)⟩)
    exact Keeps.mk' (s := s) (t := s.toks) fun b o e => Heap.get?_push_of_some _ (Heap.get?_push_of_some _ e)
  · cases hn

theorem noBool_match : typeLookup (.type "re.Match") "__bool__" = pure none := by rw [typeLookup_type, builtinLookup_eq_fast]; kernel_rfl
theorem noLen_match : typeLookup (.type "re.Match") "__len__" = pure none := by rw [typeLookup_type, builtinLookup_eq_fast]; kernel_rfl
theorem truthy_match {a : Addr} {fs : Array Value} {Q : Bool → Shared → Prop} (g : s.heap.get? a = some { cls := .type "re.Match", data := .fields fs }) (h : Q true s) : wpAny (model pr w) A (truthy (.ref a)) Q E s := by
  have hT : s.TypeIs (.ref a) "re.Match" := ⟨_, g, rfl⟩
  unfold truthy
  first
    | refine wpAny_bind (wpAny_callSpecial?_none (name := Str.ofString "__bool__") hT noBool_match ?_)
    | refine wpAny_bind (wpAny_pure (wpAny_bind (wpAny_callSpecial?_none (name := Str.ofString "__bool__") hT noBool_match ?_)))
  first
    | refine wpAny_bind (wpAny_specialOf (name := Str.ofString "__len__") hT noLen_match ?_)
    | refine wpAny_bind (wpAny_pure (wpAny_bind (wpAny_specialOf (name := Str.ofString "__len__") hT noLen_match ?_)))
  exact wpAny_pure h
end

section
variable {w : World} {A : Around} {P₀ P O X : Addr → Prop} {env : Env} {ρ ρ' : Rho} {ω ω' : Omg} {pos : Pos}
/-- the test that meets -/
theorem tv_search {o e : Expr} {ap : Pos} {p : Addr} {code : List Nat} {x : Str} (hP : ∀ h, Base w h → PatAt h p code) (ho : Ev w A env ρ o (.val (.ref p))) (he : Ev w A env ρ e (.py (.str x))) (hx : x.length ≤ 1000000) (hn : hitB code x = true)
    (hbase : attributeBase o "search" env (eval o env) = eval o env := by rfl) (hline : (ap.endLine == pos.line) = true := by rfl) (hs : starEach [e] env = [(false, eval e env)] := by rfl)
    (hi : ∀ whole, isTrue (.Call (.Attribute o (Str.ofString "search") ap) [e] [] pos) env whole = (do let v ← whole; standAt (Expr.pos (.Call (.Attribute o (Str.ofString "search") ap) [e] [] pos)); holding [v] (truthy v)) := by intro _; rfl) :
    Tv w A env ρ (.Call (.Attribute o (Str.ofString "search") ap) [e] [] pos) true := by
  intro P s Q E ok hQ
  refine isTrue_plain ?_ (hi _)
  refine Call_method1 hbase hs hline (ho P s _ _ ok fun v s₁ k₁ r => ?_)
  cases r
  obtain ⟨fs, T, ws, n, a, _⟩ := (hP _ (ok.base.keeps (Keeps.hp k₁))).obj
  refine ⟨"re.Pattern", "re.Pattern.search", plainAttrs_pattern, slot_search, type_search, ⟨_, a, rfl⟩, (fun _ e => by cases e; exact ⟨_, a, rfl⟩), ?_⟩
  refine Calls.callWith_builtin rfl (Calls.evalArgs_plain (Calls.spliced_cons (he P s₁ _ _ (ok.keeps (Keeps.hp k₁)) fun v s₂ k₂ r₂ => Calls.spliced_nil ?_)))
  cases r₂ with | py r₂ => cases r₂ with | str _ u =>
    have hx' : (x.cps.size : Int) < 2 ^ 62 := by have : x.length = x.cps.size := rfl; omega
    exact search_hit (hP _ (ok.base.keeps (Keeps.hp (Keeps.tr k₁ k₂)))) hx' hn fun a fs s₃ k₃ g => truthy_match g (hQ _ (Keeps.tr (Keeps.tr k₁ k₂) k₃))
end

section
variable {w : World} {A : Around} {ρ : Rho}
/-- into a def that may raise -/
theorem fn_enterR {s : Shared} {P : Addr → Prop} {R : Result → Shared → Prop} {base : Heap} {outer : List Env} {f : Addr} {k : Nat} {name qual : Str} {params : Arguments} {body : List Stmt} {scope : Scope} {dV kV doc pm cdv ct oc : Value} {an od : Option Addr} {osl : Array (Option Value)} {args : Args} {binds : List (Str × Value)}
    (Rm : Room A (k + 1)) (B : Base w s.heap) (bl : Below A base outer s.heap)
    (ho : (hd0.heap_1 w.params).lookup f = some ⟨oc, od, .func (fnOf name qual params body scope dV kV doc pm an cdv ct), osl⟩) (hcd : codeIn (hd0.heap_1 w.params) cdv qual = true)
    (hbind : BindsTo s (fnOf name qual params body scope dV kV doc pm an cdv ct) args binds)
    (hkind : (binds.all fun y => scope.names.lookup y.1 == some .local || scope.names.lookup y.1 == some .cell) = true) (hnd : (binds.map (·.1)).Nodup)
    (hρ : ∀ y d, ρ.lookup y = some d → ∃ v, binds.lookup y = some v ∧ RdT P s.heap v d)
    (hco : scope.isCoroutine = false) (hgen : scope.isGenerator = false) (hk : scope.kind = .function)
    (hbody : ∀ L s₁ P', Room (A.deeper (fEnv qual scope f cdv L)) k → Fs w (A.deeper (fEnv qual scope f cdv L)) (Up P s.heap) P' (fun _ => False) (fun _ => False) (fEnv qual scope f cdv L) ρ none s₁.heap → Keeps s s₁ → Below (A.deeper (fEnv qual scope f cdv L)) base (fEnv qual scope f cdv L :: outer) s₁.heap →
      (∀ b o, s.heap.get? b = some o → b ≠ L ∧ ∀ y, (fEnv qual scope f cdv L).cells.lookup y ≠ some b) →
      wpAny (model pr w) (A.deeper (fEnv qual scope f cdv L)) (execs body (fEnv qual scope f cdv L)) (fun fl s' => R (.ok (.ret (match fl with | .ret v => v | _ => .none))) s')
        (fun e s' => wpAny (model pr w) (A.deeper (fEnv qual scope f cdv L)) (leaving (fEnv qual scope f cdv L) e) (fun _ s'' => R (.error e) s'') (fun e' s'' => R (.error e') s'') s') s₁) : codeAny (model pr w) A (.call (.ref f) args) R s := by
  obtain ⟨_, mg, mb, T⟩ := B.T
  refine codeAny_call_function (Nat.lt_of_le_of_lt (Nat.le_add_right _ _) Rm.depth) (B.K _ _ ho) rfl hco hgen rfl (codeRec_of B.K hcd) (hbind _ _ _ _ ?_)
  refine wpAny_newFunctionEnv_cells hk (kindsX hkind _) fun env' he s₁ x => ?_
  subst he
  refine ⟨T.nolimit.keeps x.toInCall.keep, codeAny_func ?_⟩
  generalize hL : s.heap.objs.size = L at x ⊢
  have x' : InCallC s L (bindL (fEnv qual scope f cdv L).kindOf binds fun _ => none) (fEnv qual scope f cdv L).cells (bindC (fEnv qual scope f cdv L).kindOf binds fun _ => none) s₁ := x
  show wpAny _ (A.deeper (fEnv qual scope f cdv L)) (execs body (fEnv qual scope f cdv L)) _ _ _
  have hk₁ : KeepsH s.heap s₁.heap := x'.toInCall.keep
  have cl : ∀ y c, (fEnv qual scope f cdv L).cells.lookup y = some c → L < c := fun y c e => x'.above y c (mem_of_lookup e)
  have fr : ∀ a, L ≤ a → s.heap.get? a = none := fun a h => fresh_le (by rw [hL]; exact h)
  let P' : Addr → Prop := fun a => Up P s.heap a ∧ a ≠ L ∧ ∀ y, (fEnv qual scope f cdv L).cells.lookup y ≠ some a
  have F : Fr s.heap L s₁.heap _ := ⟨x'.toInCall.ns, hk₁, hL ▸ Nat.le_refl _⟩
  have bb' := pushX (env := fEnv qual scope f cdv L) bl F rfl hk
  have fs : Fs w (A.deeper (fEnv qual scope f cdv L)) (Up P s.heap) P' (fun _ => False) (fun _ => False) (fEnv qual scope f cdv L) ρ none s₁.heap := by
    refine ⟨?_, hk, rfl, rfl, ?_, fun a p => p.1, ?_, fun _ _ q => q, fun _ q => q.elim, fun _ _ q => q.elim, fun _ q => q.elim, ⟨fun p => p.2.1 rfl, fun q => q, fun q => q⟩, fun y c e => ⟨fun p => p.2.2 y e, fun q => q, fun q => q⟩, ⟨_, x'.toInCall.ns⟩, fun y c e => ⟨_, x'.cell y c e⟩, ?_, fun _ _ e => by cases e⟩
    · refine ⟨s.heap, base, _, B, bl.stays, hk₁, bb'.stack, bb'.frames, fun a ha => ?_⟩
      rcases ha with rfl | ⟨y, e⟩ | q | q
      · exact fr _ (Nat.le_refl _)
      · exact fr _ (Nat.le_of_lt (cl y a e))
      · exact q.elim
      · exact q.elim
    · intro y d' e
      obtain ⟨v, hv, r⟩ := hρ y d' e
      have r' : RdT P' s₁.heap v d' := r.mono hk₁ fun a o e p => ⟨.inl p, (fun q => by rw [q, fr _ (Nat.le_refl _)] at e; exact (nomatch e)), (fun y' e' => by rw [fr _ (Nat.le_of_lt (cl y' a e'))] at e; exact (nomatch e))⟩
      have hy := List.all_eq_true.mp hkind _ (mem_of_lookup hv)
      rcases Bool.or_eq_true_iff.mp hy with q | q
      · have q' : (fEnv qual scope f cdv L).kindOf y = some .local := beq_iff_eq.mp q
        exact .loc q' x'.toInCall.ns (by rw [bindL_get q' hnd, hv]; rfl) r'
      · have q' : (fEnv qual scope f cdv L).kindOf y = some .cell := beq_iff_eq.mp q
        have hs : ((fEnv qual scope f cdv L).cells.lookup y).isSome = true := cellsFrom_some _ _ _ (.inl q')
        obtain ⟨c, hc⟩ := Option.isSome_iff_exists.mp hs
        have hcv := x'.cell y c hc
        rw [bindC_get q' hnd, hv] at hcv
        exact .cel q' hc hcv r'
    · intro a e
      refine ⟨.inr ?_, fun q => ?_, fun y q => ?_⟩
      · cases e' : s.heap.get? a with
        | none => rfl
        | some o => rw [hk₁ _ _ e'] at e; cases e
      · obtain ⟨o, _, _, e', _⟩ := x'.toInCall.ns; rw [q, e'] at e; cases e
      · obtain ⟨o, e', _⟩ := x'.cell y a q; rw [e'] at e; cases e
    · intro y z c e1 e2
      exact name_of_addr x'.apart (mem_of_lookup e1) (mem_of_lookup e2)
  have kk : Keeps s s₁ := by
    obtain ⟨hA, tA, eA⟩ := x'.toInCall.same
    refine ⟨hA, tA, eA, fun b o e => ?_⟩
    have := hk₁ b o e; rw [eA] at this; exact this
  exact hbody L s₁ P' (Rm.deeper _) fs kk bb' fun b o e => ⟨(fun q => by rw [q, fr _ (Nat.le_refl _)] at e; exact (nomatch e)), (fun y q => by rw [fr _ (Nat.le_of_lt (cl y b q))] at e; exact (nomatch e))⟩
end
end Mine

open PySem PySem.W PyProof.Rows PySem.Calls
set_option Elab.async false
set_option maxRecDepth 100000
namespace Mine
example : (PySem.Challenge.rw_rl0110_01, hd0.heap_1) = (PySem.Challenge.rw_rl0110_01, hd0.heap_1) := by k_fill; rfl

/-- where a ValueError flies past the frames that are left -/
noncomputable def Fly (base : Heap) (outer : List Env) (s : Shared) (E : Value → Shared → Prop) : Prop :=
  ∀ h' tk e a0, Heap.FlyingW base outer e (.type "ValueError") a0 h' → s.heap.UpToSlots h' → E (.ref e) { s with heap := h', toks := tk }
theorem Fly.of {base : Heap} {outer : List Env} {s s' : Shared} {E : Value → Shared → Prop} (x : Fly base outer s E) (k : Keeps s s') : Fly base outer s' E := by
  obtain ⟨h, t, rfl, q⟩ := k
  exact fun h' tk e a0 f u => x h' tk e a0 f ((Heap.UpToSlots.of_keeps q).trans u)

theorem below_at {w : World} {A A' : Around} {base : Heap} {env : Env} {outer : List Env} {h h₁ h' : Heap} {P₀ P O X : Addr → Prop} {ρ : Rho} {ω : Omg} (bl : Below A base outer h) (bb : Below A' base (env :: outer) h₁) (keep : KeepsH h h') (f : Fs w A' P₀ P O X env ρ ω h') (hL : env.frame = some env.locals) : Below A' base (env :: outer) h' := by
  refine ⟨bb.stack, fun b o q => keep _ _ (bl.stays b o q), ?_⟩
  obtain ⟨hk, ⟨L, o, hf, hn, ho, hd⟩, hr⟩ := bb.frames
  obtain ⟨m, o', es, ep, e1, e2, _⟩ := f.ns
  rw [hL] at hf; cases hf
  exact ⟨hk, ⟨_, o', hL, hn, e1, fun vs q => by rw [e2] at q; cases q⟩, funFrames_some (fun b o e d => ⟨o, keep _ _ e, d⟩) bl.frames⟩

section
variable {w : World} {A : Around} {P : Addr → Prop} {env : Env} {ρ : Rho} {pos : Pos}
theorem raise_one {cls newId initId : String} (F : ExcCallFacts cls newId initId) (G : ExcRaiseFacts cls) {x : Str} {np cpos : Pos} {e : Expr} {d : Dt} {s : Shared} {Q : Flow → Shared → Prop} {E : Value → Shared → Prop} (hh : A.handled = none)
    (hx : Ev w A env ρ (.Name x np) (.val (.type cls))) (he : Ev w A env ρ e d) (ok : Ok w A P env ρ s.heap)
    (h : ∀ v s' h' ex, Keeps s s' → Heap.MadeExc s'.heap h' ex cls [v] → E (.ref ex) { s' with heap := h' })
    (ht : backTo cpos (starEach [e] env) = [(false, eval e env)] := by rfl) : wpAny (model pr w) A (exec (.Raise (some (.Call (.Name x np) [e] [] cpos)) none pos) env) Q E s := by
  refine wpAny_Raise_call F G hh (by rw [ht]; rfl) (hx P s _ _ ok fun v₅ s₅ k₅ r₅ => ⟨by cases r₅; rfl, ?_⟩)
  rw [ht]
  exact evalArgs_plain (Calls.spliced_cons (he P s₅ _ _ (ok.keeps (Keeps.hp k₅)) fun v₆ s₆ k₆ r₆ => Calls.spliced_nil ⟨rfl, (by show 1 ≤ sizeLine; decide), fun h' e mk => h v₆ s₆ h' e (Keeps.tr k₅ k₆) mk⟩))
end
/-- self._convert_string_type(x, name=b), refused -/
noncomputable def ConvR (w : World) (x : Str) (b : Bool) : Prop :=
  ∀ (A : Around) (P : Addr → Prop) (s : Shared) (Q E : Value → Shared → Prop) (self v : Value) (base : Heap) (outer : List Env), Room A 1 → Base w s.heap → Below A base outer s.heap → RdT P s.heap v (.py (.str x)) →
    Fly base outer s E → wpAny (model pr w) A (call (.ref 76) [self, v] [(Str.ofString "name", .bool b)]) Q E s

set_option maxHeartbeats 4000000 in
theorem conv_raise {w : World} {x : Str} {b : Bool} (hx : x.length ≤ 1000000) (hn : hitB (reOf b) x = true) : ConvR w x b := by
  intro A P s Q E self v base outer R B bl r hE
  refine wpAny_call ?_
  refine fn_enterR (k := 0) (ρ := [(Str.ofString "value", .py (.str x)), (Str.ofString "name", .py (.bool b))]) R B bl (by k_dflt k_is) (by k_dflt k_is) (BindsTo.of_eq rfl) (by rfl) (by exact (by decide : [Str.ofString "self", Str.ofString "value", Str.ofString "name"].Nodup)) (binds_of ⟨⟨_, rfl, r⟩, ⟨_, rfl, .py (.bool _)⟩, trivial⟩) (by rfl) (by rfl) (by rfl) (fun L s₁ P' R' fs kk bb nLC => ?_)
  refine wpAny_execs_cons (wpAny_If (tv_eq (tv_cmp (ev_type (ev_name rfl)) (ev_bval PyProof.Rows.boot_str) cmp_is_ty) (show _ = true by rfl) P' s₁ _ _ fs.ok fun s₂ k₂ => ?_))
  rw [if_pos rfl]
  have f₂ := fs.keeps (Keeps.hp k₂)
  refine at_cons f₂ (s_assign (d := .val (.ref (if b then 41 else 46))) (ev_ifexp (b := b) (tv_plain (d := .bool b) (ev_name rfl) trivial) (fun hb => ev_eq (ev_gval (v := .ref 41) (by k_dflt k_is)) (by rw [hb]; rfl)) (fun hb => ev_eq (ev_gval (v := .ref 46) (by k_dflt k_is)) (by rw [hb]; rfl)))) fun s₃ p₃ => ?_
  obtain ⟨P₃, O₃, f₃, hp₃, ho₃⟩ := p₃.fs
  refine wpAny_execs_cons (wpAny_If (tv_eq (tv_search (code := reOf b) (fun h B => ?_) (ev_name rfl) (ev_name rfl) hx hn) rfl P₃ s₃ _ _ f₃.ok fun s₄ k₄ => ?_))
  · cases b
    · exact pat_value B
    · exact pat_name B
  rw [if_pos rfl]
  have f₄ := f₃.keeps (Keeps.hp k₄)
  refine wpAny_execs_cons (raise_one PySem.F.excCall_ValueError PySem.F.excRaise_ValueError R'.handled (ev_bval PyProof.Rows.Boot.«ValueError») ev_str f₄.ok fun v₆ s₆ h' e k₆ mk => ?_)
  have f₆ := f₄.keeps (Keeps.hp k₆)
  have keep3 : KeepsH s.heap s₃.heap := fun b o e => by
    obtain ⟨h', t', e', q⟩ := p₃.mv
    rw [e']; exact q b o (nLC b o e).1 (nLC b o e).2 (fun z => z) (Keeps.hp k₂ _ _ (Keeps.hp kk _ _ e))
  have keep6 : KeepsH s.heap s₆.heap := fun b o e => Keeps.hp k₆ _ _ (Keeps.hp k₄ _ _ (keep3 b o e))
  have b6 := below_at bl bb keep6 f₆ rfl
  refine wpAny_leaves_madeW b6.stack rfl b6.stays b6.frames (Heap.MadeExc.of mk) fun h'' t fl tup fresh up => ?_
  have eq : ∃ tk, s₆ = { s with heap := s₆.heap, toks := tk } := by
    obtain ⟨ha, ta, e1, _⟩ := kk
    obtain ⟨hb, tb, e2, _⟩ := k₂
    obtain ⟨hc, tc, e3, _⟩ := p₃.mv
    obtain ⟨hd', td, e4, _⟩ := k₄
    obtain ⟨hg, tg, e6, _⟩ := k₆
    exact ⟨tg, by rw [e6, e4, e3, e2, e1]⟩
  obtain ⟨tk, eq⟩ := eq
  have := hE h'' tk e (.ref t) fl (((Heap.UpToSlots.of_keeps keep6).trans (Heap.UpToSlots.of_keeps mk.keeps)).trans up)
  rw [eq]; exact this

section
variable {w : World} {A : Around} {P₀ P O X : Addr → Prop} {env : Env} {ρ ρ' : Rho} {ω ω' : Omg} {pos : Pos}
theorem evr_conv {o e : Expr} {ap kp : Pos} {dS : Dt} {x : Str} {b : Bool} {k : Nat} {pl : Sem Bool} {s : Shared} {Q E : Value → Shared → Prop} {base : Heap} {outer : List Env} (R : Room A (k + 1)) (ho : Ev w A env ρ o dS) (he : Ev w A env ρ e (.py (.str x))) (hc : ConvR w x b) {ke : Expr} (hke : Ev w A env ρ ke (.py (.bool b)))
    (ok : Ok w A P env ρ s.heap) (bl : Below A base outer s.heap) (hE : Fly base outer s E)
    (hS : IsH dS := by first | exact .inl ⟨_, rfl⟩ | exact .inr ⟨_, rfl⟩)
    (hb : backTo pos (starEach [e] env) = [(false, eval e env)] := by rfl)
    (hkw : backToKw pos (keywordEach [⟨some (Str.ofString "name"), ke, kp⟩] env) = [(some (Str.ofString "name"), do let v ← eval ke env; standAt pos; pure v)] := by rfl)
    (hcall : eval (.Call (.Attribute o (Str.ofString "_convert_string_type") ap) [e] [⟨some (Str.ofString "name"), ke, kp⟩] pos) env = (do
      let ov ← eval o env
      standAt ap.atName
      let (f, first) ← holding [ov] (getMethod ov (Str.ofString "_convert_string_type") pl)
      callWith pos f first (backTo pos (starEach [e] env)) (backToKw pos (keywordEach [⟨some (Str.ofString "name"), ke, kp⟩] env))) := by rfl) : wpAny (model pr w) A (eval (.Call (.Attribute o (Str.ofString "_convert_string_type") ap) [e] [⟨some (Str.ofString "name"), ke, kp⟩] pos) env) Q E s := by
  refine methodCall_KW (ho P s _ _ ok fun v s₁ k₁ r => ?_) hcall
  obtain ⟨a, dd, es', n, l, rfl, I, he'⟩ := r.isH hS
  have B := ok.base.keeps (Keeps.hp k₁)
  refine hmethod (f := 76) B I he' (by k_dflt k_is) (by k_dflt k_is) (by decide) ?_
  rw [hb, hkw]
  obtain ⟨o', fd, ho', hdt⟩ : ∃ o fd, (hd0.heap_1 w.params).lookup 76 = some o ∧ o.data = .func fd := ⟨_, _, by k_dflt k_is, rfl⟩
  refine callWith_function_kw (o := o') (fd := fd) (evalArgs_kw rfl (Calls.spliced_cons (he P s₁ _ _ (ok.keeps (Keeps.hp k₁)) fun v s₂ k₂ r₂ => Calls.spliced_nil ?_)))
  have k' := Keeps.tr k₁ k₂
  refine wpAny_evalAll_cons (wpAny_bind (hke P s₂ _ _ (ok.keeps (Keeps.hp k')) fun kv s₃ k₃ r₃ => wpAny_bind (wpAny_standAt (wpAny_pure (wpAny_evalAll_nil ?_)))))
  have ekv : kv = .bool b := by cases r₃ with | py r => cases r; rfl
  subst ekv
  have k'' := Keeps.tr k' k₃
  refine ⟨⟨(B.keeps (Keeps.hp (Keeps.tr k₂ k₃))).K _ _ ho', hdt⟩, ?_⟩
  exact hc A (Up P s₁.heap) s₃ Q E (.ref a) v base outer (R.le (by omega)) (ok.base.keeps (Keeps.hp k'')) (below_keeps (Keeps.hp k'') bl) (r₂.mono (Keeps.hp k₃) fun _ _ _ p => p) (hE.of k'')
end

set_option maxHeartbeats 4000000 in
/-- Headers.get_all(name), the name being refused -/
theorem getall_raise {w : World} {ps : List (Str × Str)} {n : Str} (hn : n.length ≤ 100000) (hl : (Txt.lower n).length ≤ 1000000) (hc : hitB nameCode (Txt.lower n) = true)
    (A : Around) (P : Addr → Prop) (s : Shared) (Q E : Value → Shared → Prop) (vs : List Value) (base : Heap) (outer : List Env) (R : Room A 2) (B : Base w s.heap) (bl : Below A base outer s.heap) (r : RdTs P s.heap vs [.hdr ps, .py (.str n)])
    (hE : Fly base outer s E) : wpAny (model pr w) A (call (.ref 114) vs) Q E s := by
  obtain ⟨v₁, v₂, rfl, r₁, r₂⟩ := r.two
  refine wpAny_call ?_
  refine fn_enterR (k := 1) R B bl (by k_dflt k_is) (by k_dflt k_is) (BindsTo.of_eq rfl) (by rfl) (by exact (by decide : [Str.ofString "self", Str.ofString "name"].Nodup)) (lookup2 (x := Str.ofString "self") (y := Str.ofString "name") r₁ r₂) (by rfl) (by rfl) (by rfl) (fun L s₁ P' R' fs kk bb nLC => ?_)
  refine wpAny_execs_cons (wpAny_Assign_Name (evr_conv (b := true) R' (ev_name rfl) (ev_lower (ev_name rfl) (by omega)) (conv_raise hl hc) ev_bool fs.ok bb ?_) rfl)
  intro h' tk e a0 fl up
  refine wpAny_leaves_onW bb.stack rfl fl fun h'' fl' up' => ?_
  obtain ⟨ha, ta, e1, q1⟩ := kk
  have := hE h'' tk e a0 fl' (((Heap.UpToSlots.of_keeps (Keeps.hp ⟨ha, ta, e1, q1⟩)).trans up).trans up')
  rw [e1]; exact this
end Mine

open PySem PySem.W PyProof.Rows PySem.Calls
set_option Elab.async false
set_option maxRecDepth 100000
namespace Mine
example : (PySem.Challenge.rw_rl0110_01, hd0.heap_1) = (PySem.Challenge.rw_rl0110_01, hd0.heap_1) := by k_fill; rfl

section
variable {w : World} {A : Around} {P₀ P O X : Addr → Prop} {env : Env} {ρ ρ' : Rho} {ω ω' : Omg} {pos : Pos}
/-- page.get_all(name), refused -/
theorem evr_getall {o e : Expr} {ap : Pos} {ps : List (Str × Str)} {n : Str} {pl : Sem Bool} {s : Shared} {Q E : Value → Shared → Prop} {base : Heap} {outer : List Env} (R : Room A 2) (ho : Ev w A env ρ o (.hdr ps)) (he : Ev w A env ρ e (.py (.str n)))
    (hn : n.length ≤ 100000) (hl : (Txt.lower n).length ≤ 1000000) (hc : hitB nameCode (Txt.lower n) = true)
    (ok : Ok w A P env ρ s.heap) (bl : Below A base outer s.heap) (hE : Fly base outer s E)
    (hb : backTo pos (starEach [e] env) = starEach [e] env := by rfl) (hb' : starEach [e] env = (false, eval e env) :: starEach [] env := by rfl)
    (hcall : eval (.Call (.Attribute o (Str.ofString "get_all") ap) [e] [] pos) env = (do
      let ov ← eval o env
      standAt ap.atName
      let (f, first) ← holding [ov] (getMethod ov (Str.ofString "get_all") pl)
      callWith pos f first (backTo pos (starEach [e] env)) (backToKw pos (keywordEach [] env))) := by rfl) : wpAny (model pr w) A (eval (.Call (.Attribute o (Str.ofString "get_all") ap) [e] [] pos) env) Q E s := by
  refine methodCall_KW (ho P s _ _ ok fun v s₁ k₁ r => ?_) hcall
  cases r with | hdr pa pd pl' x =>
    rename_i a dd l
    obtain ⟨es', n', I, he'⟩ := x.inst'
    have B := ok.base.keeps (Keeps.hp k₁)
    refine hmethod (f := 114) B I he' (by k_dflt k_is) (by k_dflt k_is) (by decide) ?_
    obtain ⟨o', fd, ho', hdt⟩ : ∃ o fd, (hd0.heap_1 w.params).lookup 114 = some o ∧ o.data = .func fd := ⟨_, _, by k_dflt k_is, rfl⟩
    refine callWith_function (o := o') (fd := fd) ?_
    rw [hb, hb']
    refine Calls.evalArgs_plain (Calls.spliced_cons (he P s₁ _ _ (ok.keeps (Keeps.hp k₁)) fun v s₂ k₂ r₂ => Calls.spliced_nil ⟨⟨(B.keeps (Keeps.hp k₂)).K _ _ ho', hdt⟩, ?_⟩))
    have k' := Keeps.tr k₁ k₂
    refine getall_raise (P := Up P s.heap) hn hl hc A s₂ Q E (.ref a :: [v]) base outer R (ok.base.keeps (Keeps.hp k')) (below_keeps (Keeps.hp k') bl) (.cons (.hdr pa pd pl' (x.keeps (Keeps.hp k₂))) (.cons (r₂.mono (fun _ _ e => e) fun a _ _ p => up_mono (Keeps.hp k₁) a p) .nil)) (hE.of k')
end

set_option maxHeartbeats 4000000 in
/-- _law_refused(page, name), a name that is refused -/
theorem refused_fn {w : World} {ps : List (Str × Str)} {n : Str} (hn : n.length ≤ 100000) (hl : (Txt.lower n).length ≤ 1000000) (hc : hitB nameCode (Txt.lower n) = true)
    (A : Around) (P : Addr → Prop) (s : Shared) (Q E : Value → Shared → Prop) (vs : List Value) (base : Heap) (outer : List Env) (R : Room A 3) (Bb : Base w base) (B : Base w s.heap) (bl : Below A base outer s.heap) (r : RdTs P s.heap vs [.hdr ps, .py (.str n)])
    (hQ : ∀ h' tk, base.StaysIn h' → h'.FunFrames base outer → s.heap.UpToSlots h' → Q (.bool true) { s with heap := h', toks := tk }) : wpAny (model pr w) A (call (.ref 242) vs) Q E s := by
  obtain ⟨v₁, v₂, rfl, r₁, r₂⟩ := r.two
  refine wpAny_call ?_
  refine fn_enterR (k := 2) R B bl (by k_dflt k_is) (by k_dflt k_is) (BindsTo.of_eq rfl) (by rfl) (by exact (by decide : [Str.ofString "page", Str.ofString "name"].Nodup)) (lookup2 (x := Str.ofString "page") (y := Str.ofString "name") r₁ r₂) (by rfl) (by rfl) (by rfl) (fun L s₁ P' R' fs kk bb nLC => ?_)
  refine wpAny_noRaise ?_
  refine wpAny_execs_cons (wpAny_Try_except (wpAny_execs_cons (wpAny_Expr (evr_getall R' (ev_name rfl) (ev_name rfl) hn hl hc fs.ok bb ?_) rfl rfl)))
  intro h₂ tk₂ e a0 fl up
  refine wpAny_looks_onW bb.stack rfl fl fun h₃ held up₃ => ?_
  refine wpAny_landsW held fun h₄ fl₄ up₄ => ?_
  obtain ⟨ob, hob, hobc⟩ := fl₄.there
  have ok₄ : Ok w ((A.deeper _).mark (some (.ref e))) (fun _ => True) _ [] h₄ := ⟨Bb.keeps fl₄.1, ⟨_, _, ⟨bb.stack, fl₄.1, fl₄.2.2.1⟩⟩, fs.fn, rfl, rfl, fun y d e => by cases e⟩
  refine wpAny_handleBy_builtin (X := "ValueError") (T := "ValueError") (b := true) PySem.F.isExc_ValueError PySem.F.notTuple_ValueError (by rw [isSubtype_type]; kernel_rfl) (bname (s := { s₁ with heap := h₄, toks := tk₂ }) ok₄ rfl (by kernel_rfl) PyProof.Rows.Boot.«ValueError» ⟨rfl, ⟨ob, hob, hobc⟩, ?_⟩)
  refine lands_againW fl₄ fun h₅ fl₅ up₅ => ?_
  refine wpAny_execs_cons (wpAny_Return_some (wpAny_Constant_bool ?_))
  obtain ⟨ha, ta, e1, q1⟩ := kk
  have := hQ h₅ tk₂ fl₅.1 fl₅.2.2.1.2.2 ((((((Heap.UpToSlots.of_keeps (Keeps.hp ⟨ha, ta, e1, q1⟩)).trans up).trans up₃).trans up₄).trans up₅))
  rw [e1]; exact this
end Mine

open PySem
set_option Elab.async false
set_option maxRecDepth 100000
namespace Mine

/-! the places of a set's table -/
noncomputable def Rise (xs : Array Nat) : Prop := ∀ i k, i < k → k < xs.size → xs.getD i 0 < xs.getD k 0

theorem below_go {xs : Array Nat} (hs : Rise xs) (j : Nat) : ∀ (fuel lo hi : Nat), hi - lo ≤ fuel → lo ≤ hi → hi ≤ xs.size → (∀ i, i < lo → xs.getD i 0 < j) → (∀ i, hi ≤ i → i < xs.size → j ≤ xs.getD i 0) →
    SetTable.below.go xs j fuel lo hi ≤ xs.size ∧ (∀ i, i < SetTable.below.go xs j fuel lo hi → xs.getD i 0 < j) ∧ (∀ i, SetTable.below.go xs j fuel lo hi ≤ i → i < xs.size → j ≤ xs.getD i 0)
  | 0, lo, hi, hf, hl, hh, h1, h2 => by
    have : lo = hi := by omega
    subst this
    exact ⟨hh, h1, h2⟩
  | fuel + 1, lo, hi, hf, hl, hh, h1, h2 => by
    unfold SetTable.below.go
    by_cases hlt : lo < hi
    · rw [if_pos hlt]
      dsimp only
      have ee : xs.getD ((lo + hi) / 2) j = xs.getD ((lo + hi) / 2) 0 := by
        have : (lo + hi) / 2 < xs.size := by omega
        simp [Array.getD, this]
      rw [ee]
      by_cases hm : xs.getD ((lo + hi) / 2) 0 < j
      · rw [if_pos hm]
        refine below_go hs j fuel _ _ (by omega) (by omega) hh (fun i hi' => ?_) h2
        by_cases e : i = (lo + hi) / 2
        · subst e; exact hm
        · exact Nat.lt_trans (hs i ((lo + hi) / 2) (by omega) (by omega)) hm
      · rw [if_neg hm]
        refine below_go hs j fuel _ _ (by omega) (by omega) (by omega) h1 (fun i hi' hi2 => ?_)
        by_cases e : i = (lo + hi) / 2
        · subst e; omega
        · have := hs ((lo + hi) / 2) i (by omega) hi2; omega
    · rw [if_neg hlt]
      have : lo = hi := by omega
      subst this
      exact ⟨hh, h1, h2⟩

theorem below_spec {xs : Array Nat} (hs : Rise xs) (j : Nat) : SetTable.below xs j ≤ xs.size ∧ (∀ i, i < SetTable.below xs j → xs.getD i 0 < j) ∧ (∀ i, SetTable.below xs j ≤ i → i < xs.size → j ≤ xs.getD i 0) :=
  below_go hs j xs.size 0 xs.size (by omega) (by omega) (Nat.le_refl _) (fun i h => absurd h (by omega)) fun i h h' => absurd h (by omega)

/-- the place behind the i-th element's -/
noncomputable def slotAt (xs : Array Nat) (i : Nat) : Nat := if i = 0 then 0 else xs.getD (i - 1) 0 + 1
theorem below_slot {xs : Array Nat} (hs : Rise xs) {i : Nat} (hi : i ≤ xs.size) : SetTable.below xs (slotAt xs i) = i := by
  obtain ⟨h1, h2, h3⟩ := below_spec hs (slotAt xs i)
  generalize SetTable.below xs (slotAt xs i) = r at *
  by_cases hlt : r < i
  · have hi0 : i ≠ 0 := by omega
    have q := h3 (i - 1) (by omega) (by omega)
    rw [slotAt, if_neg hi0] at q
    omega
  · by_cases hgt : i < r
    · have q := h2 i hgt
      rw [slotAt] at q
      split at q
      · omega
      · have := hs (i - 1) i (by omega) (by omega); omega
    · omega

theorem getD_list (xs : Array Nat) (i : Nat) : xs.getD i 0 = xs.toList.getD i 0 := by
  simp [Array.getD_eq_getD_getElem?, List.getD_eq_getElem?_getD]
theorem rise_of_pw {xs : Array Nat} (h : xs.toList.Pairwise (· < ·)) : Rise xs := by
  intro i k hik hk
  have hk' : k < xs.toList.length := by simpa using hk
  have := List.pairwise_iff_getElem.mp h i k (by omega) hk' hik
  rw [getD_list, getD_list]
  simp only [List.getD_eq_getElem?_getD]
  rw [List.getElem?_eq_getElem (by omega), List.getElem?_eq_getElem hk']
  exact this

/-- a place that is free -/
theorem slot_free {t : SetTable} (hd : t.dummies = #[]) {j : Nat} (hj : j ∉ t.place.toList) : t.slot j = .empty := by
  unfold SetTable.slot
  dsimp only
  have h1 : (t.place[SetTable.below t.place j]? == some j) = false := by
    refine beq_false_of_ne fun q => hj ?_
    rw [← Array.getElem?_toList] at q
    exact List.mem_of_getElem? q
  rw [h1, hd]
  have h2 : SetTable.has #[] j = false := by
    unfold SetTable.has; simp
  rw [h2]; rfl

theorem insert_rise {xs : Array Nat} (hs : xs.toList.Pairwise (· < ·)) {j : Nat} (hj : j ∉ xs.toList) : (SetTable.insertAt xs (SetTable.below xs j) j).toList.Pairwise (· < ·) := by
  obtain ⟨h1, h2, h3⟩ := below_spec (rise_of_pw hs) j
  rw [SetTable.toList_insertAt]
  generalize SetTable.below xs j = r at *
  rw [List.pairwise_append]
  refine ⟨hs.sublist (List.take_sublist _ _), List.pairwise_cons.mpr ⟨fun a ha => ?_, hs.sublist (List.drop_sublist _ _)⟩, fun a ha b hb => ?_⟩
  · obtain ⟨i, hi, rfl⟩ := List.getElem_of_mem ha
    rw [List.length_drop] at hi
    rw [List.getElem_drop]
    have q := h3 (r + i) (by omega) (by simp at hi; omega)
    rw [getD_list] at q
    simp only [List.getD_eq_getElem?_getD, List.getElem?_eq_getElem (show r + i < xs.toList.length by omega), Option.getD_some] at q
    have ne : xs.toList[r + i] ≠ j := fun e => hj (e ▸ List.getElem_mem _)
    omega
  · have haj : a < j := by
      obtain ⟨i, hi, rfl⟩ := List.getElem_of_mem ha
      rw [List.length_take] at hi
      rw [List.getElem_take]
      have q := h2 i (by omega)
      rw [getD_list] at q
      simpa only [List.getD_eq_getElem?_getD, List.getElem?_eq_getElem (show i < xs.toList.length by omega), Option.getD_some] using q
    rcases List.mem_cons.mp hb with rfl | hb
    · exact haj
    · obtain ⟨i, hi, rfl⟩ := List.getElem_of_mem hb
      rw [List.length_drop] at hi
      rw [List.getElem_drop]
      have q := h3 (r + i) (by omega) (by simp at hi; omega)
      rw [getD_list] at q
      simp only [List.getD_eq_getElem?_getD, List.getElem?_eq_getElem (show r + i < xs.toList.length by omega), Option.getD_some] at q
      omega

/-- a new element finds its own place free -/
theorem free31 {t : SetTable} (hm : t.mask = 31) (hd : t.dummies = #[]) {h : Nat} (hh : h < 16) (hj : h ∉ t.place.toList) : t.freeSlot (h : Int) = some (h, false) := by
  unfold SetTable.freeSlot SetTable.probe
  have hb : SetTable.bits (h : Int) = h := by
    unfold SetTable.bits
    omega
  have hst : (t.probeStart (h : Int)).j = h := by
    unfold SetTable.probeStart
    simp only [hb, hm]
    omega
  have hdm : (t.probeStart (h : Int)).dummy = none := rfl
  have : 10 * SetTable.turns t.mask = 459 + 1 := by rw [hm]; rfl
  rw [this]
  unfold SetTable.probe.go
  rw [hst, slot_free hd hj]
  simp [hdm]

noncomputable def tab7 (pl : List Nat) : SetTable := { mask := 7, place := pl.toArray, dummies := #[], finger := 0, led := true, moves := 0, plain := true }
end Mine

open PySem
set_option Elab.async false
set_option maxRecDepth 100000
namespace Mine

/-- a table laid anew: each small hash at its own place -/
noncomputable def layStep (mask : Nat) (acc : Option (Array (Option Nat) × Nat)) (h : Int) : Option (Array (Option Nat) × Nat) := do
  let (owner, k) ← acc
  let j ← SetTable.layClean.free mask owner (SetTable.turns mask) (SetTable.bits h % (mask + 1)) (SetTable.bits h)
  pure (owner.setIfInBounds j (some k), k + 1)
theorem layClean_eq (mask : Nat) (hs : Array Int) : SetTable.layClean mask hs = ((hs.foldl (layStep mask) (some (Array.replicate (mask + 1) none, 0))).map (·.1)) := rfl

theorem bits_small {h : Int} (h0 : 0 ≤ h) (h1 : h < 16) : SetTable.bits h = h.toNat := by
  unfold SetTable.bits; omega
theorem getDN (xs : Array (Option Nat)) (j : Nat) (d : Option Nat) (hj : j < xs.size) : xs.getD j d = xs[j] := by
  simp [Array.getD, hj]

structure Laid (owner : Array (Option Nat)) (pre : List Int) : Prop where
  size : owner.size = 32
  at' : ∀ j : Nat, j < 32 → owner.getD j none = pre.findIdx? (· == (j : Int))

theorem laid_step {owner : Array (Option Nat)} {pre : List Int} {h : Int} (L : Laid owner pre) (h0 : 0 ≤ h) (h1 : h < 16) (hn : h ∉ pre) :
    ∃ owner', layStep 31 (some (owner, pre.length)) h = some (owner', pre.length + 1) ∧ Laid owner' (pre ++ [h]) := by
  have hb := bits_small h0 h1
  have hi : SetTable.bits h % (31 + 1) = h.toNat := by rw [hb]; omega
  have hlt : h.toNat < 32 := by omega
  have hnone : owner.getD h.toNat none = none := by
    rw [L.at' _ hlt, List.findIdx?_eq_none_iff]
    intro x hx
    refine beq_false_of_ne fun e => hn ?_
    have : x = h := by omega
    exact this ▸ hx
  have hfree : SetTable.layClean.free 31 owner (SetTable.turns 31) h.toNat (SetTable.bits h) = some h.toNat := by
    show SetTable.layClean.free 31 owner (45 + 1) h.toNat (SetTable.bits h) = _
    unfold SetTable.layClean.free
    have hr : ∃ n, SetTable.runEnd 31 h.toNat + 1 - h.toNat = n + 1 := ⟨SetTable.runEnd 31 h.toNat - h.toNat, by unfold SetTable.runEnd; split <;> omega⟩
    obtain ⟨n, hr⟩ := hr
    rw [hr, List.range_succ_eq_map]
    have hp : (owner.getD (h.toNat + 0) (some 0)).isNone = true := by
      rw [Nat.add_zero, getDN _ _ _ (by rw [L.size]; exact hlt)]
      rw [getDN _ _ _ (by rw [L.size]; exact hlt)] at hnone
      rw [hnone]; rfl
    rw [List.find?_cons]
    dsimp only
    rw [hp]
    rfl
  refine ⟨owner.setIfInBounds h.toNat (some pre.length), ?_, ⟨by rw [Array.size_setIfInBounds]; exact L.size, fun j hj => ?_⟩⟩
  · unfold layStep
    simp only [hi, hfree, Option.bind_eq_bind, Option.bind_some]
    rfl
  · have hs : (owner.setIfInBounds h.toNat (some pre.length)).size = 32 := by rw [Array.size_setIfInBounds]; exact L.size
    rw [getDN _ _ _ (by rw [hs]; exact hj), List.findIdx?_append, ← L.at' j hj]
    rw [Array.getElem_setIfInBounds (by rw [L.size]; exact hj)]
    by_cases e : h.toNat = j
    · rw [if_pos e, ← e, hnone]
      have : (h == ((h.toNat : Nat) : Int)) = true := by simp; omega
      rw [List.findIdx?_cons, this]
      simp
    · rw [if_neg e, getDN _ _ _ (by rw [L.size]; exact hj)]
      have : (h == (j : Int)) = false := beq_false_of_ne fun q => e (by omega)
      simp [List.findIdx?_cons, this]

theorem laid_all : ∀ (suf pre : List Int) (owner : Array (Option Nat)), Laid owner pre → (∀ h ∈ suf, 0 ≤ h ∧ h < 16) → (pre ++ suf).Nodup →
    ∃ owner', suf.foldl (layStep 31) (some (owner, pre.length)) = some (owner', (pre ++ suf).length) ∧ Laid owner' (pre ++ suf)
  | [], pre, owner, L, _, _ => ⟨owner, by simp, by simpa using L⟩
  | h :: suf, pre, owner, L, hs, hnd => by
    have hn : h ∉ pre := by
      rw [List.nodup_append] at hnd
      exact fun q => hnd.2.2 h q h (by simp) rfl
    obtain ⟨o1, e1, L1⟩ := laid_step L (hs h (by simp)).1 (hs h (by simp)).2 hn
    have e : pre ++ h :: suf = (pre ++ [h]) ++ suf := by simp
    rw [e] at hnd
    obtain ⟨o2, e2, L2⟩ := laid_all suf (pre ++ [h]) o1 L1 (fun x hx => hs x (by simp [hx])) hnd
    refine ⟨o2, ?_, by rw [e]; exact L2⟩
    rw [List.foldl_cons, e1, e]
    have : pre.length + 1 = (pre ++ [h]).length := by simp
    rw [this]; exact e2

theorem laid_nil : Laid (Array.replicate 32 none) [] := ⟨by simp, fun j hj => by simp [Array.getD, hj]⟩

noncomputable def livesOf (owner : Array (Option Nat)) : List (Nat × Nat) := (List.range 32).filterMap fun j => (owner.getD j none).map (j, ·)

theorem lives_mem {owner : Array (Option Nat)} {hs : List Int} (L : Laid owner hs) {j k : Nat} (h : (j, k) ∈ livesOf owner) : j < 32 ∧ hs[k]? = some (j : Int) := by
  unfold livesOf at h
  obtain ⟨j', hj', e⟩ := List.mem_filterMap.mp h
  have hj : j' < 32 := by simpa using hj'
  rw [L.at' j' hj] at e
  cases q : hs.findIdx? (· == (j' : Int)) with
  | none => rw [q] at e; cases e
  | some k' =>
    rw [q] at e
    simp only [Option.map_some, Option.some.injEq, Prod.mk.injEq] at e
    obtain ⟨rfl, rfl⟩ := e
    obtain ⟨h1, h2, _⟩ := List.findIdx?_eq_some_iff_getElem.mp q
    refine ⟨hj, ?_⟩
    rw [List.getElem?_eq_getElem h1]
    exact congrArg some (by simpa using h2)

theorem lives_place (owner : Array (Option Nat)) : ((livesOf owner).map (·.1)).Pairwise (· < ·) := by
  unfold livesOf
  have : ∀ (l : List Nat), l.Pairwise (· < ·) → ((l.filterMap fun j => (owner.getD j none).map fun x => (j, x)).map (·.1)).Pairwise (· < ·) := by
    intro l hl
    induction l with
    | nil => simp
    | cons a l ih =>
      rw [List.pairwise_cons] at hl
      rw [List.filterMap_cons]
      split
      · exact ih hl.2
      · rename_i x hx
        rw [List.map_cons, List.pairwise_cons]
        refine ⟨fun b hb => ?_, ih hl.2⟩
        obtain ⟨p, hp, rfl⟩ := List.mem_map.mp hb
        obtain ⟨j, hj, hq⟩ := List.mem_filterMap.mp hp
        cases h1 : owner.getD a none with
        | none => rw [h1] at hx; cases hx
        | some u =>
          rw [h1] at hx
          cases h2 : owner.getD j none with
          | none => rw [h2] at hq; cases hq
          | some v =>
            rw [h2] at hq
            simp only [Option.map_some, Option.some.injEq] at hx hq
            rw [← hx, ← hq]
            exact hl.1 j hj
  exact this _ List.pairwise_lt_range

theorem lives_order {owner : Array (Option Nat)} {hs : List Int} (L : Laid owner hs) (hsm : ∀ h ∈ hs, 0 ≤ h ∧ h < 16) (hnd : hs.Nodup) : List.Perm ((livesOf owner).map (·.2)) (List.range hs.length) := by
  have nd1 : ((livesOf owner).map (·.2)).Nodup := by
    have hp := lives_place owner
    rw [List.pairwise_map] at hp
    unfold List.Nodup
    rw [List.pairwise_map]
    refine hp.imp_of_mem fun {a b} ha hb hab e => ?_
    have h1 := (lives_mem L (j := a.1) (k := a.2) ha).2
    have h2 := (lives_mem L (j := b.1) (k := b.2) hb).2
    rw [e, h2] at h1
    simp only [Option.some.injEq] at h1
    omega
  refine (List.perm_ext_iff_of_nodup nd1 List.nodup_range).mpr fun k => ?_
  rw [List.mem_range]
  constructor
  · intro h
    obtain ⟨⟨j, k'⟩, hp, rfl⟩ := List.mem_map.mp h
    exact (List.getElem?_eq_some_iff.mp (lives_mem L hp).2).1
  · intro h
    obtain ⟨a0, a1⟩ := hsm hs[k] (List.getElem_mem _)
    refine List.mem_map.mpr ⟨(hs[k].toNat, k), ?_, rfl⟩
    unfold livesOf
    refine List.mem_filterMap.mpr ⟨hs[k].toNat, by simp; omega, ?_⟩
    rw [L.at' _ (by omega)]
    have : hs.findIdx? (· == ((hs[k].toNat : Nat) : Int)) = some k := by
      rw [List.findIdx?_eq_some_iff_getElem]
      refine ⟨h, by simp; omega, fun i hi => ?_⟩
      have hne := List.pairwise_iff_getElem.mp hnd i k (by omega) h hi
      simp
      intro q
      exact hne (by omega)
    rw [this]; rfl
end Mine

open PySem
set_option Elab.async false
set_option maxRecDepth 100000
namespace Mine

noncomputable def okAt (pl : List Nat) (h : Nat) : Bool := match (tab7 pl).freeSlot (h : Int) with | some (j, d) => decide (j < 8) && !pl.contains j && !d | none => false
theorem fr0 : ∀ h < 16, okAt [] h = true := by decide +kernel
theorem fr1 : ∀ a < 8, ∀ h < 16, okAt [a] h = true := by decide +kernel
theorem fr2 : ∀ a < 8, ∀ b < 8, a < b → ∀ h < 16, okAt [a, b] h = true := by decide +kernel
theorem fr3' : ((List.range 8).all fun a => (List.range 8).all fun b => (List.range 8).all fun c => !(decide (a < b) && decide (b < c)) || (List.range 16).all fun h => okAt [a, b, c] h) = true := by decide +kernel
theorem fr4' : ((List.range 8).all fun a => (List.range 8).all fun b => !(decide (a < b)) || (List.range 8).all fun c => !(decide (b < c)) || (List.range 8).all fun d => !(decide (c < d)) || (List.range 16).all fun h => okAt [a, b, c, d] h) = true := by decide +kernel
theorem fr3 (a : Nat) (ha : a < 8) (b : Nat) (hb : b < 8) (hab : a < b) (c : Nat) (hc : c < 8) (hbc : b < c) (h : Nat) (hh : h < 16) : okAt [a, b, c] h = true := by
  have q := fr3'
  simp only [List.all_eq_true, List.mem_range, Bool.or_eq_true, Bool.not_eq_true', Bool.and_eq_false_iff, decide_eq_false_iff_not] at q
  exact (q a ha b hb c hc).elim (fun z => z.elim (fun y => absurd hab y) fun y => absurd hbc y) fun z => z h hh
theorem fr4 (a : Nat) (ha : a < 8) (b : Nat) (hb : b < 8) (hab : a < b) (c : Nat) (hc : c < 8) (hbc : b < c) (d : Nat) (hd : d < 8) (hcd : c < d) (h : Nat) (hh : h < 16) : okAt [a, b, c, d] h = true := by
  have q := fr4'
  simp only [List.all_eq_true, List.mem_range, Bool.or_eq_true, Bool.not_eq_true', decide_eq_false_iff_not] at q
  exact (q a ha b hb).elim (fun y => absurd hab y) fun z => (z c hc).elim (fun y => absurd hbc y) fun z => (z d hd).elim (fun y => absurd hcd y) fun z => z h hh
theorem free7' {pl : List Nat} (h8 : ∀ p ∈ pl, p < 8) (hs : pl.Pairwise (· < ·)) (hl : pl.length ≤ 4) {h : Nat} (hh : h < 16) : okAt pl h = true := by
  match pl, h8, hs, hl with
  | [], _, _, _ => exact fr0 h hh
  | [a], h8, _, _ => exact fr1 a (h8 a (by simp)) h hh
  | [a, b], h8, hs, _ => exact fr2 a (h8 a (by simp)) b (h8 b (by simp)) (by simp at hs; exact hs) h hh
  | [a, b, c], h8, hs, _ => simp at hs; exact fr3 a (h8 a (by simp)) b (h8 b (by simp)) hs.1.1 c (h8 c (by simp)) hs.2 h hh
  | [a, b, c, d], h8, hs, _ => simp at hs; exact fr4 a (h8 a (by simp)) b (h8 b (by simp)) hs.1.1 c (h8 c (by simp)) hs.2.1.1 d (h8 d (by simp)) hs.2.2 h hh
  | _ :: _ :: _ :: _ :: _ :: _, _, _, hl => simp at hl

theorem go_led {t : SetTable} {b : Bool} {f : Nat → Int} {h : Int} : ∀ (n : Nat) (p : SetTable.Probe), SetTable.probe.go { t with led := b } f h n p = SetTable.probe.go t f h n p
  | 0, _ => rfl
  | n + 1, p => by
    unfold SetTable.probe.go
    have e : SetTable.slot { t with led := b } p.j = t.slot p.j := rfl
    rw [e]
    cases t.slot p.j with
    | empty => rfl
    | dummy => exact go_led n _
    | live i =>
      dsimp only
      split
      · rfl
      · exact go_led n _
theorem free_led {t : SetTable} {b : Bool} {h : Int} : SetTable.freeSlot { t with led := b } h = t.freeSlot h := by
  unfold SetTable.freeSlot SetTable.probe
  have := go_led (t := t) (b := b) (f := fun _ => h + 1) (h := h) (10 * SetTable.turns t.mask) (t.probeStart h)
  show (match SetTable.probe.go { t with led := b } (fun _ => h + 1) h (10 * SetTable.turns t.mask) (t.probeStart h) with | some (.empty j dummy) => some (dummy.getD j, dummy.isSome) | _ => none) = _
  rw [this]
  rfl

structure Tab (ld : Bool) (t : SetTable) (hs : List Int) : Prop where
  dum : t.dummies = #[]
  led : t.led = ld
  plain : t.plain = true
  rise : t.place.toList.Pairwise (· < ·)
  size : t.place.size = hs.length
  small : ∀ h ∈ hs, 0 ≤ h ∧ h < 16
  nodup : hs.Nodup
  alt : (t.mask = 7 ∧ hs.length ≤ 4 ∧ (∀ p ∈ t.place.toList, p < 8) ∧ t.finger = 0 ∧ t.moves = 0) ∨ (t.mask = 31 ∧ ∀ p ∈ t.place.toList, ((p : Nat) : Int) ∈ hs)

theorem Tab.fresh {ld : Bool} : Tab ld (.fresh 0 0 ld) [] := ⟨rfl, rfl, rfl, by simp [SetTable.fresh], rfl, fun h q => by simp at q, by simp, .inl ⟨rfl, by simp, fun p q => by simp [SetTable.fresh] at q, rfl, rfl⟩⟩

theorem free_of {ld : Bool} {t : SetTable} {hs : List Int} (T : Tab ld t hs) {h : Int} (h0 : 0 ≤ h) (h1 : h < 16) (hn : h ∉ hs) : ∃ j, t.freeSlot h = some (j, false) ∧ j ∉ t.place.toList ∧ ((t.mask = 7 ∧ j < 8) ∨ (t.mask = 31 ∧ (j : Int) = h)) := by
  obtain ⟨m, rfl⟩ : ∃ m : Nat, h = (m : Int) := ⟨h.toNat, by omega⟩
  have hm : m < 16 := by omega
  rcases T.alt with ⟨a1, a2, a3, a4, a5⟩ | ⟨a1, a2⟩
  · have q := free7' a3 T.rise (by have := T.size; simp; omega) hm
    have e : tab7 t.place.toList = { t with led := true } := by
      obtain ⟨d1, d3⟩ := (⟨T.dum, T.plain⟩ : _ ∧ _)
      obtain ⟨mask, place, dummies, finger, led, moves, plain⟩ := t
      simp only at a1 a4 a5 d1 d3
      subst a1; subst a4; subst a5; subst d1; subst d3
      rfl
    unfold okAt at q
    rw [e, free_led] at q
    split at q
    · rename_i j d ej
      simp only [Bool.and_eq_true, decide_eq_true_eq, Bool.not_eq_true', List.contains_eq_mem, decide_eq_false_iff_not] at q
      obtain ⟨⟨q1, q2⟩, q3⟩ := q
      subst q3
      exact ⟨j, ej, q2, .inl ⟨a1, q1⟩⟩
    · cases q
  · have hp : m ∉ t.place.toList := fun q => hn (a2 m q)
    exact ⟨m, free31 a1 T.dum hm hp, hp, .inr ⟨a1, rfl⟩⟩

theorem insert_toList {α : Type} (xs : Array α) (p : Nat) (x : α) : (SetTable.insertAt xs p x).toList = xs.toList.take p ++ x :: xs.toList.drop p := SetTable.toList_insertAt xs p x

theorem filterMap_lives {es : Array (Int × Value)} : ∀ (l : List (Nat × Nat)), (∀ p ∈ l, ∃ e, es[p.2]? = some e ∧ e.1 = (p.1 : Int)) → ((l.map (·.2)).filterMap (es[·]?)).map (·.1) = l.map fun p => (p.1 : Int)
  | [], _ => rfl
  | p :: l, h => by
    obtain ⟨e, h1, h2⟩ := h p (by simp)
    have ih := filterMap_lives l fun q hq => h q (by simp [hq])
    simp only [List.map_cons, List.filterMap_cons, h1, h2]
    rw [ih]

/-- five elements are laid anew -/
theorem relay_tab {ld : Bool} {t : SetTable} {es : Array (Int × Value)} (hled : t.led = ld) (hpl : t.plain = true) (hsm : ∀ h ∈ es.toList.map (·.1), 0 ≤ h ∧ h < 16) (hnd : (es.toList.map (·.1)).Nodup) (hn : es.size = 5) :
    ∃ es2 t2 g, relayAll t es (SetTable.grown es.size) = (es2, t2, g) ∧ Tab ld t2 (es2.toList.map (·.1)) := by
  have hw : SetTable.grown es.size = 20 := by rw [hn]; rfl
  have h31 : SetTable.sizeAbove 20 - 1 = 31 := by decide
  obtain ⟨owner, e1, L⟩ := laid_all (es.toList.map (·.1)) [] _ laid_nil hsm (by simpa using hnd)
  rw [List.nil_append] at L
  have hlen : (es.toList.map (·.1)).length = es.size := by simp
  have ec : SetTable.layClean 31 (es.map (·.1)) = some owner := by
    rw [layClean_eq, ← Array.foldl_toList, Array.toList_map]
    show (List.foldl (layStep 31) (some (Array.replicate 32 none, 0)) (es.toList.map (·.1))).map (·.1) = _
    rw [show (0 : Nat) = ([] : List Int).length from rfl, e1]; rfl
  have er : t.relaid (es.map (·.1)) 20 = some ({ mask := 31, place := ((livesOf owner).map (·.1)).toArray, dummies := #[], finger := t.finger, led := t.led, moves := t.movedTo 31, plain := t.plain }, ((livesOf owner).map (·.2)).toArray) := by
    unfold SetTable.relaid SetTable.laid
    rw [h31, ec]; rfl
  have hlm : ∀ p ∈ livesOf owner, ∃ e, es[p.2]? = some e ∧ e.1 = (p.1 : Int) := fun p hp => by
    have := (lives_mem L (j := p.1) (k := p.2) hp).2
    rw [List.getElem?_map] at this
    cases q : es.toList[p.2]? with
    | none => rw [q] at this; cases this
    | some e => rw [q] at this; exact ⟨e, by rw [← Array.getElem?_toList]; exact q, by simpa using this⟩
  have hfm := filterMap_lives (livesOf owner) hlm
  have hperm := lives_order L hsm hnd
  have hsz : (livesOf owner).length = es.size := by have := hperm.length_eq; simpa using this
  generalize hes : (((livesOf owner).map (·.2)).toArray).filterMap (es[·]?) = es2
  have he2 : es2.toList = ((livesOf owner).map (·.2)).filterMap (es[·]?) := by rw [← hes, Array.toList_filterMap]
  rw [← he2] at hfm
  have hs2 : es2.size = es.size := by
    have := congrArg List.length hfm
    simp only [List.length_map, Array.length_toList] at this
    omega
  have hcov : coversAll ((livesOf owner).map (·.2)).toArray es.size = true := by
    unfold coversAll
    rw [List.isPerm_iff]
    rw [hlen] at hperm; simpa using hperm
  have hr : relayAll t es (SetTable.grown es.size) = (es2, { mask := 31, place := ((livesOf owner).map (·.1)).toArray, dummies := #[], finger := t.finger, led := t.led, moves := t.movedTo 31, plain := t.plain }, false) := by
    rw [hw]
    unfold relayAll
    rw [er]
    dsimp only
    rw [hes, hcov]
    have : ({ mask := 31, place := ((livesOf owner).map (·.1)).toArray, dummies := #[], finger := t.finger, led := t.led, moves := t.movedTo 31, plain := t.plain } : SetTable).fits es2.size = true := by
      unfold SetTable.fits SetTable.fill
      simp
      omega
    rw [this]; rfl
  have hp2 : List.Perm es2.toList es.toList := by
    have := relayAll_perm t es (SetTable.grown es.size)
    rw [hr] at this; exact this
  have hpm : List.Perm (es2.toList.map (·.1)) (es.toList.map (·.1)) := hp2.map _
  refine ⟨es2, _, false, hr, ⟨rfl, hled, hpl, by simpa using lives_place owner, ?_, fun h hh => hsm h (hpm.mem_iff.mp hh), hpm.nodup_iff.mpr hnd, .inr ⟨rfl, fun p hp => ?_⟩⟩⟩
  · rw [hfm]; simp
  · rw [hfm]
    have : p ∈ (livesOf owner).map (·.1) := by simpa using hp
    obtain ⟨q, hq, rfl⟩ := List.mem_map.mp this
    exact List.mem_map.mpr ⟨q, hq, rfl⟩

theorem tab_step {ld : Bool} {t : SetTable} {es : Array (Int × Value)} {h : Int} {x : Value} (T : Tab ld t (es.toList.map (·.1))) (h0 : 0 ≤ h) (h1 : h < 16) (hn : h ∉ es.toList.map (·.1)) (hlen : es.size < 16) :
    ∃ es1 t1, layNew t es h x = (es1, t1, false, false) ∧ es1.size = es.size + 1 ∧ List.Perm es1.toList (es.toList ++ [(h, x)]) ∧ t1.plain = true ∧ t1.fits es1.size = true ∧
      ((t1.tooFull = false ∧ Tab ld t1 (es1.toList.map (·.1))) ∨ (t1.tooFull = true ∧ ∃ es2 t2 g, relayAll t1 es1 (SetTable.grown es1.size) = (es2, t2, g) ∧ Tab ld t2 (es2.toList.map (·.1)))) := by
  obtain ⟨j, hj, hjn, hcase⟩ := free_of T h0 h1 hn
  have hlen' : t.place.size = es.size := by have := T.size; simpa using this
  let t1 : SetTable := { t with place := SetTable.insertAt t.place (SetTable.below t.place j) j }
  have eput : t.put j = (t1, SetTable.below t.place j) := by
    unfold SetTable.put
    have : SetTable.has t.dummies j = false := by rw [T.dum]; unfold SetTable.has; simp
    rw [this]; rfl
  let es1 := SetTable.insertAt es (SetTable.below t.place j) (h, x)
  have hbl := (below_spec (rise_of_pw T.rise) j).1
  have hs1 : es1.size = es.size + 1 := by
    have := congrArg List.length (insert_toList es (SetTable.below t.place j) (h, x))
    simp only [Array.length_toList, List.length_append, List.length_take, List.length_cons, List.length_drop] at this
    show (SetTable.insertAt es (SetTable.below t.place j) (h, x)).size = _
    omega
  have hp1 : t1.place.size = es1.size := by
    have := congrArg List.length (insert_toList t.place (SetTable.below t.place j) j)
    simp only [Array.length_toList, List.length_append, List.length_take, List.length_cons, List.length_drop] at this
    show (SetTable.insertAt t.place (SetTable.below t.place j) j).size = _
    omega
  have hfill : t1.fill = es.size + 1 := by
    unfold SetTable.fill
    rw [hp1, hs1]
    show _ + t.dummies.size = _
    rw [T.dum]; rfl
  have hm : t1.mask = t.mask := rfl
  have hmask : es.size + 1 ≤ t.mask := by
    rcases T.alt with ⟨a1, a2, _⟩ | ⟨a1, _⟩
    · simp at a2; omega
    · omega
  have hfit : t1.fits es1.size = true := by
    unfold SetTable.fits
    rw [hfill, hm, hp1]; simp; omega
  have hperm : List.Perm es1.toList (es.toList ++ [(h, x)]) := by
    have := SetTable.insertAt_perm es (SetTable.below t.place j) (h, x)
    rw [Array.toList_push] at this; exact this
  have hpm : List.Perm (es1.toList.map (·.1)) (es.toList.map (·.1) ++ [h]) := by have := hperm.map (·.1); simpa using this
  have hsm1 : ∀ y ∈ es1.toList.map (·.1), 0 ≤ y ∧ y < 16 := fun y hy => by
    rcases List.mem_append.mp (hpm.mem_iff.mp hy) with q | q
    · exact T.small y q
    · rw [List.mem_singleton.mp q]; exact ⟨h0, h1⟩
  have hnd1 : (es1.toList.map (·.1)).Nodup := by
    rw [hpm.nodup_iff, List.nodup_append]
    exact ⟨T.nodup, by simp, fun a ha b hb e => hn (by rw [List.mem_singleton.mp hb] at e; exact e ▸ ha)⟩
  have hln : layNew t es h x = (es1, t1, false, false) := by
    unfold layNew
    rw [hj]
    dsimp only
    rw [eput]
    dsimp only
    have : t1.orStandIn es1.size = t1 := by unfold SetTable.orStandIn; rw [if_pos hfit]
    show (es1, t1.orStandIn es1.size, false, !t1.fits es1.size) = _
    rw [this, hfit]; rfl
  refine ⟨es1, t1, hln, hs1, hperm, T.plain, hfit, ?_⟩
  have htf : t1.tooFull = decide ((es.size + 1) * 5 ≥ t.mask * 3) := by unfold SetTable.tooFull; rw [hfill, hm]
  have hmem : ∀ p ∈ t1.place.toList, p = j ∨ p ∈ t.place.toList := fun p hp => by
    have : p ∈ t.place.toList.take (SetTable.below t.place j) ++ j :: t.place.toList.drop (SetTable.below t.place j) := by rw [← insert_toList]; exact hp
    rcases List.mem_append.mp this with q | q
    · exact .inr (List.mem_of_mem_take q)
    · rcases List.mem_cons.mp q with q | q
      · exact .inl q
      · exact .inr (List.mem_of_mem_drop q)
  have mk : ((t1.mask = 7 ∧ (es1.toList.map (·.1)).length ≤ 4 ∧ (∀ p ∈ t1.place.toList, p < 8) ∧ t1.finger = 0 ∧ t1.moves = 0) ∨ (t1.mask = 31 ∧ ∀ p ∈ t1.place.toList, ((p : Nat) : Int) ∈ es1.toList.map (·.1))) → Tab ld t1 (es1.toList.map (·.1)) := fun z =>
    ⟨T.dum, T.led, T.plain, insert_rise T.rise hjn, by rw [hp1]; simp, hsm1, hnd1, z⟩
  rcases T.alt with ⟨a1, a2, a3, a4, a5⟩ | ⟨a1, a2⟩
  · by_cases h5 : es.size + 1 = 5
    · right
      refine ⟨by rw [htf, a1, h5]; decide, ?_⟩
      exact relay_tab T.led T.plain hsm1 hnd1 (by rw [hs1, h5])
    · left
      have hle : es.size ≤ 4 := by simpa using a2
      refine ⟨by rw [htf, a1]; simp; omega, mk (.inl ⟨a1, by simp; omega, fun p hp => ?_, a4, a5⟩)⟩
      rcases hmem p hp with rfl | q
      · rcases hcase with ⟨_, c⟩ | ⟨c, _⟩
        · exact c
        · omega
      · exact a3 p q
  · left
    refine ⟨by rw [htf, a1]; simp; omega, mk (.inr ⟨a1, fun p hp => ?_⟩)⟩
    rw [hpm.mem_iff]
    rcases hmem p hp with rfl | q
    · rcases hcase with ⟨c, _⟩ | ⟨_, c⟩
      · omega
      · rw [c]; simp
    · exact List.mem_append_left _ (a2 p q)
end Mine

open PySem PySem.W PyProof.Rows PySem.Calls
set_option Elab.async false
set_option maxRecDepth 100000
namespace Mine

abbrev setO (es : Array (Int × Value)) (ep : Nat) (t : SetTable) : Obj := { cls := .type "set", dict := none, data := .set es ep t }
/-- a set of small ints, its table led -/
structure SetE (ld : Bool) (es : Array (Int × Value)) (t : SetTable) (L : List Int) : Prop where
  vals : ∀ e ∈ es.toList, ∃ u, e.2 = .int e.1 u
  perm : List.Perm (es.toList.map (·.1)) L
  tab : Tab ld t (es.toList.map (·.1))
  fits : t.fits es.size = true
noncomputable def SetT (ld : Bool) (h : Heap) (S : Addr) (L : List Int) : Prop := ∃ es ep t, h.get? S = some (setO es ep t) ∧ SetE ld es t L

theorem hash_small : ∀ n < 16, hashInt ((n : Nat) : Int) = n := by decide +kernel
theorem hash_smallI {h : Int} (h0 : 0 ≤ h) (h1 : h < 16) : hashInt h = h := by
  obtain ⟨n, rfl⟩ : ∃ n : Nat, h = n := ⟨h.toNat, by omega⟩
  exact hash_small n (by omega)
theorem SetE.elems {w : World} {ld : Bool} {es : Array (Int × Value)} {t : SetTable} {L : List Int} (x : SetE ld es t L) : ElemsOf (intKind pr w) es.toList := fun e he => by
  obtain ⟨u, hu⟩ := x.vals e he
  have hs := x.tab.small e.1 (List.mem_map.mpr ⟨e, he, rfl⟩)
  exact ⟨⟨e.1, by rw [hu]; exact intKind_is _ _ _ _, (hash_smallI hs.1 hs.2).symm⟩, by rw [hu]; rfl⟩
theorem scan16 {n : Nat} (h : n ≤ 16) : n < scanBound := by unfold scanBound; omega
theorem SetE.small {ld : Bool} {es : Array (Int × Value)} {t : SetTable} {L : List Int} (x : SetE ld es t L) (hL : L.length ≤ 16) : es.size ≤ 16 := by
  have := x.perm.length_eq; simp at this; omega

section
variable {w : World} {A : Around} {E : Value → Shared → Prop} {s : Shared}
theorem set_add {ld : Bool} {S : Addr} {h : Int} {u : Tok} {L : List Int} {Q : Bool → Shared → Prop} (h0 : 0 ≤ h) (h1 : h < 16) (hn : h ∉ L) (hL : L.length < 16) (hS : SetT ld s.heap S L)
    (hQ : ∀ h', Heap.SameBut S s.heap h' → SetT ld h' S (L ++ [h]) → Q true { s with heap := h' }) : wpAny (model pr w) A (setAddHashed S (.int h u) h) Q E s := by
  obtain ⟨es, ep, t, ho, X⟩ := hS
  have hsz := X.small (by omega)
  have hlen : es.size = L.length := by have := X.perm.length_eq; simpa using this
  have hne : h ∉ es.toList.map (·.1) := fun q => hn (X.perm.mem_iff.mp q)
  have hel := X.elems (w := w)
  unfold setAddHashed setAddHashedIn
  refine wpAny_holding (wpAny_bind (wpAny_setState_of ho rfl X.fits ?_))
  dsimp only
  rw [byScan_of (knd := intKind pr w) (x := .int h u) rfl (scan16 hsz) hel]
  simp only [↓reduceIte]
  unfold setAddByScan
  refine wpAny_bind ?_
  refine wpAny_bind (wpAny_rule ?_)
  have hh := hash_smallI h0 h1
  have key : wpAny (model pr w) A (setScan S (.int h u) h true es) (fun r s' => r = .absent ∧ s' = s) E s := by
    have q := wpAny_setScan_of (knd := intKind pr w) (A := A) (E := E) (s := s) (x := .int h u) (k := h) (adding := true) (Q := fun r s' => r = .absent ∧ s' = s) (intKind_is _ _ _ _) ho rfl X.fits hel (by
      have : es.toList.findIdx? (fun e => (intKind pr w).is h e.2) = none := by
        rw [List.findIdx?_eq_none_iff]
        intro e he
        obtain ⟨u', hu'⟩ := X.vals e he
        rw [hu']
        cases q : (intKind pr w).is h (.int e.1 u') with
        | false => rfl
        | true =>
          have : h = e.1 := (intKind pr w).inj _ h e.1 q (intKind_is _ _ _ _)
          exact absurd (List.mem_map.mpr ⟨e, he, this.symm⟩) hne
      rw [this]; exact ⟨rfl, rfl⟩)
    have e : (intKind pr w).hash h = h := hh
    rw [e] at q; exact q
  refine wpAny_bind (wpAny_mono key (fun r s' hr => ?_) fun _ _ e => e)
  obtain ⟨rfl, rfl⟩ := hr
  dsimp only
  obtain ⟨es1, t1, hlay, hs1, hp1, hpl, hf1, hcase⟩ := tab_step (x := .int h u) X.tab h0 h1 hne (by omega)
  rw [hlay]
  dsimp only
  refine wpAny_bind (wpAny_pure ?_)
  rw [hpl]
  simp only [↓reduceIte]
  rw [hashByValue_scannable 8 (x := .int h u) rfl]
  have hb1 : es1.size < scanBound := scan16 (by omega)
  have vals1 : ∀ e ∈ es1.toList, ∃ u, e.2 = .int e.1 u := fun e he => by
    rcases List.mem_append.mp (hp1.mem_iff.mp he) with q | q
    · exact X.vals e q
    · rw [List.mem_singleton.mp q]; exact ⟨u, rfl⟩
  have perm1 : List.Perm (es1.toList.map (·.1)) (L ++ [h]) := by
    have := hp1.map (·.1)
    simp only [List.map_append, List.map_cons, List.map_nil] at this
    exact this.trans (X.perm.append_right _)
  refine wpAny_bind (wpAny_pure ?_)
  have hk : plainKind (.int h u) = true := rfl
  rw [hk]
  simp only [↓reduceIte]
  refine wpAny_bind (wpAny_storeSet_of ho rfl ?_ (fits_of_scanBound hb1))
  have g1 : (s'.heap.update S (Obj.putSet es1 t1)).get? S = some (setO es1 (ep + 1) t1) := by
    have := Heap.get?_update_self (Obj.putSet es1 t1) ho (by rw [putSet_of es1 t1 rfl]; rfl)
    rw [putSet_of es1 t1 rfl] at this; exact this
  have sb1 := Heap.SameBut.update s'.heap S (Obj.putSet es1 t1)
  rcases hcase with ⟨hf, T1⟩ | ⟨hf, es2, t2, g, hr, T2⟩
  · rw [hf]
    simp only [Bool.not_false, Bool.and_false, Bool.false_eq_true, if_false]
    refine wpAny_pure (wpAny_pure ?_)
    exact hQ _ sb1 ⟨es1, ep + 1, t1, g1, vals1, perm1, T1, hf1⟩
  · rw [hf]
    simp only [Bool.not_false, Bool.and_true, if_true]
    have hp2 := relayAll_perm t1 es1 (SetTable.grown es1.size)
    have hf2 := relayAll_fits t1 es1 (SetTable.grown es1.size)
    rw [hr] at hp2 hf2 ⊢
    dsimp only at hp2 hf2 ⊢
    have hs2 : es2.size = es1.size := by have := hp2.length_eq; simpa using this
    have gw : ∀ {s₁ : Shared} {Q' : Unit → Shared → Prop}, Q' () s₁ → wpAny (model pr w) A (match g with | true => rule "set.scan.the-table-gave-way" | false => pure ()) Q' E s₁ := fun hq => by
      cases g
      · exact wpAny_pure hq
      · exact wpAny_rule hq
    refine wpAny_bind (gw ?_)
    refine wpAny_bind (wpAny_storeSet_of g1 rfl ?_ (fits_of_scanBound (by rw [hs2]; exact hb1)))
    have g2 : ((s'.heap.update S (Obj.putSet es1 t1)).update S (Obj.putSet es2 t2)).get? S = some (setO es2 (ep + 1 + 1) t2) := by
      have := Heap.get?_update_self (Obj.putSet es2 t2) g1 (by rw [putSet_of es2 t2 rfl]; rfl)
      rw [putSet_of es2 t2 rfl] at this; exact this
    refine wpAny_pure (wpAny_pure ?_)
    exact hQ _ (sb1.trans (Heap.SameBut.update _ S _)) ⟨es2, ep + 1 + 1, t2, g2, fun e he => vals1 e (hp2.mem_iff.mp he), (hp2.map (·.1)).trans perm1, T2, hf2⟩
end
end Mine

open PySem PySem.W PyProof.Rows PySem.Calls
set_option Elab.async false
set_option maxRecDepth 100000
namespace Mine

noncomputable def ldOf (w : World) : Bool := !(w.params.followText "set-order")
noncomputable abbrev setNew (w : World) : Obj := setO #[] 0 (.fresh 0 0 (ldOf w))

section
variable {w : World} {A : Around} {E : Value → Shared → Prop} {s : Shared}
/-- a new set, with how its table is led -/
theorem new_set1 (a : Value) {Q₁ : Value → Shared → Prop} (h : Q₁ (.ref s.heap.objs.size) { s with heap := s.heap.push (setNew w) }) :
    codeAny (model pr w) A (.call (.builtin "set.__new__") ⟨[.type "set", a], []⟩) (wants Q₁ E) s := by
  refine codeAny_of_tree ?_
  show wpAny _ A.in1 (do checkBuiltinCall "set.__new__" ⟨[.type "set", a], []⟩; again (.builtin "set.__new__" ⟨[.type "set", a], []⟩)) _ _ s
  refine wpAny_bind (wpAny_of_eq (PySem.F.newCall_set_1 a) (wpAny_pure ⟨plainId_quiet PySem.F.plain_set_new _, codeAny_builtin PySem.F.entry_set_new ?_⟩))
  rw [Around.under_plainId PySem.F.plain_set_new _]
  unfold Builtin.«set.__new__» Builtin.Frozenset.newClass
  have hsub := sub_set_self
  obtain ⟨hp, g, d, tk, os⟩ := s
  dsimp only
  wp_walk
  refine wpAny_askSetting (wpAny_pure ?_)
  dsimp only
  simp only [newObj]
  refine wpAny_bind (wpAny_alloc (wpAny_pure ?_))
  exact wpAny_pure h

/-- the loop that fills it -/
theorem fill_loop {R : Result → Shared → Prop} {I : Addr} {fp wr : List Addr} {n : Nat} {P : Nat → Value → Prop} {St : Nat → Shared → Prop} {ld : Bool} {ns : List Int}
    (W : WalksS pr w A.in1 I fp wr (fun a b => b = a) n P St) (S : Addr) (hSf : S ∉ fp) (hval : ∀ i v, P i v → ∃ t, v = .int (ns.getD i 0) t) (hn : ns.length = n) (hn16 : n ≤ 16) (hsm : ∀ x ∈ ns, 0 ≤ x ∧ x < 16) (hnd : ns.Nodup) :
    ∀ (k i : Nat) (s : Shared), n - i = k → i ≤ n → St i s → SetT ld s.heap S (ns.take i) →
      (∀ s', Moved (S :: wr) (fun a b => b = a) s s' → SetT ld s'.heap S ns → R (.ok (.ret .none)) s') → codeAny (model pr w) A (.builtin "set.update.loop" ⟨[.ref S, .ref I], []⟩) R s := by
  have hSw : S ∉ wr := fun h => hSf (W.sub _ h)
  have hsub : ∀ b ∈ wr, b ∈ S :: wr := fun b hb => List.mem_cons_of_mem _ hb
  intro k
  induction k with
  | zero =>
    intro i s hk hi hst hS hR
    have hin : i = n := by omega
    subst hin
    refine codeAny_builtin PyProof.Rows.F.entry_set_update_loop ?_
    rw [Around.under_plainId PyProof.Rows.F.plain_set_update_loop _]
    show wpAny _ A.in1 (pyNext (.ref I) >>= _) _ _ s
    refine wpAny_bind (W.done s _ _ hst fun s' hm => ?_)
    show wpAny _ A.in1 (ret Value.none) _ _ s'
    refine wpAny_pure (hR s' (hm.mono hsub) ?_)
    obtain ⟨es, ep, t, ho, rest⟩ := hS
    rw [← hn, List.take_length] at rest
    exact ⟨es, ep, t, hm.heap S _ hSw ho, rest⟩
  | succ k ih =>
    intro i s hk hi hst hS hR
    have hlt : i < n := by omega
    have hlt' : i < ns.length := by omega
    refine codeAny_builtin PyProof.Rows.F.entry_set_update_loop ?_
    rw [Around.under_plainId PyProof.Rows.F.plain_set_update_loop _]
    show wpAny _ A.in1 (pyNext (.ref I) >>= _) _ _ s
    refine wpAny_bind (W.item i s _ _ hlt hst fun v s' hP hst' hm => ?_)
    obtain ⟨t, rfl⟩ := hval i v hP
    have e1 : ns.getD i 0 = ns[i] := by simp [List.getD_eq_getElem?_getD, hlt']
    rw [e1]
    obtain ⟨q0, q1⟩ := hsm ns[i] (List.getElem_mem _)
    have hS' : SetT ld s'.heap S (ns.take i) := by
      obtain ⟨es, ep, t, ho, rest⟩ := hS
      exact ⟨es, ep, t, hm.heap S _ hSw ho, rest⟩
    have hnin : ns[i] ∉ ns.take i := fun q => by
      obtain ⟨j, hj, e⟩ := List.getElem_of_mem q
      rw [List.length_take] at hj
      rw [List.getElem_take] at e
      exact List.pairwise_iff_getElem.mp hnd j i (by omega) hlt' (by omega) e
    show wpAny _ A.in1 (holding [Value.int ns[i] t] (setAdd S (.int ns[i] t)) >>= _) _ _ s'
    refine wpAny_bind (wpAny_holding ?_)
    unfold setAdd
    refine wpAny_holding ?_
    refine wpAny_bind ((intKind pr w).pyHash (k := ns[i]) (intKind_is _ _ _ _) ?_)
    have e2 : (intKind pr w).hash ns[i] = ns[i] := hash_smallI q0 q1
    rw [e2]
    refine set_add (s := { s' with toks := s'.toks + 1 }) q0 q1 hnin (by rw [List.length_take]; omega) hS' fun h' hsb hS2 => ?_
    have e3 : ns.take i ++ [ns[i]] = ns.take (i + 1) := by rw [List.take_add_one, List.getElem?_eq_getElem hlt']; rfl
    rw [e3] at hS2
    refine wpAny_pure ⟨plainId_quiet PyProof.Rows.F.plain_set_update_loop _, ih (i + 1) _ (by omega) hlt (W.frame _ s' _ _ hst' (Nat.le_succ _) fun b hb o e => ?_) hS2 fun s'' hm'' hS'' => ?_⟩
    · rw [hsb.2 b (fun h : b = S => hSf (by rw [← h]; exact hb))]; exact e
    · refine hR s'' (Moved.trans W.gtrans ((hm.mono hsub).then_heap (Nat.le_succ _) fun b o hb e => ?_) hm'') hS''
      rw [hsb.2 b (fun h : b = S => hb (by rw [h]; exact List.mem_cons_self))]; exact e

set_option maxHeartbeats 3200000 in
/-- set(l), l a list of distinct small ints -/
theorem set_of_list {l : Addr} {vs : List Value} {n : Nat} {ns : List Int} {Q : Value → Shared → Prop} (hh : A.handled = none) (hol : s.heap.get? l = some (lob vs n)) (hi : IntsAre vs ns) (h16 : ns.length ≤ 16) (hsm : ∀ x ∈ ns, 0 ≤ x ∧ x < 16) (hnd : ns.Nodup)
    (h : ∀ s', Keeps s s' → s.heap.get? s.heap.objs.size = none → SetT (ldOf w) s'.heap s.heap.objs.size ns → Q (.ref s.heap.objs.size) s') : wpAny (model pr w) A (call (.type "set") [.ref l]) Q E s := by
  obtain ⟨c, tl, hmro⟩ := PySem.F.called_set.mro
  have hmade := PySem.F.called_set.made
  have hsub := PySem.F.called_set.sub
  refine wpAny_call (codeAny_of_tree ?_)
  show wpAny _ _ (callAny (.type "set") _) _ _ _
  refine wpAny_pure ⟨Code.quiet_builtin _ (by decide +kernel), codeAny_builtin PySem.F.entry_type_call ?_⟩
  rw [Around.under_plain (weight_type_call_type "set" [.ref l] []) rfl]
  have h1 := PySem.F.called_set.notType
  have h2 := PySem.F.called_set.canCreate
  have hct := PySem.F.typeCall_set_1 (.ref l)
  repeat (any_goals (first | assumption | wp_step))
  refine codeAny_mono (new_set1 (.ref l) (E := E) (Q₁ := fun obj s₁ => obj = .ref s.heap.objs.size ∧ s₁ = { s with heap := s.heap.push (setNew w) }) ⟨rfl, rfl⟩) fun r s₁ hr => ?_
  cases r with
  | error e => exact hr
  | ok fl =>
    cases fl with
    | ret obj =>
      obtain ⟨rfl, rfl⟩ := hr
      have hS : (s.heap.push (setNew w)).get? s.heap.objs.size = some (setNew w) := Heap.get?_push_size _ rfl
      have hT : Shared.TypeIs { s with heap := s.heap.push (setNew w) } (.ref s.heap.objs.size) "set" := ⟨_, hS, rfl⟩
      have hli := PySem.F.called_set.init.lookup
      have hbi := PySem.F.called_set.init.bind (.ref s.heap.objs.size)
      repeat (any_goals (first | assumption | wp_step))
      refine codeAny_mono (codeAny_call_builtin (R := wants (fun r s₂ => r = .none ∧ Keeps s s₂ ∧ SetT (ldOf w) s₂.heap s.heap.objs.size ns) E) PySem.F.called_set.init.plain PySem.F.entry_set_init (check_set_init_1 hT ?_)) fun r₂ s₂ hr₂ => ?_
      · have hol' : (s.heap.push (setNew w)).get? l = some (lob vs n) := Heap.get?_push_of_some _ hol
        have hsls := PySem.F.sub_list_set
        have hslf := PySem.F.sub_list_frozenset
        have hne : (Value.type "list" == Value.type "dict") = false := by decide
        have hl1 : (s.heap.push (setNew w)).IsList l vs.toArray := ⟨_, hol', rfl, n, rfl⟩
        unfold Builtin.«set.__init__» noKeywords Builtin.Frozenset.updateFrom
        generalize hPI : pyIter = PI
        wp_walk
        subst hPI
        refine wpAny_pyIter_list hl1 ?_
        refine wpAny_bind (wpAny_runValue ?_)
        have hlS : l < s.heap.objs.size := Heap.lt_size hol
        have hh3 : A.in1.in1.in1.handled = none := by simp [hh]
        have hneI : l ≠ (s.heap.push (setNew w)).objs.size := by
          rw [Heap.size_push]; exact Nat.ne_of_lt (Nat.lt_succ_of_lt hlS)
        have hSf : s.heap.objs.size ∉ [(s.heap.push (setNew w)).objs.size, l] := by
          rw [Heap.size_push]; simp only [List.mem_cons, List.mem_singleton, List.not_mem_nil, or_false, not_or]
          exact ⟨Nat.ne_of_lt (Nat.lt_succ_self _), Nat.ne_of_gt hlS⟩
        have hln : vs.length = ns.length := hi.length
        have hval : ∀ (i : Nat) (v : Value), vs.toArray[i]? = some v → ∃ t, v = .int (ns.getD i 0) t := fun i v hv =>
          PyProof.Rows.IntsAre.int_at hi i v (by simpa using hv)
        refine fill_loop (ld := ldOf w) (ns := ns) ((Walks.list hh3 _ l hneI vs.toArray).toS) s.heap.objs.size hSf hval (by simp [hln]) (by simp; omega) hsm hnd (vs.toArray.size - 0) 0 _ (by omega) (Nat.zero_le _)
          ⟨⟨_, Heap.get?_push_size _ rfl, rfl, rfl⟩, (hl1.push _)⟩ ?hS0 ?hR
        case hS0 =>
          have hget : ((s.heap.push (setNew w)).push { cls := .type "list_iterator", data := .fields #[.ref l, .int 0 0] }).get? s.heap.objs.size = some (setNew w) := Heap.get?_push_of_some _ hS
          exact ⟨#[], 0, _, hget, ⟨fun e he => by simp at he, by simp, by simpa using Tab.fresh, by rfl⟩⟩
        case hR =>
          intro s' hm hS'
          show wpAny _ _ _ _ _ _
          refine wpAny_pure ?_
          show wpAny _ _ (ret Value.none) _ _ _
          refine wpAny_pure ⟨rfl, ?_, hS'⟩
          obtain ⟨h', g', d', tk', os'⟩ := s'
          have eg : g' = s.gens := hm.gens
          have ed : d' = s.drawn := hm.drawn
          have eo : os' = s.os := hm.os
          subst eg; subst ed; subst eo
          refine ⟨h', tk', rfl, fun b o e => ?_⟩
          have hb := Heap.lt_size e
          have hb1 : b ≠ s.heap.objs.size := Nat.ne_of_lt hb
          have hb2 : b ≠ (s.heap.push (setNew w)).objs.size := by
            rw [Heap.size_push]; exact Nat.ne_of_lt (Nat.lt_succ_of_lt hb)
          exact hm.heap b o (by simp only [List.mem_cons, List.mem_singleton, List.not_mem_nil, or_false, not_or]; exact ⟨hb1, hb2⟩) (Heap.get?_push_of_some _ (Heap.get?_push_of_some _ e))
      · cases r₂ with
        | error e => exact hr₂
        | ok fl₂ =>
          cases fl₂ with
          | ret r =>
            obtain ⟨rfl, kk, hS'⟩ := hr₂
            repeat (any_goals (first | assumption | wp_step))
            exact h _ kk (fresh_size _) hS'
          | _ => exact hr₂.elim
    | _ => exact hr.elim
end
end Mine

open PySem PySem.W PyProof.Rows PySem.Calls
set_option Elab.async false
set_option maxRecDepth 100000
namespace Mine

theorem slot_setit_next : Slot "set_iterator" "__next__" "set_iterator.__next__" :=
  .of (owner := "set_iterator") (n := "__next__") (by rw [typeLookup_type, builtinLookup_eq_fast]; kernel_rfl) (by decide +kernel) (by decide +kernel) (by decide +kernel)
    (by first | exact .inl (by decide +kernel) | exact .inr (by decide +kernel)) (by rw [isSubtype_type]; kernel_rfl)
theorem slot_setit_iter : Slot "set_iterator" "__iter__" "set_iterator.__iter__" :=
  .of (owner := "set_iterator") (n := "__iter__") (by rw [typeLookup_type, builtinLookup_eq_fast]; kernel_rfl) (by decide +kernel) (by decide +kernel) (by decide +kernel)
    (by first | exact .inl (by decide +kernel) | exact .inr (by decide +kernel)) (by rw [isSubtype_type]; kernel_rfl)
theorem entry_setit_next : entryFor table "set_iterator.__next__" = some Builtin.«set_iterator.__next__» := entryFor_of_tree (by kernel_rfl)
theorem entry_setit_iter : entryFor table "set_iterator.__iter__" = some Builtin.«dict_keyiterator.__iter__» := entryFor_alias (id' := "dict_keyiterator.__iter__") (by kernel_rfl) rfl (by decide +kernel) (by kernel_rfl)
theorem entry_set_iter : entryFor table "set.__iter__" = some Builtin.«frozenset.__iter__» := entryFor_alias (id' := "frozenset.__iter__") (by kernel_rfl) rfl (by decide +kernel) (by kernel_rfl)
theorem args_setit_next (a : Value) : argsOk "set_iterator.__next__" ⟨[a], []⟩ := by unfold argsOk; kernel_rfl
theorem args_setit_iter (a : Value) : argsOk "set_iterator.__iter__" ⟨[a], []⟩ := by unfold argsOk; kernel_rfl

theorem pick_go {α : Type} (next : Nat → Nat) : ∀ (fuel k : Nat) (left : List α) (out : Array α), left.length = fuel → List.Perm (pickOrder.go next fuel k left out).toList (out.toList ++ left)
  | 0, k, left, out, h => by
    have : left = [] := List.length_eq_zero_iff.mp h
    subst this
    unfold pickOrder.go; simp
  | fuel + 1, k, left, out, h => by
    unfold pickOrder.go
    have hlt : next k % left.length < left.length := Nat.mod_lt _ (by omega)
    rw [List.getElem?_eq_getElem hlt]
    dsimp only
    have ih := pick_go next fuel (k + 1) (left.eraseIdx (next k % left.length)) (out.push left[next k % left.length]) (by rw [List.length_eraseIdx]; split <;> omega)
    refine ih.trans ?_
    rw [Array.toList_push, List.append_assoc]
    refine List.Perm.append_left _ ?_
    rw [List.singleton_append, List.eraseIdx_eq_take_drop_succ]
    have e : left = left.take (next k % left.length) ++ left[next k % left.length] :: left.drop (next k % left.length + 1) := by
      rw [← List.drop_eq_getElem_cons hlt, List.take_append_drop]
    exact (List.perm_middle.symm).trans (List.Perm.of_eq e.symm)
theorem pick_perm {α : Type} (next : Nat → Nat) (xs : Array α) : List.Perm (pickOrder next xs).toList xs.toList := by
  have := pick_go next xs.size 0 xs.toList #[] (by simp)
  simpa [pickOrder] using this

noncomputable def byT (w : World) : Bool := w.params.followText "set-order"
noncomputable def ordOf (w : World) (S : Addr) (ep : Nat) (es : Array (Int × Value)) : Array (Int × Value) := if byT w then pickOrder (w.params.setOrder S ep) es else es
theorem ord_perm {w : World} {S : Addr} {ep : Nat} {es : Array (Int × Value)} : List.Perm (ordOf w S ep es).toList es.toList := by
  unfold ordOf; split
  · exact pick_perm _ _
  · exact .rfl
theorem ord_size {w : World} {S : Addr} {ep : Nat} {es : Array (Int × Value)} : (ordOf w S ep es).size = es.size := by
  have := (ord_perm (w := w) (S := S) (ep := ep) (es := es)).length_eq; simpa using this

/-- a set's iterator, i elements given -/
structure SetIt (w : World) (h : Heap) (I S : Addr) (es : Array (Int × Value)) (ep : Nat) (t : SetTable) (i : Nat) : Prop where
  it : h.get? I = some { cls := .type "set_iterator", data := .fields #[rawInt ((if byT w then 0 else slotAt t.place i : Nat) : Int), rawInt i, .ref S, rawInt es.size, rawInt ep] }
  st : h.get? S = some (setO es ep t)

section
variable {w : World} {A : Around} {E : Value → Shared → Prop} {s : Shared} {I S : Addr} {es : Array (Int × Value)} {ep : Nat} {t : SetTable} {L : List Int} {i : Nat}

theorem set_next_some {Q : Option (Value × Nat) → Shared → Prop} (X : SetE (ldOf w) es t L) (hi : SetIt w s.heap I S es ep t i) (hlt : i < es.size) (h : Q (some ((ordOf w S ep es)[i]'(by rw [ord_size]; exact hlt) |>.2, if byT w then 0 else slotAt t.place (i + 1))) s) :
    wpAny (model pr w) A (setNext S (if byT w then 0 else slotAt t.place i) i ep) Q E s := by
  unfold setNext
  refine wpAny_bind (wpAny_setState_of hi.st rfl X.fits ?_)
  unfold setsByText
  refine wpAny_bind (wpAny_bind (wpAny_askSetting (wpAny_pure ?_)))
  show wpAny _ _ (if byT w = true then _ else _) _ _ _
  have hps : t.place.size = es.size := by have := X.tab.size; simpa using this
  by_cases hb : byT w = true
  · rw [if_pos hb]
    rw [if_neg (by simp)]
    refine wpAny_bind ?_
    unfold setWalk
    refine wpAny_bind (wpAny_setState_of hi.st rfl X.fits ?_)
    unfold setsByText
    refine wpAny_bind (wpAny_bind (wpAny_askSetting (wpAny_pure ?_)))
    show wpAny _ _ (if byT w = true then _ else _) _ _ _
    rw [if_pos hb]
    refine wpAny_bind (wpAny_askSetting (wpAny_pure (wpAny_pure ?_)))
    have e : (pickOrder (w.params.setOrder S ep) es)[i]? = some ((ordOf w S ep es)[i]'(by rw [ord_size]; exact hlt)) := by
      have e1 : ordOf w S ep es = pickOrder (w.params.setOrder S ep) es := by unfold ordOf; rw [if_pos hb]
      simp only [e1]
      exact Array.getElem?_eq_getElem _
    show Q (((pickOrder (w.params.setOrder S ep) es)[i]?).map _) s
    rw [e]
    simp only [hb, if_true] at h ⊢
    exact h
  · have hb' : byT w = false := by simpa using hb
    rw [if_neg hb]
    have hdr : (!t.plain && decide (es.size > 1)) = false := by rw [X.tab.plain]; rfl
    show wpAny _ _ (if (!t.plain && decide (es.size > 1)) = true then _ else _) _ _ _
    rw [if_neg (by rw [hdr]; decide)]
    have hled : (!t.led && !es.isEmpty) = false := by
      rw [X.tab.led]
      have : ldOf w = true := by
        unfold ldOf; unfold byT at hb'; rw [hb']; rfl
      rw [this]; rfl
    refine wpAny_bind ?_
    show wpAny _ _ (if (!t.led && !es.isEmpty) = true then _ else _) _ _ _
    rw [if_neg (by rw [hled]; decide)]
    refine wpAny_pure ?_
    have hbs : SetTable.below t.place (if byT w = true then 0 else slotAt t.place i) = i := by
      rw [hb']; exact below_slot (rise_of_pw X.tab.rise) (by omega)
    rw [hbs]
    dsimp only
    have e1 : es[i]? = some es[i] := Array.getElem?_eq_getElem hlt
    have e2 : t.place[i]? = some (t.place[i]'(by omega)) := Array.getElem?_eq_getElem (by omega)
    rw [e1, e2]
    refine wpAny_pure ?_
    have e3 : slotAt t.place (i + 1) = t.place[i]'(by omega) + 1 := by
      unfold slotAt
      rw [if_neg (by omega)]
      simp [Array.getD, show i < t.place.size by omega]
    have e4 : ordOf w S ep es = es := by unfold ordOf; rw [if_neg hb]
    simp only [hb', e4, e3] at h
    exact h

theorem set_next_none {Q : Option (Value × Nat) → Shared → Prop} (X : SetE (ldOf w) es t L) (hi : SetIt w s.heap I S es ep t es.size) (h : Q none s) :
    wpAny (model pr w) A (setNext S (if byT w then 0 else slotAt t.place es.size) es.size ep) Q E s := by
  unfold setNext
  refine wpAny_bind (wpAny_setState_of hi.st rfl X.fits ?_)
  unfold setsByText
  refine wpAny_bind (wpAny_bind (wpAny_askSetting (wpAny_pure ?_)))
  show wpAny _ _ (if byT w = true then _ else _) _ _ _
  have hps : t.place.size = es.size := by have := X.tab.size; simpa using this
  by_cases hb : byT w = true
  · rw [if_pos hb]
    rw [if_neg (by simp)]
    refine wpAny_bind ?_
    unfold setWalk
    refine wpAny_bind (wpAny_setState_of hi.st rfl X.fits ?_)
    unfold setsByText
    refine wpAny_bind (wpAny_bind (wpAny_askSetting (wpAny_pure ?_)))
    show wpAny _ _ (if byT w = true then _ else _) _ _ _
    rw [if_pos hb]
    refine wpAny_bind (wpAny_askSetting (wpAny_pure (wpAny_pure ?_)))
    have hsz := ord_size (w := w) (S := S) (ep := ep) (es := es)
    have e1 : ordOf w S ep es = pickOrder (w.params.setOrder S ep) es := by unfold ordOf; rw [if_pos hb]
    rw [e1] at hsz
    have e : (pickOrder (w.params.setOrder S ep) es)[es.size]? = none := Array.getElem?_eq_none (by omega)
    show Q (((pickOrder (w.params.setOrder S ep) es)[es.size]?).map _) s
    rw [e]
    exact h
  · have hb' : byT w = false := by simpa using hb
    rw [if_neg hb]
    have hdr : (!t.plain && decide (es.size > 1)) = false := by rw [X.tab.plain]; rfl
    show wpAny _ _ (if (!t.plain && decide (es.size > 1)) = true then _ else _) _ _ _
    rw [if_neg (by rw [hdr]; decide)]
    have hled : (!t.led && !es.isEmpty) = false := by
      rw [X.tab.led]
      have : ldOf w = true := by
        unfold ldOf; unfold byT at hb'; rw [hb']; rfl
      rw [this]; rfl
    refine wpAny_bind ?_
    show wpAny _ _ (if (!t.led && !es.isEmpty) = true then _ else _) _ _ _
    rw [if_neg (by rw [hled]; decide)]
    refine wpAny_pure ?_
    have hbs : SetTable.below t.place (if byT w = true then 0 else slotAt t.place es.size) = es.size := by
      rw [hb']; exact below_slot (rise_of_pw X.tab.rise) (by omega)
    rw [hbs]
    dsimp only
    have e1 : es[es.size]? = none := Array.getElem?_eq_none (Nat.le_refl _)
    rw [e1]
    exact wpAny_pure h
end
end Mine

open PySem PySem.W PyProof.Rows PySem.Calls
set_option Elab.async false
set_option maxRecDepth 100000
namespace Mine

section
variable {w : World} {A : Around} {E : Value → Shared → Prop} {s : Shared} {I S : Addr} {es : Array (Int × Value)} {ep : Nat} {t : SetTable} {L : List Int} {i : Nat}

theorem setit_item {Q : Option Value → Shared → Prop} (X : SetE (ldOf w) es t L) (hne : S ≠ I) (hi : SetIt w s.heap I S es ep t i) (hlt : i < es.size)
    (hQ : ∀ h', SetIt w h' I S es ep t (i + 1) → Heap.SameBut I s.heap h' → Q (some ((ordOf w S ep es)[i]'(by rw [ord_size]; exact hlt)).2) { s with heap := h' }) : wpAny (model pr w) A (pyNext (.ref I)) Q E s := by
  have hT : s.TypeIs (.ref I) "set_iterator" := ⟨_, hi.it, rfl⟩
  unfold pyNext
  refine wpAny_bind (wpAny_attempt (wpAny_callSpecial?_slot (name := Str.ofString "__next__") hT slot_setit_next (wpAny_call_entry slot_setit_next hT entry_setit_next ?_ (args_setit_next _))))
  unfold Builtin.«set_iterator.__next__» slotArgs
  simp only [List.isEmpty_nil, Bool.not_true, Bool.false_eq_true, ↓reduceIte, bind_assoc, List.length_nil, bne_self_eq_false, pure_bind]
  refine wpAny_bind (wpAny_fieldsOf hi.it rfl ?_)
  show wpAny _ _ (setEntries S >>= _) _ _ s
  refine wpAny_bind (wpAny_setEntries_of hi.st rfl X.fits ?_)
  rw [if_neg (by simp)]
  show wpAny _ _ (setNext S (Int.toNat ((if byT w then 0 else slotAt t.place i : Nat) : Int)) (Int.toNat (i : Int)) (Int.toNat (ep : Int)) >>= _) _ _ s
  simp only [Int.toNat_natCast]
  refine wpAny_bind (set_next_some X hi hlt ?_)
  dsimp only
  refine wpAny_bind (wpAny_setField hi.it rfl (by show 0 < 5; decide) ?_)
  have g1 := Heap.get?_update_self (Obj.mapFields (·.setIfInBounds 0 (rawInt ((if byT w then 0 else slotAt t.place (i + 1) : Nat) : Int)))) hi.it rfl
  refine wpAny_bind (wpAny_setField g1 rfl (by show 1 < 5; decide) ?_)
  have g2 := Heap.get?_update_self (Obj.mapFields (·.setIfInBounds 1 (rawInt ((i : Int) + 1)))) g1 rfl
  have sb := (Heap.SameBut.update s.heap I (Obj.mapFields (·.setIfInBounds 0 (rawInt ((if byT w then 0 else slotAt t.place (i + 1) : Nat) : Int))))).trans (Heap.SameBut.update _ I (Obj.mapFields (·.setIfInBounds 1 (rawInt ((i : Int) + 1)))))
  exact wpAny_pure ⟨_, rfl, wpAny_pure (hQ _ ⟨g2, sb.extBut S _ hne hi.st⟩ sb)⟩

theorem setit_end {Q : Option Value → Shared → Prop} (hh : A.handled = none) (X : SetE (ldOf w) es t L) (hi : SetIt w s.heap I S es ep t es.size)
    (hQ : ∀ h', (∀ b o, b ≠ I → s.heap.get? b = some o → h'.get? b = some o) → Q none { s with heap := h' }) : wpAny (model pr w) A (pyNext (.ref I)) Q E s := by
  have hT : s.TypeIs (.ref I) "set_iterator" := ⟨_, hi.it, rfl⟩
  unfold pyNext
  refine wpAny_bind (wpAny_attempt (wpAny_callSpecial?_slot (name := Str.ofString "__next__") hT slot_setit_next (wpAny_call_entry slot_setit_next hT entry_setit_next ?_ (args_setit_next _))))
  unfold Builtin.«set_iterator.__next__» slotArgs
  simp only [List.isEmpty_nil, Bool.not_true, Bool.false_eq_true, ↓reduceIte, bind_assoc, List.length_nil, bne_self_eq_false, pure_bind]
  refine wpAny_bind (wpAny_fieldsOf hi.it rfl ?_)
  show wpAny _ _ (setEntries S >>= _) _ _ s
  refine wpAny_bind (wpAny_setEntries_of hi.st rfl X.fits ?_)
  rw [if_neg (by simp)]
  show wpAny _ _ (setNext S (Int.toNat ((if byT w then 0 else slotAt t.place es.size : Nat) : Int)) (Int.toNat ((es.size : Nat) : Int)) (Int.toNat (ep : Int)) >>= _) _ _ s
  simp only [Int.toNat_natCast]
  refine wpAny_bind (set_next_none X hi ?_)
  dsimp only
  refine wpAny_bind (wpAny_setField hi.it rfl (by show 2 < 5; decide) ?_)
  refine wpAny_bind ?_
  simp only [newExc, newTuple]
  refine wpAny_bind (wpAny_newObj_type ?_ (by size_fits))
  refine wpAny_bind (m := firstArgMember _ _) (wpAny_of_eq (a := Value.none) (by first | rfl | (simp only [firstArgMember]; rfl)) ?_)
  refine wpAny_newObj_type ?_ (by size_fits)
  simp only [raiseNew]
  refine wpAny_bind (wpAny_handled ?_)
  first | rw [show A.in1.handled = none from hh] | rw [hh]
  refine wpAny_bind (wpAny_pure (wpAny_throw ?_))
  refine wpAny_bind (wpAny_isInstance (T := "StopIteration") (b := true) ⟨_, Heap.get?_push_size _ rfl, rfl⟩ isSubtype_stop ?_)
  exact wpAny_pure (hQ _ fun b o hb e => Heap.get?_push_of_some _ (Heap.get?_push_of_some _ ((Heap.SameBut.update s.heap I _).extBut b o hb e)))

theorem setit_self {Q : Value → Shared → Prop} (hi : SetIt w s.heap I S es ep t i) (h : Q (.ref I) s) : wpAny (model pr w) A (pyIter (.ref I)) Q E s := by
  have hT : s.TypeIs (.ref I) "set_iterator" := ⟨_, hi.it, rfl⟩
  refine wpAny_pyIter_slot hT slot_setit_iter (wpAny_call_entry slot_setit_iter hT entry_setit_iter ?_ (args_setit_iter _))
  show wpAny _ _ (ret (.ref I)) _ _ s
  exact wpAny_pure ⟨_, rfl, "set_iterator", _, hT, slot_setit_next.lookup, h⟩

theorem walks_set (hh : A.handled = none) (hne : S ≠ I) (X : SetE (ldOf w) es t L) :
    Walks pr w A I [I, S] [I] es.size (fun i v => ((ordOf w S ep es)[i]?).map (·.2) = some v) (fun i h => SetIt w h I S es ep t i) where
  sub := fun b hb => by simp at hb; simp [hb]
  frame := fun _ _ _ st hk => ⟨hk I (by simp) _ st.it, hk S (by simp) _ st.st⟩
  item := fun i s Q E hi st hQ => setit_item X hne st hi fun h' st' hs' => hQ _ h' s.toks (by rw [Array.getElem?_eq_getElem (by rw [ord_size]; exact hi)]; rfl) st' fun b o hb e => hs'.extBut b o (fun h => hb (by simp [h])) e
  done := fun s Q E st hQ => setit_end hh X st fun h' he' => hQ h' s.toks fun b o hb e => he' b o (fun h => hb (by simp [h])) e
  self := fun _ _ _ _ st hQ => setit_self st hQ

/-- iter(set) -/
theorem set_iter {Q : Value → Shared → Prop} (X : SetE (ldOf w) es t L) (ho : s.heap.get? S = some (setO es ep t))
    (h : ∀ o, SetIt w (s.heap.push o) s.heap.objs.size S es ep t 0 → Q (.ref s.heap.objs.size) { s with heap := s.heap.push o }) : wpAny (model pr w) A (pyIter (.ref S)) Q E s := by
  have hT : s.TypeIs (.ref S) "set" := ⟨_, ho, rfl⟩
  refine wpAny_pyIter_slot hT PySem.F.slot_set_iter (wpAny_call_entry PySem.F.slot_set_iter hT entry_set_iter ?_ (PySem.F.args_set_iter_1 _))
  unfold Builtin.«frozenset.__iter__» Builtin.Frozenset.slot0 slotArgs
  simp only [List.isEmpty_nil, Bool.not_true, Bool.false_eq_true, ↓reduceIte, bind_assoc, List.length_nil, bne_self_eq_false, pure_bind]
  unfold Builtin.Frozenset.addrOf Builtin.Frozenset.sizeOf
  refine wpAny_bind (wpAny_pure ?_)
  refine wpAny_bind (wpAny_bind (wpAny_setEntries_of ho rfl X.fits (wpAny_pure ?_)))
  unfold setDrawn
  refine wpAny_bind ?_
  refine wpAny_bind (wpAny_setState_of ho rfl X.fits ?_)
  unfold setsByText
  refine wpAny_bind (wpAny_bind (wpAny_askSetting (wpAny_pure (wpAny_pure ?_))))
  have hdr : (!(byT w) && (!t.plain && decide (es.size > 1))) = false := by rw [X.tab.plain]; simp
  show wpAny _ _ (if (!(byT w) && (!t.plain && decide (es.size > 1))) = true then _ else _) _ _ _
  rw [if_neg (by rw [hdr]; decide)]
  refine wpAny_bind (wpAny_setEpoch_of ho rfl X.fits ?_)
  unfold newFields
  refine wpAny_bind (wpAny_newObj_type (wpAny_pure ⟨_, rfl, "set_iterator", _, ⟨_, Heap.get?_push_size _ rfl, rfl⟩, slot_setit_next.lookup, h _ ⟨?_, Heap.get?_push_of_some _ ho⟩⟩) (by size_fits))
  refine (Heap.get?_push_size _ rfl).trans ?_
  have : (if byT w = true then 0 else slotAt t.place 0) = 0 := by split <;> rfl
  rw [this]; rfl
end
end Mine

open PySem PySem.W PyProof.Rows PySem.Calls
set_option Elab.async false
set_option maxRecDepth 100000
namespace Mine

section
variable {w : World} {A : Around} {E : Value → Shared → Prop} {s : Shared} {S : Addr} {es : Array (Int × Value)} {ep : Nat} {t : SetTable} {L : List Int}

theorem hint_set {Q : Bool → Shared → Prop} (hT : s.TypeIs (.ref S) "set") (hQ : Q false s) : wpAny (model pr w) A (Builtin.List.listLengthHint (.ref S)) Q E s := by
  unfold Builtin.List.listLengthHint
  refine wpAny_bind (wpAny_specialOf hT PySem.F.slot_set_len.lookup ?_)
  dsimp only
  have hsp : splitId "set.__len__" = some ("set", "__len__") := by kernel_rfl
  rw [hsp]
  dsimp only
  refine wpAny_bind (wpAny_isInstance hT sub_set_self ?_)
  simp only [Bool.not_true, Bool.false_eq_true, if_false]
  rw [if_pos ?h]
  case h => decide +kernel
  refine wpAny_bind (wpAny_typeOf hT ?_)
  exact wpAny_pure hQ

set_option maxHeartbeats 2000000 in
theorem collect_set {Q : List Value → Shared → Prop} (hh : A.handled = none) (X : SetE (ldOf w) es t L) (hL : L.length ≤ 16) (ho : s.heap.get? S = some (setO es ep t))
    (hQ : ∀ s', Keeps s s' → Q ((ordOf w S ep es).toList.map (·.2)) s') : wpAny (model pr w) A (collect (.ref S)) Q E s := by
  have hS0 : S < s.heap.objs.size := Heap.lt_size ho
  have hes : es.size ≤ 16 := X.small hL
  unfold collect
  refine wpAny_bind (wpAny_runValue (codeAny_builtin PySem.F.entry_proto_collect ?_))
  rw [Around.under_plainId PySem.F.plain_proto_collect _]
  show wpAny _ A.in1 (newList [] >>= fun l => again (.builtin "list.__iadd__" ⟨[l, .ref S], []⟩)) _ _ s
  refine wpAny_bind (wpAny_newObj_type ?_)
  refine wpAny_pure ⟨plainId_quiet PySem.F.plain_list_iadd _, codeAny_builtin PySem.F.entry_list_iadd ?_⟩
  rw [Around.under_plainId PySem.F.plain_list_iadd _]
  generalize hD : s.heap.objs.size = D
  have hSD : S < D := hD ▸ hS0
  have ho₁ : (s.heap.push { cls := .type "list", data := .seq ([] : List Value).toArray }).get? S = some (setO es ep t) := Heap.get?_push_of_some _ ho
  have hT : Shared.TypeIs { s with heap := s.heap.push { cls := .type "list", data := .seq ([] : List Value).toArray } } (.ref S) "set" := ⟨_, ho₁, rfl⟩
  show wpAny _ A.in1 (Builtin.List.listExtendWith (.ref D) (.ref S) (.ref D)) _ _ _
  unfold Builtin.List.listExtendWith
  refine wpAny_bind (wpAny_typeOf hT ?_)
  have h1 : Builtin.List.listSameRef (.ref D) (.ref S) = false := by simp [Builtin.List.listSameRef]; exact Nat.ne_of_gt hSD
  have h2 : (Value.type "set" == Value.type "list") = false := by decide
  have h3 : (Value.type "set" == Value.type "tuple") = false := by decide
  simp only [h1, h2, h3, Bool.or_false, Bool.false_eq_true, if_false]
  have hsz1 : (s.heap.push { cls := .type "list", data := .seq ([] : List Value).toArray }).objs.size = D + 1 := by rw [Heap.size_push, hD]
  refine wpAny_bind (set_iter X ho₁ fun oi hit => ?_)
  rw [hsz1] at hit ⊢
  generalize hH : (s.heap.push { cls := .type "list", data := .seq ([] : List Value).toArray }).push oi = H at hit ⊢
  have kH : KeepsH s.heap H := fun b o e => hH ▸ Heap.get?_push_of_some _ (Heap.get?_push_of_some _ e)
  have gD : H.get? D = some { cls := .type "list", dict := none, data := .seq #[] 0, slots := #[] } := by
    rw [← hH]; exact Heap.get?_push_of_some _ (by rw [← hD]; exact Heap.get?_push_size _ rfl)
  have hT2 : Shared.TypeIs { s with heap := H } (.ref S) "set" := ⟨_, hit.st, rfl⟩
  refine wpAny_bind (wpAny_holding (hint_set hT2 ?_))
  rw [if_pos ?hc]
  case hc => decide +kernel
  refine wpAny_bind (wpAny_rule ?_)
  refine wpAny_bind ?_
  show wpAny _ A.in1 (updateSeq D (·.push .none) >>= fun _ => updateSeq D (·.pop)) _ _ _
  refine wpAny_bind (wpAny_updateSeq gD rfl ?_)
  have hS₂ := Heap.get?_update_self (Obj.mapSeq (·.push Value.none)) gD rfl
  refine wpAny_updateSeq hS₂ rfl ?_
  have hS₃ := Heap.get?_update_self (Obj.mapSeq (·.pop)) hS₂ rfl
  have oth : ∀ b o, b ≠ D → H.get? b = some o → ((H.update D (Obj.mapSeq (·.push Value.none))).update D (Obj.mapSeq (·.pop))).get? b = some o :=
    fun b o hb e => (Heap.get?_update_other _ _ (Ne.symm hb)).trans ((Heap.get?_update_other _ _ (Ne.symm hb)).trans e)
  have W := (walks_set (A := A.in1) (I := D + 1) (S := S) (ep := ep) hh (Nat.ne_of_lt (Nat.lt_succ_of_lt hSD)) X).toS
  have hfp : D ∉ [D + 1, S] := by
    simp only [List.mem_cons, List.not_mem_nil, or_false, not_or]
    exact ⟨Nat.ne_of_lt (Nat.lt_succ_self D), Nat.ne_of_gt hSD⟩
  refine wpAny_pure ⟨plainId_quiet PySem.F.plain_extend_loop _, codeAny_extend_loopS W (by have : sizeLine = 2 ^ 24 := rfl; omega) D hfp (.ref D) es.size 0 _ _ _ rfl (Nat.zero_le _)
    ⟨oth _ _ (Nat.succ_ne_self D) hit.it, oth _ _ (Nat.ne_of_lt hSD) hit.st⟩ hS₃ (ItemsOf.nil _) fun s' acc' c' hm hS' hacc => ?_⟩
  show wpAny _ A (load D >>= _) _ _ s'
  refine wpAny_bind (wpAny_load hS' ?_)
  have eacc : acc'.toList = (ordOf w S ep es).toList.map (·.2) := by
    obtain ⟨a1, a2⟩ := hacc
    have hsz := ord_size (w := w) (S := S) (ep := ep) (es := es)
    refine List.ext_getElem? fun i => ?_
    by_cases hi : i < es.size
    · have q1 : acc'[i]? = some acc'[i] := Array.getElem?_eq_getElem (by omega)
      have q2 := a2 i _ q1
      rw [Array.getElem?_toList, q1, List.getElem?_map, Array.getElem?_toList, q2]
    · rw [List.getElem?_eq_none (by simp; omega), List.getElem?_eq_none (by simp; omega)]
  refine wpAny_pure ?_
  rw [eacc]
  refine hQ s' ?_
  obtain ⟨h', g', d', tk', os'⟩ := s'
  have eg : g' = s.gens := hm.gens
  have ed : d' = s.drawn := hm.drawn
  have eo : os' = s.os := hm.os
  subst eg; subst ed; subst eo
  refine ⟨h', tk', rfl, fun b o e => ?_⟩
  have hb := Heap.lt_size e
  rw [hD] at hb
  exact hm.heap b o (by
    simp only [List.mem_cons, List.not_mem_nil, or_false, not_or]
    exact ⟨Nat.ne_of_lt hb, Nat.ne_of_lt (Nat.lt_succ_of_lt hb)⟩) (oth b o (Nat.ne_of_lt hb) (kH b o e))

theorem ints_of_vals : ∀ (l : List (Int × Value)), (∀ e ∈ l, ∃ u, e.2 = .int e.1 u) → IntsAre (l.map (·.2)) (l.map (·.1))
  | [], _ => .nil
  | (k, v) :: l, h => by
    obtain ⟨u, hu⟩ := h (k, v) (by simp)
    dsimp only at hu
    subst hu
    exact .cons k u (ints_of_vals l fun e he => h e (by simp [he]))

/-- sorted(set) -/
theorem sorted_set {Q : Value → Shared → Prop} (hh : A.handled = none) (hS : SetT (ldOf w) s.heap S L) (hL : L.length ≤ 16) (hsort : L.Pairwise (· ≤ ·))
    (hQ : ∀ a vs n s', Keeps s s' → s.heap.get? a = none → s'.heap.get? a = some (lob vs n) → IntsAre vs L → Q (.ref a) s') : wpAny (model pr w) A (call (.builtin "sorted") [.ref S]) Q E s := by
  obtain ⟨es, ep, t, ho, X⟩ := hS
  have hes : es.size ≤ 16 := X.small hL
  refine Calls.call_function_entry kind_sorted plain_sorted entry_sorted (args_sorted1 _) ?_
  unfold Builtin.«sorted»
  refine wpAny_bind (m := checkCount "sorted" 1 1 _) (wpAny_pure ?_)
  refine wpAny_bind (collect_set hh X hL ho fun s₁ k₁ => ?_)
  have hI : IntsAre ((ordOf w S ep es).toList.map (·.2)) ((ordOf w S ep es).toList.map (·.1)) := ints_of_vals _ fun e he => X.vals e (ord_perm.mem_iff.mp he)
  have hp : List.Perm ((ordOf w S ep es).toList.map (·.1)) L := (ord_perm.map _).trans X.perm
  have hlen : ((ordOf w S ep es).toList.map (·.2)).length < 64 := by have := ord_size (w := w) (S := S) (ep := ep) (es := es); simp; omega
  generalize (ordOf w S ep es).toList.map (·.2) = vs at hI hlen ⊢
  generalize (ordOf w S ep es).toList.map (·.1) = ns at hI hp
  refine wpAny_bind (wpAny_newList ?_ (hsz := by have : sizeLine = 2 ^ 24 := rfl; omega))
  have hoL : (s₁.heap.push (seqObj "list" vs.toArray 0)).get? s₁.heap.objs.size = some (seqObj "list" vs.toArray 0) := Heap.get?_push_size _ rfl
  show wpAny _ _ _ _ _ { s₁ with heap := s₁.heap.push (seqObj "list" vs.toArray 0) }
  have fr : s.heap.get? s₁.heap.objs.size = none := by
    cases e : s.heap.get? s₁.heap.objs.size with
    | none => rfl
    | some o => have := Keeps.hp k₁ _ _ e; rw [fresh_size] at this; cases this
  refine wpAny_bind (wpAny_holding (wpAny_call_entry slot_list_sort ⟨_, hoL, rfl⟩ entry_list_sort (list_sort_tree hoL hI hlen fun out ns' a1 a2 a3 => ⟨_, rfl, ?_⟩) (args_list_sort _)))
  have en : ns' = L := PySem.W.ksm_same (a2.trans hp) a3 hsort
  subst en
  generalize hH : s₁.heap.push (seqObj "list" vs.toArray 0) = H at hoL ⊢
  generalize hD : s₁.heap.objs.size = D at hoL fr ⊢
  have hDH : D < H.objs.size := Heap.lt_size hoL
  have g1 := get?_update_seq hoL (fun _ => #[])
  have g3 : (((H.update D (Obj.mapSeq fun _ => #[])).push (seqObj "tuple" vs.toArray 0)).push (seqObj "list" #[] 0)).get? D = some (seqObj "list" #[] _) := Heap.get?_push_of_some _ (Heap.get?_push_of_some _ g1)
  have g4 := get?_update_seq g3 (fun _ => out)
  have g5 : ∃ n, (sortedHeap H D vs out).get? D = some (lob out.toList n) := ⟨_, g4.trans (by show some (seqObj "list" out _) = some (seqObj "list" out.toList.toArray _); rw [Array.toArray_toList])⟩
  obtain ⟨n5, g5⟩ := g5
  refine wpAny_pure ⟨_, rfl, hQ D out.toList n5 _ ?_ fr g5 a1⟩
  obtain ⟨h₁, t₁, rfl, kk⟩ := k₁
  refine ⟨sortedHeap H D vs out, t₁, rfl, fun b o e => ?_⟩
  have hb : b ≠ D := fun q => by rw [q, fr] at e; cases e
  have e1 : H.get? b = some o := hH ▸ Heap.get?_push_of_some _ (kk b o e)
  unfold sortedHeap
  rw [Heap.get?_update_other _ _ (Ne.symm hb)]
  refine Heap.get?_push_of_some _ (Heap.get?_push_of_some _ ?_)
  rw [Heap.get?_update_other _ _ (Ne.symm hb)]; exact e1
end

section
variable {w : World} {A : Around} {env : Env} {ρ : Rho} {pos : Pos}
theorem intsRd {P : Addr → Prop} {h : Heap} : ∀ {vs : List Value} {ns : List Int}, IntsAre vs ns → RdAll P h vs (ns.map .int)
  | _, _, .nil => .nil
  | _, _, .cons n t r => .cons (.int n t) (intsRd r)
theorem bool_set : bootBuiltins (Str.ofString "set") = some (.type "set") := by kernel_rfl
/-- sorted(set(e)), e a rising list of small ints -/
theorem ev_sorted_set {p p2 pos2 : Pos} {e : Expr} {ns : List Int} (hh : A.handled = none) (h : Ev w A env ρ e (.py (.list (ns.map .int)))) (h16 : ns.length ≤ 16) (hsm : ∀ x ∈ ns, 0 ≤ x ∧ x < 16) (hrise : ns.Pairwise (· < ·))
    (hk : env.kindOf (Str.ofString "sorted") = some .globalImplicit := by rfl) (hk2 : env.kindOf (Str.ofString "set") = some .globalImplicit := by rfl)
    (hn : ∀ P, nsIn (hd0.heap_1 P) mainGlobals (Str.ofString "sorted") = some none := by intro _; kernel_rfl) (hn2 : ∀ P, nsIn (hd0.heap_1 P) mainGlobals (Str.ofString "set") = some none := by intro _; kernel_rfl)
    (hs : starEach [.Call (.Name (Str.ofString "set") p2) [e] [] pos2] env = [(false, eval (.Call (.Name (Str.ofString "set") p2) [e] [] pos2) env)] := by rfl) (hs2 : starEach [e] env = [(false, eval e env)] := by rfl) :
    Ev w A env ρ (.Call (.Name (Str.ofString "sorted") p) [.Call (.Name (Str.ofString "set") p2) [e] [] pos2] [] pos) (.py (.list (ns.map .int))) := by
  intro P s Q E ok hQ
  refine PyProof.Rows.Call_Name1 (bname ok hk (hn _) PyProof.Rows.boot_sorted ?_) hs
  refine callWith_builtin1 ?_
  refine PyProof.Rows.Call_Name1 (bname ok hk2 (hn2 _) bool_set ?_) hs2
  refine PySem.callWith_type1 (h P s _ _ ok fun v s₁ k₁ r => ?_)
  cases r with | py r => cases r with | list pa g q =>
    refine set_of_list hh g q.ints h16 hsm (hrise.imp fun h => by omega) fun s₂ k₂ fr hS => ?_
    refine sorted_set hh hS h16 (hrise.imp fun h => by omega) fun a vs n s₃ k₃ fr3 g3 hi => ?_
    refine hQ _ s₃ (Keeps.tr (Keeps.tr k₁ k₂) k₃) (.py (.list (.inr ?_) g3 (intsRd hi)))
    cases e : s.heap.get? a with
    | none => rfl
    | some o => have := Keeps.hp k₂ _ _ (Keeps.hp k₁ _ _ e); rw [fr3] at this; cases this
end
end Mine

open PySem PySem.W PyProof.Rows PySem.Calls
set_option Elab.async false
set_option maxRecDepth 100000
namespace Mine
open Builtin.Str

noncomputable def preB : List Nat → List Nat → Bool
  | [], _ => true
  | _ :: _, [] => false
  | a :: r, b :: t => match Nat.beq a b with
    | true => preB r t
    | false => false
noncomputable def occL (sub : List Nat) (w hi limit : Nat) : Nat → Nat → List Nat → Nat → Nat → List Nat
  | 0, _, _, _, _ => []
  | n + 1, i, suf, cnt, free => match Nat.blt cnt limit && Nat.ble free i && Nat.ble (i + w) hi && preB sub suf with
    | true => i :: occL sub w hi limit n (i + 1) suf.tail (cnt + 1) (i + w)
    | false => occL sub w hi limit n (i + 1) suf.tail cnt free
noncomputable def occX (s sub : Str) (lo hi limit : Nat) : List Nat := occL sub.cps.toList sub.cps.toList.length hi limit (hi + 1 - lo) lo (s.cps.toList.drop lo) 0 lo

theorem preB_eq : ∀ (a b : List Nat), preB a b = (b.take a.length == a)
  | [], b => by simp [preB]
  | x :: r, [] => by simp [preB]
  | x :: r, y :: t => by
    unfold preB
    have ih := preB_eq r t
    cases h : Nat.beq x y with
    | true => have e := Nat.eq_of_beq_eq_true h; subst e; simp [ih]
    | false => have e := Nat.ne_of_beq_eq_false h; simp; intro q; exact absurd q.symm e

theorem occ_run (s sub : Str) (hi limit : Nat) : ∀ (n i : Nat) (st : Array Nat × Nat),
    (forIn (List.range' i n) st (PySem.StrLaws.occBody s sub hi limit)).run.fst.toList = st.fst.toList ++ occL sub.cps.toList sub.cps.toList.length hi limit n i (s.cps.toList.drop i) st.fst.size st.snd
  | 0, i, st => by simp [occL]
  | n + 1, i, st => by
    rw [List.range'_succ, List.forIn_cons]
    unfold occL
    have hw : sub.length = sub.cps.toList.length := by show sub.cps.size = _; simp
    have e : (((st.fst.size < limit ∧ st.snd ≤ i) ∧ i + sub.length ≤ hi) ∧ subAt s sub i = true) ↔ (Nat.blt st.fst.size limit && Nat.ble st.snd i && Nat.ble (i + sub.cps.toList.length) hi && preB sub.cps.toList (s.cps.toList.drop i)) = true := by
      rw [PySem.StrLaws.subAt_eq, preB_eq, hw]
      simp only [Bool.and_eq_true, Nat.blt_eq, Nat.ble_eq]
    have ht : (s.cps.toList.drop i).tail = s.cps.toList.drop (i + 1) := by rw [List.tail_drop]
    unfold PySem.StrLaws.occBody
    cases h : (Nat.blt st.fst.size limit && Nat.ble st.snd i && Nat.ble (i + sub.cps.toList.length) hi && preB sub.cps.toList (s.cps.toList.drop i)) with
    | true =>
      rw [if_pos (e.mpr h)]
      have ih := occ_run s sub hi limit n (i + 1) (st.fst.push i, i + sub.length)
      dsimp only at ih ⊢
      rw [ht]
      refine ih.trans ?_
      rw [hw]; simp
    | false =>
      rw [if_neg (fun q => by rw [e.mp q] at h; cases h)]
      have ih := occ_run s sub hi limit n (i + 1) st
      dsimp only at ih ⊢
      rw [ht]
      exact ih
theorem occX_eq : @occurrences = occX := by
  funext s sub lo hi limit
  rw [PySem.StrLaws.occ_eq, occ_run]
  simp [occX]

/-! the match, whatever finds the places -/
abbrev OccF := Str → Str → Nat → Nat → Nat → List Nat
noncomputable def findG (occ : OccF) (x y : Str) (i j : Int) : Int := match occ x y (fromIndex x.length i) (min (fromIndex x.length j) x.length) 1 with | k :: _ => (k : Int) | [] => -1
noncomputable def posG (occ : OccF) (got : Str) (ws : List Str) (sp ep : Int) : Nat → Int
  | 0 => sp
  | i + 1 => findG occ got (ws.getD i "") (posG occ got ws sp ep i) ep + (ws.getD i "").length
noncomputable def allG (occ : OccF) (got : Str) (ws : List Str) (sp ep : Int) : Bool := (List.range ws.length).all fun i => decide (0 ≤ findG occ got (ws.getD i "") (posG occ got ws sp ep i) ep)
noncomputable def inG (occ : OccF) (want : Str) : Bool := !(occ want dots 0 want.length 1).isEmpty
noncomputable def wG (occ : OccF) (want : Str) : List Str := partsBetween want (occ want dots 0 want.length (want.length + 1)) dots.length
noncomputable def ellG (occ : OccF) (want got : Str) : Bool :=
  if inG occ want then
    if fstB (wG occ want) && !Txt.startswith got (fst0 (wG occ want)) then false
    else if lstB (ellW1 (wG occ want)) && !Txt.endswith got (lst0 (ellW1 (wG occ want))) then false
    else if ellEp got (ellW1 (wG occ want)) < ellSp (wG occ want) then false
    else allG occ got (ellW2 (ellW1 (wG occ want))) (ellSp (wG occ want)) (ellEp got (ellW1 (wG occ want)))
  else want == got
theorem posG_eq {got : Str} {ws : List Str} {sp ep : Int} : ∀ i, ellPos got ws sp ep i = posG occurrences got ws sp ep i
  | 0 => rfl
  | i + 1 => by rw [ellPos, posG, posG_eq i]; rfl
theorem ellG_eq (want got : Str) : ellF want got = ellG occX want got := by
  rw [← occX_eq]
  unfold ellF ellG ellAll allG
  have : ∀ (ws : List Str) (sp ep : Int), ellHit got ws sp ep = fun i => decide (0 ≤ findG occurrences got (ws.getD i "") (posG occurrences got ws sp ep i) ep) := fun ws sp ep => by
    funext i; unfold ellHit; rw [posG_eq]; rfl
  simp only [this]
  rfl
end Mine

open PySem PySem.W PyProof.Rows PySem.Calls
set_option Elab.async false
set_option maxRecDepth 100000
namespace Mine
example : (PySem.Challenge.rw_rl0110_01, hd0.heap_1) = (PySem.Challenge.rw_rl0110_01, hd0.heap_1) := by k_fill; rfl

/-! slices of data -/
theorem pickD_plain (ds : List PyData) (lo hi : Option Int) (a b : Nat) (ha : lo.elim 0 (clipAt ds.length) = a) (hb : hi.elim ds.length (clipAt ds.length) = b) (hab : a ≤ b) (hbn : b ≤ ds.length) : pickD ds lo hi none = (ds.drop a).take (b - a) := by
  unfold pickD
  rw [sliceBounds_plain, ha, hb]
  dsimp only
  rw [sliceRange_one]
  exact PySem.StrLaws.picks ds (b - a) a (by omega)
theorem pickD_upto (ds : List PyData) (k : Nat) : pickD ds none (some (k : Int)) none = ds.take k := by
  have : clipAt ds.length (k : Int) = min k ds.length := clipAt_nat _ _
  rw [pickD_plain ds none (some (k : Int)) 0 (min k ds.length) rfl this (by omega) (by omega)]
  simp [List.take_eq_take_iff]
theorem pickD_from (ds : List PyData) (k : Nat) (hk : k ≤ ds.length) : pickD ds (some (k : Int)) none none = ds.drop k := by
  have : clipAt ds.length (k : Int) = k := by rw [clipAt_nat]; omega
  rw [pickD_plain ds (some (k : Int)) none k ds.length this rfl hk (Nat.le_refl _)]
  exact List.take_of_length_le (by simp)
theorem pickD_init (ds : List PyData) (x : PyData) : pickD (ds ++ [x]) none (some (-1)) none = ds := by
  have : clipAt (ds ++ [x]).length (-1) = ds.length := by have := clipAt_neg (ds ++ [x]).length 1 (Nat.le_refl _); simp at this ⊢; exact this
  rw [pickD_plain (ds ++ [x]) none (some (-1)) 0 ds.length rfl this (by omega) (by simp)]
  simp
theorem pickD_last (ds : List PyData) (x : PyData) : pickD (ds ++ [x]) (some (-1)) none none = [x] := by
  have : clipAt (ds ++ [x]).length (-1) = ds.length := by have := clipAt_neg (ds ++ [x]).length 1 (Nat.le_refl _); simp at this ⊢; exact this
  rw [pickD_plain (ds ++ [x]) (some (-1)) none ds.length (ds ++ [x]).length this rfl (by simp) (Nat.le_refl _)]
  simp
noncomputable def pickI (ns : List Int) (lo hi st : Option Int) : List Int := (sliceRange (sliceBounds lo hi st ns.length).1 (sliceBounds lo hi st ns.length).2.1 (sliceBounds lo hi st ns.length).2.2).filterMap (ns[·]?)
theorem pickD_ints (ns : List Int) (lo hi st : Option Int) : pickD (ns.map .int) lo hi st = (pickI ns lo hi st).map .int := by
  unfold pickD pickI
  rw [List.length_map, List.map_filterMap]
  congr 1
  funext i
  simp

theorem can_strs : ∀ xs : List Str, (∀ x ∈ xs, PyData.strOk x = true) → PyData.canLayAll0 (xs.map .str) = true
  | [], _ => rfl
  | x :: xs, h => by simp only [List.map_cons, PyData.canLayAll0, PyData.canLay0, can_strs xs fun y hy => h y (by simp [hy]), Bool.and_true]; exact h x (by simp)
theorem can_ints : ∀ xs : List Int, PyData.canLayAll0 (xs.map .int) = true
  | [] => rfl
  | x :: xs => by simp only [List.map_cons, PyData.canLayAll0, PyData.canLay0, can_ints xs, Bool.and_true]
theorem dep_strs : ∀ xs : List Str, PyData.depthAll (xs.map .str) ≤ 1
  | [] => by decide
  | x :: xs => by have := dep_strs xs; simp only [List.map_cons, PyData.depthAll, PyData.depth]; omega
theorem dep_ints : ∀ xs : List Int, PyData.depthAll (xs.map .int) ≤ 1
  | [] => by decide
  | x :: xs => by have := dep_ints xs; simp only [List.map_cons, PyData.depthAll, PyData.depth]; omega

section
variable {w : World} {A : Around} {P₀ P O X : Addr → Prop} {env : Env} {ρ ρ' : Rho} {ω ω' : Omg} {pos : Pos}
/-- two lists of texts that are the same are not found to differ -/
theorem cmp_ne_strs {k : Nat} (R : Room A k) (xs : List Str) (hok : ∀ x ∈ xs, PyData.strOk x = true) : CmpR w A .NotEq (.py (.list (xs.map .str))) (.py (.list (xs.map .str))) false := by
  have h := cmp_ne (w := w) R (a := .list (xs.map .str)) (b := .list (xs.map .str)) (by unfold PyData.canLay0; exact can_strs xs hok) (by unfold PyData.canLay0; exact can_strs xs hok) (by have := dep_strs xs; simp only [PyData.depth]; omega)
  rw [PySem.SeqAt.eqv_refl _ (by unfold PyData.canLay0; exact can_strs xs hok)] at h
  exact h
theorem cmp_ne_ints {k : Nat} (R : Room A k) (xs : List Int) : CmpR w A .NotEq (.py (.list (xs.map .int))) (.py (.list (xs.map .int))) false := by
  have h := cmp_ne (w := w) R (a := .list (xs.map .int)) (b := .list (xs.map .int)) (by unfold PyData.canLay0; exact can_ints xs) (by unfold PyData.canLay0; exact can_ints xs) (by have := dep_ints xs; simp only [PyData.depth]; omega)
  rw [PySem.SeqAt.eqv_refl _ (by unfold PyData.canLay0; exact can_ints xs)] at h
  exact h
theorem cmp_ne_nil {k : Nat} (R : Room A k) (xs : List Int) : CmpR w A .NotEq (.py (.list (xs.map .int))) (.py (.list [])) (!xs.isEmpty) := by
  have h := cmp_ne (w := w) R (a := .list (xs.map .int)) (b := .list []) (by unfold PyData.canLay0; exact can_ints xs) rfl (Nat.le_trans (Nat.min_le_right _ _) (by decide))
  have e : PyData.eqv (.list (xs.map .int)) (.list []) = xs.isEmpty := by cases xs <;> rfl
  rw [e] at h; exact h
theorem cmp_eq_nil {k : Nat} (R : Room A k) (xs : List Int) : CmpR w A .Eq (.py (.list (xs.map .int))) (.py (.list [])) xs.isEmpty := by
  have h := cmp_eq (w := w) R (a := .list (xs.map .int)) (b := .list []) (by unfold PyData.canLay0; exact can_ints xs) rfl (Nat.le_trans (Nat.min_le_right _ _) (by decide))
  have e : PyData.eqv (.list (xs.map .int)) (.list []) = xs.isEmpty := by cases xs <;> rfl
  rw [e] at h; exact h

/-- a and b, both coming out true -/
theorem ev_and_true {e₁ e₂ : Expr} (h₁ : Ev w A env ρ e₁ (.py (.bool true))) (h₂ : Ev w A env ρ e₂ (.py (.bool true))) : Ev w A env ρ (.BoolOp .And [e₁, e₂] pos) (.py (.bool true)) := by
  intro P s Q E ok hQ
  refine BoolOp_and (h₁ P s _ _ ok fun v s₁ k₁ r => ?_)
  cases r with | py r => cases r with | bool b =>
    refine wpAny_truthy_bool ?_
    rw [if_pos rfl]
    exact BoolOp_one (h₂ P s₁ Q E (ok.keeps (Keeps.hp k₁)) fun v s₂ k₂ r₂ => hQ v s₂ (Keeps.tr k₁ k₂) (r₂.mono (fun _ _ e => e) fun a _ _ p => up_mono (Keeps.hp k₁) a p))

/-- statements, one behind the other, with what is behind them -/
noncomputable def Rw (w : World) (A : Around) (env : Env) (ρ : Rho) (ω : Omg) (pre : List Stmt) (ρ' : Rho) (ω' : Omg) : Prop :=
  ∀ (P₀ P O X : Addr → Prop) (s : Shared) (Q : Flow → Shared → Prop) (E : Value → Shared → Prop) (rest : List Stmt), Fs w A P₀ P O X env ρ ω s.heap →
    (∀ s₁, Post w A P₀ P O X env s ρ' ω' s₁ → wpAny (model pr w) A (execs rest env) Q E s₁) → wpAny (model pr w) A (execs (pre ++ rest) env) Q E s
theorem rw_nil : Rw w A env ρ ω [] ρ ω := fun P₀ P O X s Q E rest f k => k s (Post.rf f)
theorem rw_cons {ρ₁ : Rho} {ω₁ : Omg} {st : Stmt} {pre : List Stmt} (h : S1 w A env ρ ω st (.next ρ₁ ω₁)) (hr : Rw w A env ρ₁ ω₁ pre ρ' ω') : Rw w A env ρ ω (st :: pre) ρ' ω' :=
  fun P₀ P O X s Q E rest f k => wpAny_execs_cons (h P₀ P O X s _ _ f fun fl s₁ y => by
    obtain ⟨rfl, p⟩ := y
    obtain ⟨P', O', f', hp, ho⟩ := p.fs
    exact hr P₀ P' O' X s₁ Q E rest f' fun s₂ p₂ => k s₂ (OutOk.behind (o := .next _ _) (fl := .next) p f' hp ho ⟨rfl, p₂⟩).2)

/-- the frame's own place touched, its names as they were -/
theorem Fs.touch {h h' : Heap} {m : Str → Option Value} (f : Fs w A P₀ P O X env ρ none h) (hm : h.Ns env.locals m) (hn : h'.Ns env.locals m) (keep : ∀ b o, b ≠ env.locals → h.get? b = some o → h'.get? b = some o) : Fs w A P₀ P O X env ρ none h' := by
  have hu : ∀ o, h.get? env.locals = some o → ∀ xs n, o.data ≠ .seq xs n := fun o e xs n q => by
    obtain ⟨o', es, ep, e1, e2, _⟩ := hm; rw [e1] at e; cases e; rw [e2] at q; cases q
  have rd : ∀ {v d}, RdT P h v d → RdT P h' v d := fun r => r.butS (S := fun a => a = env.locals) (fun a o ha e => keep a o ha e) (fun a o ha e => .inl (by subst ha; exact hu o e)) fun a ha => by subst ha; exact f.noloc.1
  have hcl : ∀ y c, env.cells.lookup y = some c → c ≠ env.locals := fun y c e q => by
    obtain ⟨v', o', e1, e2⟩ := f.cells y c e
    obtain ⟨o, es, ep, e3, e4, _⟩ := hm
    rw [q, e3] at e1; cases e1; rw [e4] at e2; cases e2
  refine ⟨?_, f.fn, f.gl, f.bu, ?_, f.sub, ?_, f.off, f.ino, ?_, f.nox, f.noloc, f.nocell, ⟨_, hn⟩, ?_, f.apart, fun y ds e => by cases e⟩
  · obtain ⟨g, base, outer, b, st, k, e, ff, n⟩ := f.gr
    refine ⟨g, base, outer, b, st, fun a o q => keep a o (fun z => by rw [z, n _ (.inl rfl)] at q; cases q) (k a o q), e, funFrames_some (fun a o q d => ?_) ff, n⟩
    by_cases z : a = env.locals
    · subst z; obtain ⟨o', es, ep, e1, e2, _⟩ := hn; exact ⟨o', e1, fun vs q => by rw [e2] at q; cases q⟩
    · exact ⟨o, keep a o z q, d⟩
  · intro y d' e
    cases f.vars y d' e with
    | loc a b c r' => rw [ns_unique b hm] at c; exact .loc a hn c (rd r')
    | cel a b c r' => obtain ⟨o', e1, e2⟩ := c; exact .cel a b ⟨o', keep _ _ (hcl y _ b) e1, e2⟩ (rd r')
    | fre a b c r' => obtain ⟨o', e1, e2⟩ := c; exact .fre a b ⟨o', keep _ _ (hcl y _ b) e1, e2⟩ (rd r')
  · intro a e
    by_cases q : a = env.locals
    · obtain ⟨o', _, _, e1, _⟩ := hn; rw [q, e1] at e; cases e
    · exact f.up a (by
        cases e' : h.get? a with
        | none => rfl
        | some o => rw [keep a o q e'] at e; cases e)
  · intro a o oa e
    cases e' : h.get? a with
    | none => exact absurd oa (f.off a (f.up a e'))
    | some o' => rw [keep a o' (fun q => f.noloc.2.1 (q ▸ oa)) e'] at e; cases e; exact f.olist a _ oa e'
  · intro y c e
    obtain ⟨v', o', e1, e2⟩ := f.cells y c e
    exact ⟨v', o', keep _ _ (hcl y c e) e1, e2⟩
end
end Mine

open PySem PySem.W PyProof.Rows PySem.Calls
set_option Elab.async false
set_option maxRecDepth 100000
namespace Mine

/-- what is asked of the sixteen texts -/
structure TxOk (ts : List Str) : Prop where
  len : ts.length = 16
  zero : ts.getD 0 "" = Str.ofString "0x0"
  size : ∀ i < 16, (ts.getD i "").length ≤ 1000
  ok : ∀ i < 16, PyData.strOk (ts.getD i "") = true
  low : ∀ i < 16, (Txt.lower (ts.getD i "")).length ≤ 1000
  idem : ∀ i < 16, Txt.lower (Txt.lower (ts.getD i "")) = Txt.lower (ts.getD i "")
  dist : ∀ i < 16, ∀ j < 16, Txt.lower (ts.getD i "") = Txt.lower (ts.getD j "") → i = j
  hitN : ∀ i < 16, noHit nameCode (ts.getD i "") = true
  hitL : ∀ i < 16, noHit nameCode (Txt.lower (ts.getD i "")) = true
  hitV : ∀ i < 16, noHit valueCode (ts.getD i "") = true
  bad : ∀ i < 16, hitB nameCode (Txt.lower (ts.getD i "" ++ ⟨#[10]⟩)) = true
  badlen : ∀ i < 16, (Txt.lower (ts.getD i "" ++ ⟨#[10]⟩)).length ≤ 1000
  stOk : ∀ k < 4, standsOk (ts.getD (2 ^ k) "") = true
  stands : ∀ k < 4, ∀ r < 16, standsF (ts.getD (2 ^ k) "") (ts.getD r "") = if r / 2 ^ k % 2 = 1 then 1 else 0

theorem x0_low : Txt.lower (Str.ofString "0X0") = Str.ofString "0x0" := by decide +kernel
theorem x0_hit : noHit nameCode (Str.ofString "0X0") = true := by decide +kernel
theorem x0_hitL : noHit nameCode (Str.ofString "0x0") = true := by decide +kernel
theorem x0_len : (Str.ofString "0X0").length = 3 := by decide +kernel
theorem x0_lenL : (Str.ofString "0x0").length = 3 := by decide +kernel
theorem x0_lowL : Txt.lower (Str.ofString "0x0") = Str.ofString "0x0" := by decide +kernel

theorem pow_inj4 : ∀ j < 4, ∀ k < 4, (2 : Nat) ^ j = 2 ^ k → j = k := by decide
theorem find_none {α : Type} (f : Nat → α) (p : α → Bool) (n : Nat) (h : ∀ j < n, p (f j) = false) : ((List.range n).map f).find? p = none := by
  rw [List.find?_eq_none]
  intro x hx
  obtain ⟨j, hj, rfl⟩ := List.mem_map.mp hx
  rw [h j (by simpa using hj)]; decide
theorem find_at {α : Type} (f : Nat → α) (p : α → Bool) : ∀ (n k : Nat), k < n → (∀ j < n, p (f j) = (j == k)) → ((List.range n).map f).find? p = some (f k)
  | 0, k, hk, _ => absurd hk (by omega)
  | n + 1, k, hk, h => by
    rw [List.range_succ, List.map_append, List.find?_append]
    by_cases e : k = n
    · subst e
      have : ((List.range k).map f).find? p = none := by
        rw [List.find?_eq_none]
        intro x hx
        obtain ⟨j, hj, rfl⟩ := List.mem_map.mp hx
        have hj' : j < k := by simpa using hj
        rw [h j (by omega)]
        simp; omega
      rw [this]
      have hp : p (f k) = true := by rw [h k (by omega)]; simp
      simp [hp]
    · have := find_at f p n k (by omega) fun j hj => h j (by omega)
      rw [this]; rfl
theorem bits16 : ∀ r < 16, ((List.range 4).map fun (j : Nat) => (if r / 2 ^ j % 2 = 1 then (1 : Int) else 0) * 2 ^ j).sum = (r : Nat) := by decide +kernel
section
variable {ts : List Str} (T : TxOk ts)
include T
theorem TxOk.cap (b : Bool) {i : Nat} (hi : i < 16) : Txt.lower (capF b (ts.getD i "")) = Txt.lower (ts.getD i "") := by
  cases b
  · rfl
  · exact T.idem i hi
theorem TxOk.pair (b : Bool) {i j : Nat} (hi : i < 16) (hj : j < 16) : PairOk (capF b (ts.getD i "")) (ts.getD j "") := by
  have h1 := T.size i hi
  have h2 := T.low i hi
  have h3 := T.size j hj
  refine ⟨?_, by rw [T.cap b hi]; omega, by rw [T.cap b hi]; exact T.hitL i hi, ?_, by omega, T.hitV j hj⟩
  · cases b
    · show (ts.getD i "").length ≤ _; omega
    · show (Txt.lower (ts.getD i "")).length ≤ _; omega
  · cases b
    · exact T.hitN i hi
    · exact T.hitL i hi
theorem TxOk.pair0 {j : Nat} (hj : j < 16) : PairOk (Str.ofString "0X0") (ts.getD j "") := by
  have h3 := T.size j hj
  exact ⟨by rw [x0_len]; omega, by rw [x0_low, x0_lenL]; omega, by rw [x0_low]; exact x0_hitL, x0_hit, by omega, T.hitV j hj⟩
theorem TxOk.mem {x : Str} (hx : x ∈ ts) : ∃ i, i < 16 ∧ x = ts.getD i "" := by
  obtain ⟨i, hi, rfl⟩ := List.getElem_of_mem hx
  exact ⟨i, by rw [← T.len]; exact hi, by simp [hi]⟩
theorem TxOk.okAll : ∀ x ∈ ts, PyData.strOk x = true := fun x hx => by
  obtain ⟨i, hi, rfl⟩ := T.mem hx
  exact T.ok i hi
theorem TxOk.list : (List.range 16).map (fun i => ts.getD i "") = ts := by
  refine List.ext_getElem (by simp [T.len]) fun i h1 h2 => ?_
  simp [h2]
theorem TxOk.ne {i j : Nat} (hi : i < 16) (hj : j < 16) (h : i ≠ j) : ts.getD i "" ≠ ts.getD j "" := fun e => h (T.dist i hi j hj (by rw [e]))
theorem TxOk.beq {i j : Nat} (hi : i < 16) (hj : j < 16) : (Txt.lower (ts.getD i "") == Txt.lower (ts.getD j "")) = (i == j) := by
  by_cases h : i = j
  · subst h; simp
  · have h1 : Txt.lower (ts.getD i "") ≠ Txt.lower (ts.getD j "") := fun e => h (T.dist i hi j hj e)
    rw [beq_false_of_ne h1, beq_false_of_ne h]

/-! the board -/
theorem TxOk.board_new {rows : List Int} {k : Nat} (hk : k < 4) : getF (boardP ts rows k) (Txt.lower (ts.getD (2 ^ k) "")) = none := by
  unfold getF boardP
  rw [find_none]
  · rfl
  · intro j hj
    show (Txt.lower (ts.getD (2 ^ j) "") == _) = false
    rw [T.beq (pow_lt16 j (by omega)) (pow_lt16 k hk)]
    refine beq_false_of_ne fun e => ?_
    have := pow_inj4 j (by omega) k hk e
    omega
theorem TxOk.board_get {rows : List Int} {k : Nat} (hk : k < 4) : getF (boardP ts rows 4) (Txt.lower (Txt.lower (ts.getD (2 ^ k) ""))) = some (ts.getD (rows.getD k 0).toNat "") := by
  unfold getF boardP
  rw [find_at _ _ 4 k hk]
  · rfl
  · intro j hj
    show (Txt.lower (ts.getD (2 ^ j) "") == _) = _
    rw [T.idem _ (pow_lt16 k hk), T.beq (pow_lt16 j hj) (pow_lt16 k hk)]
    by_cases e : j = k
    · subst e; simp
    · have h1 : (2 : Nat) ^ j ≠ 2 ^ k := fun q => e (pow_inj4 j hj k hk q)
      rw [beq_false_of_ne h1, beq_false_of_ne e]

theorem TxOk.sw {r : Nat} (hr : r < 16) : swF ts (ts.getD r "") = (r : Nat) := by
  rw [← bits16 r hr]
  unfold swF
  congr 1
  refine List.map_congr_left fun j hj => ?_
  rw [T.stands j (by simpa using hj) r hr]
end

noncomputable def sel (rows : List Int) (l : Nat) : List Nat := (List.range 16).filter fun c => litN rows c == l
/-- what is asked of the rows -/
structure RowOk (rows : List Int) (m : Nat) : Prop where
  len : rows.length = 4
  rb : ∀ k < 4, 0 ≤ rows.getD k 0 ∧ rows.getD k 0 < 16
  lit : ∀ c : Nat, c < 16 → 0 ≤ litF (c : Int) rows ∧ litF (c : Int) rows < 16
  tot : ((List.range 16).map fun l => ((sel rows l).length : Int)).sum = 16
  diag : sel rows m ≠ []
  deg : ∀ l < 16, (sel rows l).length = if ((sel rows 0).filter fun (c : Nat) => !evenF (c : Int) (l : Nat)).isEmpty then (sel rows 0).length else 0

theorem sel_rise {rows : List Int} (l : Nat) : ((sel rows l).map fun (c : Nat) => (c : Int)).Pairwise (· < ·) := by
  rw [List.pairwise_map]
  unfold sel
  refine (List.Pairwise.filter _ List.pairwise_lt_range).imp fun h => by omega
theorem sel_len {rows : List Int} (l : Nat) : (sel rows l).length ≤ 16 := by
  have := List.length_filter_le (fun c => litN rows c == l) (List.range 16)
  simpa [sel] using this
section
variable {ts : List Str} {rows : List Int} {m : Nat} (T : TxOk ts) (Rk : RowOk rows m)
include Rk
theorem RowOk.litN_lt {c : Nat} (hc : c < 16) : litN rows c < 16 := by
  have := Rk.lit c hc; unfold litN; omega
theorem sel_mem {l c : Nat} (h : c ∈ sel rows l) : c < 16 ∧ litF (c : Int) rows = (l : Nat) := by
  unfold sel at h
  rw [List.mem_filter, List.mem_range] at h
  obtain ⟨h1, h2⟩ := h
  have := Rk.lit c h1
  have h3 : litN rows c = l := by simpa using h2
  unfold litN at h3
  exact ⟨h1, by omega⟩
include T
theorem read_rows : readF ts (boardP ts rows 4) 4 = rows := by
  unfold readF
  refine List.ext_getElem (by simp [Rk.len]) fun k h1 h2 => ?_
  have hk : k < 4 := by simpa using h1
  have := Rk.rb k hk
  simp only [List.getElem_map, List.getElem_range]
  rw [T.board_get hk]
  show swF ts (ts.getD (rows.getD k 0).toNat "") = _
  rw [T.sw (by omega)]
  have e : rows.getD k 0 = rows[k] := by simp [h2]
  rw [← e]; omega

/-- what get_all tells -/
noncomputable def selT (ts : List Str) (rows : List Int) (l : Nat) : List Str := (sel rows l).map fun c => ts.getD c ""
noncomputable def toldS (ts : List Str) (rows : List Int) (l : Nat) : List Str := allF (pageL ts rows) (Txt.lower (capF (oddB l) (ts.getD l "")))
theorem told_eq {l : Nat} (hl : l < 16) : toldS ts rows l = selT ts rows l ++ if l = 0 then [ts.getD 0 ""] else [] := by
  unfold toldS allF pageL selT sel
  rw [List.filter_append, List.map_append]
  congr 1
  · unfold pageP
    rw [List.filter_map, List.map_map]
    have : (List.range 16).filter ((fun p : Str × Str => Txt.lower p.1 == Txt.lower (capF (oddB l) (ts.getD l ""))) ∘ fun c => (capF (oddB c) (ts.getD (litN rows c) ""), ts.getD c "")) = (List.range 16).filter fun c => litN rows c == l := by
      refine List.filter_congr fun c hc => ?_
      have hc' : c < 16 := by simpa using hc
      show (Txt.lower (capF (oddB c) (ts.getD (litN rows c) "")) == Txt.lower (capF (oddB l) (ts.getD l ""))) = _
      rw [T.cap _ (Rk.litN_lt hc'), T.cap _ hl, T.beq (Rk.litN_lt hc') hl]
    rw [this]; rfl
  · have e : (Txt.lower (Str.ofString "0X0") == Txt.lower (capF (oddB l) (ts.getD l ""))) = (0 == l) := by
      rw [x0_low, T.cap _ hl]
      have := T.beq (i := 0) (j := l) (by decide) hl
      rw [T.zero, x0_lowL] at this
      exact this
    rw [List.filter_cons, e]
    by_cases h : l = 0
    · subst h; simp
    · have : (0 == l) = false := beq_false_of_ne fun q => h q.symm
      rw [this, if_neg h]; simp
end
end Mine

open PySem PySem.W PyProof.Rows PySem.Calls
set_option Elab.async false
set_option maxRecDepth 100000
namespace Mine
example : (PySem.Challenge.rw_rl0110_01, hd0.heap_1) = (PySem.Challenge.rw_rl0110_01, hd0.heap_1) := by k_fill; rfl

section
variable {w : World} {A : Around} {P₀ P O X : Addr → Prop} {env : Env} {ρ ρ' : Rho} {ω ω' : Omg} {pos : Pos}
theorem at_next {s₀ s : Shared} {st : Stmt} {rest : List Stmt} {Q : Flow → Shared → Prop} {E : Value → Shared → Prop} (p : Post w A P₀ P O X env s₀ ρ ω s) (h : S1 w A env ρ ω st (.next ρ' ω'))
    (k : ∀ s₁, Post w A P₀ P O X env s₀ ρ' ω' s₁ → wpAny (model pr w) A (execs rest env) Q E s₁) : wpAny (model pr w) A (execs (st :: rest) env) Q E s := by
  obtain ⟨P', O', f, hp, ho⟩ := p.fs
  exact at_cons f h fun s₁ p₁ => k s₁ (OutOk.behind (o := .next _ _) (fl := .next) p f hp ho ⟨rfl, p₁⟩).2
end

noncomputable def sumE (ns : List Int) : Int := (pickI (ns.take 63) none none (some 2)).sum
noncomputable def sumO (ns : List Int) : Int := (pickI (ns.take 63) (some 1) none (some 2)).sum
noncomputable def numF (ns : List Int) : Int := 191 + sumE ns
noncomputable def shifts : List Nat := [0, 2, 4, 9, 28]

section
variable {w : World} {A : Around} {env : Env} {ρ : Rho} {pos : Pos} {k : Nat}
theorem ev_sumE (R : Room A k) {p p1 p2 p3 p4 : Pos} {q1 q2 : Nat} {x1 x2 : Pos} {x : Str} {xp : Pos} {ns : List Int} (hx : Ev w A env ρ (.Name x xp) (.py (.list (ns.map .int)))) (h63 : ns.length ≤ 63) (hk : env.kindOf (Str.ofString "sum") = some .globalImplicit := by rfl)
    (hs : starEach [.Subscript (.Subscript (.Name x xp) (.Slice none (some (.Constant (.int 63) q1 x1)) none p1) p2) (.Slice none none (some (.Constant (.int 2) q2 x2)) p3) p4] env = [(false, eval (.Subscript (.Subscript (.Name x xp) (.Slice none (some (.Constant (.int 63) q1 x1)) none p1) p2) (.Slice none none (some (.Constant (.int 2) q2 x2)) p3) p4) env)] := by rfl) :
    Ev w A env ρ (.Call (.Name (Str.ofString "sum") p) [.Subscript (.Subscript (.Name x xp) (.Slice none (some (.Constant (.int 63) q1 x1)) none p1) p2) (.Slice none none (some (.Constant (.int 2) q2 x2)) p3) p4] [] pos) (.py (.int (sumE ns))) := by
  have sl : sizeLine = 2 ^ 24 := rfl
  refine ev_sum R (ns := pickI (ns.take 63) none none (some 2)) (ev_eq (ev_slice (ds := (ns.take 63).map .int) (kl := none) (ku := none) (ks := some 2) (ev_eq (ev_slice (kl := none) (ku := some 63) (ks := none) hx trivial ev_int trivial (by decide) (by rw [List.length_map]; omega)) ?_) trivial trivial ev_int (by decide) (by rw [List.length_map, List.length_take]; omega)) (by rw [pickD_ints])) hk hs
  have := pickD_upto (ns.map .int) 63
  rw [List.map_take]
  exact congrArg (fun x => Dt.py (.list x)) this
theorem ev_sumO (R : Room A k) {p p1 p2 p3 p4 : Pos} {q1 q2 q3 : Nat} {x1 x2 x3 : Pos} {x : Str} {xp : Pos} {ns : List Int} (hx : Ev w A env ρ (.Name x xp) (.py (.list (ns.map .int)))) (h63 : ns.length ≤ 63) (hk : env.kindOf (Str.ofString "sum") = some .globalImplicit := by rfl)
    (hs : starEach [.Subscript (.Subscript (.Name x xp) (.Slice none (some (.Constant (.int 63) q1 x1)) none p1) p2) (.Slice (some (.Constant (.int 1) q3 x3)) none (some (.Constant (.int 2) q2 x2)) p3) p4] env = [(false, eval (.Subscript (.Subscript (.Name x xp) (.Slice none (some (.Constant (.int 63) q1 x1)) none p1) p2) (.Slice (some (.Constant (.int 1) q3 x3)) none (some (.Constant (.int 2) q2 x2)) p3) p4) env)] := by rfl) :
    Ev w A env ρ (.Call (.Name (Str.ofString "sum") p) [.Subscript (.Subscript (.Name x xp) (.Slice none (some (.Constant (.int 63) q1 x1)) none p1) p2) (.Slice (some (.Constant (.int 1) q3 x3)) none (some (.Constant (.int 2) q2 x2)) p3) p4] [] pos) (.py (.int (sumO ns))) := by
  have sl : sizeLine = 2 ^ 24 := rfl
  refine ev_sum R (ns := pickI (ns.take 63) (some 1) none (some 2)) (ev_eq (ev_slice (ds := (ns.take 63).map .int) (kl := some 1) (ku := none) (ks := some 2) (ev_eq (ev_slice (kl := none) (ku := some 63) (ks := none) hx trivial ev_int trivial (by decide) (by rw [List.length_map]; omega)) ?_) ev_int trivial ev_int (by decide) (by rw [List.length_map, List.length_take]; omega)) (by rw [pickD_ints])) hk hs
  have := pickD_upto (ns.map .int) 63
  rw [List.map_take]
  exact congrArg (fun x => Dt.py (.list x)) this
end

theorem shift_at {q : Nat} (hq : q < 5) : ([.int 0, .int 2, .int 4, .int 9, .int 28] : List PyData)[((q : Nat) : Int).toNat]? = some (.int (shifts.getD q 0 : Nat)) := by
  match q, hq with
  | 0, _ => rfl
  | 1, _ => rfl
  | 2, _ => rfl
  | 3, _ => rfl
  | 4, _ => rfl
theorem shift_small {q : Nat} (hq : q < 5) : shifts.getD q 0 ≤ 28 ∧ okS (shifts.getD q 0) := by
  match q, hq with
  | 0, _ => exact ⟨by decide, by unfold okS shifts; decide⟩
  | 1, _ => exact ⟨by decide, by unfold okS shifts; decide⟩
  | 2, _ => exact ⟨by decide, by unfold okS shifts; decide⟩
  | 3, _ => exact ⟨by decide, by unfold okS shifts; decide⟩
  | 4, _ => exact ⟨by decide, by unfold okS shifts; decide⟩
theorem bits_l : ∀ l < 16, Builtin.Int.intBits ((l : Nat) : Int) ≤ 64 := by decide +kernel
end Mine

open PySem PySem.W PyProof.Rows PySem.Calls
set_option Elab.async false
set_option maxRecDepth 100000
namespace Mine
example : (PySem.Challenge.rw_rl0110_01, hd0.heap_1) = (PySem.Challenge.rw_rl0110_01, hd0.heap_1) := by k_fill; rfl
section
variable {w : World} {A : Around} {P₀ P O X : Addr → Prop} {env : Env} {ρ ρ' : Rho} {ω ω' : Omg} {pos : Pos}
/-- _law_refused(page, name), the name being refused -/
theorem evx_refused {x : Str} {p : Pos} {e₁ e₂ : Expr} {ps : List (Str × Str)} {n : Str} {s : Shared} {Q E : Value → Shared → Prop} {base : Heap} {outer : List Env} (R : Room A 3) (h₁ : Ev w A env ρ e₁ (.hdr ps)) (h₂ : Ev w A env ρ e₂ (.py (.str n)))
    (hn : n.length ≤ 100000) (hl : (Txt.lower n).length ≤ 1000000) (hc : hitB nameCode (Txt.lower n) = true) (ok : Ok w A P env ρ s.heap) (Bb : Base w base) (bl : Below A base outer s.heap)
    (hQ : ∀ h' tk, base.StaysIn h' → s.heap.UpToSlots h' → Q (.bool true) { s with heap := h', toks := tk })
    (hg : nsIn (hd0.heap_1 w.params) mainGlobals x = some (some (.ref 242)))
    (hk : env.kindOf x = some .globalImplicit := by rfl) (hdb : (x == ("__debug__" : Str)) = false := by decide)
    (hb : backTo pos (starEach [e₁, e₂] env) = [(false, eval e₁ env), (false, eval e₂ env)] := by rfl) (hb0 : backTo pos (starEach [e₁, e₂] env) = starEach [e₁, e₂] env := by rfl) : wpAny (model pr w) A (eval (.Call (.Name x p) [e₁, e₂] [] pos) env) Q E s := by
  refine PyProof.Rows.Call_Name hb0 (gname ok hk hg ?_ hdb)
  obtain ⟨o', fd, ho', hdt⟩ : ∃ o fd, (hd0.heap_1 w.params).lookup 242 = some o ∧ o.data = .func fd := ⟨_, _, by k_dflt k_is, rfl⟩
  refine callWith_function (o := o') (fd := fd) ?_
  rw [← hb0, hb]
  refine Calls.evalArgs_plain (Calls.spliced_cons (h₁ P s _ _ ok fun v₁ s₁ k₁ r₁ => Calls.spliced_cons (h₂ P s₁ _ _ (ok.keeps (Keeps.hp k₁)) fun v₂ s₂ k₂ r₂ => Calls.spliced_nil ?_)))
  have k' := Keeps.tr k₁ k₂
  refine ⟨⟨(ok.base.keeps (Keeps.hp k')).K _ _ ho', hdt⟩, ?_⟩
  refine refused_fn (P := Up P s.heap) (ps := ps) hn hl hc A s₂ Q E [v₁, v₂] base outer R Bb (ok.base.keeps (Keeps.hp k')) (below_keeps (Keeps.hp k') bl) (.cons (r₁.mono (Keeps.hp k₂) fun _ _ _ p => p) (.cons (r₂.mono (fun _ _ e => e) fun a _ _ p => up_mono (Keeps.hp k₁) a p) .nil)) fun h' tk st ff up => ?_
  obtain ⟨h2, t2, e2, q2⟩ := k'
  have := hQ h' tk st ((Heap.UpToSlots.of_keeps (by intro b o e; rw [e2]; exact q2 b o e)).trans up)
  rw [e2]; exact this

/-- what lies behind a call that caught -/
theorem Fs.hidden {h : Heap} (f : Fs w A P₀ P O X env ρ none h) (hst : A.frames = some [env]) (hfr : env.frame = some env.locals) : Base w (hideAll h [env.locals]) ∧ Below A (hideAll h [env.locals]) [env] h := by
  obtain ⟨g, base, outer, Bg, st, kg, e, ff, n⟩ := f.gr
  rw [hst] at e; cases e
  refine ⟨Bg.keeps fun b o q => hideAll_get _ (kg b o q) fun hm => ?_, hst, fun b o q => of_hideAll _ q, funFrames_hide ff fun e he a ha => ?_⟩
  · rw [List.mem_singleton.mp hm, n _ (.inl rfl)] at q; cases q
  · rw [List.mem_singleton.mp he] at ha
    rw [hfr] at ha; cases ha; simp

/-- if a or not _law_refused(..): nothing is left for the body -/
theorem s_refused {s₀ s : Shared} {t : Expr} {x : Str} {p po pn pc : Pos} {e₁ e₂ : Expr} {ps : List (Str × Str)} {n : Str} {body rest : List Stmt} {Q : Flow → Shared → Prop} {E : Value → Shared → Prop} (hst : A.frames = some [env]) (hfr : env.frame = some env.locals) (ps₀ : Post w A P₀ P O X env s₀ ρ none s)
    (R : Room A 3) (ht : Tv w A env ρ t false) (h₁ : Ev w A env ρ e₁ (.hdr ps)) (h₂ : Ev w A env ρ e₂ (.py (.str n)))
    (hn : n.length ≤ 100000) (hl : (Txt.lower n).length ≤ 1000000) (hc : hitB nameCode (Txt.lower n) = true)
    (hg : nsIn (hd0.heap_1 w.params) mainGlobals x = some (some (.ref 242)))
    (k : ∀ s₁, Post w A P₀ P O X env s₀ ρ none s₁ → wpAny (model pr w) A (execs rest env) Q E s₁)
    (hk : env.kindOf x = some .globalImplicit := by rfl) (hdb : (x == ("__debug__" : Str)) = false := by decide)
    (hb : backTo pc (starEach [e₁, e₂] env) = [(false, eval e₁ env), (false, eval e₂ env)] := by rfl) (hb0 : backTo pc (starEach [e₁, e₂] env) = starEach [e₁, e₂] env := by rfl)
    (hi : ∀ whole, isTrue (.Call (.Name x p) [e₁, e₂] [] pc) env whole = (do let v ← whole; standAt pc; holding [v] (truthy v)) := by intro _; rfl) :
    wpAny (model pr w) A (execs (.If (.BoolOp .Or [t, .UnaryOp .Not (.Call (.Name x p) [e₁, e₂] [] pc) pn] po) body [] pos :: rest) env) Q E s := by
  obtain ⟨P', O', f, hp, ho⟩ := ps₀.fs
  obtain ⟨m, hm⟩ := f.ns
  refine wpAny_execs_cons (wpAny_If (isTrue_or (ht P' s _ _ f.ok fun s₁ k₁ => ?_)))
  have f₁ := f.keeps (Keeps.hp k₁)
  obtain ⟨Bb, bl⟩ := f₁.hidden hst hfr
  show wpAny _ _ (isTrue (.BoolOp .Or [.UnaryOp .Not (.Call (.Name x p) [e₁, e₂] [] pc) pn] po) env _) _ _ _
  refine isTrue_or (isTrue_not (isTrue_plain (evx_refused (P := P') R h₁ h₂ hn hl hc f₁.ok Bb bl (fun h' tk st up => ?_) hg hk hdb hb hb0) (hi _)))
  refine wpAny_truthy_bool ?_
  show wpAny _ _ (isTrue (.BoolOp .Or [] po) env _) _ _ _
  refine isTrue_or_nil ?_
  show wpAny _ _ (execs [] env) _ _ _
  refine wpAny_execs_nil ?_
  have keep : ∀ b o, b ≠ env.locals → s₁.heap.get? b = some o → h'.get? b = some o := fun b o hb e => st b o (hideAll_get _ e (by simpa using hb))
  have hm₁ := hm.keeps (Keeps.hp k₁)
  have f₂ := f₁.touch hm₁ (up.ns hm₁) keep
  refine k _ ⟨⟨P', O', f₂, hp, ho⟩, ?_, fun b q => ?_⟩
  · obtain ⟨ha, ta, ea, qa⟩ := ps₀.mv
    obtain ⟨hb', tb, eb, qb⟩ := k₁
    refine ⟨h', tk, by rw [eb, ea], fun b o n1 n2 n3 e => keep b o n1 ?_⟩
    have := qa b o n1 n2 n3 e
    rw [eb]; rw [ea] at qb; exact qb b o (by simpa using this)
  · show h'.get? b ≠ none
    have q1 := ps₀.alive b q
    by_cases e : b = env.locals
    · obtain ⟨o', _, _, e1, _⟩ := up.ns hm₁; rw [e, e1]; exact fun z => nomatch z
    · cases e2 : s.heap.get? b with
      | none => exact absurd e2 q1
      | some o => rw [keep b o e (Keeps.hp k₁ _ _ e2)]; exact fun z => nomatch z
end
end Mine

open PySem PySem.W PyProof.Rows PySem.Calls
set_option Elab.async false
set_option maxRecDepth 100000
namespace Mine
example : (PySem.Challenge.rw_rl0110_01, hd0.heap_1) = (PySem.Challenge.rw_rl0110_01, hd0.heap_1) := by k_fill; rfl

theorem keys_eq {ts : List Str} {rows : List Int} : (boardP ts rows 4).map (·.1) = (List.range 4).map fun k => ts.getD (2 ^ k) "" := by
  simp [boardP]
theorem rows_len {n : Int} : (rowsF n).length = 4 := by simp [rowsF]

theorem filt16 : (List.range 16).filter (fun _ => true) = List.range 16 := by decide
noncomputable def selI (rows : List Int) (l : Nat) : List Int := (sel rows l).map fun (c : Nat) => (c : Int)
theorem choices_src {ts : List Str} {rows : List Int} {m : Nat} (T : TxOk ts) (Rk : RowOk rows m) : [PyData.list ((selT ts rows 0).map .str)] ++ ((List.range 16).map fun l => PyData.list ((toldS ts rows l).map .str)).drop 1 = (List.range 16).map fun l => PyData.list ((selT ts rows l).map .str) := by
  have e : List.range 16 = 0 :: (List.range 15).map Nat.succ := List.range_succ_eq_map
  rw [e, List.map_cons, List.map_cons, List.drop_succ_cons, List.drop_zero, List.singleton_append, List.map_map, List.map_map]
  congr 1
  refine List.map_congr_left fun l hl => ?_
  have hl' : l < 15 := by simpa using hl
  show PyData.list ((toldS ts rows (l + 1)).map .str) = PyData.list ((selT ts rows (l + 1)).map .str)
  rw [told_eq T Rk (by omega), if_neg (by omega), List.append_nil]
set_option maxHeartbeats 16000000 in
theorem law_fn {w : World} {A : Around} {s : Shared} {R : Result → Shared → Prop} {ns : List Int} {q m : Nat} {v : Value} (Rm : Room A 6) (B : Base w s.heap) (hb : A.frames = some []) (hr : Rd (fun _ => True) s.heap v (.list (ns.map .int))) (h63 : ns.length ≤ 63)
    (hq : q < 5) (hqe : (sumO ns).fmod 5 = q) (hm : m < 16) (hme : (numF ns).fmod 16 = m) (T : TxOk (textsL (shifts.getD q 0))) (hpf : ∀ l : Nat, l < 16 → Fn w 1 187 [.py (.int ((l : Int) * 2 ^ (shifts.getD q 0)))] (.py (.str ((textsL (shifts.getD q 0)).getD l ""))))
    (Rk : RowOk (rowsF (numF ns)) m)
    (hQ : ∀ s', (∃ h tk, s' = { s with heap := h, toks := tk } ∧ KeepsH s.heap h) → R (.ok (.ret (.bool true))) s') : codeAny (model pr w) A (.call (.ref 252) ⟨[v], []⟩) R s := by
  have bl0 : Below A s.heap [] s.heap := ⟨hb, fun _ _ e => e, trivial⟩
  obtain ⟨hsm, hok⟩ := shift_small hq
  generalize hsh : shifts.getD q 0 = sh at *
  generalize htsE : textsL sh = ts at *
  generalize hnum : numF ns = num at *
  generalize hrows : rowsF num = rows at *
  have sl : sizeLine = 2 ^ 24 := rfl
  refine fn_enterR (k := 5) (P := fun _ => True) (ρ := [(Str.ofString "script", .py (.list (ns.map .int)))]) Rm B bl0 (by k_dflt k_is) (by k_dflt k_is) (BindsTo.of_eq rfl) (by rfl) (by exact (by decide : [Str.ofString "script"].Nodup)) (lookup1 (x := Str.ofString "script") (.py hr)) (by rfl) (by rfl) (by rfl) (fun L s₁ P' R' fs kk bb nLC => ?_)
  refine wpAny_noRaise ?_
  revert R' fs bb
  generalize A.deeper _ = A'
  intro R' fs bb
  have R1 : Room A' 1 := R'.le (by omega)
  have R2 : Room A' 2 := R'.le (by omega)
  have R3 : Room A' 3 := R'.le (by omega)
  have R4 : Room A' 4 := R'.le (by omega)
  refine at_next (Post.rf fs) (s_assign (d := .py (.int num)) (ev_eq (ev_add ev_int (ev_sumE R' (ev_name rfl) h63)) (by rw [← hnum]; rfl))) fun s₂ p₂ => ?_
  refine at_next p₂ (s_assign (d := .py (.int (sh : Nat))) (ev_item (ds := [.int 0, .int 2, .int 4, .int 9, .int 28]) (ev_list (evs_cons ev_int (evs_cons ev_int (evs_cons ev_int (evs_cons ev_int (evs_cons ev_int evs_nil))))) (by decide)) (ev_mod (ev_sumO R' (ev_name rfl) h63) ev_int (by decide)) (by rw [hqe]; omega) (by rw [hqe]; omega) (by rw [hqe, ← hsh]; exact shift_at hq))) fun s₃ p₃ => ?_
  refine at_next p₃ (s_assign (d := .py (.list (ts.map .str))) (ev_eq (ev_comp (α := Nat) (enc := fun i => .int i) (its := List.range 16) (p := fun _ => true) (g := fun l => .str (ts.getD l "")) (src_range1 R'.handled ev_int (by decide)) (fun C a ha => tests_nil) (fun C l hl _ => ?_)) ?_)) fun s₄ p₄ => ?_
  · have hl' : l < 16 := by simpa using hl
    exact ev_call R1 (evs_cons (ev_mul (ev_name rfl) (ev_pow ev_int (ev_name rfl) (by omega) (pow2_fits (by omega))) (IntMulOk.of_left (bits_l l hl'))) evs_nil) (by have := hpf l hl'; simpa using this) (by k_dflt k_is) (by k_dflt k_is)
  · rw [List.filter_eq_self.mpr (by simp)]
    refine congrArg (fun x => Dt.py (.list x)) ?_
    rw [show (List.range 16).map (fun l => PyData.str (ts.getD l "")) = ((List.range 16).map (fun i => ts.getD i "")).map PyData.str from by rw [List.map_map]; rfl, T.list]
  refine at_next p₄ (s_if (b := false) (tv_cmp (ev_name rfl) (ev_call R1 (evs_cons (ev_name rfl) evs_nil) (by have := words_fn (w := w) hok; rw [htsE] at this; exact this) (by k_dflt k_is) (by k_dflt k_is)) (cmp_ne_strs R' ts T.okAll)) (fun h => by cases h) (fun _ => sx_nil)) fun s₅ p₅ => ?_
  refine at_next p₅ (s_assign (d := .py (.list (rows.map .int))) (ev_call R1 (evs_cons (ev_name rfl) evs_nil) (by have := rows_fn (w := w) (n := num); rw [hrows] at this; exact this) (by k_dflt k_is) (by k_dflt k_is))) fun s₆ p₆ => ?_
  refine at_next p₆ (s_assign (d := .hdr (boardP ts rows 4)) (ev_call R4 (evs_cons (ev_name rfl) (evs_cons (ev_name rfl) evs_nil)) (board_fn T.len Rk.len Rk.rb (fun k hk => ?_) (fun k hk => T.board_new hk)) (by k_dflt k_is) (by k_dflt k_is))) fun s₇ p₇ => ?_
  · have := Rk.rb k hk
    exact T.pair false (pow_lt16 k hk) (by omega)
  have nm : ∀ p ∈ boardP ts rows 4, p.1.length ≤ 100000 := fun p hp => by
    simp only [boardP, List.mem_map, List.mem_range] at hp
    obtain ⟨k, hk, rfl⟩ := hp
    have := T.size _ (pow_lt16 k hk)
    show (ts.getD (2 ^ k) "").length ≤ _
    omega
  refine at_next p₇ (s_assign (d := .py (.list (rows.map .int))) (ev_call R4 (evs_cons (ev_name rfl) (evs_cons (ev_name rfl) evs_nil)) (by
    have := read_fn (w := w) (ps := boardP ts rows 4) (rs := fun k => ts.getD (rows.getD k 0).toNat "") T.len nm (fun k hk => by
      have h1 := T.size _ (pow_lt16 k hk)
      have h2 := T.low _ (pow_lt16 k hk)
      have h3 := T.idem _ (pow_lt16 k hk)
      have h4 := Rk.rb k hk
      have h5 := T.size (rows.getD k 0).toNat (by omega)
      exact ⟨h1, by omega, by rw [h3]; omega, by rw [h3]; exact T.hitL _ (pow_lt16 k hk), T.board_get hk, by omega, T.stOk k hk⟩)
    rw [read_rows T Rk] at this; exact this) (by k_dflt k_is) (by k_dflt k_is))) fun s₈ p₈ => ?_
  refine at_next p₈ (s_if (b := false) (tv_eq (tv_or (tv_cmp (ev_name rfl) (ev_name rfl) (cmp_ne_ints R' rows)) fun _ => tv_or (tv_cmp (ev_hmeth0 R1 (ev_name rfl) (keys_fn (by simp [boardP])) (by k_dflt k_is) (by k_dflt k_is) (by k_dflt k_is)) (ev_eq (ev_comp (α := Nat) (enc := fun i => .int i) (its := List.range 4) (p := fun _ => true) (g := fun k => .str (ts.getD (2 ^ k) "")) (src_range1 R'.handled ev_int (by decide)) (fun C a ha => tests_nil) (fun C k hk _ => ?_)) ?_) (cmp_ne_strs R' ((boardP ts rows 4).map (·.1)) ?_)) fun _ => tv_or_nil) rfl) (fun h => by cases h) (fun _ => sx_nil)) fun s₉ p₉ => ?_
  · have hk' : k < 4 := by simpa using hk
    exact ev_item (ev_name rfl) (ev_pow ev_int (ev_name rfl) (by omega) (pow2_fits (by omega))) (pow_nnR k) (pow_smR k hk') (strs_getR ts (pow_toNatR k) (by rw [T.len]; exact pow_lt16R k hk'))
  · rw [List.filter_eq_self.mpr (by simp), keys_eq, List.map_map]; rfl
  · rw [keys_eq]
    intro x hx
    obtain ⟨k, hk, rfl⟩ := List.mem_map.mp hx
    exact T.ok _ (pow_lt16 k (by simpa using hk))
  refine at_next p₉ (s_assign (d := .hdr (pageL ts rows)) (ev_call R3 (evs_cons (ev_name rfl) (evs_cons (ev_name rfl) evs_nil)) (page_fn T.len Rk.len Rk.lit T.size (fun c hc => T.pair _ (Rk.litN_lt hc) hc) (T.pair0 (by decide))) (by k_dflt k_is) (by k_dflt k_is))) fun s₁₀ p₁₀ => ?_
  have nmP : ∀ p ∈ pageL ts rows, p.1.length ≤ 100000 := fun p hp => by
    rcases List.mem_append.mp hp with hp | hp
    · simp only [pageP, List.mem_map, List.mem_range] at hp
      obtain ⟨c, hc, rfl⟩ := hp
      exact (T.pair (oddB c) (Rk.litN_lt hc) hc).len
    · rw [List.mem_singleton.mp hp]
      show (Str.ofString "0X0").length ≤ _
      rw [x0_len]; omega
  have lnP : (pageL ts rows).length ≤ 1000 := by simp [pageL, pageP]
  refine at_next p₁₀ (s_comp (α := Nat) (enc := fun i => .int i) (its := List.range 16) (p := fun _ => true) (g := fun l => .list ((toldS ts rows l).map .str)) (src_range1 R'.handled ev_int (by decide)) (fun C a ha => tests_nil) (fun C l hl _ => ?_)) fun s₁₁ p₁₁ => ?_
  · have hl' : l < 16 := by simpa using hl
    have pk := T.pair (oddB l) hl' hl'
    refine ev_hmeth R2 (ev_name rfl) (evs_cons (ev_ifexp (b := oddB l) (d := .py (.str (capF (oddB l) (ts.getD l "")))) (tv_eq (tv_cmp (ev_mod (ev_name rfl) ev_int (by decide)) ev_int cmp_eqi) rfl) (fun hb => ?_) (fun hb => ?_)) evs_nil) (getall_fn pk.len pk.low pk.hitL nmP lnP) (by k_dflt k_is) (by k_dflt k_is) (by k_dflt k_is)
    · rw [hb]
      exact ev_lower (ev_item (ev_name rfl) (ev_name rfl) (by omega) (by omega) (strs_getR ts (by simp) (by rw [T.len]; exact hl'))) (by have := T.size l hl'; omega)
    · rw [hb]
      exact ev_item (ev_name rfl) (ev_name rfl) (by omega) (by omega) (strs_getR ts (by simp) (by rw [T.len]; exact hl'))
  rw [filt16] at p₁₁
  have told0 : toldS ts rows 0 = selT ts rows 0 ++ [ts.getD 0 ""] := told_eq T Rk (by decide)
  refine s_refused bb.stack rfl p₁₁ R3 (tv_cmp (ev_eq (ev_slice (ds := (toldS ts rows 0).map .str) (kl := some (-1)) (ku := none) (ks := none) (ev_item (ev_name rfl) ev_int (by decide) (by decide) rfl) (ev_neg ev_int) trivial trivial (by decide) ?_) ?_) (ev_list (ds := [.str "0x0"]) (evs_cons ev_str evs_nil) (by decide)) (cmp_ne_strs R' [Str.ofString "0x0"] (fun x hx => by rw [List.mem_singleton.mp hx]; decide +kernel))) (ev_name rfl)
    (ev_cat (ev_item (ev_name rfl) (ev_mod (ev_name rfl) ev_int (by decide)) (by rw [hme]; omega) (by rw [hme]; omega) (strs_getR ts (k := m) (by rw [hme]; simp) (by rw [T.len]; exact hm))) (ev_chr (i := 10) ev_int (by decide)) ?_) ?_ ?_ ?_ (by k_dflt k_is) fun s₁₂ p₁₂ => ?_
  · rw [told0]; have := sel_len (rows := rows) 0; simp [selT]; omega
  · rw [told0, List.map_append, List.map_singleton, pickD_last, T.zero]; rfl
  · have := T.size m hm
    show _ + 1 ≤ _; omega
  · have := T.size m hm
    rw [slen]
    show _ + 1 ≤ _; omega
  · have := T.badlen m hm; exact Nat.le_trans this (by decide)
  · exact T.bad m hm
  refine at_next p₁₂ (s_comp (α := Nat) (enc := fun l => .list ((selT ts rows l).map .str)) (its := List.range 16) (p := fun _ => true) (g := fun l => .list ((selI rows l).map .int)) (src_list R'.handled (ev_eq (ev_catl (ev_list (ds := [.list ((selT ts rows 0).map .str)]) (evs_cons (ev_eq (ev_slice (ds := (toldS ts rows 0).map .str) (kl := none) (ku := some (-1)) (ks := none) (ev_item (ev_name rfl) ev_int (by decide) (by decide) rfl) trivial (ev_neg ev_int) trivial (by decide) ?_) ?_) evs_nil) (by show 1 ≤ sizeLine; decide)) (ev_slice (kl := some 1) (ku := none) (ks := none) (ev_name rfl) ev_int trivial trivial (by decide) ?_) ?_) ?_)) (fun C a ha => tests_nil) (fun C l hl _ => ?_)) fun s₁₃ p₁₃ => ?_
  · rw [told0]; have := sel_len (rows := rows) 0; simp [selT]; omega
  · rw [told0, List.map_append, List.map_singleton, pickD_init]
  · simp; omega
  · have := pickD_from ((List.range 16).map fun l => PyData.list ((toldS ts rows l).map .str)) 1 (by simp)
    rw [show (some (1 : Int)) = some ((1 : Nat) : Int) from rfl, this]; simp; omega
  · have := pickD_from ((List.range 16).map fun l => PyData.list ((toldS ts rows l).map .str)) 1 (by simp)
    rw [show (some (1 : Int)) = some ((1 : Nat) : Int) from rfl, this]
    refine congrArg (fun x => Dt.py (.list x)) ?_
    exact choices_src T Rk
  · have hl' : l < 16 := by simpa using hl
    have hsl := sel_len (rows := rows) l
    refine ev_eq (ev_comp (α := Nat) (enc := fun c => .str (ts.getD c "")) (its := sel rows l) (p := fun _ => true) (g := fun c => .int (c : Nat)) (src_list R'.handled (ev_eq (ev_name rfl) (by rw [selT, List.map_map]; rfl))) (fun C a ha => tests_nil) (fun C c hc _ => ?_) (by omega)) ?_
    · have hc' := (sel_mem Rk hc).1
      have hlt : c < ts.length := by rw [T.len]; exact hc'
      refine ev_index (ys := ts) (j := c) (ev_name rfl) (ev_name rfl) hlt (by rw [T.len]; decide) (by simp [hlt]) fun m' hm' e => ?_
      have e1 : ts[m'] = ts.getD m' "" := by simp [show m' < ts.length by omega]
      rw [e1] at e
      exact T.ne (by omega) hc' (by omega) e
    · rw [List.filter_eq_self.mpr (by simp), selI, List.map_map]; rfl
  rw [filt16] at p₁₃
  refine at_next (ρ' := [(Str.ofString "choices", .py (.list ((List.range 16).map fun l => PyData.list ((selI rows l).map .int)))), (Str.ofString "rows", .py (.list (rows.map .int))), (Str.ofString "number", .py (.int num))]) (ω' := none) p₁₃ (s_for_gen (α := Nat) (enc := fun i => .int i) (its := List.range 16) (fun _ => [(Str.ofString "choices", .py (.list ((List.range 16).map fun l => PyData.list ((selI rows l).map .int)))), (Str.ofString "rows", .py (.list (rows.map .int))), (Str.ofString "number", .py (.int num))]) (fun _ => none) 16 (src_range1 R'.handled ev_int (by decide)) (sub_of ⟨rfl, rfl, rfl, trivial⟩) rfl (fun l a hl ha => ?_) (by decide) (.all rfl sx_nil) (hω := fun _ _ _ e => by cases e)) fun s₁₄ p₁₄ => ?_
  · obtain ⟨rfl, hl16⟩ : a = l ∧ l < 16 := range_get ha
    have hsl := sel_len (rows := rows) a
    have hs0 := sel_len (rows := rows) 0
    have at_l : ((List.range 16).map fun l => PyData.list ((selI rows l).map .int))[((a : Nat) : Int).toNat]? = some (.list ((selI rows a).map .int)) := by simp [hl16]
    have at_0 : ((List.range 16).map fun l => PyData.list ((selI rows l).map .int))[(0 : Int).toNat]? = some (.list ((selI rows 0).map .int)) := by simp
    refine ⟨_, sx_cons (s_if (b := false) (tv_cmp (ev_item (ev_name rfl) (ev_name rfl) (by omega) (by omega) at_l) (ev_sorted_set R'.handled (ev_item (ev_name rfl) (ev_name rfl) (by omega) (by omega) at_l) (by simp [selI]; omega) (fun x hx => ?_) (sel_rise a)) (cmp_ne_ints R' (selI rows a))) (fun h => by cases h) (fun _ => sx_nil))
      (sx_cons (s_if (b := false) (tv_cmp (ev_eq (ev_comp (α := Nat) (enc := fun c => .int (c : Nat)) (its := sel rows a) (p := fun _ => false) (g := fun c => .int (c : Nat)) (src_list R'.handled (ev_eq (ev_item (ev_name rfl) (ev_name rfl) (by omega) (by omega) at_l) (by rw [selI, List.map_map]; rfl))) (fun C c hc => tests_one (tv_eq (tv_cmp (ev_call R1 (evs_cons (ev_name rfl) (evs_cons (ev_name rfl) evs_nil)) (lit_fn (by omega) (by have := (sel_mem Rk hc).1; omega) Rk.len) (by k_dflt k_is) (by k_dflt k_is)) (ev_name rfl) cmp_nei) ?_)) (fun C c hc h => by cases h) (by omega)) (d' := .py (.list (([] : List Int).map .int))) (by rw [filter_ff]; rfl)) (ev_list (ds := []) evs_nil (by decide)) (cmp_ne_nil R' [])) (fun h => by cases h) (fun _ => sx_nil))
      (sx_cons (s_comp (α := Nat) (enc := fun c => .int (c : Nat)) (its := sel rows 0) (p := fun c => !evenF (c : Nat) (a : Nat)) (g := fun c => .int (c : Nat)) (src_list R'.handled (ev_eq (ev_item (ev_name rfl) ev_int (by decide) (by decide) at_0) (by rw [selI, List.map_map]; rfl))) (fun C c hc => tests_one (tv_eq (tv_not (tv_plain (d := .bool (evenF (c : Nat) (a : Nat))) (ev_call R1 (evs_cons (ev_name rfl) (evs_cons (ev_name rfl) evs_nil)) even_fn (by k_dflt k_is) (by k_dflt k_is)) trivial)) rfl)) (fun C c hc _ => ev_name rfl) (by omega))
      (sx_cons (s_if (b := false) (tv_eq (tv_cmp (ev_lenl (ev_item (ev_name rfl) (ev_name rfl) (by omega) (by omega) at_l) (by simp [selI]; omega)) (ev_ifexp (b := ((sel rows 0).filter fun (c : Nat) => !evenF (c : Int) (a : Nat)).isEmpty) (d := .py (.int (if ((sel rows 0).filter fun (c : Nat) => !evenF (c : Int) (a : Nat)).isEmpty then ((sel rows 0).length : Int) else 0))) (tv_eq (tv_cmp (ev_eq (ev_name rfl) (d' := .py (.list ((((sel rows 0).filter fun (c : Nat) => !evenF (c : Int) (a : Nat)).map fun (c : Nat) => (c : Int)).map .int))) (by rw [List.map_map]; rfl)) (ev_list (ds := []) evs_nil (by decide)) (cmp_eq_nil R' _)) (by simp)) (fun hb => ?_) (fun hb => ?_)) cmp_nei) ?_) (fun h => by cases h) (fun _ => sx_nil)) sx_nil))), sub_of ⟨rfl, rfl, rfl, trivial⟩⟩
    · obtain ⟨c, hc, rfl⟩ := List.mem_map.mp hx
      have := (sel_mem Rk hc).1; omega
    · rw [(sel_mem Rk hc).2]; simp
    · rw [if_pos hb]
      exact ev_eq (ev_lenl (ev_item (ev_name rfl) ev_int (by decide) (by decide) at_0) (by simp [selI]; omega)) (by simp [selI])
    · rw [hb]; exact ev_int
    · have := Rk.deg a hl16
      simp only [selI, List.length_map]
      rw [this]
      split <;> simp
  obtain ⟨P', O', f, hp, ho⟩ := p₁₄.fs
  refine wpAny_execs_cons (s_return (d := .py (.bool true)) (ev_and_true (ev_eq (ev_cmp (ev_sum R' (ns := (List.range 16).map fun l => ((sel rows l).length : Int)) (ev_eq (ev_comp (α := Nat) (enc := fun l => .list ((selI rows l).map .int)) (its := List.range 16) (p := fun _ => true) (g := fun l => .int ((sel rows l).length : Nat)) (src_list R'.handled (ev_name rfl)) (fun C a ha => tests_nil) (fun C l hl _ => ev_eq (ev_lenl (ev_name rfl) (by have := sel_len (rows := rows) l; simp [selI]; omega)) (by simp [selI]))) (by rw [filt16, List.map_map]; rfl))) ev_int cmp_eqi) (by rw [Rk.tot]; rfl))
    (ev_eq (ev_cmp (ev_item (d := .list ((selI rows m).map .int)) (ev_name rfl) (ev_mod (ev_name rfl) ev_int (by decide)) (by rw [hme]; omega) (by rw [hme]; omega) (by rw [hme]; simp [hm])) (ev_list (ds := []) evs_nil (by decide)) (cmp_ne_nil R' (selI rows m))) (by have := Rk.diag; simp [selI, this]))) _ _ _ _ s₁₄ _ _ f fun fl s' y => ?_)
  obtain ⟨v', rfl, rv, mv⟩ := y
  cases rv
  rename_i rv
  cases rv
  obtain ⟨ha, ta, e1, q1⟩ := kk
  obtain ⟨hb', tb, e2, q2⟩ := p₁₄.mv
  obtain ⟨hc', tc, e3, q3⟩ := mv
  refine hQ s' ⟨hc', tc, by rw [e3, e2, e1], fun b o e => ?_⟩
  have h1 : s₁.heap.get? b = some o := by rw [e1]; exact q1 b o e
  have h2 : s₁₄.heap.get? b = some o := by rw [e2]; exact q2 b o (nLC b o e).1 (nLC b o e).2 (fun z => z) h1
  exact q3 b o (nLC b o e).1 (nLC b o e).2 (fun z => ho b o h1 z) h2
end Mine

open PySem PySem.W PyProof.Rows PySem.Calls
set_option Elab.async false
set_option maxRecDepth 100000
namespace Mine

theorem linkD_any (n : Int) (f : PyData → Bool) : (linkD n).any f = (List.range 10).any fun p => bitI n p && f (pairsD.getD p .none) := by
  unfold linkD
  rw [List.any_map, List.any_filter]; rfl
noncomputable def idxs : List Nat := [0, 4, 5, 6, 4, 1, 7, 8, 5, 7, 2, 9, 6, 8, 9, 3]
noncomputable def idx (k j : Nat) : Nat := idxs.getD (4 * k + j) 0
theorem idx_lt : ∀ k < 4, ∀ j < 4, idx k j < 10 := by decide +kernel
theorem pair_ix : ∀ k < 4, ∀ j < 4, ∀ p < 10, (PyData.eqv (pairsD.getD p .none) (pairD j k) || PyData.eqv (pairsD.getD p .none) (pairD k j)) = (p == idx k j) := by decide +kernel
theorem rowB_bit (n : Int) {k j : Nat} (hk : k < 4) (hj : j < 4) : rowB n k j = bitI n (idx k j) := by
  unfold rowB
  rw [linkD_any, linkD_any]
  have hi := idx_lt k hk j hj
  have key := pair_ix k hk j hj
  rw [Bool.eq_iff_iff, Bool.or_eq_true, List.any_eq_true, List.any_eq_true]
  constructor
  · rintro (⟨p, hp, e⟩ | ⟨p, hp, e⟩)
    · have hp' : p < 10 := by simpa using hp
      rw [Bool.and_eq_true] at e
      have := key p hp'
      rw [e.2, Bool.true_or] at this
      have q : p = idx k j := by simpa using this.symm
      rw [← q]; exact e.1
    · have hp' : p < 10 := by simpa using hp
      rw [Bool.and_eq_true] at e
      have := key p hp'
      rw [e.2, Bool.or_true] at this
      have q : p = idx k j := by simpa using this.symm
      rw [← q]; exact e.1
  · intro e
    have := key (idx k j) hi
    rw [beq_self_eq_true, Bool.or_eq_true] at this
    rcases this with h | h
    · exact .inl ⟨idx k j, by simpa using hi, by rw [e, h]; rfl⟩
    · exact .inr ⟨idx k j, by simpa using hi, by rw [e, h]; rfl⟩

theorem filter_sum (f : Nat → Bool) : (((List.range 4).filter f).map fun (j : Nat) => (2 : Int) ^ j).sum = (((f 0).toNat + 2 * (f 1).toNat + 4 * (f 2).toNat + 8 * (f 3).toNat : Nat) : Int) := by
  rw [show List.range 4 = [0, 1, 2, 3] from rfl]
  simp only [List.filter]
  cases f 0 <;> cases f 1 <;> cases f 2 <;> cases f 3 <;> rfl
noncomputable def bt (N p : Nat) : Nat := Nat.mod (Nat.shiftRight N p) 2
theorem bit_bt (n : Int) {p : Nat} (hp : p < 10) : (bitI n p).toNat = bt (n.fmod 1024).toNat p := by
  have e : bt (n.fmod 1024).toNat p = (n.fmod 1024).toNat / 2 ^ p % 2 := by
    show (n.fmod 1024).toNat >>> p % 2 = _
    rw [Nat.shiftRight_eq_div_pow]
  rw [e]
  unfold bitI
  rw [Int.fmod_eq_emod_of_nonneg _ (by decide : (0 : Int) ≤ 2), Int.fmod_eq_emod_of_nonneg _ (by decide : (0 : Int) ≤ 1024), Int.fdiv_eq_ediv_of_nonneg _ (Int.pow_nonneg (by decide : (0 : Int) ≤ 2))]
  have hB : ∀ x : Int, 0 ≤ x → x < 2 → ((x == 1).toNat : Int) = x := by
    intro x h0 h1
    have : x = 0 ∨ x = 1 := by omega
    rcases this with rfl | rfl <;> rfl
  have h2 := hB (n / 2 ^ p % 2) (Int.emod_nonneg _ (by decide)) (Int.emod_lt_of_pos _ (by decide))
  have : ((n / 2 ^ p % 2 == 1).toNat : Int) = (((n % 1024).toNat / 2 ^ p % 2 : Nat) : Int) := by
    rw [h2]
    have e1 : ∀ p < 10, (1024 : Int) = 2 ^ p * (2 * 2 ^ (9 - p)) := by decide
    have e2 : n = n % 1024 + 2 ^ p * (2 * 2 ^ (9 - p) * (n / 1024)) := by
      rw [← Int.mul_assoc, ← e1 p hp]; exact (Int.emod_add_mul_ediv n 1024).symm
    have hz : (2 : Int) ^ p ≠ 0 := Int.pow_ne_zero (by decide)
    have e3 : n / 2 ^ p = n % 1024 / 2 ^ p + 2 * (2 ^ (9 - p) * (n / 1024)) := by
      conv => lhs; rw [e2]
      rw [Int.add_mul_ediv_left _ _ hz, Int.mul_assoc]
    rw [e3, Int.add_mul_emod_self_left]
    have e4 : ((n % 1024).toNat : Int) = n % 1024 := Int.toNat_of_nonneg (Int.emod_nonneg _ (by decide))
    rw [Int.natCast_emod, Int.natCast_ediv, e4, Int.natCast_pow]; rfl
  exact Int.ofNat.inj this
noncomputable def rN (N k : Nat) : Nat := bt N (idx k 0) + 2 * bt N (idx k 1) + 4 * bt N (idx k 2) + 8 * bt N (idx k 3)
theorem rowF_N (n : Int) {k : Nat} (hk : k < 4) : rowF n k = (rN (n.fmod 1024).toNat k : Nat) := by
  unfold rowF
  rw [filter_sum]
  unfold rN
  rw [rowB_bit n hk (by decide), rowB_bit n hk (by decide), rowB_bit n hk (by decide), rowB_bit n hk (by decide), bit_bt n (idx_lt k hk 0 (by decide)), bit_bt n (idx_lt k hk 1 (by decide)), bit_bt n (idx_lt k hk 2 (by decide)), bit_bt n (idx_lt k hk 3 (by decide))]
theorem rows_N (n : Int) : rowsF n = [((rN (n.fmod 1024).toNat 0 : Nat) : Int), ((rN (n.fmod 1024).toNat 1 : Nat) : Int), ((rN (n.fmod 1024).toNat 2 : Nat) : Int), ((rN (n.fmod 1024).toNat 3 : Nat) : Int)] := by
  unfold rowsF
  rw [show List.range 4 = [0, 1, 2, 3] from rfl]
  simp only [List.map_cons, List.map_nil]
  rw [rowF_N n (by decide), rowF_N n (by decide), rowF_N n (by decide), rowF_N n (by decide)]

/-! the sixteen marks of four rows -/
noncomputable def marks (a b c d : Nat) : List Nat := [0, a, b, Nat.xor a b, c, Nat.xor a c, Nat.xor b c, Nat.xor (Nat.xor a b) c, d, Nat.xor a d, Nat.xor b d, Nat.xor (Nat.xor a b) d, Nat.xor c d, Nat.xor (Nat.xor a c) d, Nat.xor (Nat.xor b c) d, Nat.xor (Nat.xor (Nat.xor a b) c) d]
theorem xor16 : ∀ a < 16, ∀ b < 16, Builtin.bitXor (a : Nat) (b : Nat) = (Nat.xor a b : Nat) ∧ Nat.xor a b < 16 := by decide +kernel
theorem xor16e {a b : Nat} (ha : a < 16) (hb : b < 16) : Builtin.bitXor (a : Int) (b : Int) = ((Nat.xor a b : Nat) : Int) := (xor16 a ha b hb).1
theorem xor16l {a b : Nat} (ha : a < 16) (hb : b < 16) : Nat.xor a b < 16 := (xor16 a ha b hb).2
theorem marks_lt {a b c d : Nat} (ha : a < 16) (hb : b < 16) (hc : c < 16) (hd : d < 16) : ∀ x ∈ marks a b c d, x < 16 := by
  have ab := xor16l ha hb
  have ac := xor16l ha hc
  have bc := xor16l hb hc
  have abc := xor16l ab hc
  intro x hx
  simp only [marks, List.mem_cons, List.not_mem_nil, or_false] at hx
  rcases hx with rfl | rfl | rfl | rfl | rfl | rfl | rfl | rfl | rfl | rfl | rfl | rfl | rfl | rfl | rfl | rfl <;> first | assumption | decide | (apply xor16l <;> assumption)
theorem lit_marks {a b c d : Nat} (ha : a < 16) (hb : b < 16) (hc : c < 16) (hd : d < 16) : ∀ i : Nat, i < 16 → litF (i : Int) [(a : Int), b, c, d] = ((marks a b c d).getD i 0 : Nat) := by
  have ab := xor16l ha hb
  have ac := xor16l ha hc
  have bc := xor16l hb hc
  have abc := xor16l ab hc
  have z0 : ∀ x < 16, Nat.xor 0 x = x := by decide
  have e (i : Nat) : litF (i : Int) [(a : Int), b, c, d] = (if bitI (i : Int) 3 then Builtin.bitXor (if bitI (i : Int) 2 then Builtin.bitXor (if bitI (i : Int) 1 then Builtin.bitXor (if bitI (i : Int) 0 then Builtin.bitXor ((0 : Nat) : Int) a else ((0 : Nat) : Int)) b else (if bitI (i : Int) 0 then Builtin.bitXor ((0 : Nat) : Int) a else ((0 : Nat) : Int))) c else (if bitI (i : Int) 1 then Builtin.bitXor (if bitI (i : Int) 0 then Builtin.bitXor ((0 : Nat) : Int) a else ((0 : Nat) : Int)) b else (if bitI (i : Int) 0 then Builtin.bitXor ((0 : Nat) : Int) a else ((0 : Nat) : Int)))) d else (if bitI (i : Int) 2 then Builtin.bitXor (if bitI (i : Int) 1 then Builtin.bitXor (if bitI (i : Int) 0 then Builtin.bitXor ((0 : Nat) : Int) a else ((0 : Nat) : Int)) b else (if bitI (i : Int) 0 then Builtin.bitXor ((0 : Nat) : Int) a else ((0 : Nat) : Int))) c else (if bitI (i : Int) 1 then Builtin.bitXor (if bitI (i : Int) 0 then Builtin.bitXor ((0 : Nat) : Int) a else ((0 : Nat) : Int)) b else (if bitI (i : Int) 0 then Builtin.bitXor ((0 : Nat) : Int) a else ((0 : Nat) : Int))))) := rfl
  have b0 : ∀ i < 16, bitI (i : Nat) 0 = (i % 2 == 1) := by decide +kernel
  have b1 : ∀ i < 16, bitI (i : Nat) 1 = (i / 2 % 2 == 1) := by decide +kernel
  have b2 : ∀ i < 16, bitI (i : Nat) 2 = (i / 4 % 2 == 1) := by decide +kernel
  have b3 : ∀ i < 16, bitI (i : Nat) 3 = (i / 8 % 2 == 1) := by decide +kernel
  intro i hi
  rw [e, b0 i hi, b1 i hi, b2 i hi, b3 i hi, xor16e (by decide) ha, z0 a ha]
  match i, hi with
  | 0, _ => rfl
  | 1, _ => rfl
  | 2, _ => show Builtin.bitXor ((0 : Nat) : Int) b = _; rw [xor16e (by decide) hb, z0 b hb]; rfl
  | 3, _ => show Builtin.bitXor (a : Int) b = _; rw [xor16e ha hb]; rfl
  | 4, _ => show Builtin.bitXor ((0 : Nat) : Int) c = _; rw [xor16e (by decide) hc, z0 c hc]; rfl
  | 5, _ => show Builtin.bitXor (a : Int) c = _; rw [xor16e ha hc]; rfl
  | 6, _ => show Builtin.bitXor (Builtin.bitXor ((0 : Nat) : Int) b) c = _; rw [xor16e (by decide) hb, z0 b hb, xor16e hb hc]; rfl
  | 7, _ => show Builtin.bitXor (Builtin.bitXor (a : Int) b) c = _; rw [xor16e ha hb, xor16e ab hc]; rfl
  | 8, _ => show Builtin.bitXor ((0 : Nat) : Int) d = _; rw [xor16e (by decide) hd, z0 d hd]; rfl
  | 9, _ => show Builtin.bitXor (a : Int) d = _; rw [xor16e ha hd]; rfl
  | 10, _ => show Builtin.bitXor (Builtin.bitXor ((0 : Nat) : Int) b) d = _; rw [xor16e (by decide) hb, z0 b hb, xor16e hb hd]; rfl
  | 11, _ => show Builtin.bitXor (Builtin.bitXor (a : Int) b) d = _; rw [xor16e ha hb, xor16e ab hd]; rfl
  | 12, _ => show Builtin.bitXor (Builtin.bitXor ((0 : Nat) : Int) c) d = _; rw [xor16e (by decide) hc, z0 c hc, xor16e hc hd]; rfl
  | 13, _ => show Builtin.bitXor (Builtin.bitXor (a : Int) c) d = _; rw [xor16e ha hc, xor16e ac hd]; rfl
  | 14, _ => show Builtin.bitXor (Builtin.bitXor (Builtin.bitXor ((0 : Nat) : Int) b) c) d = _; rw [xor16e (by decide) hb, z0 b hb, xor16e hb hc, xor16e bc hd]; rfl
  | 15, _ => show Builtin.bitXor (Builtin.bitXor (Builtin.bitXor (a : Int) b) c) d = _; rw [xor16e ha hb, xor16e ab hc, xor16e abc hd]; rfl
  | n + 16, h => exact absurd h (by omega)

/-! the check -/
noncomputable def cnt (l : Nat) : List Nat → Nat
  | [] => 0
  | x :: r => match Nat.beq x l with
    | true => Nat.succ (cnt l r)
    | false => cnt l r
noncomputable def evT (c l : Nat) : Bool := Nat.beq (Nat.mod (Nat.shiftRight 27030 (Nat.land c l)) 2) 0
theorem ev_T : ∀ c < 16, ∀ l < 16, evenF (c : Nat) (l : Nat) = evT c l := by decide +kernel
noncomputable def zAll (l : Nat) : List Nat → List Nat → Bool
  | c :: cs, x :: r => match Nat.beq x 0 with
    | true => match evT c l with
      | true => zAll l cs r
      | false => false
    | false => zAll l cs r
  | _, _ => true
noncomputable def r16 : List Nat := [0, 1, 2, 3, 4, 5, 6, 7, 8, 9, 10, 11, 12, 13, 14, 15]
theorem r16_eq : List.range 16 = r16 := by decide
noncomputable def degAt (z : Nat) (ls : List Nat) (l : Nat) : Bool := match zAll l r16 ls with
  | true => Nat.beq (cnt l ls) z
  | false => Nat.beq (cnt l ls) 0
noncomputable def allL (f : Nat → Bool) : List Nat → Bool
  | [] => true
  | x :: r => match f x with
    | true => allL f r
    | false => false
theorem allL_eq {f : Nat → Bool} : ∀ {xs : List Nat}, allL f xs = true → ∀ x ∈ xs, f x = true
  | y :: r, h, x, hx => by
    unfold allL at h
    split at h
    · rename_i e
      rcases List.mem_cons.mp hx with rfl | hx
      · exact e
      · exact allL_eq h x hx
    · cases h
noncomputable def sumC (ls : List Nat) : List Nat → Nat
  | [] => 0
  | l :: r => Nat.add (cnt l ls) (sumC ls r)
noncomputable def frc {α : Type} (n : Nat) (f : Nat → α) : α := match n with
  | 0 => f 0
  | k + 1 => f (k + 1)
theorem frc_eq {α : Type} (n : Nat) (f : Nat → α) : frc n f = f n := by cases n <;> rfl
noncomputable def frcL {α : Type} : List Nat → (List Nat → α) → α
  | [], f => f []
  | x :: r, f => frc x fun y => frcL r fun s => f (y :: s)
theorem frcL_eq {α : Type} : ∀ (xs : List Nat) (f : List Nat → α), frcL xs f = f xs
  | [], f => rfl
  | x :: r, f => by rw [frcL, frc_eq, frcL_eq r]
noncomputable def chkL (m : Nat) (ls : List Nat) : Bool := (!Nat.beq (cnt m ls) 0) && Nat.beq (sumC ls r16) 16 && frc (cnt 0 ls) fun z => allL (degAt z ls) r16
noncomputable def chk (N : Nat) : Bool := frc (rN N 0) fun a => frc (rN N 1) fun b => frc (rN N 2) fun c => frc (rN N 3) fun d => Nat.blt a 16 && Nat.blt b 16 && Nat.blt c 16 && Nat.blt d 16 && frcL (marks a b c d) (chkL (Nat.mod N 16))
noncomputable def chkD : Nat → Nat → Bool
  | 0, _ => true
  | _ + 1, 0 => true
  | k + 1, n + 1 => match chk n with
    | true => chkD k n
    | false => false
theorem chkD_eq : ∀ {k n : Nat}, chkD k n = true → ∀ i < n, n ≤ i + k → chk i = true
  | 0, n, _, i, hi, hk => absurd hi (Nat.not_lt.mpr hk)
  | k + 1, n + 1, h, i, hi, hk => by
    unfold chkD at h
    split at h
    · rename_i e
      by_cases q : i = n
      · subst q; exact e
      · exact chkD_eq h i (Nat.lt_of_le_of_ne (Nat.le_of_lt_succ hi) q) (Nat.le_of_succ_le_succ hk)
    · cases h
theorem chk_step {a k i : Nat} (c : chkD k (a + k) = true) (h : i < a → chk i = true) (hi : i < a + k) : chk i = true :=
  (Nat.lt_or_ge i a).elim h fun q => chkD_eq c i hi (Nat.add_le_add_right q k)
set_option maxHeartbeats 8000000
theorem chk_1 : chkD 128 (0 + 128) = true := by decide +kernel
theorem chk_2 : chkD 128 (128 + 128) = true := by decide +kernel
theorem chk_3 : chkD 128 (256 + 128) = true := by decide +kernel
theorem chk_4 : chkD 128 (384 + 128) = true := by decide +kernel
theorem chk_5 : chkD 128 (512 + 128) = true := by decide +kernel
theorem chk_6 : chkD 128 (640 + 128) = true := by decide +kernel
theorem chk_7 : chkD 128 (768 + 128) = true := by decide +kernel
theorem chk_8 : chkD 128 (896 + 128) = true := by decide +kernel
theorem chk_all {i : Nat} (hi : i < 1024) : chk i = true :=
  chk_step chk_8 (chk_step chk_7 (chk_step chk_6 (chk_step chk_5 (chk_step chk_4 (chk_step chk_3 (chk_step chk_2 (chk_step chk_1 fun h => absurd h (Nat.not_lt_zero _)))))))) hi

theorem cnt_eq (f : Nat → Nat) (l : Nat) : ∀ xs : List Nat, cnt l (xs.map f) = (xs.filter fun c => f c == l).length
  | [] => rfl
  | x :: r => by
    rw [List.map_cons, cnt, List.filter_cons, cnt_eq f l r]
    cases h : Nat.beq (f x) l with
    | true => rw [show (f x == l) = true from by simpa using Nat.eq_of_beq_eq_true h]; rfl
    | false => rw [show (f x == l) = false from by simpa using Nat.ne_of_beq_eq_false h]; rfl
theorem zAll_eq (f : Nat → Nat) (l : Nat) (p : Nat → Bool) : ∀ xs : List Nat, (∀ c ∈ xs, p c = evT c l) → zAll l xs (xs.map f) = ((xs.filter fun c => f c == 0).filter fun c => !p c).isEmpty
  | [], _ => rfl
  | x :: r, hp => by
    rw [List.map_cons, zAll, List.filter_cons]
    have ih := zAll_eq f l p r fun c hc => hp c (List.mem_cons_of_mem _ hc)
    have hx := hp x List.mem_cons_self
    cases h : Nat.beq (f x) 0 with
    | true =>
      rw [show (f x == 0) = true from by simpa using Nat.eq_of_beq_eq_true h, if_pos rfl, List.filter_cons]
      cases h2 : evT x l with
      | true => rw [hx, h2]; simpa using ih
      | false => rw [hx, h2]; simp
    | false =>
      rw [show (f x == 0) = false from by simpa using Nat.ne_of_beq_eq_false h]
      simpa using ih
theorem sumC_eq (ls : List Nat) : ∀ xs : List Nat, ((xs.map fun l => ((cnt l ls : Nat) : Int)).sum) = (sumC ls xs : Nat)
  | [] => rfl
  | x :: r => by
    rw [List.map_cons, List.sum_cons, sumC_eq ls r]
    show _ = ((cnt x ls + sumC ls r : Nat) : Int)
    omega

theorem row_ok (n : Int) {m : Nat} (hm : n.fmod 16 = m) : RowOk (rowsF n) m := by
  have hN : (n.fmod 1024).toNat < 1024 ∧ m = (n.fmod 1024).toNat % 16 := by
    rw [Int.fmod_eq_emod_of_nonneg _ (by decide : (0 : Int) ≤ 16)] at hm
    rw [Int.fmod_eq_emod_of_nonneg _ (by decide : (0 : Int) ≤ 1024)]
    omega
  rw [rows_N]
  revert hN
  generalize (n.fmod 1024).toNat = N
  rintro ⟨hN, rfl⟩
  have C := chk_all hN
  unfold chk at C
  rw [frc_eq, frc_eq, frc_eq, frc_eq, frcL_eq] at C
  revert C
  generalize rN N 0 = a
  generalize rN N 1 = b
  generalize rN N 2 = c
  generalize rN N 3 = d
  intro C
  simp only [Bool.and_eq_true, Nat.blt_eq] at C
  obtain ⟨⟨⟨⟨ha, hb⟩, hc⟩, hd'⟩, C⟩ := C
  unfold chkL at C
  rw [frc_eq] at C
  simp only [Bool.and_eq_true] at C
  obtain ⟨⟨c1, c2⟩, c3⟩ := C
  have L := lit_marks ha hb hc hd'
  have M := marks_lt ha hb hc hd'
  have hl : (marks a b c d).length = 16 := rfl
  have Mi : ∀ i : Nat, i < 16 → (marks a b c d).getD i 0 < 16 := fun i hi => by
    have h2 : i < (marks a b c d).length := by omega
    have : (marks a b c d).getD i 0 = (marks a b c d)[i] := by simp [h2]
    rw [this]; exact M _ (List.getElem_mem h2)
  have ln : ∀ i : Nat, i < 16 → litN [(a : Int), b, c, d] i = (marks a b c d).getD i 0 := fun i hi => by unfold litN; rw [L i hi]; rfl
  have em : (List.range 16).map (litN [(a : Int), b, c, d]) = marks a b c d := by
    refine List.ext_getElem (by rw [hl]; simp) fun i h1 h2 => ?_
    have hi : i < 16 := by omega
    rw [List.getElem_map, List.getElem_range, ln i hi]
    simp [h2]
  have sl (l : Nat) : (sel [(a : Int), b, c, d] l).length = cnt l (marks a b c d) := by
    rw [← em, cnt_eq]; rfl
  refine ⟨rfl, ?_, fun i hi => ?_, ?_, ?_, fun l hl16 => ?_⟩
  · intro k hk
    match k, hk with
    | 0, _ => exact ⟨Int.natCast_nonneg a, by show (a : Int) < 16; omega⟩
    | 1, _ => exact ⟨Int.natCast_nonneg b, by show (b : Int) < 16; omega⟩
    | 2, _ => exact ⟨Int.natCast_nonneg c, by show (c : Int) < 16; omega⟩
    | 3, _ => exact ⟨Int.natCast_nonneg d, by show (d : Int) < 16; omega⟩
  · have := Mi i hi
    rw [L i hi]; omega
  · simp only [sl]
    rw [r16_eq, sumC_eq, Nat.eq_of_beq_eq_true c2]; rfl
  · intro e
    have h1 := sl (N % 16)
    rw [e] at h1
    have h2 : Nat.beq (cnt (Nat.mod N 16) (marks a b c d)) 0 = true := by
      rw [show cnt (Nat.mod N 16) (marks a b c d) = 0 from h1.symm]; rfl
    rw [h2] at c1; cases c1
  · have D := allL_eq c3 l (by rw [← r16_eq]; simpa using hl16)
    unfold degAt at D
    have z := zAll_eq (litN [(a : Int), b, c, d]) l (fun c => evenF (c : Nat) (l : Nat)) (List.range 16) fun c hc => ev_T c (by simpa using hc) l hl16
    rw [em, r16_eq] at z
    rw [sl, sl]
    have e2 : ((sel [(a : Int), b, c, d] 0).filter fun (c : Nat) => !evenF (c : Int) (l : Nat)).isEmpty = zAll l r16 (marks a b c d) := by rw [z, ← r16_eq]; rfl
    rw [e2]
    cases h : zAll l r16 (marks a b c d) with
    | true => rw [h] at D; rw [if_pos rfl]; exact Nat.eq_of_beq_eq_true D
    | false => rw [h] at D; rw [if_neg (by decide)]; exact Nat.eq_of_beq_eq_true D
end Mine

open PySem PySem.W PyProof.Rows PySem.Calls
set_option Elab.async false
set_option maxRecDepth 100000
namespace Mine
example : (PySem.Challenge.rw_rl0110_01, hd0.heap_1) = (PySem.Challenge.rw_rl0110_01, hd0.heap_1) := by k_fill; rfl
theorem rd_ints {P : Params} {h : Heap} : ∀ {vs : List Value} {ns : List Int}, WellAll P h vs (ofPys (ns.map .int)) → RdAll (fun _ => True) h vs (ns.map .int)
  | _, [], .nil => .nil
  | _, n :: ns, .cons r rs => by
    cases r
    exact .cons (.int _ _) (rd_ints rs)
theorem rd_well {P : Params} {h : Heap} {a : Addr} {ns : List Int} (w : Well P h (.ref a) (ofPy (.list (ns.map .int)))) : Rd (fun _ => True) h (.ref a) (.list (ns.map .int)) := by
  generalize hx : ofPy (.list (ns.map .int)) = x at w
  cases w with
  | list e r =>
    obtain rfl : ofPys (ns.map .int) = _ := by
      have := hx; simp only [ofPy] at this; exact WData.list.inj this
    exact .list trivial e (rd_ints r)
  | _ => simp only [ofPy] at hx; cases hx
theorem post_true (args : List WData) : PySem.Challenge.rw_rl0110_01.row.claim.post args (.bool true) args = true := by
  show (WShape.has [] (.bool true) .bool && WTm.holds [] (.eq .res (.lit (.bool true))) { args := args, res := some (.bool true), after := args }) = true
  refine Bool.and_eq_true_iff.mpr ⟨by simp [WShape.has, WShape.arms], ?_⟩
  simp only [WTm.holds, WTm.value]
  decide +kernel
theorem law_holds (HT : ∀ q < 5, TxOk (textsL (shifts.getD q 0))) (HP : ∀ (w : World) (q : Nat), q < 5 → ∀ l : Nat, l < 16 → Fn w 1 187 [.py (.int ((l : Int) * 2 ^ (shifts.getD q 0)))] (.py (.str ((textsL (shifts.getD q 0)).getD l "")))) : PySem.Challenge.rw_rl0110_01.Holds := by
  refine hd ?_
  intro w s₀ s₁ mg mb G Y fa o pm cd doc dV kV ho hd' hcd hD hmg hg args vals as hpre hlay hrd hwl hlo
  have KX := kIn_of Y
  refine Ground.open G ?_
  intro T B D TE TW
  clear D TE TW B G Y
  have e1 : fa = 252 := by
    have := mg_of KX T.g (n := Str.ofString "law") (v := .ref 252) (by k_is)
    exact Value.ref.inj (Option.some.inj (hmg.symm.trans this))
  subst e1
  clear hmg hD hcd ho hd' o pm cd doc dV kV
  wrow_args hpre hlay hrd hwl hlo
  all_goals (
    rename_i ns _ _ _ _ _ _ _ b vs _ _ _ hW _ _ _ h63 _
    refine enter_call ?_
    have q0 := Int.emod_nonneg (sumO ns) (by decide : (5 : Int) ≠ 0)
    have q1 := Int.emod_lt_of_pos (sumO ns) (by decide : (0 : Int) < 5)
    have m0 := Int.emod_nonneg (numF ns) (by decide : (16 : Int) ≠ 0)
    have m1 := Int.emod_lt_of_pos (numF ns) (by decide : (0 : Int) < 16)
    have hq : ((sumO ns).fmod 5) = (((sumO ns) % 5).toNat : Nat) := by rw [Int.fmod_eq_emod_of_nonneg _ (by decide : (0 : Int) ≤ 5)]; omega
    have hm : ((numF ns).fmod 16) = (((numF ns) % 16).toNat : Nat) := by rw [Int.fmod_eq_emod_of_nonneg _ (by decide : (0 : Int) ≤ 16)]; omega
    have hq5 : ((sumO ns) % 5).toNat < 5 := by omega
    refine law_fn (ns := ns) ⟨rfl, by decide, by decide⟩ ⟨KX, _, _, _, T⟩ rfl (rd_well hW) (by omega) hq5 hq (by omega) hm (HT _ hq5) (HP w _ hq5) (row_ok _ hm) fun s' y => ?_
    obtain ⟨h, tk, rfl, hk⟩ := y
    exact GoodW.toG ⟨.inl ⟨.bool true, .bool true, [], rfl, fun _ => rfl, .bool true, post_true _, fun _ => ⟨.nil, fun a ha => by cases ha⟩⟩, hk, rfl, hg⟩)
end Mine

open PySem PySem.W PyProof.Rows PySem.Calls
set_option Elab.async false
set_option maxRecDepth 100000
namespace Mine
noncomputable def lowC (c : Nat) : Nat := match Nat.ble 65 c with
  | true => match Nat.ble c 90 with
    | true => Nat.add c 32
    | false => c
  | false => c
noncomputable def lowA (x : Str) : Str := ⟨(x.cps.toList.map lowC).toArray⟩
noncomputable def ascL : List Nat → Bool
  | [] => true
  | c :: r => match Nat.blt c 128 with
    | true => ascL r
    | false => false
theorem ascL_eq : ∀ {l : List Nat}, ascL l = true → ∀ c ∈ l, c < 128
  | y :: r, h, x, hx => by
    unfold ascL at h
    split at h
    · rename_i e
      rcases List.mem_cons.mp hx with rfl | hx
      · simpa using e
      · exact ascL_eq h x hx
    · cases h
theorem lowOf_asc : ∀ c < 128, Unicode.lowerOf c = [lowC c] := by decide +kernel
theorem flat_one (f : Nat → Nat) (l : List Nat) : (l.map fun c => [f c]).flatten = l.map f := by
  induction l with
  | nil => rfl
  | cons a l ih => simp [ih]
theorem lower_asc {x : Str} (h : ascL x.cps.toList = true) : Txt.lower x = lowA x := by
  have hc := ascL_eq h
  have e : (x.cps.mapIdx fun i c => (Unicode.lowerAt x.cps i).toArray) = x.cps.map fun c => #[lowC c] := by
    refine Array.ext (by simp) fun i h1 h2 => ?_
    have hi : i < x.cps.size := by simpa using h2
    rw [Array.getElem_mapIdx, Array.getElem_map]
    have hl : x.cps[i] < 128 := hc _ (by simp)
    unfold Unicode.lowerAt
    rw [Array.getElem?_eq_getElem hi]
    show (if (x.cps[i] == 0x3A3 && Unicode.endsWord x.cps i) = true then _ else _ : List Nat).toArray = _
    rw [show (x.cps[i] == 0x3A3) = false from beq_false_of_ne (by omega), Bool.false_and, if_neg (by decide), lowOf_asc _ hl]
  refine PySem.Str.ext' ?_
  show (x.cps.mapIdx fun i c => (Unicode.lowerAt x.cps i).toArray).flatten = _
  rw [e]
  refine Array.ext' ?_
  rw [Array.toList_flatten]
  show _ = (x.cps.toList.map lowC).toArray.toList
  rw [List.toList_toArray, ← flat_one lowC, Array.toList_map, List.map_map]
  rfl

noncomputable def nl : Str := ⟨#[10]⟩
noncomputable def toldG (x row : Str) : List Bool := (asked1 x ++ asked2 x).map fun want => ellG occX want row
theorem told_G (x row : Str) : toldL x row = toldG x row := by
  unfold toldL toldG
  simp only [ellG_eq]
noncomputable def cntB : List Bool → Nat
  | [] => 0
  | true :: r => Nat.succ (cntB r)
  | false :: r => cntB r
theorem cntB_eq : ∀ bs : List Bool, PySem.Spec.countIn (.bool true) (bs.map .bool) = (cntB bs : Nat)
  | [] => rfl
  | true :: r => by
    show (if PySem.Spec.same (.bool true) (.bool true) then 1 else 0) + PySem.Spec.countIn (.bool true) (r.map .bool) = _
    rw [cntB_eq r]
    show (1 : Int) + cntB r = ((cntB r + 1 : Nat) : Int)
    omega
  | false :: r => by
    show (if PySem.Spec.same (.bool false) (.bool true) then 1 else 0) + PySem.Spec.countIn (.bool true) (r.map .bool) = _
    rw [cntB_eq r]
    show (0 : Int) + cntB r = _
    rw [Int.zero_add]; rfl
noncomputable def stN (x row : Str) : Nat := Nat.add (cntB ((toldG x row).take 4)) (Nat.mul 100 (cntB ((toldG x row).drop 4)))
theorem stN_eq (x row : Str) : standsF x row = (stN x row : Nat) := by
  unfold standsF stN
  rw [told_G, cntB_eq, cntB_eq]
  show _ = ((cntB ((toldG x row).take 4) + 100 * cntB ((toldG x row).drop 4) : Nat) : Int)
  omega
noncomputable def stAll (x : Str) (k : Nat) : Nat → List Str → Bool
  | _, [] => true
  | r, y :: ys => match Nat.beq (stN x y) (Nat.mod (Nat.div r (Nat.pow 2 k)) 2) with
    | true => stAll x k (r + 1) ys
    | false => false
theorem stAll_eq {x : Str} {k : Nat} : ∀ {ys : List Str} {r : Nat}, stAll x k r ys = true → ∀ i, i < ys.length → stN x (ys.getD i "") = (r + i) / 2 ^ k % 2
  | y :: ys, r, h, i, hi => by
    unfold stAll at h
    split at h
    · rename_i e
      match i with
      | 0 => exact Nat.eq_of_beq_eq_true e
      | i + 1 =>
        have := stAll_eq h i (by simpa using hi)
        rw [show r + (i + 1) = r + 1 + i by omega]
        exact this
    · cases h
noncomputable def strEq : List Nat → List Nat → Bool
  | [], [] => true
  | a :: r, b :: t => match Nat.beq a b with
    | true => strEq r t
    | false => false
  | _, _ => false
theorem strEq_self : ∀ l : List Nat, strEq l l = true
  | [] => rfl
  | a :: r => by
    unfold strEq
    rw [show Nat.beq a a = true from by simp]
    exact strEq_self r
noncomputable def noneEq (x : Str) : List Str → Bool
  | [] => true
  | y :: r => match strEq x.cps.toList y.cps.toList with
    | true => false
    | false => noneEq x r
theorem noneEq_eq {x : Str} : ∀ {ys : List Str}, noneEq x ys = true → ∀ y ∈ ys, x ≠ y
  | z :: ys, h, y, hy => by
    unfold noneEq at h
    split at h
    · cases h
    · rename_i e
      rcases List.mem_cons.mp hy with rfl | hy
      · intro q
        subst q
        rw [strEq_self] at e; cases e
      · exact noneEq_eq h y hy
noncomputable def distS : List Str → Bool
  | [] => true
  | x :: r => match noneEq x r with
    | true => distS r
    | false => false
theorem distS_eq : ∀ {xs : List Str}, distS xs = true → xs.Pairwise (· ≠ ·)
  | [], _ => .nil
  | x :: r, h => by
    unfold distS at h
    split at h
    · rename_i e
      exact .cons (noneEq_eq e) (distS_eq h)
    · cases h
noncomputable def goodT (x : Str) : Bool := ascL x.cps.toList && Nat.ble x.cps.toList.length 900 && PyData.strOk x && noHit nameCode x && noHit valueCode x
noncomputable def goodL (x : Str) : Bool := ascL x.cps.toList && noHit nameCode x && hitB nameCode (x ++ nl)

theorem txOk_of {ts ls : List Str} (len : ts.length = 16) (z : ts.getD 0 "" = Str.ofString "0x0") (gt : ts.all goodT = true) (el : ts.map lowA = ls) (ei : ls.map lowA = ls) (ds : distS ls = true) (gl : ls.all goodL = true)
    (so : ∀ k < 4, standsOk (ts.getD (2 ^ k) "") = true) (st : ∀ k < 4, stAll (ts.getD (2 ^ k) "") k 0 ts = true) : TxOk ts := by
  have ll : ls.length = 16 := by rw [← el, List.length_map]; exact len
  have mt : ∀ i < 16, ts.getD i "" ∈ ts := fun i hi => by
    have h2 : i < ts.length := by omega
    rw [show ts.getD i "" = ts[i] from by simp [h2]]; exact List.getElem_mem h2
  have ml : ∀ i < 16, ls.getD i "" ∈ ls := fun i hi => by
    have h2 : i < ls.length := by omega
    rw [show ls.getD i "" = ls[i] from by simp [h2]]; exact List.getElem_mem h2
  have lA : ∀ i < 16, lowA (ts.getD i "") = ls.getD i "" := fun i hi => by
    have h2 : i < ts.length := by omega
    rw [← el]; simp [h2]
  have lI : ∀ i < 16, lowA (ls.getD i "") = ls.getD i "" := fun i hi => by
    have h2 : i < ls.length := by omega
    conv => rhs; rw [← ei]
    simp [h2]
  have g (i : Nat) (hi : i < 16) := List.all_eq_true.mp gt _ (mt i hi)
  have g' (i : Nat) (hi : i < 16) := List.all_eq_true.mp gl _ (ml i hi)
  simp only [goodT, goodL, Bool.and_eq_true, Nat.ble_eq] at g g'
  have lo : ∀ i < 16, Txt.lower (ts.getD i "") = ls.getD i "" := fun i hi => by rw [lower_asc (g i hi).1.1.1.1, lA i hi]
  have li : ∀ i < 16, Txt.lower (ls.getD i "") = ls.getD i "" := fun i hi => by rw [lower_asc (g' i hi).1.1, lI i hi]
  have lenL : ∀ x : Str, (lowA x).length = x.length := fun x => by
    show ((x.cps.toList.map lowC).toArray).size = x.cps.size; simp
  have sz : ∀ i < 16, (ts.getD i "").length ≤ 900 := fun i hi => by
    have := (g i hi).1.1.1.2
    rwa [Array.length_toList] at this
  have ba : ∀ i < 16, Txt.lower (ts.getD i "" ++ ⟨#[10]⟩) = ls.getD i "" ++ nl := fun i hi => by
    have ap : ∀ l : List Nat, ascL l = true → ascL (l ++ [10]) = true := by
      intro l
      induction l with
      | nil => intro _; decide
      | cons a l ih =>
        intro h
        unfold ascL at h
        rw [List.cons_append]
        unfold ascL
        split at h
        · exact ih h
        · cases h
    have h0 : (ts.getD i "" ++ ⟨#[10]⟩ : Str).cps.toList = (ts.getD i "").cps.toList ++ [10] := by
      show ((ts.getD i "").cps ++ #[10]).toList = _; simp
    rw [lower_asc (by rw [h0]; exact ap _ (g i hi).1.1.1.1), ← lA i hi]
    refine PySem.Str.ext' (Array.ext' ?_)
    show ((ts.getD i "" ++ ⟨#[10]⟩ : Str).cps.toList.map lowC).toArray.toList = (((ts.getD i "").cps.toList.map lowC).toArray ++ #[10]).toList
    rw [h0]; simp [lowC]
  have pw := List.pairwise_iff_getElem.mp (distS_eq ds)
  refine ⟨len, z, fun i hi => ?_, fun i hi => (g i hi).1.1.2, fun i hi => ?_, fun i hi => ?_, fun i hi j hj e => ?_, fun i hi => (g i hi).1.2, fun i hi => ?_, fun i hi => (g i hi).2, fun i hi => ?_, fun i hi => ?_, so, fun k hk r hr => ?_⟩
  · have := sz i hi; omega
  · have := sz i hi
    rw [lo i hi, ← lA i hi, lenL]; omega
  · rw [lo i hi, li i hi]
  · rw [lo i hi, lo j hj] at e
    have h1 : i < ls.length := by omega
    have h2 : j < ls.length := by omega
    rw [show ls.getD i "" = ls[i] from by simp [h1], show ls.getD j "" = ls[j] from by simp [h2]] at e
    by_cases q : i = j
    · exact q
    · rcases Nat.lt_or_gt_of_ne q with q | q
      · exact absurd e (pw i j h1 h2 q)
      · exact absurd e.symm (pw j i h2 h1 q)
  · rw [lo i hi]; exact (g' i hi).1.2
  · rw [ba i hi]; exact (g' i hi).2
  · have := sz i hi
    rw [ba i hi]
    show ((ls.getD i "").cps ++ #[10]).size ≤ _
    rw [Array.size_append, ← lA i hi]
    have h3 := lenL (ts.getD i "")
    have h4 : (lowA (ts.getD i "")).cps.size = (ts.getD i "").length := h3
    simp only [List.size_toArray, List.length_cons, List.length_nil]
    omega
  · rw [stN_eq, stAll_eq (st k hk) r (by omega), Nat.zero_add]
    split
    · rename_i e; rw [e]; rfl
    · rename_i e
      have : r / 2 ^ k % 2 = 0 := by omega
      rw [this]; rfl
end Mine

open PySem PySem.W PyProof.Rows PySem.Calls
set_option Elab.async false
set_option maxRecDepth 100000
namespace Mine
noncomputable def tx0 : List Str := [⟨#[48, 120, 48]⟩, ⟨#[79, 80, 84, 73, 77, 73, 90, 69, 68]⟩, ⟨#[78, 69, 87, 76, 79, 67, 65, 76, 83]⟩, ⟨#[79, 80, 84, 73, 77, 73, 90, 69, 68, 44, 32, 78, 69, 87, 76, 79, 67, 65, 76, 83]⟩, ⟨#[86, 65, 82, 65, 82, 71, 83]⟩, ⟨#[79, 80, 84, 73, 77, 73, 90, 69, 68, 44, 32, 86, 65, 82, 65, 82, 71, 83]⟩, ⟨#[78, 69, 87, 76, 79, 67, 65, 76, 83, 44, 32, 86, 65, 82, 65, 82, 71, 83]⟩, ⟨#[79, 80, 84, 73, 77, 73, 90, 69, 68, 44, 32, 78, 69, 87, 76, 79, 67, 65, 76, 83, 44, 32, 86, 65, 82, 65, 82, 71, 83]⟩, ⟨#[86, 65, 82, 75, 69, 89, 87, 79, 82, 68, 83]⟩, ⟨#[79, 80, 84, 73, 77, 73, 90, 69, 68, 44, 32, 86, 65, 82, 75, 69, 89, 87, 79, 82, 68, 83]⟩, ⟨#[78, 69, 87, 76, 79, 67, 65, 76, 83, 44, 32, 86, 65, 82, 75, 69, 89, 87, 79, 82, 68, 83]⟩, ⟨#[79, 80, 84, 73, 77, 73, 90, 69, 68, 44, 32, 78, 69, 87, 76, 79, 67, 65, 76, 83, 44, 32, 86, 65, 82, 75, 69, 89, 87, 79, 82, 68, 83]⟩, ⟨#[86, 65, 82, 65, 82, 71, 83, 44, 32, 86, 65, 82, 75, 69, 89, 87, 79, 82, 68, 83]⟩, ⟨#[79, 80, 84, 73, 77, 73, 90, 69, 68, 44, 32, 86, 65, 82, 65, 82, 71, 83, 44, 32, 86, 65, 82, 75, 69, 89, 87, 79, 82, 68, 83]⟩, ⟨#[78, 69, 87, 76, 79, 67, 65, 76, 83, 44, 32, 86, 65, 82, 65, 82, 71, 83, 44, 32, 86, 65, 82, 75, 69, 89, 87, 79, 82, 68, 83]⟩, ⟨#[79, 80, 84, 73, 77, 73, 90, 69, 68, 44, 32, 78, 69, 87, 76, 79, 67, 65, 76, 83, 44, 32, 86, 65, 82, 65, 82, 71, 83, 44, 32, 86, 65, 82, 75, 69, 89, 87, 79, 82, 68, 83]⟩]
noncomputable def lw0 : List Str := [⟨#[48, 120, 48]⟩, ⟨#[111, 112, 116, 105, 109, 105, 122, 101, 100]⟩, ⟨#[110, 101, 119, 108, 111, 99, 97, 108, 115]⟩, ⟨#[111, 112, 116, 105, 109, 105, 122, 101, 100, 44, 32, 110, 101, 119, 108, 111, 99, 97, 108, 115]⟩, ⟨#[118, 97, 114, 97, 114, 103, 115]⟩, ⟨#[111, 112, 116, 105, 109, 105, 122, 101, 100, 44, 32, 118, 97, 114, 97, 114, 103, 115]⟩, ⟨#[110, 101, 119, 108, 111, 99, 97, 108, 115, 44, 32, 118, 97, 114, 97, 114, 103, 115]⟩, ⟨#[111, 112, 116, 105, 109, 105, 122, 101, 100, 44, 32, 110, 101, 119, 108, 111, 99, 97, 108, 115, 44, 32, 118, 97, 114, 97, 114, 103, 115]⟩, ⟨#[118, 97, 114, 107, 101, 121, 119, 111, 114, 100, 115]⟩, ⟨#[111, 112, 116, 105, 109, 105, 122, 101, 100, 44, 32, 118, 97, 114, 107, 101, 121, 119, 111, 114, 100, 115]⟩, ⟨#[110, 101, 119, 108, 111, 99, 97, 108, 115, 44, 32, 118, 97, 114, 107, 101, 121, 119, 111, 114, 100, 115]⟩, ⟨#[111, 112, 116, 105, 109, 105, 122, 101, 100, 44, 32, 110, 101, 119, 108, 111, 99, 97, 108, 115, 44, 32, 118, 97, 114, 107, 101, 121, 119, 111, 114, 100, 115]⟩, ⟨#[118, 97, 114, 97, 114, 103, 115, 44, 32, 118, 97, 114, 107, 101, 121, 119, 111, 114, 100, 115]⟩, ⟨#[111, 112, 116, 105, 109, 105, 122, 101, 100, 44, 32, 118, 97, 114, 97, 114, 103, 115, 44, 32, 118, 97, 114, 107, 101, 121, 119, 111, 114, 100, 115]⟩, ⟨#[110, 101, 119, 108, 111, 99, 97, 108, 115, 44, 32, 118, 97, 114, 97, 114, 103, 115, 44, 32, 118, 97, 114, 107, 101, 121, 119, 111, 114, 100, 115]⟩, ⟨#[111, 112, 116, 105, 109, 105, 122, 101, 100, 44, 32, 110, 101, 119, 108, 111, 99, 97, 108, 115, 44, 32, 118, 97, 114, 97, 114, 103, 115, 44, 32, 118, 97, 114, 107, 101, 121, 119, 111, 114, 100, 115]⟩]
noncomputable def tx2 : List Str := [⟨#[48, 120, 48]⟩, ⟨#[86, 65, 82, 65, 82, 71, 83]⟩, ⟨#[86, 65, 82, 75, 69, 89, 87, 79, 82, 68, 83]⟩, ⟨#[86, 65, 82, 65, 82, 71, 83, 44, 32, 86, 65, 82, 75, 69, 89, 87, 79, 82, 68, 83]⟩, ⟨#[78, 69, 83, 84, 69, 68]⟩, ⟨#[86, 65, 82, 65, 82, 71, 83, 44, 32, 78, 69, 83, 84, 69, 68]⟩, ⟨#[86, 65, 82, 75, 69, 89, 87, 79, 82, 68, 83, 44, 32, 78, 69, 83, 84, 69, 68]⟩, ⟨#[86, 65, 82, 65, 82, 71, 83, 44, 32, 86, 65, 82, 75, 69, 89, 87, 79, 82, 68, 83, 44, 32, 78, 69, 83, 84, 69, 68]⟩, ⟨#[71, 69, 78, 69, 82, 65, 84, 79, 82]⟩, ⟨#[86, 65, 82, 65, 82, 71, 83, 44, 32, 71, 69, 78, 69, 82, 65, 84, 79, 82]⟩, ⟨#[86, 65, 82, 75, 69, 89, 87, 79, 82, 68, 83, 44, 32, 71, 69, 78, 69, 82, 65, 84, 79, 82]⟩, ⟨#[86, 65, 82, 65, 82, 71, 83, 44, 32, 86, 65, 82, 75, 69, 89, 87, 79, 82, 68, 83, 44, 32, 71, 69, 78, 69, 82, 65, 84, 79, 82]⟩, ⟨#[78, 69, 83, 84, 69, 68, 44, 32, 71, 69, 78, 69, 82, 65, 84, 79, 82]⟩, ⟨#[86, 65, 82, 65, 82, 71, 83, 44, 32, 78, 69, 83, 84, 69, 68, 44, 32, 71, 69, 78, 69, 82, 65, 84, 79, 82]⟩, ⟨#[86, 65, 82, 75, 69, 89, 87, 79, 82, 68, 83, 44, 32, 78, 69, 83, 84, 69, 68, 44, 32, 71, 69, 78, 69, 82, 65, 84, 79, 82]⟩, ⟨#[86, 65, 82, 65, 82, 71, 83, 44, 32, 86, 65, 82, 75, 69, 89, 87, 79, 82, 68, 83, 44, 32, 78, 69, 83, 84, 69, 68, 44, 32, 71, 69, 78, 69, 82, 65, 84, 79, 82]⟩]
noncomputable def lw2 : List Str := [⟨#[48, 120, 48]⟩, ⟨#[118, 97, 114, 97, 114, 103, 115]⟩, ⟨#[118, 97, 114, 107, 101, 121, 119, 111, 114, 100, 115]⟩, ⟨#[118, 97, 114, 97, 114, 103, 115, 44, 32, 118, 97, 114, 107, 101, 121, 119, 111, 114, 100, 115]⟩, ⟨#[110, 101, 115, 116, 101, 100]⟩, ⟨#[118, 97, 114, 97, 114, 103, 115, 44, 32, 110, 101, 115, 116, 101, 100]⟩, ⟨#[118, 97, 114, 107, 101, 121, 119, 111, 114, 100, 115, 44, 32, 110, 101, 115, 116, 101, 100]⟩, ⟨#[118, 97, 114, 97, 114, 103, 115, 44, 32, 118, 97, 114, 107, 101, 121, 119, 111, 114, 100, 115, 44, 32, 110, 101, 115, 116, 101, 100]⟩, ⟨#[103, 101, 110, 101, 114, 97, 116, 111, 114]⟩, ⟨#[118, 97, 114, 97, 114, 103, 115, 44, 32, 103, 101, 110, 101, 114, 97, 116, 111, 114]⟩, ⟨#[118, 97, 114, 107, 101, 121, 119, 111, 114, 100, 115, 44, 32, 103, 101, 110, 101, 114, 97, 116, 111, 114]⟩, ⟨#[118, 97, 114, 97, 114, 103, 115, 44, 32, 118, 97, 114, 107, 101, 121, 119, 111, 114, 100, 115, 44, 32, 103, 101, 110, 101, 114, 97, 116, 111, 114]⟩, ⟨#[110, 101, 115, 116, 101, 100, 44, 32, 103, 101, 110, 101, 114, 97, 116, 111, 114]⟩, ⟨#[118, 97, 114, 97, 114, 103, 115, 44, 32, 110, 101, 115, 116, 101, 100, 44, 32, 103, 101, 110, 101, 114, 97, 116, 111, 114]⟩, ⟨#[118, 97, 114, 107, 101, 121, 119, 111, 114, 100, 115, 44, 32, 110, 101, 115, 116, 101, 100, 44, 32, 103, 101, 110, 101, 114, 97, 116, 111, 114]⟩, ⟨#[118, 97, 114, 97, 114, 103, 115, 44, 32, 118, 97, 114, 107, 101, 121, 119, 111, 114, 100, 115, 44, 32, 110, 101, 115, 116, 101, 100, 44, 32, 103, 101, 110, 101, 114, 97, 116, 111, 114]⟩]
noncomputable def tx4 : List Str := [⟨#[48, 120, 48]⟩, ⟨#[78, 69, 83, 84, 69, 68]⟩, ⟨#[71, 69, 78, 69, 82, 65, 84, 79, 82]⟩, ⟨#[78, 69, 83, 84, 69, 68, 44, 32, 71, 69, 78, 69, 82, 65, 84, 79, 82]⟩, ⟨#[78, 79, 70, 82, 69, 69]⟩, ⟨#[78, 69, 83, 84, 69, 68, 44, 32, 78, 79, 70, 82, 69, 69]⟩, ⟨#[71, 69, 78, 69, 82, 65, 84, 79, 82, 44, 32, 78, 79, 70, 82, 69, 69]⟩, ⟨#[78, 69, 83, 84, 69, 68, 44, 32, 71, 69, 78, 69, 82, 65, 84, 79, 82, 44, 32, 78, 79, 70, 82, 69, 69]⟩, ⟨#[67, 79, 82, 79, 85, 84, 73, 78, 69]⟩, ⟨#[78, 69, 83, 84, 69, 68, 44, 32, 67, 79, 82, 79, 85, 84, 73, 78, 69]⟩, ⟨#[71, 69, 78, 69, 82, 65, 84, 79, 82, 44, 32, 67, 79, 82, 79, 85, 84, 73, 78, 69]⟩, ⟨#[78, 69, 83, 84, 69, 68, 44, 32, 71, 69, 78, 69, 82, 65, 84, 79, 82, 44, 32, 67, 79, 82, 79, 85, 84, 73, 78, 69]⟩, ⟨#[78, 79, 70, 82, 69, 69, 44, 32, 67, 79, 82, 79, 85, 84, 73, 78, 69]⟩, ⟨#[78, 69, 83, 84, 69, 68, 44, 32, 78, 79, 70, 82, 69, 69, 44, 32, 67, 79, 82, 79, 85, 84, 73, 78, 69]⟩, ⟨#[71, 69, 78, 69, 82, 65, 84, 79, 82, 44, 32, 78, 79, 70, 82, 69, 69, 44, 32, 67, 79, 82, 79, 85, 84, 73, 78, 69]⟩, ⟨#[78, 69, 83, 84, 69, 68, 44, 32, 71, 69, 78, 69, 82, 65, 84, 79, 82, 44, 32, 78, 79, 70, 82, 69, 69, 44, 32, 67, 79, 82, 79, 85, 84, 73, 78, 69]⟩]
noncomputable def lw4 : List Str := [⟨#[48, 120, 48]⟩, ⟨#[110, 101, 115, 116, 101, 100]⟩, ⟨#[103, 101, 110, 101, 114, 97, 116, 111, 114]⟩, ⟨#[110, 101, 115, 116, 101, 100, 44, 32, 103, 101, 110, 101, 114, 97, 116, 111, 114]⟩, ⟨#[110, 111, 102, 114, 101, 101]⟩, ⟨#[110, 101, 115, 116, 101, 100, 44, 32, 110, 111, 102, 114, 101, 101]⟩, ⟨#[103, 101, 110, 101, 114, 97, 116, 111, 114, 44, 32, 110, 111, 102, 114, 101, 101]⟩, ⟨#[110, 101, 115, 116, 101, 100, 44, 32, 103, 101, 110, 101, 114, 97, 116, 111, 114, 44, 32, 110, 111, 102, 114, 101, 101]⟩, ⟨#[99, 111, 114, 111, 117, 116, 105, 110, 101]⟩, ⟨#[110, 101, 115, 116, 101, 100, 44, 32, 99, 111, 114, 111, 117, 116, 105, 110, 101]⟩, ⟨#[103, 101, 110, 101, 114, 97, 116, 111, 114, 44, 32, 99, 111, 114, 111, 117, 116, 105, 110, 101]⟩, ⟨#[110, 101, 115, 116, 101, 100, 44, 32, 103, 101, 110, 101, 114, 97, 116, 111, 114, 44, 32, 99, 111, 114, 111, 117, 116, 105, 110, 101]⟩, ⟨#[110, 111, 102, 114, 101, 101, 44, 32, 99, 111, 114, 111, 117, 116, 105, 110, 101]⟩, ⟨#[110, 101, 115, 116, 101, 100, 44, 32, 110, 111, 102, 114, 101, 101, 44, 32, 99, 111, 114, 111, 117, 116, 105, 110, 101]⟩, ⟨#[103, 101, 110, 101, 114, 97, 116, 111, 114, 44, 32, 110, 111, 102, 114, 101, 101, 44, 32, 99, 111, 114, 111, 117, 116, 105, 110, 101]⟩, ⟨#[110, 101, 115, 116, 101, 100, 44, 32, 103, 101, 110, 101, 114, 97, 116, 111, 114, 44, 32, 110, 111, 102, 114, 101, 101, 44, 32, 99, 111, 114, 111, 117, 116, 105, 110, 101]⟩]
noncomputable def tx9 : List Str := [⟨#[48, 120, 48]⟩, ⟨#[65, 83, 89, 78, 67, 95, 71, 69, 78, 69, 82, 65, 84, 79, 82]⟩, ⟨#[48, 120, 52, 48, 48]⟩, ⟨#[65, 83, 89, 78, 67, 95, 71, 69, 78, 69, 82, 65, 84, 79, 82, 44, 32, 48, 120, 52, 48, 48]⟩, ⟨#[48, 120, 56, 48, 48]⟩, ⟨#[65, 83, 89, 78, 67, 95, 71, 69, 78, 69, 82, 65, 84, 79, 82, 44, 32, 48, 120, 56, 48, 48]⟩, ⟨#[48, 120, 52, 48, 48, 44, 32, 48, 120, 56, 48, 48]⟩, ⟨#[65, 83, 89, 78, 67, 95, 71, 69, 78, 69, 82, 65, 84, 79, 82, 44, 32, 48, 120, 52, 48, 48, 44, 32, 48, 120, 56, 48, 48]⟩, ⟨#[48, 120, 49, 48, 48, 48]⟩, ⟨#[65, 83, 89, 78, 67, 95, 71, 69, 78, 69, 82, 65, 84, 79, 82, 44, 32, 48, 120, 49, 48, 48, 48]⟩, ⟨#[48, 120, 52, 48, 48, 44, 32, 48, 120, 49, 48, 48, 48]⟩, ⟨#[65, 83, 89, 78, 67, 95, 71, 69, 78, 69, 82, 65, 84, 79, 82, 44, 32, 48, 120, 52, 48, 48, 44, 32, 48, 120, 49, 48, 48, 48]⟩, ⟨#[48, 120, 56, 48, 48, 44, 32, 48, 120, 49, 48, 48, 48]⟩, ⟨#[65, 83, 89, 78, 67, 95, 71, 69, 78, 69, 82, 65, 84, 79, 82, 44, 32, 48, 120, 56, 48, 48, 44, 32, 48, 120, 49, 48, 48, 48]⟩, ⟨#[48, 120, 52, 48, 48, 44, 32, 48, 120, 56, 48, 48, 44, 32, 48, 120, 49, 48, 48, 48]⟩, ⟨#[65, 83, 89, 78, 67, 95, 71, 69, 78, 69, 82, 65, 84, 79, 82, 44, 32, 48, 120, 52, 48, 48, 44, 32, 48, 120, 56, 48, 48, 44, 32, 48, 120, 49, 48, 48, 48]⟩]
noncomputable def lw9 : List Str := [⟨#[48, 120, 48]⟩, ⟨#[97, 115, 121, 110, 99, 95, 103, 101, 110, 101, 114, 97, 116, 111, 114]⟩, ⟨#[48, 120, 52, 48, 48]⟩, ⟨#[97, 115, 121, 110, 99, 95, 103, 101, 110, 101, 114, 97, 116, 111, 114, 44, 32, 48, 120, 52, 48, 48]⟩, ⟨#[48, 120, 56, 48, 48]⟩, ⟨#[97, 115, 121, 110, 99, 95, 103, 101, 110, 101, 114, 97, 116, 111, 114, 44, 32, 48, 120, 56, 48, 48]⟩, ⟨#[48, 120, 52, 48, 48, 44, 32, 48, 120, 56, 48, 48]⟩, ⟨#[97, 115, 121, 110, 99, 95, 103, 101, 110, 101, 114, 97, 116, 111, 114, 44, 32, 48, 120, 52, 48, 48, 44, 32, 48, 120, 56, 48, 48]⟩, ⟨#[48, 120, 49, 48, 48, 48]⟩, ⟨#[97, 115, 121, 110, 99, 95, 103, 101, 110, 101, 114, 97, 116, 111, 114, 44, 32, 48, 120, 49, 48, 48, 48]⟩, ⟨#[48, 120, 52, 48, 48, 44, 32, 48, 120, 49, 48, 48, 48]⟩, ⟨#[97, 115, 121, 110, 99, 95, 103, 101, 110, 101, 114, 97, 116, 111, 114, 44, 32, 48, 120, 52, 48, 48, 44, 32, 48, 120, 49, 48, 48, 48]⟩, ⟨#[48, 120, 56, 48, 48, 44, 32, 48, 120, 49, 48, 48, 48]⟩, ⟨#[97, 115, 121, 110, 99, 95, 103, 101, 110, 101, 114, 97, 116, 111, 114, 44, 32, 48, 120, 56, 48, 48, 44, 32, 48, 120, 49, 48, 48, 48]⟩, ⟨#[48, 120, 52, 48, 48, 44, 32, 48, 120, 56, 48, 48, 44, 32, 48, 120, 49, 48, 48, 48]⟩, ⟨#[97, 115, 121, 110, 99, 95, 103, 101, 110, 101, 114, 97, 116, 111, 114, 44, 32, 48, 120, 52, 48, 48, 44, 32, 48, 120, 56, 48, 48, 44, 32, 48, 120, 49, 48, 48, 48]⟩]
noncomputable def tx28 : List Str := [⟨#[48, 120, 48]⟩, ⟨#[48, 120, 49, 48, 48, 48, 48, 48, 48, 48]⟩, ⟨#[48, 120, 50, 48, 48, 48, 48, 48, 48, 48]⟩, ⟨#[48, 120, 49, 48, 48, 48, 48, 48, 48, 48, 44, 32, 48, 120, 50, 48, 48, 48, 48, 48, 48, 48]⟩, ⟨#[48, 120, 52, 48, 48, 48, 48, 48, 48, 48]⟩, ⟨#[48, 120, 49, 48, 48, 48, 48, 48, 48, 48, 44, 32, 48, 120, 52, 48, 48, 48, 48, 48, 48, 48]⟩, ⟨#[48, 120, 50, 48, 48, 48, 48, 48, 48, 48, 44, 32, 48, 120, 52, 48, 48, 48, 48, 48, 48, 48]⟩, ⟨#[48, 120, 49, 48, 48, 48, 48, 48, 48, 48, 44, 32, 48, 120, 50, 48, 48, 48, 48, 48, 48, 48, 44, 32, 48, 120, 52, 48, 48, 48, 48, 48, 48, 48]⟩, ⟨#[48, 120, 56, 48, 48, 48, 48, 48, 48, 48]⟩, ⟨#[48, 120, 49, 48, 48, 48, 48, 48, 48, 48, 44, 32, 48, 120, 56, 48, 48, 48, 48, 48, 48, 48]⟩, ⟨#[48, 120, 50, 48, 48, 48, 48, 48, 48, 48, 44, 32, 48, 120, 56, 48, 48, 48, 48, 48, 48, 48]⟩, ⟨#[48, 120, 49, 48, 48, 48, 48, 48, 48, 48, 44, 32, 48, 120, 50, 48, 48, 48, 48, 48, 48, 48, 44, 32, 48, 120, 56, 48, 48, 48, 48, 48, 48, 48]⟩, ⟨#[48, 120, 52, 48, 48, 48, 48, 48, 48, 48, 44, 32, 48, 120, 56, 48, 48, 48, 48, 48, 48, 48]⟩, ⟨#[48, 120, 49, 48, 48, 48, 48, 48, 48, 48, 44, 32, 48, 120, 52, 48, 48, 48, 48, 48, 48, 48, 44, 32, 48, 120, 56, 48, 48, 48, 48, 48, 48, 48]⟩, ⟨#[48, 120, 50, 48, 48, 48, 48, 48, 48, 48, 44, 32, 48, 120, 52, 48, 48, 48, 48, 48, 48, 48, 44, 32, 48, 120, 56, 48, 48, 48, 48, 48, 48, 48]⟩, ⟨#[48, 120, 49, 48, 48, 48, 48, 48, 48, 48, 44, 32, 48, 120, 50, 48, 48, 48, 48, 48, 48, 48, 44, 32, 48, 120, 52, 48, 48, 48, 48, 48, 48, 48, 44, 32, 48, 120, 56, 48, 48, 48, 48, 48, 48, 48]⟩]
noncomputable def lw28 : List Str := [⟨#[48, 120, 48]⟩, ⟨#[48, 120, 49, 48, 48, 48, 48, 48, 48, 48]⟩, ⟨#[48, 120, 50, 48, 48, 48, 48, 48, 48, 48]⟩, ⟨#[48, 120, 49, 48, 48, 48, 48, 48, 48, 48, 44, 32, 48, 120, 50, 48, 48, 48, 48, 48, 48, 48]⟩, ⟨#[48, 120, 52, 48, 48, 48, 48, 48, 48, 48]⟩, ⟨#[48, 120, 49, 48, 48, 48, 48, 48, 48, 48, 44, 32, 48, 120, 52, 48, 48, 48, 48, 48, 48, 48]⟩, ⟨#[48, 120, 50, 48, 48, 48, 48, 48, 48, 48, 44, 32, 48, 120, 52, 48, 48, 48, 48, 48, 48, 48]⟩, ⟨#[48, 120, 49, 48, 48, 48, 48, 48, 48, 48, 44, 32, 48, 120, 50, 48, 48, 48, 48, 48, 48, 48, 44, 32, 48, 120, 52, 48, 48, 48, 48, 48, 48, 48]⟩, ⟨#[48, 120, 56, 48, 48, 48, 48, 48, 48, 48]⟩, ⟨#[48, 120, 49, 48, 48, 48, 48, 48, 48, 48, 44, 32, 48, 120, 56, 48, 48, 48, 48, 48, 48, 48]⟩, ⟨#[48, 120, 50, 48, 48, 48, 48, 48, 48, 48, 44, 32, 48, 120, 56, 48, 48, 48, 48, 48, 48, 48]⟩, ⟨#[48, 120, 49, 48, 48, 48, 48, 48, 48, 48, 44, 32, 48, 120, 50, 48, 48, 48, 48, 48, 48, 48, 44, 32, 48, 120, 56, 48, 48, 48, 48, 48, 48, 48]⟩, ⟨#[48, 120, 52, 48, 48, 48, 48, 48, 48, 48, 44, 32, 48, 120, 56, 48, 48, 48, 48, 48, 48, 48]⟩, ⟨#[48, 120, 49, 48, 48, 48, 48, 48, 48, 48, 44, 32, 48, 120, 52, 48, 48, 48, 48, 48, 48, 48, 44, 32, 48, 120, 56, 48, 48, 48, 48, 48, 48, 48]⟩, ⟨#[48, 120, 50, 48, 48, 48, 48, 48, 48, 48, 44, 32, 48, 120, 52, 48, 48, 48, 48, 48, 48, 48, 44, 32, 48, 120, 56, 48, 48, 48, 48, 48, 48, 48]⟩, ⟨#[48, 120, 49, 48, 48, 48, 48, 48, 48, 48, 44, 32, 48, 120, 50, 48, 48, 48, 48, 48, 48, 48, 44, 32, 48, 120, 52, 48, 48, 48, 48, 48, 48, 48, 44, 32, 48, 120, 56, 48, 48, 48, 48, 48, 48, 48]⟩]

theorem tx0_eq : textsL 0 = tx0 := by decide +kernel
theorem tx0_st : ∀ k < 4, standsOk (tx0.getD (2 ^ k) "") = true := by decide +kernel
theorem tx0_sa : ∀ k < 4, stAll (tx0.getD (2 ^ k) "") k 0 tx0 = true := by decide +kernel
theorem tx0_gt : tx0.all goodT = true := by decide +kernel
theorem tx0_gl : lw0.all goodL = true := by decide +kernel
theorem tx0_ok : TxOk (textsL 0) := by
  rw [tx0_eq]
  exact txOk_of (ls := lw0) rfl (by decide +kernel) tx0_gt (by decide +kernel) (by decide +kernel) (by decide +kernel) tx0_gl tx0_st tx0_sa
theorem tx2_eq : textsL 2 = tx2 := by decide +kernel
theorem tx2_st : ∀ k < 4, standsOk (tx2.getD (2 ^ k) "") = true := by decide +kernel
theorem tx2_sa : ∀ k < 4, stAll (tx2.getD (2 ^ k) "") k 0 tx2 = true := by decide +kernel
theorem tx2_gt : tx2.all goodT = true := by decide +kernel
theorem tx2_gl : lw2.all goodL = true := by decide +kernel
theorem tx2_ok : TxOk (textsL 2) := by
  rw [tx2_eq]
  exact txOk_of (ls := lw2) rfl (by decide +kernel) tx2_gt (by decide +kernel) (by decide +kernel) (by decide +kernel) tx2_gl tx2_st tx2_sa
theorem tx4_eq : textsL 4 = tx4 := by decide +kernel
theorem tx4_st : ∀ k < 4, standsOk (tx4.getD (2 ^ k) "") = true := by decide +kernel
theorem tx4_sa : ∀ k < 4, stAll (tx4.getD (2 ^ k) "") k 0 tx4 = true := by decide +kernel
theorem tx4_gt : tx4.all goodT = true := by decide +kernel
theorem tx4_gl : lw4.all goodL = true := by decide +kernel
theorem tx4_ok : TxOk (textsL 4) := by
  rw [tx4_eq]
  exact txOk_of (ls := lw4) rfl (by decide +kernel) tx4_gt (by decide +kernel) (by decide +kernel) (by decide +kernel) tx4_gl tx4_st tx4_sa
theorem tx9_eq : textsL 9 = tx9 := by decide +kernel
theorem tx9_st : ∀ k < 4, standsOk (tx9.getD (2 ^ k) "") = true := by decide +kernel
theorem tx9_sa : ∀ k < 4, stAll (tx9.getD (2 ^ k) "") k 0 tx9 = true := by decide +kernel
theorem tx9_gt : tx9.all goodT = true := by decide +kernel
theorem tx9_gl : lw9.all goodL = true := by decide +kernel
theorem tx9_ok : TxOk (textsL 9) := by
  rw [tx9_eq]
  exact txOk_of (ls := lw9) rfl (by decide +kernel) tx9_gt (by decide +kernel) (by decide +kernel) (by decide +kernel) tx9_gl tx9_st tx9_sa
theorem tx28_eq : textsL 28 = tx28 := by decide +kernel
theorem tx28_st : ∀ k < 4, standsOk (tx28.getD (2 ^ k) "") = true := by decide +kernel
theorem tx28_sa : ∀ k < 4, stAll (tx28.getD (2 ^ k) "") k 0 tx28 = true := by decide +kernel
theorem tx28_gt : tx28.all goodT = true := by decide +kernel
theorem tx28_gl : lw28.all goodL = true := by decide +kernel
theorem tx28_ok : TxOk (textsL 28) := by
  rw [tx28_eq]
  exact txOk_of (ls := lw28) rfl (by decide +kernel) tx28_gt (by decide +kernel) (by decide +kernel) (by decide +kernel) tx28_gl tx28_st tx28_sa
theorem text_ok : ∀ q < 5, TxOk (textsL (shifts.getD q 0))
  | 0, _ => tx0_ok
  | 1, _ => tx2_ok
  | 2, _ => tx4_ok
  | 3, _ => tx9_ok
  | 4, _ => tx28_ok
  | n + 5, h => absurd h (by omega)
end Mine

open PySem PySem.W PyProof.Rows PySem.Calls
set_option Elab.async false
set_option maxRecDepth 100000
namespace Mine
noncomputable def pfW (want : List Str) : Nat → Nat → Int → List Str → Bool
  | 0, i, a, l => pfB a i && (Builtin.bitXor a (2 ^ i) == 0) && (l ++ [flagName (2 ^ i)] == want)
  | n + 1, i, a, l => match pfB a i with
    | true => (Builtin.bitXor a (2 ^ i) != 0) && pfW want n (i + 1) (Builtin.bitXor a (2 ^ i)) (l ++ [flagName (2 ^ i)])
    | false => pfW want n (i + 1) a l
theorem pfW_eq {v : Int} {want : List Str} : ∀ (n i : Nat) (a : Int) (l : List Str), pfS v i = (a, l) → pfW want n i a l = true →
    (∀ k, i ≤ k → k < i + n → pfB (pfS v k).1 k = true → (pfS v (k + 1)).1 ≠ 0) ∧ pfB (pfS v (i + n)).1 (i + n) = true ∧ (pfS v (i + n + 1)).1 = 0 ∧ (pfS v (i + n + 1)).2 = want
  | 0, i, a, l, e, h => by
    unfold pfW at h
    simp only [Bool.and_eq_true] at h
    obtain ⟨⟨h1, h2⟩, h3⟩ := h
    rw [Nat.add_zero, pfS, e, if_pos h1]
    exact ⟨fun k h1 h2 => absurd h2 (by omega), h1, by simpa using h2, by simpa using h3⟩
  | n + 1, i, a, l, e, h => by
    unfold pfW at h
    have st : pfS v (i + 1) = if pfB a i then (Builtin.bitXor a (2 ^ i), l ++ [flagName (2 ^ i)]) else (a, l) := by rw [pfS, e]
    split at h
    · rename_i hb
      rw [Bool.and_eq_true] at h
      rw [if_pos hb] at st
      obtain ⟨q1, q2⟩ := pfW_eq n (i + 1) _ _ st h.2
      rw [show i + 1 + n = i + (n + 1) by omega] at q1 q2
      refine ⟨fun k h1 h2 hk => ?_, q2⟩
      by_cases hki : k = i
      · subst hki
        rw [st]
        have := h.1
        simpa using this
      · exact q1 k (by omega) h2 hk
    · rename_i hb
      rw [if_neg (by rw [hb]; decide)] at st
      obtain ⟨q1, q2⟩ := pfW_eq n (i + 1) _ _ st h
      rw [show i + 1 + n = i + (n + 1) by omega] at q1 q2
      refine ⟨fun k h1 h2 hk => ?_, q2⟩
      by_cases hki : k = i
      · subst hki
        rw [e] at hk
        rw [hb] at hk; cases hk
      · exact q1 k (by omega) h2 hk
noncomputable def wantL (ws : List Str) (l : Nat) : List Str := ((List.range 4).filter (lampB l)).map fun k => ws.getD k ""
noncomputable def pfC (ws : List Str) (s l : Nat) : Bool := Nat.blt (s + Nat.log2 l) 32 && pfW (wantL ws l) (s + Nat.log2 l) 0 ((l : Int) * 2 ^ s) [] && Nat.ble (((wantL ws l).map (·.length)).sum + (wantL ws l).length * 2) 16777216
theorem texts_at {s l : Nat} (hl : l < 16) (h0 : l ≠ 0) : (textsL s).getD l "" = Txt.join (Str.ofString ", ") (wantL (wordsL s) l) := by
  obtain ⟨l, rfl⟩ : ∃ k, l = k + 1 := ⟨l - 1, by omega⟩
  unfold textsL
  rw [List.getD_cons_succ]
  have h1 : l < (((List.range 16).map (lampT (wordsL s))).drop 1).length := by simp; omega
  rw [List.getD_eq_getElem?_getD, List.getElem?_eq_getElem h1, Option.getD_some, List.getElem_drop, List.getElem_map, List.getElem_range, Nat.add_comm 1 l]
  rfl
theorem pf_at {w : World} {s l : Nat} {ws : List Str} (hw : wordsL s = ws) (hl : l < 16) (h0 : l ≠ 0) (hc : pfC ws s l = true) : Fn w 1 187 [.py (.int ((l : Int) * 2 ^ s))] (.py (.str ((textsL s).getD l ""))) := by
  unfold pfC at hc
  simp only [Bool.and_eq_true, Nat.blt_eq, Nat.ble_eq] at hc
  obtain ⟨⟨hj, hp⟩, hz⟩ := hc
  obtain ⟨q1, q2, q3, q4⟩ := pfW_eq (v := (l : Int) * 2 ^ s) _ 0 _ _ rfl hp
  rw [Nat.zero_add] at q1 q2 q3 q4
  have := pf_fn (w := w) hj (fun i hi hb => q1 i (by omega) hi hb) q2 q3 (by rw [q4]; exact hz)
  rw [q4] at this
  rw [texts_at hl h0, hw]
  exact this
theorem pf_zero {w : World} {s : Nat} : Fn w 1 187 [.py (.int (((0 : Nat) : Int) * 2 ^ s))] (.py (.str ((textsL s).getD 0 ""))) := by
  have e : (((0 : Nat) : Int) * 2 ^ s) = 0 := by simp
  rw [e]
  exact pf0_fn
noncomputable def pfAll (ws : List Str) (s : Nat) : Bool := (List.range 15).all fun l => pfC ws s (l + 1)
theorem pf_s {w : World} {s : Nat} {ws : List Str} (hw : wordsL s = ws) (hc : pfAll ws s = true) : ∀ l : Nat, l < 16 → Fn w 1 187 [.py (.int ((l : Int) * 2 ^ s))] (.py (.str ((textsL s).getD l "")))
  | 0, _ => pf_zero
  | l + 1, hl => pf_at hw hl (by omega) (List.all_eq_true.mp hc l (by simp; omega))
noncomputable def wd0 : List Str := [⟨#[79, 80, 84, 73, 77, 73, 90, 69, 68]⟩, ⟨#[78, 69, 87, 76, 79, 67, 65, 76, 83]⟩, ⟨#[86, 65, 82, 65, 82, 71, 83]⟩, ⟨#[86, 65, 82, 75, 69, 89, 87, 79, 82, 68, 83]⟩]
theorem wd0_eq : wordsL 0 = wd0 := by decide +kernel
theorem wd0_pf : pfAll wd0 0 = true := by decide +kernel
noncomputable def wd2 : List Str := [⟨#[86, 65, 82, 65, 82, 71, 83]⟩, ⟨#[86, 65, 82, 75, 69, 89, 87, 79, 82, 68, 83]⟩, ⟨#[78, 69, 83, 84, 69, 68]⟩, ⟨#[71, 69, 78, 69, 82, 65, 84, 79, 82]⟩]
theorem wd2_eq : wordsL 2 = wd2 := by decide +kernel
theorem wd2_pf : pfAll wd2 2 = true := by decide +kernel
noncomputable def wd4 : List Str := [⟨#[78, 69, 83, 84, 69, 68]⟩, ⟨#[71, 69, 78, 69, 82, 65, 84, 79, 82]⟩, ⟨#[78, 79, 70, 82, 69, 69]⟩, ⟨#[67, 79, 82, 79, 85, 84, 73, 78, 69]⟩]
theorem wd4_eq : wordsL 4 = wd4 := by decide +kernel
theorem wd4_pf : pfAll wd4 4 = true := by decide +kernel
noncomputable def wd9 : List Str := [⟨#[65, 83, 89, 78, 67, 95, 71, 69, 78, 69, 82, 65, 84, 79, 82]⟩, ⟨#[48, 120, 52, 48, 48]⟩, ⟨#[48, 120, 56, 48, 48]⟩, ⟨#[48, 120, 49, 48, 48, 48]⟩]
theorem wd9_eq : wordsL 9 = wd9 := by decide +kernel
theorem wd9_pf : pfAll wd9 9 = true := by decide +kernel
noncomputable def wd28 : List Str := [⟨#[48, 120, 49, 48, 48, 48, 48, 48, 48, 48]⟩, ⟨#[48, 120, 50, 48, 48, 48, 48, 48, 48, 48]⟩, ⟨#[48, 120, 52, 48, 48, 48, 48, 48, 48, 48]⟩, ⟨#[48, 120, 56, 48, 48, 48, 48, 48, 48, 48]⟩]
theorem wd28_eq : wordsL 28 = wd28 := by decide +kernel
theorem wd28_pf : pfAll wd28 28 = true := by decide +kernel
theorem pf_all (w : World) : ∀ (q : Nat), q < 5 → ∀ l : Nat, l < 16 → Fn w 1 187 [.py (.int ((l : Int) * 2 ^ (shifts.getD q 0)))] (.py (.str ((textsL (shifts.getD q 0)).getD l "")))
  | 0, _ => pf_s wd0_eq wd0_pf
  | 1, _ => pf_s wd2_eq wd2_pf
  | 2, _ => pf_s wd4_eq wd4_pf
  | 3, _ => pf_s wd9_eq wd9_pf
  | 4, _ => pf_s wd28_eq wd28_pf
  | n + 5, h => absurd h (by omega)
end Mine

theorem PySem.Challenge.cw_rl0110_01_holds : PySem.Challenge.rw_rl0110_01.Holds :=
  Mine.law_holds Mine.text_ok Mine.pf_all
